import JvmDerived
import JvmDerived.Pilot.@@N@@Statement
import JvmDerived.Pilot.@@N@@Code
set_option linter.unusedVariables false
set_option linter.unusedSimpArgs false
namespace Jvm.OwnW
open Sem ClassFile Op Lib Jvm.Stand Jvm.Free Jvm.LawKit Jvm.RoadKit
/-! THE OWN LAYER: a walk as a backward reckoning over an abstract heap. -/
abbrev OS := List (Addr × (Cell → Prop))
abbrev FV := String × String × String × Value
abbrev Cx := Program × Launch × Env × Room × State × MethodId × Array Value × List Frame × Method × Code
/-- what the walk knows of a heap: the start's cells stand in it unchanged; the listed cells are new, lie apart, and are as described -/
def Hp (Z : State) (h : Heap) (os : OS) : Prop :=
  Ext Z.heap h ∧ (os.map Prod.fst).Nodup ∧ ∀ (k : Nat) (x : Addr × (Cell → Prop)), os[k]? = some x → Z.heap.size ≤ x.1 ∧ ∃ c, h[x.1]? = some c ∧ x.2 c
def FldC (Z : State) (c : Cell) (f : FV) : Prop := ∃ (cf : ClassId) (k : Class) (i : Nat) (fd : Field), Z.fieldFound? f.1 f.2.1 f.2.2.1 = some (cf, k, i, fd) ∧ fd.isStatic = false ∧ c.vm ≠ .unknown ∧ c.vm.isStatics = false ∧ Z.vm.assignable c.cls cf = true ∧ c.slots[fd.slot]? = some f.2.2.2
def ExaC (Z : State) (C : String) (c : Cell) : Prop := ∃ k : Class, Z.vm.findClass C = some c.cls ∧ Z.vm.classes[c.cls]? = some k ∧ c.vm.isStatics = false ∧ (k.kind = .ordinary → c.slots.size = k.instanceTypes.size)
def sl3 (Z : State) (f : FV) : Nat := RoadKit.slotOf Z f.1 f.2.1 f.2.2.1
/-- an object of just the class C with these fields -/
def OBJ (Z : State) (C : String) (fs : List FV) (c : Cell) : Prop := ExaC Z C c ∧ (fs.map (sl3 Z)).Nodup ∧ ∀ f ∈ fs, FldC Z c f
/-- an array of this component kind with these values -/
def ARR (Z : State) (ty : FieldType) (vs : List Value) (c : Cell) : Prop := Z.isArrayOf c ty ∧ c.vm ≠ .unknown ∧ c.slots = vs.toArray ∧ (∀ v ∈ vs, fits ty v = true) ∧ vs.length < 2 ^ 31

section Heap
variable {Z : State} {h h' : Heap} {os os' : OS} {a b : Addr} {P P' : Cell → Prop} {C O n d : String} {fs fs' : List FV} {v w : Value} {ty : FieldType} {vs : List Value} {c : Cell}
theorem Hp.nil (Z : State) : Hp Z Z.heap [] := ⟨⟨Nat.le_refl _, fun _ _ q => q⟩, List.nodup_nil, fun k x hx => by simp at hx⟩
theorem Hp.get (H : Hp Z h os) (hm : (a, P) ∈ os) : Z.heap.size ≤ a ∧ ∃ c, h[a]? = some c ∧ P c := by
  obtain ⟨k, hk⟩ := List.getElem?_of_mem hm
  exact H.2.2 k _ hk
theorem OBJ.exa (hc : h[a]? = some c) (q : OBJ Z C fs c) : Exa Z h a C := by
  obtain ⟨⟨k, h1, h2, h3, h4⟩, -⟩ := q
  exact ⟨c, k, hc, h1, h2, h3, h4⟩
theorem OBJ.fld (hc : h[a]? = some c) (q : OBJ Z C fs c) (hm : (O, n, d, v) ∈ fs) : Fld Z h a O n d v := by
  obtain ⟨cf, k, i, fd, h1, h2, h3, h4, h5, h6⟩ := q.2.2 _ hm
  exact ⟨c, cf, k, i, fd, hc, h1, h2, h3, h4, h5, h6⟩
theorem Hp.ne (H : Hp Z h os) {i j : Nat} {P P' : Cell → Prop} (hi : os[i]? = some (a, P)) (hj : os[j]? = some (b, P')) (hn : i ≠ j) : a ≠ b := by
  intro e
  subst e
  have h1 : (os.map Prod.fst)[i]? = some a := by simp [hi]
  have h2 : (os.map Prod.fst)[j]? = some a := by simp [hj]
  exact hn ((List.getElem?_inj (List.getElem?_eq_some_iff.mp h1).1 H.2.1).mp (h1.trans h2.symm))
theorem Hp.upd (H : Hp Z h os) {i : Nat} (hi : os[i]? = some (a, P)) {sl : Nat} (W : Wr h h' a sl v) (q : ∀ c c', h[a]? = some c → P c → h'[a]? = some c' → c' = c.setSlot sl v → P' c') : Hp Z h' (os.set i (a, P')) := by
  obtain ⟨ha, ca, hca, hPa⟩ := H.2.2 i _ hi
  refine ⟨⟨by rw [W.size]; exact H.1.1, fun x cx hx => ?_⟩, ?_, fun k x hx => ?_⟩
  · obtain ⟨cx', e1, -, -, -, e5, -⟩ := wr_at W (H.1.2 x cx hx)
    have ne : x ≠ a := fun e => by
      subst e
      exact absurd (Array.getElem?_eq_some_iff.mp hx).1 (Nat.not_lt.mpr ha)
    rw [e5 ne] at e1; exact e1
  · have e : (os.set i (a, P')).map Prod.fst = os.map Prod.fst := by
      apply List.ext_getElem?
      intro k
      simp only [List.getElem?_map, List.getElem?_set]
      split
      · rename_i e; subst e
        rw [if_pos (List.getElem?_eq_some_iff.mp hi).1, hi]; rfl
      · rfl
    rw [e]; exact H.2.1
  · rw [List.getElem?_set] at hx
    split at hx
    · rename_i e; subst e
      split at hx
      · cases hx
        obtain ⟨c', e1, -, -, -, -, -, e7⟩ := wr_at W hca
        exact ⟨ha, c', e1, q ca c' hca hPa e1 (e7 rfl).1⟩
      · cases hx
    · rename_i hne
      obtain ⟨g1, cx, g2, g3⟩ := H.2.2 k x hx
      obtain ⟨c', e1, -, -, -, e5, -⟩ := wr_at W g2
      have ne : x.1 ≠ a := H.ne (i := k) (j := i) (P := x.2) hx hi (fun e => hne e.symm)
      rw [e5 ne] at e1
      exact ⟨g1, cx, e1, g3⟩
theorem Hp.new (H : Hp Z h os) (E : Ext h h') (hc : h'[h.size]? = some c) (hP : P c) : Hp Z h' ((h.size, P) :: os) := by
  refine ⟨⟨Nat.le_trans H.1.1 E.1, fun x cx q => E.2 _ _ (H.1.2 _ _ q)⟩, ?_, fun k x hx => ?_⟩
  · rw [List.map_cons, List.nodup_cons]
    refine ⟨fun hm => ?_, H.2.1⟩
    obtain ⟨⟨y1, y2⟩, hy, he⟩ := List.mem_map.mp hm
    obtain ⟨-, cy, hcy, -⟩ := H.get hy
    have := (Array.getElem?_eq_some_iff.mp hcy).1
    dsimp at he
    rw [he] at this; exact Nat.lt_irrefl _ this
  · cases k with
    | zero => cases hx; exact ⟨H.1.1, c, hc, hP⟩
    | succ k =>
      obtain ⟨g1, cx, g2, g3⟩ := H.2.2 k x hx
      exact ⟨g1, cx, E.2 _ _ g2, g3⟩
theorem Hp.ext (H : Hp Z h os) (E : Ext h h') : Hp Z h' os :=
  ⟨⟨Nat.le_trans H.1.1 E.1, fun x cx q => E.2 _ _ (H.1.2 _ _ q)⟩, H.2.1, fun k x hx => by
    obtain ⟨g1, cx, g2, g3⟩ := H.2.2 k x hx; exact ⟨g1, cx, E.2 _ _ g2, g3⟩⟩
theorem Hp.perm (H : Hp Z h os) (p : os.Perm os') : Hp Z h os' :=
  ⟨H.1, (p.map Prod.fst).nodup_iff.mp H.2.1, fun k x hx => by
    obtain ⟨k', hk'⟩ := List.getElem?_of_mem (p.symm.subset (List.mem_of_getElem? hx))
    exact H.2.2 k' x hk'⟩
theorem Hp.sub (H : Hp Z h os) (p : List.Sublist os' os) : Hp Z h os' :=
  ⟨H.1, H.2.1.sublist (p.map Prod.fst), fun k x hx => by
    obtain ⟨k', hk'⟩ := List.getElem?_of_mem (p.subset (List.mem_of_getElem? hx))
    exact H.2.2 k' x hk'⟩
theorem Hp.imp (H : Hp Z h ((a, P) :: os)) (q : ∀ c, P c → P' c) : Hp Z h ((a, P') :: os) :=
  ⟨H.1, H.2.1, fun k x hx => by
    cases k with
    | zero => cases hx; obtain ⟨g1, c, g2, g3⟩ := H.2.2 0 (a, P) rfl; exact ⟨g1, c, g2, q c g3⟩
    | succ k => exact H.2.2 (k + 1) x hx⟩
/-- the list os with the entry at a turned from P to P' is os' -/
def Upd (os : OS) (a : Addr) (P P' : Cell → Prop) (os' : OS) : Prop := ∃ i : Nat, os[i]? = some (a, P) ∧ os' = os.set i (a, P')
theorem Upd.here {r : OS} : Upd ((a, P) :: r) a P P' ((a, P') :: r) := ⟨0, rfl, rfl⟩
theorem Upd.there {r r' : OS} {x : Addr × (Cell → Prop)} (u : Upd r a P P' r') : Upd (x :: r) a P P' (x :: r') := by
  obtain ⟨i, h1, rfl⟩ := u; exact ⟨i + 1, h1, rfl⟩
/-- the fields fs with (O, n, d) now at v are fs' -/
def UpdF (fs : List FV) (O n d : String) (w v : Value) (fs' : List FV) : Prop := ∃ i : Nat, fs[i]? = some (O, n, d, w) ∧ fs' = fs.set i (O, n, d, v)
theorem UpdF.here {r : List FV} : UpdF ((O, n, d, w) :: r) O n d w v ((O, n, d, v) :: r) := ⟨0, rfl, rfl⟩
theorem UpdF.there {r r' : List FV} {x : FV} (u : UpdF r O n d w v r') : UpdF (x :: r) O n d w v (x :: r') := by
  obtain ⟨i, h1, rfl⟩ := u; exact ⟨i + 1, h1, rfl⟩
theorem OBJ.put {c : Cell} (q : OBJ Z C fs c) (u : UpdF fs O n d w v fs') : OBJ Z C fs' (c.setSlot (RoadKit.slotOf Z O n d) v) := by
  obtain ⟨i, hi, rfl⟩ := u
  obtain ⟨⟨k, e1, e2, e3, e4⟩, nd, ff⟩ := q
  have hslots : ∀ j : Nat, (c.setSlot (RoadKit.slotOf Z O n d) v).slots[j]? = if RoadKit.slotOf Z O n d = j then (if j < c.slots.size then some v else none) else c.slots[j]? := fun j => by
    simp only [Cell.setSlot, Array.getElem?_setIfInBounds]
    by_cases e : RoadKit.slotOf Z O n d = j
    · rw [if_pos e, if_pos e, e]
    · rw [if_neg e, if_neg e]
  have hes : ∀ x ∈ fs, ∃ fd : Field, sl3 Z x = fd.slot ∧ ∃ cf k' i', Z.fieldFound? x.1 x.2.1 x.2.2.1 = some (cf, k', i', fd) := fun x hx => by
    obtain ⟨cf, k', i', fd, g1, -⟩ := ff x hx
    exact ⟨fd, by simp [sl3, RoadKit.slotOf, g1], cf, k', i', g1⟩
  refine ⟨⟨k, e1, e2, e3, fun z => by rw [show (c.setSlot (RoadKit.slotOf Z O n d) v).slots.size = c.slots.size by simp [Cell.setSlot]]; exact e4 z⟩, ?_, fun x hx => ?_⟩
  · have e : (fs.set i (O, n, d, v)).map (sl3 Z) = fs.map (sl3 Z) := by
      apply List.ext_getElem?
      intro k
      simp only [List.getElem?_map, List.getElem?_set]
      split
      · rename_i e; subst e
        rw [if_pos (List.getElem?_eq_some_iff.mp hi).1, hi]; rfl
      · rfl
    rw [e]; exact nd
  · obtain ⟨m, hm⟩ := List.getElem?_of_mem hx
    rw [List.getElem?_set] at hm
    split at hm
    · split at hm
      · cases hm
        obtain ⟨cf, k', i', fd, g1, g2, g3, g4, g5, g6⟩ := ff _ (List.mem_of_getElem? hi)
        refine ⟨cf, k', i', fd, g1, g2, g3, g4, g5, ?_⟩
        have es : RoadKit.slotOf Z O n d = fd.slot := by have g1' : Z.fieldFound? O n d = some (cf, k', i', fd) := g1; simp [RoadKit.slotOf, g1']
        rw [hslots, if_pos es, if_pos (Array.getElem?_eq_some_iff.mp g6).1]
      · cases hm
    · rename_i hne
      obtain ⟨cf, k', i', fd, g1, g2, g3, g4, g5, g6⟩ := ff x (List.mem_of_getElem? hm)
      refine ⟨cf, k', i', fd, g1, g2, g3, g4, g5, ?_⟩
      have es : sl3 Z x = fd.slot := by simp [sl3, RoadKit.slotOf, g1]
      have ne : RoadKit.slotOf Z O n d ≠ fd.slot := fun e => by
        have h1 : (fs.map (sl3 Z))[i]? = some fd.slot := by simp [hi, sl3, e]
        have h2 : (fs.map (sl3 Z))[m]? = some fd.slot := by simp [hm, es]
        exact hne ((List.getElem?_inj (List.getElem?_eq_some_iff.mp h1).1 nd).mp (h1.trans h2.symm))
      rw [hslots, if_neg ne]; exact g6
theorem ARR.put {c : Cell} (q : ARR Z ty vs c) {k : Nat} (hv : fits ty v = true) : ARR Z ty (vs.set k v) (c.setSlot k v) := by
  obtain ⟨h1, h2, h3, h4, h5⟩ := q
  refine ⟨h1, h2, by simp [Cell.setSlot, h3], fun x hx => ?_, by simpa using h5⟩
  rcases List.mem_or_eq_of_mem_set hx with g | g
  · exact h4 x g
  · rw [g]; exact hv
/-- the sheet's words on the fields of a class, and their first values -/
def Laids (Z : State) (a0 : Array Value) (C : String) : List FV → Prop
  | [] => True
  | f :: r => (Laid Z a0 C f.1 f.2.1 f.2.2.1 ∧ ∃ ty, parseFieldDescriptor f.2.2.1 = some ty ∧ defaultValue ty = f.2.2.2) ∧ Laids Z a0 C r
theorem Laids.mem {a0 : Array Value} : ∀ {fs : List FV}, Laids Z a0 C fs → ∀ f ∈ fs, Laid Z a0 C f.1 f.2.1 f.2.2.1 ∧ ∃ ty, parseFieldDescriptor f.2.2.1 = some ty ∧ defaultValue ty = f.2.2.2
  | [], _, f, hf => nomatch hf
  | g :: r, q, f, hf => by
    rcases List.mem_cons.mp hf with rfl | hf
    · exact q.1
    · exact Laids.mem q.2 f hf
theorem Laids.nodup {a0 : Array Value} : ∀ {fs : List FV}, Laids Z a0 C fs → (fs.map (fun f => f.2.1)).Nodup → (fs.map (sl3 Z)).Nodup
  | [], _, _ => List.nodup_nil
  | g :: r, q, nd => by
    rw [List.map_cons, List.nodup_cons] at nd ⊢
    refine ⟨fun hm => ?_, Laids.nodup q.2 nd.2⟩
    obtain ⟨x, hx, he⟩ := List.mem_map.mp hm
    obtain ⟨l1, t1, p1, -⟩ := q.1
    obtain ⟨l2, t2, p2, -⟩ := Laids.mem q.2 x hx
    exact RoadKit.slot_ne l2 l1 (fun e => nd.1 (List.mem_map.mpr ⟨x, hx, e⟩)) p2 p1 he
theorem OBJ.new {a0 : Array Value} (E : Exa Z h a C) (D : ∀ {O nm d : String} {ty : FieldType}, Laid Z a0 C O nm d → parseFieldDescriptor d = some ty → Fld Z h a O nm d (defaultValue ty)) (q : Laids Z a0 C fs) (nd : (fs.map (fun f => f.2.1)).Nodup) :
    ∃ c, h[a]? = some c ∧ OBJ Z C fs c := by
  obtain ⟨c, k, h1, h2, h3, h4, h5⟩ := E
  refine ⟨c, h1, ⟨k, h2, h3, h4, h5⟩, q.nodup nd, fun f hf => ?_⟩
  obtain ⟨l1, ty, p1, e1⟩ := q.mem f hf
  obtain ⟨c', cf, k', i, fd, g1, g2, g3, g4, g5, g6, g7⟩ := D l1 p1
  cases h1.symm.trans g1
  exact ⟨cf, k', i, fd, g2, g3, g4, g5, g6, by rw [← e1]; exact g7⟩
end Heap
end Jvm.OwnW
namespace Jvm.OwnW
open Sem ClassFile Op Lib Jvm.Stand Jvm.Free Jvm.LawKit Jvm.RoadKit
def Stn (X : Cx) (T : State) (locs : List Loc) (ce sl : Nat) : Prop := Stand X.1 X.2.1 X.2.2.1 X.2.2.2.1 X.2.2.2.2.1 X.2.2.2.2.2.1 X.2.2.2.2.2.2.1 X.2.2.2.2.2.2.2.1 X.2.2.2.2.2.2.2.2.1 X.2.2.2.2.2.2.2.2.2 T locs ce sl
/-- from here the run comes to the method's end, and there Q holds -/
def Fn (X : Cx) (Z : State) (rc rs : Nat) (Q : Option Value → OS → Prop) (start : State) : Prop :=
  ∃ s₂ o, Steps X.1.tables X.2.2.1 X.2.2.2.2.2.2.2.1 start s₂ ∧ s₂.status = .running ∧ Ended s₂ X.2.2.2.2.2.2.2.1 o ∧ ∃ v L, o = .returned v ∧ (∃ os', Q v os' ∧ Hp Z s₂.heap os' ∧ Fr Z.heap.size L) ∧ FrameEnd X.2.2.2.2.1 o s₂ L rc rs
def WP (X : Cx) (Z : State) (rc rs : Nat) (Q : Option Value → OS → Prop) (pc : Nat) (L : List Slot) (S : List Value) (os : OS) (ce sl : Nat) : Prop :=
  ∀ T locs, Stn X T locs ce sl → Hp Z T.heap os → Fr Z.heap.size locs → Fn X Z rc rs Q (T.setTop (mkF X.2.2.2.2.2.1 pc L.toArray S))
def Ctx (X : Cx) (l : Launch) (Z : State) (R : Room) (y : MethodName) (code : ByteArray) (maxL : Nat) (ret : Option FieldType) : Prop :=
  X.2.1 = l ∧ X.2.2.2.1 = R ∧ X.1.tables.exec = Jvm.exec ∧ Z.Warmed39 X.2.2.2.2.1.vm ∧ X.2.2.2.2.2.2.2.2.2.code = code ∧ X.2.2.2.2.2.2.2.2.2.maxLocals = maxL ∧ X.2.2.2.2.1.vm.findClass y.cls = some X.2.2.2.2.2.1.cls ∧ X.2.2.2.2.2.2.2.2.1.name = y.name ∧ X.2.2.2.2.2.2.2.2.1.sig.returnType = ret ∧ X.2.2.2.2.2.2.2.2.1.locks = false
/-- the contract of a method, called with these arguments over this abstract heap -/
def OMeets (l : Launch) (Z : State) (y : MethodName) (bytes : ByteArray) (maxL : Nat) (ret : Option FieldType) (rm : Room) (as : List Value) (os : OS) (Q : Option Value → OS → Prop) : Prop :=
  ∀ h0, Hp Z h0 os → ∀ ws : List Jvm.Cond, MetFree l y (head1 (Jvm.Cond.code y bytes maxL ret :: ws) rm) (fun a U => a = as.toArray ∧ Z.Warmed39 U.vm ∧ U.heap = h0) (fun _ _ _ _ _ => True)
    (fun _ U o U' => ∃ v L, o = .returned v ∧ (∃ os', Q v os' ∧ Hp Z U'.heap os' ∧ Fr Z.heap.size L) ∧ FrameEnd U o U' L rm.cells rm.slots)
def RetV (q : Value → OS → Prop) : Option Value → OS → Prop := fun v os => ∃ x, v = some x ∧ q x os
def RetN (q : OS → Prop) : Option Value → OS → Prop := fun v os => v = none ∧ q os
def laid : List Value → List Slot
  | [] => []
  | v :: r => match v.category with
    | 2 => .val v :: .second :: laid r
    | _ => .val v :: laid r
theorem laid_fold : ∀ (as : List Value) (acc : Array Slot), as.foldl (fun acc v => if v.category = 2 then (acc.push (.val v)).push .second else acc.push (.val v)) acc = acc ++ (laid as).toArray
  | [], acc => by simp [laid]
  | v :: r, acc => by
    rw [List.foldl_cons, laid_fold r]
    have hv : v.category = 2 ∨ v.category = 1 := by cases v <;> simp [Value.category]
    rcases hv with h | h
    · rw [if_pos h]
      simp only [laid, h]
      apply Array.ext'
      simp
    · rw [if_neg (by rw [h]; decide)]
      simp only [laid, h]
      apply Array.ext'
      simp
theorem laid_eq (as : List Value) (n : Nat) {L : List Slot} (h : laid as ++ List.replicate (n - (laid as).length) .unset = L) : argsToLocals as.toArray n = L.toArray := by
  subst h
  unfold argsToLocals
  rw [List.foldl_toArray, laid_fold]
  apply Array.ext'
  simp
theorem OMeets.of_body {l : Launch} {Z : State} {y : MethodName} {bytes : ByteArray} {maxL : Nat} {ret : Option FieldType} {rm : Room} {as : List Value} {os : OS} {Q : Option Value → OS → Prop} (L : List Slot)
    (hpn : plainFor y = true) (hef : argsToLocals as.toArray maxL = L.toArray) (hk : ∀ X : Cx, Ctx X l Z rm y bytes maxL ret → WP X Z rm.cells rm.slots Q 0 L [] os 0 0) : OMeets l Z y bytes maxL ret rm as os Q := by
  intro h0 H ws
  refine MetFree.of_bodySF hpn hisR ?_
  intro p e s m args below meth c s₁ Bd hml0 hP hK
  obtain ⟨rfl, hZ, hh⟩ := hP
  have X0 : Stand p l e rm s m as.toArray below meth c s₁ [] 0 0 := Stand.of_body Bd
  have e0 : s₁.heap = h0 := by rw [← hh, Bd.state]; rfl
  obtain ⟨s2, o, st, r⟩ := hk (p, l, e, rm, s, m, as.toArray, below, meth, c) ⟨rfl, rfl, Bd.exec, hZ, Bd.bytes, hml0, findClass_of_methodNamed Bd.named, (name_of_methodNamed Bd.named Bd.method).1, Bd.returns, Bd.notSynchronized⟩ s₁ [] X0 (by rw [e0]; exact H) (Fr.nil _)
  refine ⟨s2, o, castTop (g' := mkF m 0 L.toArray []) ?_ st, r⟩
  simp only [entryFrame, mkF, hef]
theorem OMeets.weaken {l : Launch} {Z : State} {y : MethodName} {bytes : ByteArray} {maxL : Nat} {ret : Option FieldType} {rm : Room} {as : List Value} {os : OS} {Q Q' : Option Value → OS → Prop}
    (h : OMeets l Z y bytes maxL ret rm as os Q) (q : ∀ v os', Q v os' → Q' v os') : OMeets l Z y bytes maxL ret rm as os Q' := by
  intro h0 H ws p e ha hc hk s m args below hf happ hP hK
  obtain ⟨n, o, h1, h2, h3, v, L, h4, ⟨os', h5, h6⟩, h7⟩ := h h0 H ws p e ha hc hk s m args below hf happ hP hK
  exact ⟨n, o, h1, h2, h3, v, L, h4, ⟨os', q v os' h5, h6⟩, h7⟩
section Ops
variable {X : Cx} {l : Launch} {Z : State} {R : Room} {y : MethodName} {code : ByteArray} {maxL : Nat} {ret : Option FieldType} {rc rs : Nat} {Q : Option Value → OS → Prop} {pc : Nat} {L : List Slot} {S : List Value} {os os' : OS} {ce sl : Nat} {a0 : Array Value}
theorem WP.perm (p : os.Perm os') (k : WP X Z rc rs Q pc L S os' ce sl) : WP X Z rc rs Q pc L S os ce sl := fun T locs hT hH hF => k T locs hT (hH.perm p) hF
theorem WP.sub (p : List.Sublist os' os) (k : WP X Z rc rs Q pc L S os' ce sl) : WP X Z rc rs Q pc L S os ce sl := fun T locs hT hH hF => k T locs hT (hH.sub p) hF
/-- a fact out of the abstract heap -/
theorem WP.fact {F : Prop} (f : ∀ h, Hp Z h os → F) (k : F → WP X Z rc rs Q pc L S os ce sl) : WP X Z rc rs Q pc L S os ce sl := fun T locs hT hH hF => k (f _ hH) T locs hT hH hF
theorem perm_front {α : Type} {x : α} : ∀ {os : List α} (i : Nat), os[i]? = some x → os.Perm (x :: os.eraseIdx i)
  | [], i, h => by simp at h
  | y :: r, 0, h => by cases h; exact List.Perm.refl _
  | y :: r, i + 1, h => ((perm_front (os := r) i h).cons y).trans (List.Perm.swap x y _)
theorem pickHere {α : Type} {x : α} {r : List α} : (x :: r).Perm (x :: r) := List.Perm.refl _
theorem pickThere {α : Type} {x z : α} {r r' : List α} (h : r.Perm (x :: r')) : (z :: r).Perm (x :: z :: r') := (h.cons z).trans (List.Perm.swap x z r')
/-- the entry of address a comes to the front -/
theorem WP.pick {P : Cell → Prop} (a : Addr) (p : os.Perm ((a, P) :: os')) (k : WP X Z rc rs Q pc L S ((a, P) :: os') ce sl) : WP X Z rc rs Q pc L S os ce sl := WP.perm p k
theorem WP.imp0 {a : Addr} {P P2 : Cell → Prop} {r : OS} (q : ∀ c, P c → P2 c) (k : WP X Z rc rs Q pc L S ((a, P2) :: r) ce sl) : WP X Z rc rs Q pc L S ((a, P) :: r) ce sl := fun T locs hT hH hF => k T locs hT (hH.imp q) hF
/-- more cells and slots booked than were used -/
theorem WP.book {ce' sl' : Nat} (hc : ce ≤ ce') (hs : sl ≤ sl') (k : WP X Z rc rs Q pc L S os ce' sl') : WP X Z rc rs Q pc L S os ce sl := by
  intro T locs hT hH hF
  refine k T locs ?_ hH hF
  obtain ⟨h1, h2, h3, h4, h5, h6, h7, h8, h9, h10, h11, h12, h13, h14⟩ := hT
  exact ⟨h1, h2, h3, h4, h5, h6, h7, h8, h9, h10, h11, h12, h13, h14.mono hc hs⟩

theorem W.iadd {x z : Int32} (K : Ctx X l Z R y code maxL ret) (pc' : Nat) (hd : decode code pc = .ok (.iadd, 1)) (k : WP X Z rc rs Q pc' L (.int (x + z) :: S) os ce sl) (hp : pc + 1 = pc' := by rfl) : WP X Z rc rs Q pc L (.int z :: .int x :: S) os ce sl := by
  obtain ⟨p, l', e, R', s, m, args, below, meth, c⟩ := X
  obtain ⟨h1, h2, hx, hZ, hby, hml, hown, hnm, hret, hlk⟩ := K
  have h2' : R' = R := h2
  subst h2'
  subst hp
  intro T locs hT0 hH hF
  have hT : Stand p l' e R' s m args below meth c T locs ce sl := hT0
  obtain ⟨s2, o, st, r⟩ := k T locs hT hH hF
  exact ⟨s2, o, XS.iadd (Stand.here hT) hx rfl (hb hby hd) rfl st, r⟩
theorem W.isub {x z : Int32} (K : Ctx X l Z R y code maxL ret) (pc' : Nat) (hd : decode code pc = .ok (.isub, 1)) (k : WP X Z rc rs Q pc' L (.int (x - z) :: S) os ce sl) (hp : pc + 1 = pc' := by rfl) : WP X Z rc rs Q pc L (.int z :: .int x :: S) os ce sl := by
  obtain ⟨p, l', e, R', s, m, args, below, meth, c⟩ := X
  obtain ⟨h1, h2, hx, hZ, hby, hml, hown, hnm, hret, hlk⟩ := K
  have h2' : R' = R := h2
  subst h2'
  subst hp
  intro T locs hT0 hH hF
  have hT : Stand p l' e R' s m args below meth c T locs ce sl := hT0
  obtain ⟨s2, o, st, r⟩ := k T locs hT hH hF
  exact ⟨s2, o, XS.isub (Stand.here hT) hx rfl (hb hby hd) rfl st, r⟩
theorem W.imul {x z : Int32} (K : Ctx X l Z R y code maxL ret) (pc' : Nat) (hd : decode code pc = .ok (.imul, 1)) (k : WP X Z rc rs Q pc' L (.int (x * z) :: S) os ce sl) (hp : pc + 1 = pc' := by rfl) : WP X Z rc rs Q pc L (.int z :: .int x :: S) os ce sl := by
  obtain ⟨p, l', e, R', s, m, args, below, meth, c⟩ := X
  obtain ⟨h1, h2, hx, hZ, hby, hml, hown, hnm, hret, hlk⟩ := K
  have h2' : R' = R := h2
  subst h2'
  subst hp
  intro T locs hT0 hH hF
  have hT : Stand p l' e R' s m args below meth c T locs ce sl := hT0
  obtain ⟨s2, o, st, r⟩ := k T locs hT hH hF
  exact ⟨s2, o, XS.imul (Stand.here hT) hx rfl (hb hby hd) rfl st, r⟩
theorem W.iand {x z : Int32} (K : Ctx X l Z R y code maxL ret) (pc' : Nat) (hd : decode code pc = .ok (.iand, 1)) (k : WP X Z rc rs Q pc' L (.int (x &&& z) :: S) os ce sl) (hp : pc + 1 = pc' := by rfl) : WP X Z rc rs Q pc L (.int z :: .int x :: S) os ce sl := by
  obtain ⟨p, l', e, R', s, m, args, below, meth, c⟩ := X
  obtain ⟨h1, h2, hx, hZ, hby, hml, hown, hnm, hret, hlk⟩ := K
  have h2' : R' = R := h2
  subst h2'
  subst hp
  intro T locs hT0 hH hF
  have hT : Stand p l' e R' s m args below meth c T locs ce sl := hT0
  obtain ⟨s2, o, st, r⟩ := k T locs hT hH hF
  exact ⟨s2, o, XS.iand (Stand.here hT) hx rfl (hb hby hd) rfl st, r⟩
theorem W.ior {x z : Int32} (K : Ctx X l Z R y code maxL ret) (pc' : Nat) (hd : decode code pc = .ok (.ior, 1)) (k : WP X Z rc rs Q pc' L (.int (x ||| z) :: S) os ce sl) (hp : pc + 1 = pc' := by rfl) : WP X Z rc rs Q pc L (.int z :: .int x :: S) os ce sl := by
  obtain ⟨p, l', e, R', s, m, args, below, meth, c⟩ := X
  obtain ⟨h1, h2, hx, hZ, hby, hml, hown, hnm, hret, hlk⟩ := K
  have h2' : R' = R := h2
  subst h2'
  subst hp
  intro T locs hT0 hH hF
  have hT : Stand p l' e R' s m args below meth c T locs ce sl := hT0
  obtain ⟨s2, o, st, r⟩ := k T locs hT hH hF
  exact ⟨s2, o, XS.ior (Stand.here hT) hx rfl (hb hby hd) rfl st, r⟩
theorem W.ixor {x z : Int32} (K : Ctx X l Z R y code maxL ret) (pc' : Nat) (hd : decode code pc = .ok (.ixor, 1)) (k : WP X Z rc rs Q pc' L (.int (x ^^^ z) :: S) os ce sl) (hp : pc + 1 = pc' := by rfl) : WP X Z rc rs Q pc L (.int z :: .int x :: S) os ce sl := by
  obtain ⟨p, l', e, R', s, m, args, below, meth, c⟩ := X
  obtain ⟨h1, h2, hx, hZ, hby, hml, hown, hnm, hret, hlk⟩ := K
  have h2' : R' = R := h2
  subst h2'
  subst hp
  intro T locs hT0 hH hF
  have hT : Stand p l' e R' s m args below meth c T locs ce sl := hT0
  obtain ⟨s2, o, st, r⟩ := k T locs hT hH hF
  exact ⟨s2, o, XS.ixor (Stand.here hT) hx rfl (hb hby hd) rfl st, r⟩
theorem W.ishl {x z : Int32} (K : Ctx X l Z R y code maxL ret) (pc' : Nat) (hd : decode code pc = .ok (.ishl, 1)) (k : WP X Z rc rs Q pc' L (.int (x <<< (z &&& 31)) :: S) os ce sl) (hp : pc + 1 = pc' := by rfl) : WP X Z rc rs Q pc L (.int z :: .int x :: S) os ce sl := by
  obtain ⟨p, l', e, R', s, m, args, below, meth, c⟩ := X
  obtain ⟨h1, h2, hx, hZ, hby, hml, hown, hnm, hret, hlk⟩ := K
  have h2' : R' = R := h2
  subst h2'
  subst hp
  intro T locs hT0 hH hF
  have hT : Stand p l' e R' s m args below meth c T locs ce sl := hT0
  obtain ⟨s2, o, st, r⟩ := k T locs hT hH hF
  exact ⟨s2, o, XS.ishl (Stand.here hT) hx rfl (hb hby hd) rfl st, r⟩
theorem W.ishr {x z : Int32} (K : Ctx X l Z R y code maxL ret) (pc' : Nat) (hd : decode code pc = .ok (.ishr, 1)) (k : WP X Z rc rs Q pc' L (.int (x >>> (z &&& 31)) :: S) os ce sl) (hp : pc + 1 = pc' := by rfl) : WP X Z rc rs Q pc L (.int z :: .int x :: S) os ce sl := by
  obtain ⟨p, l', e, R', s, m, args, below, meth, c⟩ := X
  obtain ⟨h1, h2, hx, hZ, hby, hml, hown, hnm, hret, hlk⟩ := K
  have h2' : R' = R := h2
  subst h2'
  subst hp
  intro T locs hT0 hH hF
  have hT : Stand p l' e R' s m args below meth c T locs ce sl := hT0
  obtain ⟨s2, o, st, r⟩ := k T locs hT hH hF
  exact ⟨s2, o, XS.ishr (Stand.here hT) hx rfl (hb hby hd) rfl st, r⟩
theorem W.iushr {x z : Int32} (K : Ctx X l Z R y code maxL ret) (pc' : Nat) (hd : decode code pc = .ok (.iushr, 1)) (k : WP X Z rc rs Q pc' L (.int ((x.toUInt32 >>> (z &&& 31).toUInt32).toInt32) :: S) os ce sl) (hp : pc + 1 = pc' := by rfl) : WP X Z rc rs Q pc L (.int z :: .int x :: S) os ce sl := by
  obtain ⟨p, l', e, R', s, m, args, below, meth, c⟩ := X
  obtain ⟨h1, h2, hx, hZ, hby, hml, hown, hnm, hret, hlk⟩ := K
  have h2' : R' = R := h2
  subst h2'
  subst hp
  intro T locs hT0 hH hF
  have hT : Stand p l' e R' s m args below meth c T locs ce sl := hT0
  obtain ⟨s2, o, st, r⟩ := k T locs hT hH hF
  exact ⟨s2, o, XS.iushr (Stand.here hT) hx rfl (hb hby hd) rfl st, r⟩
theorem W.ladd {x z : Int64} (K : Ctx X l Z R y code maxL ret) (pc' : Nat) (hd : decode code pc = .ok (.ladd, 1)) (k : WP X Z rc rs Q pc' L (.long (x + z) :: S) os ce sl) (hp : pc + 1 = pc' := by rfl) : WP X Z rc rs Q pc L (.long z :: .long x :: S) os ce sl := by
  obtain ⟨p, l', e, R', s, m, args, below, meth, c⟩ := X
  obtain ⟨h1, h2, hx, hZ, hby, hml, hown, hnm, hret, hlk⟩ := K
  have h2' : R' = R := h2
  subst h2'
  subst hp
  intro T locs hT0 hH hF
  have hT : Stand p l' e R' s m args below meth c T locs ce sl := hT0
  obtain ⟨s2, o, st, r⟩ := k T locs hT hH hF
  exact ⟨s2, o, XS.ladd (Stand.here hT) hx rfl (hb hby hd) rfl st, r⟩
theorem W.lsub {x z : Int64} (K : Ctx X l Z R y code maxL ret) (pc' : Nat) (hd : decode code pc = .ok (.lsub, 1)) (k : WP X Z rc rs Q pc' L (.long (x - z) :: S) os ce sl) (hp : pc + 1 = pc' := by rfl) : WP X Z rc rs Q pc L (.long z :: .long x :: S) os ce sl := by
  obtain ⟨p, l', e, R', s, m, args, below, meth, c⟩ := X
  obtain ⟨h1, h2, hx, hZ, hby, hml, hown, hnm, hret, hlk⟩ := K
  have h2' : R' = R := h2
  subst h2'
  subst hp
  intro T locs hT0 hH hF
  have hT : Stand p l' e R' s m args below meth c T locs ce sl := hT0
  obtain ⟨s2, o, st, r⟩ := k T locs hT hH hF
  exact ⟨s2, o, XS.lsub (Stand.here hT) hx rfl (hb hby hd) rfl st, r⟩
theorem W.lmul {x z : Int64} (K : Ctx X l Z R y code maxL ret) (pc' : Nat) (hd : decode code pc = .ok (.lmul, 1)) (k : WP X Z rc rs Q pc' L (.long (x * z) :: S) os ce sl) (hp : pc + 1 = pc' := by rfl) : WP X Z rc rs Q pc L (.long z :: .long x :: S) os ce sl := by
  obtain ⟨p, l', e, R', s, m, args, below, meth, c⟩ := X
  obtain ⟨h1, h2, hx, hZ, hby, hml, hown, hnm, hret, hlk⟩ := K
  have h2' : R' = R := h2
  subst h2'
  subst hp
  intro T locs hT0 hH hF
  have hT : Stand p l' e R' s m args below meth c T locs ce sl := hT0
  obtain ⟨s2, o, st, r⟩ := k T locs hT hH hF
  exact ⟨s2, o, XS.lmul (Stand.here hT) hx rfl (hb hby hd) rfl st, r⟩
theorem W.land {x z : Int64} (K : Ctx X l Z R y code maxL ret) (pc' : Nat) (hd : decode code pc = .ok (.land, 1)) (k : WP X Z rc rs Q pc' L (.long (x &&& z) :: S) os ce sl) (hp : pc + 1 = pc' := by rfl) : WP X Z rc rs Q pc L (.long z :: .long x :: S) os ce sl := by
  obtain ⟨p, l', e, R', s, m, args, below, meth, c⟩ := X
  obtain ⟨h1, h2, hx, hZ, hby, hml, hown, hnm, hret, hlk⟩ := K
  have h2' : R' = R := h2
  subst h2'
  subst hp
  intro T locs hT0 hH hF
  have hT : Stand p l' e R' s m args below meth c T locs ce sl := hT0
  obtain ⟨s2, o, st, r⟩ := k T locs hT hH hF
  exact ⟨s2, o, XS.land (Stand.here hT) hx rfl (hb hby hd) rfl st, r⟩
theorem W.lor {x z : Int64} (K : Ctx X l Z R y code maxL ret) (pc' : Nat) (hd : decode code pc = .ok (.lor, 1)) (k : WP X Z rc rs Q pc' L (.long (x ||| z) :: S) os ce sl) (hp : pc + 1 = pc' := by rfl) : WP X Z rc rs Q pc L (.long z :: .long x :: S) os ce sl := by
  obtain ⟨p, l', e, R', s, m, args, below, meth, c⟩ := X
  obtain ⟨h1, h2, hx, hZ, hby, hml, hown, hnm, hret, hlk⟩ := K
  have h2' : R' = R := h2
  subst h2'
  subst hp
  intro T locs hT0 hH hF
  have hT : Stand p l' e R' s m args below meth c T locs ce sl := hT0
  obtain ⟨s2, o, st, r⟩ := k T locs hT hH hF
  exact ⟨s2, o, XS.lor (Stand.here hT) hx rfl (hb hby hd) rfl st, r⟩
theorem W.lxor {x z : Int64} (K : Ctx X l Z R y code maxL ret) (pc' : Nat) (hd : decode code pc = .ok (.lxor, 1)) (k : WP X Z rc rs Q pc' L (.long (x ^^^ z) :: S) os ce sl) (hp : pc + 1 = pc' := by rfl) : WP X Z rc rs Q pc L (.long z :: .long x :: S) os ce sl := by
  obtain ⟨p, l', e, R', s, m, args, below, meth, c⟩ := X
  obtain ⟨h1, h2, hx, hZ, hby, hml, hown, hnm, hret, hlk⟩ := K
  have h2' : R' = R := h2
  subst h2'
  subst hp
  intro T locs hT0 hH hF
  have hT : Stand p l' e R' s m args below meth c T locs ce sl := hT0
  obtain ⟨s2, o, st, r⟩ := k T locs hT hH hF
  exact ⟨s2, o, XS.lxor (Stand.here hT) hx rfl (hb hby hd) rfl st, r⟩
theorem W.lshl {x : Int64} {z : Int32} (K : Ctx X l Z R y code maxL ret) (pc' : Nat) (hd : decode code pc = .ok (.lshl, 1)) (k : WP X Z rc rs Q pc' L (.long (x <<< (z &&& 0x3f).toInt64) :: S) os ce sl) (hp : pc + 1 = pc' := by rfl) : WP X Z rc rs Q pc L (.int z :: .long x :: S) os ce sl := by
  obtain ⟨p, l', e, R', s, m, args, below, meth, c⟩ := X
  obtain ⟨h1, h2, hx, hZ, hby, hml, hown, hnm, hret, hlk⟩ := K
  have h2' : R' = R := h2
  subst h2'
  subst hp
  intro T locs hT0 hH hF
  have hT : Stand p l' e R' s m args below meth c T locs ce sl := hT0
  obtain ⟨s2, o, st, r⟩ := k T locs hT hH hF
  exact ⟨s2, o, XS.lshl (Stand.here hT) hx rfl (hb hby hd) rfl st, r⟩
theorem W.lshr {x : Int64} {z : Int32} (K : Ctx X l Z R y code maxL ret) (pc' : Nat) (hd : decode code pc = .ok (.lshr, 1)) (k : WP X Z rc rs Q pc' L (.long (x >>> (z &&& 0x3f).toInt64) :: S) os ce sl) (hp : pc + 1 = pc' := by rfl) : WP X Z rc rs Q pc L (.int z :: .long x :: S) os ce sl := by
  obtain ⟨p, l', e, R', s, m, args, below, meth, c⟩ := X
  obtain ⟨h1, h2, hx, hZ, hby, hml, hown, hnm, hret, hlk⟩ := K
  have h2' : R' = R := h2
  subst h2'
  subst hp
  intro T locs hT0 hH hF
  have hT : Stand p l' e R' s m args below meth c T locs ce sl := hT0
  obtain ⟨s2, o, st, r⟩ := k T locs hT hH hF
  exact ⟨s2, o, XS.lshr (Stand.here hT) hx rfl (hb hby hd) rfl st, r⟩
theorem W.lushr {x : Int64} {z : Int32} (K : Ctx X l Z R y code maxL ret) (pc' : Nat) (hd : decode code pc = .ok (.lushr, 1)) (k : WP X Z rc rs Q pc' L (.long ((x.toUInt64 >>> (z &&& 0x3f).toInt64.toUInt64).toInt64) :: S) os ce sl) (hp : pc + 1 = pc' := by rfl) : WP X Z rc rs Q pc L (.int z :: .long x :: S) os ce sl := by
  obtain ⟨p, l', e, R', s, m, args, below, meth, c⟩ := X
  obtain ⟨h1, h2, hx, hZ, hby, hml, hown, hnm, hret, hlk⟩ := K
  have h2' : R' = R := h2
  subst h2'
  subst hp
  intro T locs hT0 hH hF
  have hT : Stand p l' e R' s m args below meth c T locs ce sl := hT0
  obtain ⟨s2, o, st, r⟩ := k T locs hT hH hF
  exact ⟨s2, o, XS.lushr (Stand.here hT) hx rfl (hb hby hd) rfl st, r⟩
theorem W.ineg {x : Int32} (K : Ctx X l Z R y code maxL ret) (pc' : Nat) (hd : decode code pc = .ok (.ineg, 1)) (k : WP X Z rc rs Q pc' L (.int (-x) :: S) os ce sl) (hp : pc + 1 = pc' := by rfl) : WP X Z rc rs Q pc L (.int x :: S) os ce sl := by
  obtain ⟨p, l', e, R', s, m, args, below, meth, c⟩ := X
  obtain ⟨h1, h2, hx, hZ, hby, hml, hown, hnm, hret, hlk⟩ := K
  have h2' : R' = R := h2
  subst h2'
  subst hp
  intro T locs hT0 hH hF
  have hT : Stand p l' e R' s m args below meth c T locs ce sl := hT0
  obtain ⟨s2, o, st, r⟩ := k T locs hT hH hF
  exact ⟨s2, o, XS.ineg (Stand.here hT) hx rfl (hb hby hd) rfl st, r⟩
theorem W.lneg {x : Int64} (K : Ctx X l Z R y code maxL ret) (pc' : Nat) (hd : decode code pc = .ok (.lneg, 1)) (k : WP X Z rc rs Q pc' L (.long (-x) :: S) os ce sl) (hp : pc + 1 = pc' := by rfl) : WP X Z rc rs Q pc L (.long x :: S) os ce sl := by
  obtain ⟨p, l', e, R', s, m, args, below, meth, c⟩ := X
  obtain ⟨h1, h2, hx, hZ, hby, hml, hown, hnm, hret, hlk⟩ := K
  have h2' : R' = R := h2
  subst h2'
  subst hp
  intro T locs hT0 hH hF
  have hT : Stand p l' e R' s m args below meth c T locs ce sl := hT0
  obtain ⟨s2, o, st, r⟩ := k T locs hT hH hF
  exact ⟨s2, o, XS.lneg (Stand.here hT) hx rfl (hb hby hd) rfl st, r⟩
theorem W.i2l {x : Int32} (K : Ctx X l Z R y code maxL ret) (pc' : Nat) (hd : decode code pc = .ok (.i2l, 1)) (k : WP X Z rc rs Q pc' L (.long x.toInt64 :: S) os ce sl) (hp : pc + 1 = pc' := by rfl) : WP X Z rc rs Q pc L (.int x :: S) os ce sl := by
  obtain ⟨p, l', e, R', s, m, args, below, meth, c⟩ := X
  obtain ⟨h1, h2, hx, hZ, hby, hml, hown, hnm, hret, hlk⟩ := K
  have h2' : R' = R := h2
  subst h2'
  subst hp
  intro T locs hT0 hH hF
  have hT : Stand p l' e R' s m args below meth c T locs ce sl := hT0
  obtain ⟨s2, o, st, r⟩ := k T locs hT hH hF
  exact ⟨s2, o, XS.i2l (Stand.here hT) hx rfl (hb hby hd) rfl st, r⟩
theorem W.l2i {x : Int64} (K : Ctx X l Z R y code maxL ret) (pc' : Nat) (hd : decode code pc = .ok (.l2i, 1)) (k : WP X Z rc rs Q pc' L (.int x.toInt32 :: S) os ce sl) (hp : pc + 1 = pc' := by rfl) : WP X Z rc rs Q pc L (.long x :: S) os ce sl := by
  obtain ⟨p, l', e, R', s, m, args, below, meth, c⟩ := X
  obtain ⟨h1, h2, hx, hZ, hby, hml, hown, hnm, hret, hlk⟩ := K
  have h2' : R' = R := h2
  subst h2'
  subst hp
  intro T locs hT0 hH hF
  have hT : Stand p l' e R' s m args below meth c T locs ce sl := hT0
  obtain ⟨s2, o, st, r⟩ := k T locs hT hH hF
  exact ⟨s2, o, XS.l2i (Stand.here hT) hx rfl (hb hby hd) rfl st, r⟩
theorem W.i2b {x : Int32} (K : Ctx X l Z R y code maxL ret) (pc' : Nat) (hd : decode code pc = .ok (.i2b, 1)) (k : WP X Z rc rs Q pc' L (.int x.toInt8.toInt32 :: S) os ce sl) (hp : pc + 1 = pc' := by rfl) : WP X Z rc rs Q pc L (.int x :: S) os ce sl := by
  obtain ⟨p, l', e, R', s, m, args, below, meth, c⟩ := X
  obtain ⟨h1, h2, hx, hZ, hby, hml, hown, hnm, hret, hlk⟩ := K
  have h2' : R' = R := h2
  subst h2'
  subst hp
  intro T locs hT0 hH hF
  have hT : Stand p l' e R' s m args below meth c T locs ce sl := hT0
  obtain ⟨s2, o, st, r⟩ := k T locs hT hH hF
  exact ⟨s2, o, XS.i2b (Stand.here hT) hx rfl (hb hby hd) rfl st, r⟩
theorem W.i2c {x : Int32} (K : Ctx X l Z R y code maxL ret) (pc' : Nat) (hd : decode code pc = .ok (.i2c, 1)) (k : WP X Z rc rs Q pc' L (.int x.toUInt32.toUInt16.toUInt32.toInt32 :: S) os ce sl) (hp : pc + 1 = pc' := by rfl) : WP X Z rc rs Q pc L (.int x :: S) os ce sl := by
  obtain ⟨p, l', e, R', s, m, args, below, meth, c⟩ := X
  obtain ⟨h1, h2, hx, hZ, hby, hml, hown, hnm, hret, hlk⟩ := K
  have h2' : R' = R := h2
  subst h2'
  subst hp
  intro T locs hT0 hH hF
  have hT : Stand p l' e R' s m args below meth c T locs ce sl := hT0
  obtain ⟨s2, o, st, r⟩ := k T locs hT hH hF
  exact ⟨s2, o, XS.i2c (Stand.here hT) hx rfl (hb hby hd) rfl st, r⟩
theorem W.i2s {x : Int32} (K : Ctx X l Z R y code maxL ret) (pc' : Nat) (hd : decode code pc = .ok (.i2s, 1)) (k : WP X Z rc rs Q pc' L (.int x.toInt16.toInt32 :: S) os ce sl) (hp : pc + 1 = pc' := by rfl) : WP X Z rc rs Q pc L (.int x :: S) os ce sl := by
  obtain ⟨p, l', e, R', s, m, args, below, meth, c⟩ := X
  obtain ⟨h1, h2, hx, hZ, hby, hml, hown, hnm, hret, hlk⟩ := K
  have h2' : R' = R := h2
  subst h2'
  subst hp
  intro T locs hT0 hH hF
  have hT : Stand p l' e R' s m args below meth c T locs ce sl := hT0
  obtain ⟨s2, o, st, r⟩ := k T locs hT hH hF
  exact ⟨s2, o, XS.i2s (Stand.here hT) hx rfl (hb hby hd) rfl st, r⟩
theorem W.idiv {x z : Int32} (K : Ctx X l Z R y code maxL ret) (pc' : Nat) (hd : decode code pc = .ok (.idiv, 1)) (hz : z ≠ 0) (k : WP X Z rc rs Q pc' L (.int (x / z) :: S) os ce sl) (hp : pc + 1 = pc' := by rfl) : WP X Z rc rs Q pc L (.int z :: .int x :: S) os ce sl := by
  obtain ⟨p, l', e, R', s, m, args, below, meth, c⟩ := X
  obtain ⟨h1, h2, hx, hZ, hby, hml, hown, hnm, hret, hlk⟩ := K
  have h2' : R' = R := h2
  subst h2'
  subst hp
  intro T locs hT0 hH hF
  have hT : Stand p l' e R' s m args below meth c T locs ce sl := hT0
  obtain ⟨s2, o, st, r⟩ := k T locs hT hH hF
  exact ⟨s2, o, XS.idiv (Stand.here hT) hx rfl (hb hby hd) rfl hz st, r⟩
theorem W.ldiv {x z : Int64} (K : Ctx X l Z R y code maxL ret) (pc' : Nat) (hd : decode code pc = .ok (.ldiv, 1)) (hz : z ≠ 0) (k : WP X Z rc rs Q pc' L (.long (x / z) :: S) os ce sl) (hp : pc + 1 = pc' := by rfl) : WP X Z rc rs Q pc L (.long z :: .long x :: S) os ce sl := by
  obtain ⟨p, l', e, R', s, m, args, below, meth, c⟩ := X
  obtain ⟨h1, h2, hx, hZ, hby, hml, hown, hnm, hret, hlk⟩ := K
  have h2' : R' = R := h2
  subst h2'
  subst hp
  intro T locs hT0 hH hF
  have hT : Stand p l' e R' s m args below meth c T locs ce sl := hT0
  obtain ⟨s2, o, st, r⟩ := k T locs hT hH hF
  exact ⟨s2, o, XS.ldiv (Stand.here hT) hx rfl (hb hby hd) rfl hz st, r⟩
theorem W.irem {x z : Int32} (K : Ctx X l Z R y code maxL ret) (pc' : Nat) (hd : decode code pc = .ok (.irem, 1)) (hz : z ≠ 0) (k : WP X Z rc rs Q pc' L (.int (x % z) :: S) os ce sl) (hp : pc + 1 = pc' := by rfl) : WP X Z rc rs Q pc L (.int z :: .int x :: S) os ce sl := by
  obtain ⟨p, l', e, R', s, m, args, below, meth, c⟩ := X
  obtain ⟨h1, h2, hx, hZ, hby, hml, hown, hnm, hret, hlk⟩ := K
  have h2' : R' = R := h2
  subst h2'
  subst hp
  intro T locs hT0 hH hF
  have hT : Stand p l' e R' s m args below meth c T locs ce sl := hT0
  obtain ⟨s2, o, st, r⟩ := k T locs hT hH hF
  exact ⟨s2, o, iremM hT hx rfl (hb hby hd) rfl hz st, r⟩
theorem W.dup {x : Value} (K : Ctx X l Z R y code maxL ret) (pc' : Nat) (hd : decode code pc = .ok (.dup, 1)) (k : WP X Z rc rs Q pc' L (x :: x :: S) os ce sl) (hc : x.category = 1 := by rfl) (hp : pc + 1 = pc' := by rfl) : WP X Z rc rs Q pc L (x :: S) os ce sl := by
  obtain ⟨p, l', e, R', s, m, args, below, meth, c⟩ := X
  obtain ⟨h1, h2, hx, hZ, hby, hml, hown, hnm, hret, hlk⟩ := K
  have h2' : R' = R := h2
  subst h2'
  subst hp
  intro T locs hT0 hH hF
  have hT : Stand p l' e R' s m args below meth c T locs ce sl := hT0
  obtain ⟨s2, o, st, r⟩ := k T locs hT hH hF
  exact ⟨s2, o, XS.dup (Stand.here hT) hx rfl (hb hby hd) rfl hc st, r⟩
theorem W.popx {x : Value} (K : Ctx X l Z R y code maxL ret) (pc' : Nat) (hd : decode code pc = .ok (.pop, 1)) (k : WP X Z rc rs Q pc' L S os ce sl) (hc : x.category = 1 := by rfl) (hp : pc + 1 = pc' := by rfl) : WP X Z rc rs Q pc L (x :: S) os ce sl := by
  obtain ⟨p, l', e, R', s, m, args, below, meth, c⟩ := X
  obtain ⟨h1, h2, hx, hZ, hby, hml, hown, hnm, hret, hlk⟩ := K
  have h2' : R' = R := h2
  subst h2'
  subst hp
  intro T locs hT0 hH hF
  have hT : Stand p l' e R' s m args below meth c T locs ce sl := hT0
  obtain ⟨s2, o, st, r⟩ := k T locs hT hH hF
  exact ⟨s2, o, XS.pop (Stand.here hT) hx rfl (hb hby hd) rfl hc st, r⟩
theorem W.dupX1 {x z : Value} (K : Ctx X l Z R y code maxL ret) (pc' : Nat) (hd : decode code pc = .ok (.dup_x1, 1)) (k : WP X Z rc rs Q pc' L (x :: z :: x :: S) os ce sl) (hc : x.category = 1 := by rfl) (hc2 : z.category = 1 := by rfl) (hp : pc + 1 = pc' := by rfl) : WP X Z rc rs Q pc L (x :: z :: S) os ce sl := by
  obtain ⟨p, l', e, R', s, m, args, below, meth, c⟩ := X
  obtain ⟨h1, h2, hx, hZ, hby, hml, hown, hnm, hret, hlk⟩ := K
  have h2' : R' = R := h2
  subst h2'
  subst hp
  intro T locs hT0 hH hF
  have hT : Stand p l' e R' s m args below meth c T locs ce sl := hT0
  obtain ⟨s2, o, st, r⟩ := k T locs hT hH hF
  exact ⟨s2, o, XS.dupX1 (Stand.here hT) hx rfl (hb hby hd) rfl hc hc2 st, r⟩
theorem W.dup2 {x z : Value} (K : Ctx X l Z R y code maxL ret) (pc' : Nat) (hd : decode code pc = .ok (.dup2, 1)) (k : WP X Z rc rs Q pc' L (x :: z :: x :: z :: S) os ce sl) (hc : x.category = 1 := by rfl) (hc2 : z.category = 1 := by rfl) (hp : pc + 1 = pc' := by rfl) : WP X Z rc rs Q pc L (x :: z :: S) os ce sl := by
  obtain ⟨p, l', e, R', s, m, args, below, meth, c⟩ := X
  obtain ⟨h1, h2, hx, hZ, hby, hml, hown, hnm, hret, hlk⟩ := K
  have h2' : R' = R := h2
  subst h2'
  subst hp
  intro T locs hT0 hH hF
  have hT : Stand p l' e R' s m args below meth c T locs ce sl := hT0
  obtain ⟨s2, o, st, r⟩ := k T locs hT hH hF
  exact ⟨s2, o, XT.dup2 (Stand.here hT) hx rfl (hb hby hd) rfl hc hc2 st, r⟩
theorem W.dup2L {x : Int64} (K : Ctx X l Z R y code maxL ret) (pc' : Nat) (hd : decode code pc = .ok (.dup2, 1)) (k : WP X Z rc rs Q pc' L (.long x :: .long x :: S) os ce sl)  (hp : pc + 1 = pc' := by rfl) : WP X Z rc rs Q pc L (.long x :: S) os ce sl := by
  obtain ⟨p, l', e, R', s, m, args, below, meth, c⟩ := X
  obtain ⟨h1, h2, hx, hZ, hby, hml, hown, hnm, hret, hlk⟩ := K
  have h2' : R' = R := h2
  subst h2'
  subst hp
  intro T locs hT0 hH hF
  have hT : Stand p l' e R' s m args below meth c T locs ce sl := hT0
  obtain ⟨s2, o, st, r⟩ := k T locs hT hH hF
  exact ⟨s2, o, XT.dup2L (Stand.here hT) hx rfl (hb hby hd) rfl st, r⟩
theorem W.iconst {i : Int} (K : Ctx X l Z R y code maxL ret) (pc' : Nat) (hd : decode code pc = .ok (.iconst i, 1)) (v : Int32) (hv : Int32.ofInt i = v) (k : WP X Z rc rs Q pc' L (.int v :: S) os ce sl) (hp : pc + 1 = pc' := by rfl) : WP X Z rc rs Q pc L S os ce sl := by
  obtain ⟨p, l', e, R', s, m, args, below, meth, c⟩ := X
  obtain ⟨h1, h2, hx, hZ, hby, hml, hown, hnm, hret, hlk⟩ := K
  have h2' : R' = R := h2
  subst h2'
  subst hp
  intro T locs hT0 hH hF
  have hT : Stand p l' e R' s m args below meth c T locs ce sl := hT0
  obtain ⟨s2, o, st, r⟩ := k T locs hT hH hF
  exact ⟨s2, o, XS.iconst (Stand.here hT) hx rfl (hb hby hd) (hv ▸ st), r⟩
theorem W.bipush {i : Int} (K : Ctx X l Z R y code maxL ret) (pc' : Nat) (hd : decode code pc = .ok (.bipush i, 2)) (v : Int32) (hv : (Int8.ofInt i).toInt32 = v) (k : WP X Z rc rs Q pc' L (.int v :: S) os ce sl) (hp : pc + 2 = pc' := by rfl) : WP X Z rc rs Q pc L S os ce sl := by
  obtain ⟨p, l', e, R', s, m, args, below, meth, c⟩ := X
  obtain ⟨h1, h2, hx, hZ, hby, hml, hown, hnm, hret, hlk⟩ := K
  have h2' : R' = R := h2
  subst h2'
  subst hp
  intro T locs hT0 hH hF
  have hT : Stand p l' e R' s m args below meth c T locs ce sl := hT0
  obtain ⟨s2, o, st, r⟩ := k T locs hT hH hF
  exact ⟨s2, o, XS.bipush (Stand.here hT) hx rfl (hb hby hd) (hv ▸ st), r⟩
theorem W.sipush {i : Int} (K : Ctx X l Z R y code maxL ret) (pc' : Nat) (hd : decode code pc = .ok (.sipush i, 3)) (v : Int32) (hv : (Int16.ofInt i).toInt32 = v) (k : WP X Z rc rs Q pc' L (.int v :: S) os ce sl) (hp : pc + 3 = pc' := by rfl) : WP X Z rc rs Q pc L S os ce sl := by
  obtain ⟨p, l', e, R', s, m, args, below, meth, c⟩ := X
  obtain ⟨h1, h2, hx, hZ, hby, hml, hown, hnm, hret, hlk⟩ := K
  have h2' : R' = R := h2
  subst h2'
  subst hp
  intro T locs hT0 hH hF
  have hT : Stand p l' e R' s m args below meth c T locs ce sl := hT0
  obtain ⟨s2, o, st, r⟩ := k T locs hT hH hF
  exact ⟨s2, o, XS.sipush (Stand.here hT) hx rfl (hb hby hd) (hv ▸ st), r⟩
theorem W.lconst {i : Fin 2} (K : Ctx X l Z R y code maxL ret) (pc' : Nat) (hd : decode code pc = .ok (.lconst i, 1)) (v : Int64) (hv : Int64.ofNat i = v) (k : WP X Z rc rs Q pc' L (.long v :: S) os ce sl) (hp : pc + 1 = pc' := by rfl) : WP X Z rc rs Q pc L S os ce sl := by
  obtain ⟨p, l', e, R', s, m, args, below, meth, c⟩ := X
  obtain ⟨h1, h2, hx, hZ, hby, hml, hown, hnm, hret, hlk⟩ := K
  have h2' : R' = R := h2
  subst h2'
  subst hp
  intro T locs hT0 hH hF
  have hT : Stand p l' e R' s m args below meth c T locs ce sl := hT0
  obtain ⟨s2, o, st, r⟩ := k T locs hT hH hF
  exact ⟨s2, o, XS.lconst (Stand.here hT) hx rfl (hb hby hd) (hv ▸ st), r⟩
theorem W.aconst  (K : Ctx X l Z R y code maxL ret) (pc' : Nat) (hd : decode code pc = .ok (.aconst_null, 1)) (k : WP X Z rc rs Q pc' L (.null :: S) os ce sl) (hp : pc + 1 = pc' := by rfl) : WP X Z rc rs Q pc L S os ce sl := by
  obtain ⟨p, l', e, R', s, m, args, below, meth, c⟩ := X
  obtain ⟨h1, h2, hx, hZ, hby, hml, hown, hnm, hret, hlk⟩ := K
  have h2' : R' = R := h2
  subst h2'
  subst hp
  intro T locs hT0 hH hF
  have hT : Stand p l' e R' s m args below meth c T locs ce sl := hT0
  obtain ⟨s2, o, st, r⟩ := k T locs hT hH hF
  exact ⟨s2, o, XS.aconstNull (Stand.here hT) hx rfl (hb hby hd) st, r⟩
theorem W.iload {n : Nat} {v : Int32} (K : Ctx X l Z R y code maxL ret) (pc' : Nat) (hd : decode code pc = .ok (.iload n, 2)) (hl : L[n]? = some (.val (.int v))) (k : WP X Z rc rs Q pc' L (.int v :: S) os ce sl) (hp : pc + 2 = pc' := by rfl) : WP X Z rc rs Q pc L S os ce sl := by
  obtain ⟨p, l', e, R', s, m, args, below, meth, c⟩ := X
  obtain ⟨h1, h2, hx, hZ, hby, hml, hown, hnm, hret, hlk⟩ := K
  have h2' : R' = R := h2
  subst h2'
  subst hp
  intro T locs hT0 hH hF
  have hT : Stand p l' e R' s m args below meth c T locs ce sl := hT0
  obtain ⟨s2, o, st, r⟩ := k T locs hT hH hF
  exact ⟨s2, o, XS.iload (Stand.here hT) hx rfl (hb hby hd) (by simpa using hl) st, r⟩
theorem W.iloadN {n : Fin 4} {v : Int32} (K : Ctx X l Z R y code maxL ret) (pc' : Nat) (hd : decode code pc = .ok (.iload_n n, 1)) (i : Nat) (hi : n.val = i) (hl : L[i]? = some (.val (.int v))) (k : WP X Z rc rs Q pc' L (.int v :: S) os ce sl) (hp : pc + 1 = pc' := by rfl) : WP X Z rc rs Q pc L S os ce sl := by
  obtain ⟨p, l', e, R', s, m, args, below, meth, c⟩ := X
  obtain ⟨h1, h2, hx, hZ, hby, hml, hown, hnm, hret, hlk⟩ := K
  have h2' : R' = R := h2
  subst h2'
  subst hp
  intro T locs hT0 hH hF
  have hT : Stand p l' e R' s m args below meth c T locs ce sl := hT0
  obtain ⟨s2, o, st, r⟩ := k T locs hT hH hF
  exact ⟨s2, o, XS.iloadN (Stand.here hT) hx rfl (hb hby hd) (by rw [hi]; simpa using hl) st, r⟩
theorem W.lload {n : Nat} {v : Int64} (K : Ctx X l Z R y code maxL ret) (pc' : Nat) (hd : decode code pc = .ok (.lload n, 2)) (hl : L[n]? = some (.val (.long v))) (k : WP X Z rc rs Q pc' L (.long v :: S) os ce sl) (hp : pc + 2 = pc' := by rfl) : WP X Z rc rs Q pc L S os ce sl := by
  obtain ⟨p, l', e, R', s, m, args, below, meth, c⟩ := X
  obtain ⟨h1, h2, hx, hZ, hby, hml, hown, hnm, hret, hlk⟩ := K
  have h2' : R' = R := h2
  subst h2'
  subst hp
  intro T locs hT0 hH hF
  have hT : Stand p l' e R' s m args below meth c T locs ce sl := hT0
  obtain ⟨s2, o, st, r⟩ := k T locs hT hH hF
  exact ⟨s2, o, XS.lload (Stand.here hT) hx rfl (hb hby hd) (by simpa using hl) st, r⟩
theorem W.lloadN {n : Fin 4} {v : Int64} (K : Ctx X l Z R y code maxL ret) (pc' : Nat) (hd : decode code pc = .ok (.lload_n n, 1)) (i : Nat) (hi : n.val = i) (hl : L[i]? = some (.val (.long v))) (k : WP X Z rc rs Q pc' L (.long v :: S) os ce sl) (hp : pc + 1 = pc' := by rfl) : WP X Z rc rs Q pc L S os ce sl := by
  obtain ⟨p, l', e, R', s, m, args, below, meth, c⟩ := X
  obtain ⟨h1, h2, hx, hZ, hby, hml, hown, hnm, hret, hlk⟩ := K
  have h2' : R' = R := h2
  subst h2'
  subst hp
  intro T locs hT0 hH hF
  have hT : Stand p l' e R' s m args below meth c T locs ce sl := hT0
  obtain ⟨s2, o, st, r⟩ := k T locs hT hH hF
  exact ⟨s2, o, XS.lloadN (Stand.here hT) hx rfl (hb hby hd) (by rw [hi]; simpa using hl) st, r⟩
theorem W.aload {n : Nat} {v : Value} (K : Ctx X l Z R y code maxL ret) (pc' : Nat) (hd : decode code pc = .ok (.aload n, 2)) (hl : L[n]? = some (.val v)) (hv : v.isRef = true) (k : WP X Z rc rs Q pc' L (v :: S) os ce sl) (hp : pc + 2 = pc' := by rfl) : WP X Z rc rs Q pc L S os ce sl := by
  obtain ⟨p, l', e, R', s, m, args, below, meth, c⟩ := X
  obtain ⟨h1, h2, hx, hZ, hby, hml, hown, hnm, hret, hlk⟩ := K
  have h2' : R' = R := h2
  subst h2'
  subst hp
  intro T locs hT0 hH hF
  have hT : Stand p l' e R' s m args below meth c T locs ce sl := hT0
  obtain ⟨s2, o, st, r⟩ := k T locs hT hH hF
  exact ⟨s2, o, XS.aload (Stand.here hT) hx rfl (hb hby hd) (by simpa using hl) hv st, r⟩
theorem W.aloadN {n : Fin 4} {v : Value} (K : Ctx X l Z R y code maxL ret) (pc' : Nat) (hd : decode code pc = .ok (.aload_n n, 1)) (i : Nat) (hi : n.val = i) (hl : L[i]? = some (.val v)) (hv : v.isRef = true) (k : WP X Z rc rs Q pc' L (v :: S) os ce sl) (hp : pc + 1 = pc' := by rfl) : WP X Z rc rs Q pc L S os ce sl := by
  obtain ⟨p, l', e, R', s, m, args, below, meth, c⟩ := X
  obtain ⟨h1, h2, hx, hZ, hby, hml, hown, hnm, hret, hlk⟩ := K
  have h2' : R' = R := h2
  subst h2'
  subst hp
  intro T locs hT0 hH hF
  have hT : Stand p l' e R' s m args below meth c T locs ce sl := hT0
  obtain ⟨s2, o, st, r⟩ := k T locs hT hH hF
  exact ⟨s2, o, XS.aloadN (Stand.here hT) hx rfl (hb hby hd) (by rw [hi]; simpa using hl) hv st, r⟩
theorem setL0 {α : Type} {x z : α} {r : List α} : (z :: r).set 0 x = x :: r := rfl
theorem setLS {α : Type} {x z : α} {r r' : List α} {n : Nat} (h : r.set n x = r') : (z :: r).set (n + 1) x = z :: r' := by rw [List.set_cons_succ, h]
def okS : Slot → Bool
  | .unset => true
  | .val v => v.category == 1
  | .second => false
theorem okS_one {L : List Slot} {n : Nat} {v : Value} (ho : (L[n]?.map okS) = some true) (hv : v.category = 1) : storeLocals L.toArray n v = some (L.set n (.val v)).toArray := by
  cases hq : L[n]? with
  | none => simp [hq] at ho
  | some o =>
    rw [hq] at ho
    have h := XS.store1 (l := L.toArray) (i := n) (v := v) (o := o) (by simpa using hq) (by
      cases o with
      | unset => exact Or.inl rfl
      | second => simp [okS] at ho
      | val w => exact Or.inr ⟨w, rfl, by simpa [okS] using ho⟩) hv
    rw [h]; simp

theorem W.istore {n : Nat} {x : Int32} {L' : List Slot} (K : Ctx X l Z R y code maxL ret) (pc' : Nat) (hd : decode code pc = .ok (.istore n, 2)) (ho : (L[n]?.map okS) = some true) (hL : L.set n (.val (.int x)) = L') (k : WP X Z rc rs Q pc' L' S os ce sl) (hp : pc + 2 = pc' := by rfl) : WP X Z rc rs Q pc L (.int x :: S) os ce sl := by
  obtain ⟨p, l', e, R', s, m, args, below, meth, c⟩ := X
  obtain ⟨h1, h2, hx, hZ, hby, hml, hown, hnm, hret, hlk⟩ := K
  have h2' : R' = R := h2
  subst h2'
  subst hp
  intro T locs hT0 hH hF
  have hT : Stand p l' e R' s m args below meth c T locs ce sl := hT0
  obtain ⟨s2, o, st, r⟩ := k T locs hT hH hF
  exact ⟨s2, o, XS.istore (Stand.here hT) hx rfl (hb hby hd) rfl (okS_one ho rfl) (hL ▸ st), r⟩
theorem W.istoreN {n : Fin 4} {x : Int32} {L' : List Slot} (K : Ctx X l Z R y code maxL ret) (pc' : Nat) (hd : decode code pc = .ok (.istore_n n, 1)) (i : Nat) (hi : n.val = i) (ho : (L[i]?.map okS) = some true) (hL : L.set i (.val (.int x)) = L') (k : WP X Z rc rs Q pc' L' S os ce sl) (hp : pc + 1 = pc' := by rfl) : WP X Z rc rs Q pc L (.int x :: S) os ce sl := by
  obtain ⟨p, l', e, R', s, m, args, below, meth, c⟩ := X
  obtain ⟨h1, h2, hx, hZ, hby, hml, hown, hnm, hret, hlk⟩ := K
  have h2' : R' = R := h2
  subst h2'
  subst hp
  intro T locs hT0 hH hF
  have hT : Stand p l' e R' s m args below meth c T locs ce sl := hT0
  obtain ⟨s2, o, st, r⟩ := k T locs hT hH hF
  exact ⟨s2, o, XS.istoreN (Stand.here hT) hx rfl (hb hby hd) rfl (by rw [hi]; exact okS_one ho rfl) (hL ▸ st), r⟩
theorem W.astore {n : Nat} {x : Value} {L' : List Slot} (K : Ctx X l Z R y code maxL ret) (pc' : Nat) (hd : decode code pc = .ok (.astore n, 2)) (hv : x.isRef = true) (ho : (L[n]?.map okS) = some true) (hL : L.set n (.val x) = L') (k : WP X Z rc rs Q pc' L' S os ce sl) (hp : pc + 2 = pc' := by rfl) : WP X Z rc rs Q pc L (x :: S) os ce sl := by
  obtain ⟨p, l', e, R', s, m, args, below, meth, c⟩ := X
  obtain ⟨h1, h2, hx, hZ, hby, hml, hown, hnm, hret, hlk⟩ := K
  have h2' : R' = R := h2
  subst h2'
  subst hp
  intro T locs hT0 hH hF
  have hT : Stand p l' e R' s m args below meth c T locs ce sl := hT0
  obtain ⟨s2, o, st, r⟩ := k T locs hT hH hF
  exact ⟨s2, o, XS.astore (Stand.here hT) hx rfl (hb hby hd) rfl hv (okS_one ho (XT.cat1 hv)) (hL ▸ st), r⟩
theorem W.astoreN {n : Fin 4} {x : Value} {L' : List Slot} (K : Ctx X l Z R y code maxL ret) (pc' : Nat) (hd : decode code pc = .ok (.astore_n n, 1)) (i : Nat) (hi : n.val = i) (hv : x.isRef = true) (ho : (L[i]?.map okS) = some true) (hL : L.set i (.val x) = L') (k : WP X Z rc rs Q pc' L' S os ce sl) (hp : pc + 1 = pc' := by rfl) : WP X Z rc rs Q pc L (x :: S) os ce sl := by
  obtain ⟨p, l', e, R', s, m, args, below, meth, c⟩ := X
  obtain ⟨h1, h2, hx, hZ, hby, hml, hown, hnm, hret, hlk⟩ := K
  have h2' : R' = R := h2
  subst h2'
  subst hp
  intro T locs hT0 hH hF
  have hT : Stand p l' e R' s m args below meth c T locs ce sl := hT0
  obtain ⟨s2, o, st, r⟩ := k T locs hT hH hF
  exact ⟨s2, o, XS.astoreN (Stand.here hT) hx rfl (hb hby hd) rfl hv (by rw [hi]; exact okS_one ho (XT.cat1 hv)) (hL ▸ st), r⟩
theorem W.lstore {n : Nat} {x : Int64} {L1 L' : List Slot} (K : Ctx X l Z R y code maxL ret) (pc' : Nat) (hd : decode code pc = .ok (.lstore n, 2)) (hL1 : L.set n (.val (.long x)) = L1) (hL2 : L1.set (n + 1) .second = L') (k : WP X Z rc rs Q pc' L' S os ce sl) (ho : storeLocals L.toArray n (.long x) = some L'.toArray := by rfl) (hp : pc + 2 = pc' := by rfl) : WP X Z rc rs Q pc L (.long x :: S) os ce sl := by
  obtain ⟨p, l', e, R', s, m, args, below, meth, c⟩ := X
  obtain ⟨h1, h2, hx, hZ, hby, hml, hown, hnm, hret, hlk⟩ := K
  have h2' : R' = R := h2
  subst h2'
  subst hp
  intro T locs hT0 hH hF
  have hT : Stand p l' e R' s m args below meth c T locs ce sl := hT0
  obtain ⟨s2, o, st, r⟩ := k T locs hT hH hF
  exact ⟨s2, o, XS.lstore (Stand.here hT) hx rfl (hb hby hd) rfl ho st, r⟩
theorem W.lstoreN {n : Fin 4} {x : Int64} {L1 L' : List Slot} (K : Ctx X l Z R y code maxL ret) (pc' : Nat) (hd : decode code pc = .ok (.lstore_n n, 1)) (i : Nat) (hi : n.val = i) (hL1 : L.set i (.val (.long x)) = L1) (hL2 : L1.set (i + 1) .second = L') (k : WP X Z rc rs Q pc' L' S os ce sl) (ho : storeLocals L.toArray i (.long x) = some L'.toArray := by rfl) (hp : pc + 1 = pc' := by rfl) : WP X Z rc rs Q pc L (.long x :: S) os ce sl := by
  obtain ⟨p, l', e, R', s, m, args, below, meth, c⟩ := X
  obtain ⟨h1, h2, hx, hZ, hby, hml, hown, hnm, hret, hlk⟩ := K
  have h2' : R' = R := h2
  subst h2'
  subst hp
  intro T locs hT0 hH hF
  have hT : Stand p l' e R' s m args below meth c T locs ce sl := hT0
  obtain ⟨s2, o, st, r⟩ := k T locs hT hH hF
  exact ⟨s2, o, XS.lstoreN (Stand.here hT) hx rfl (hb hby hd) rfl (by rw [hi]; exact ho) st, r⟩
theorem W.iinc {n : Nat} {i : Int} {x : Int32} {L' : List Slot} (K : Ctx X l Z R y code maxL ret) (pc' : Nat) (hd : decode code pc = .ok (.iinc n i, 3)) (v : Int32) (hv : Int32.ofInt i = v) (hl : L[n]? = some (.val (.int x))) (hL : L.set n (.val (.int (x + v))) = L') (k : WP X Z rc rs Q pc' L' S os ce sl) (hp : pc + 3 = pc' := by rfl) : WP X Z rc rs Q pc L S os ce sl := by
  obtain ⟨p, l', e, R', s, m, args, below, meth, c⟩ := X
  obtain ⟨h1, h2, hx, hZ, hby, hml, hown, hnm, hret, hlk⟩ := K
  have h2' : R' = R := h2
  subst h2'
  subst hp
  intro T locs hT0 hH hF
  have hT : Stand p l' e R' s m args below meth c T locs ce sl := hT0
  obtain ⟨s2, o, st, r⟩ := k T locs hT hH hF
  exact ⟨s2, o, XS.iinc (Stand.here hT) hx rfl (hb hby hd) (by simpa using hl) (okS_one (by rw [hl]; rfl) rfl) (by subst hv; exact hL ▸ st), r⟩
theorem W.goto {o : Int} (K : Ctx X l Z R y code maxL ret) (pc' : Nat) (hd : decode code pc = .ok (.goto o, 3)) (k : WP X Z rc rs Q pc' L S os ce sl) (hp : (pc : Int) + o = (pc' : Int) := by decide) : WP X Z rc rs Q pc L S os ce sl := by
  obtain ⟨p, l', e, R', s, m, args, below, meth, c⟩ := X
  obtain ⟨h1, h2, hx, hZ, hby, hml, hown, hnm, hret, hlk⟩ := K
  have h2' : R' = R := h2
  subst h2'
  intro T locs hT0 hH hF
  have hT : Stand p l' e R' s m args below meth c T locs ce sl := hT0
  obtain ⟨s2, o', st, r⟩ := k T locs hT hH hF
  exact ⟨s2, o', XS.goto (Stand.here hT) hx rfl (pc0 := pc) rfl (hb hby hd) (by rw [hp]; exact Int.natCast_nonneg _) (by rw [hp]; rfl) st, r⟩
theorem W.icmp {cd : ClassFile.Cond} {o : Int} {x z : Int32} {F : Prop} (ht : F → if_icmp.holds cd x z = true) (hf : ¬ F → if_icmp.holds cd x z = false) (K : Ctx X l Z R y code maxL ret) (pt pf : Nat) (hd : decode code pc = .ok (.if_icmp cd o, 3)) (kt : F → WP X Z rc rs Q pt L S os ce sl) (kf : ¬ F → WP X Z rc rs Q pf L S os ce sl)
    (hp : (pc : Int) + o = (pt : Int)) (hq : pc + 3 = pf) : WP X Z rc rs Q pc L (.int z :: .int x :: S) os ce sl := by
  obtain ⟨p, l', e, R', s, m, args, below, meth, c⟩ := X
  obtain ⟨h1, h2, hx, hZ, hby, hml, hown, hnm, hret, hlk⟩ := K
  have h2' : R' = R := h2
  subst h2'
  subst hq
  intro T locs hT0 hH hF
  have hT : Stand p l' e R' s m args below meth c T locs ce sl := hT0
  by_cases h : F
  · obtain ⟨s2, o', st, r⟩ := kt h T locs hT hH hF
    exact ⟨s2, o', XS.icmpYes (Stand.here hT) hx rfl (pc0 := pc) rfl (hb hby hd) rfl (ht h) (by rw [hp]; exact Int.natCast_nonneg _) (by rw [hp]; rfl) st, r⟩
  · obtain ⟨s2, o', st, r⟩ := kf h T locs hT hH hF
    exact ⟨s2, o', XS.icmpNo (Stand.here hT) hx rfl (hb hby hd) rfl (hf h) st, r⟩
theorem W.ifc {cd : ClassFile.Cond} {o : Int} {x : Int32} {F : Prop} (ht : F → ifCond.holds cd x = true) (hf : ¬ F → ifCond.holds cd x = false) (K : Ctx X l Z R y code maxL ret) (pt pf : Nat) (hd : decode code pc = .ok (.ifCond cd o, 3)) (kt : F → WP X Z rc rs Q pt L S os ce sl) (kf : ¬ F → WP X Z rc rs Q pf L S os ce sl)
    (hp : (pc : Int) + o = (pt : Int)) (hq : pc + 3 = pf) : WP X Z rc rs Q pc L (.int x :: S) os ce sl := by
  obtain ⟨p, l', e, R', s, m, args, below, meth, c⟩ := X
  obtain ⟨h1, h2, hx, hZ, hby, hml, hown, hnm, hret, hlk⟩ := K
  have h2' : R' = R := h2
  subst h2'
  subst hq
  intro T locs hT0 hH hF
  have hT : Stand p l' e R' s m args below meth c T locs ce sl := hT0
  by_cases h : F
  · obtain ⟨s2, o', st, r⟩ := kt h T locs hT hH hF
    exact ⟨s2, o', XS.ifYes (Stand.here hT) hx rfl (pc0 := pc) rfl (hb hby hd) rfl (ht h) (by rw [hp]; exact Int.natCast_nonneg _) (by rw [hp]; rfl) st, r⟩
  · obtain ⟨s2, o', st, r⟩ := kf h T locs hT hH hF
    exact ⟨s2, o', XS.ifNo (Stand.here hT) hx rfl (hb hby hd) rfl (hf h) st, r⟩
theorem W.lcmpc {cd : ClassFile.Cond} {o : Int} {x z : Int64} {F : Prop} (ht : F → ifCond.holds cd (lcmpW x z) = true) (hf : ¬ F → ifCond.holds cd (lcmpW x z) = false) (K : Ctx X l Z R y code maxL ret) (pc1 pt pf : Nat) (hd0 : decode code pc = .ok (.lcmp, 1)) (hd : decode code pc1 = .ok (.ifCond cd o, 3)) (kt : F → WP X Z rc rs Q pt L S os ce sl) (kf : ¬ F → WP X Z rc rs Q pf L S os ce sl)
    (h1' : pc + 1 = pc1) (hp : (pc1 : Int) + o = (pt : Int)) (hq : pc1 + 3 = pf) : WP X Z rc rs Q pc L (.long z :: .long x :: S) os ce sl := by
  have k1 : WP X Z rc rs Q pc1 L (.int (lcmpW x z) :: S) os ce sl := W.ifc ht hf K pt pf hd kt kf hp hq
  obtain ⟨p, l', e, R', s, m, args, below, meth, c⟩ := X
  obtain ⟨h1, h2, hx, hZ, hby, hml, hown, hnm, hret, hlk⟩ := K
  have h2' : R' = R := h2
  subst h2'
  subst h1'
  intro T locs hT0 hH hF
  have hT : Stand p l' e R' s m args below meth c T locs ce sl := hT0
  obtain ⟨s2, o', st, r⟩ := k1 T locs hT hH hF
  exact ⟨s2, o', XS.lcmp (Stand.here hT) hx rfl (hb hby hd0) rfl st, r⟩
theorem W.icmp_eq {o : Int} {x z : Int32} (K : Ctx X l Z R y code maxL ret) (pt pf : Nat) (hd : decode code pc = .ok (.if_icmp .eq o, 3)) (kt : x = z → WP X Z rc rs Q pt L S os ce sl) (kf : ¬ (x = z) → WP X Z rc rs Q pf L S os ce sl) (hp : (pc : Int) + o = (pt : Int) := by decide) (hq : pc + 3 = pf := by rfl) : WP X Z rc rs Q pc L (.int z :: .int x :: S) os ce sl :=
  W.icmp (F := x = z) (fun h => XT.ii_eq_t h) (fun h => XT.ii_eq_f h) K pt pf hd kt (fun h => kf h) hp hq
theorem W.if_eq {o : Int} {x : Int32} (K : Ctx X l Z R y code maxL ret) (pt pf : Nat) (hd : decode code pc = .ok (.ifCond .eq o, 3)) (kt : x = 0 → WP X Z rc rs Q pt L S os ce sl) (kf : ¬ (x = 0) → WP X Z rc rs Q pf L S os ce sl) (hp : (pc : Int) + o = (pt : Int) := by decide) (hq : pc + 3 = pf := by rfl) : WP X Z rc rs Q pc L (.int x :: S) os ce sl :=
  W.ifc (F := x = 0) (fun h => XT.i0_eq_t h) (fun h => XT.i0_eq_f h) K pt pf hd kt (fun h => kf h) hp hq
theorem W.lcmp_eq {o : Int} {x z : Int64} (K : Ctx X l Z R y code maxL ret) (pc1 pt pf : Nat) (hd0 : decode code pc = .ok (.lcmp, 1)) (hd : decode code pc1 = .ok (.ifCond .eq o, 3)) (kt : x = z → WP X Z rc rs Q pt L S os ce sl) (kf : ¬ (x = z) → WP X Z rc rs Q pf L S os ce sl) (h1' : pc + 1 = pc1 := by rfl) (hp : (pc1 : Int) + o = (pt : Int) := by decide) (hq : pc1 + 3 = pf := by rfl) : WP X Z rc rs Q pc L (.long z :: .long x :: S) os ce sl :=
  W.lcmpc (F := x = z) (fun h => XT.ll_eq_t h) (fun h => XT.ll_eq_f h) K pc1 pt pf hd0 hd kt (fun h => kf h) h1' hp hq
theorem W.icmp_ne {o : Int} {x z : Int32} (K : Ctx X l Z R y code maxL ret) (pt pf : Nat) (hd : decode code pc = .ok (.if_icmp .ne o, 3)) (kt : ¬ (x = z) → WP X Z rc rs Q pt L S os ce sl) (kf : x = z → WP X Z rc rs Q pf L S os ce sl) (hp : (pc : Int) + o = (pt : Int) := by decide) (hq : pc + 3 = pf := by rfl) : WP X Z rc rs Q pc L (.int z :: .int x :: S) os ce sl :=
  W.icmp (F := ¬ (x = z)) (fun h => XT.ii_ne_t h) (fun h => XT.ii_ne_f (Classical.not_not.mp h)) K pt pf hd kt (fun h => kf (Classical.not_not.mp h)) hp hq
theorem W.if_ne {o : Int} {x : Int32} (K : Ctx X l Z R y code maxL ret) (pt pf : Nat) (hd : decode code pc = .ok (.ifCond .ne o, 3)) (kt : ¬ (x = 0) → WP X Z rc rs Q pt L S os ce sl) (kf : x = 0 → WP X Z rc rs Q pf L S os ce sl) (hp : (pc : Int) + o = (pt : Int) := by decide) (hq : pc + 3 = pf := by rfl) : WP X Z rc rs Q pc L (.int x :: S) os ce sl :=
  W.ifc (F := ¬ (x = 0)) (fun h => XT.i0_ne_t h) (fun h => XT.i0_ne_f (Classical.not_not.mp h)) K pt pf hd kt (fun h => kf (Classical.not_not.mp h)) hp hq
theorem W.lcmp_ne {o : Int} {x z : Int64} (K : Ctx X l Z R y code maxL ret) (pc1 pt pf : Nat) (hd0 : decode code pc = .ok (.lcmp, 1)) (hd : decode code pc1 = .ok (.ifCond .ne o, 3)) (kt : ¬ (x = z) → WP X Z rc rs Q pt L S os ce sl) (kf : x = z → WP X Z rc rs Q pf L S os ce sl) (h1' : pc + 1 = pc1 := by rfl) (hp : (pc1 : Int) + o = (pt : Int) := by decide) (hq : pc1 + 3 = pf := by rfl) : WP X Z rc rs Q pc L (.long z :: .long x :: S) os ce sl :=
  W.lcmpc (F := ¬ (x = z)) (fun h => XT.ll_ne_t h) (fun h => XT.ll_ne_f (Classical.not_not.mp h)) K pc1 pt pf hd0 hd kt (fun h => kf (Classical.not_not.mp h)) h1' hp hq
theorem W.icmp_lt {o : Int} {x z : Int32} (K : Ctx X l Z R y code maxL ret) (pt pf : Nat) (hd : decode code pc = .ok (.if_icmp .lt o, 3)) (kt : x.toInt < z.toInt → WP X Z rc rs Q pt L S os ce sl) (kf : ¬ (x.toInt < z.toInt) → WP X Z rc rs Q pf L S os ce sl) (hp : (pc : Int) + o = (pt : Int) := by decide) (hq : pc + 3 = pf := by rfl) : WP X Z rc rs Q pc L (.int z :: .int x :: S) os ce sl :=
  W.icmp (F := x.toInt < z.toInt) (fun h => XT.ii_lt_t (Int32.lt_iff_toInt_lt.mpr h)) (fun h => XT.ii_lt_f (fun q => h (Int32.lt_iff_toInt_lt.mp q))) K pt pf hd kt (fun h => kf h) hp hq
theorem W.if_lt {o : Int} {x : Int32} (K : Ctx X l Z R y code maxL ret) (pt pf : Nat) (hd : decode code pc = .ok (.ifCond .lt o, 3)) (kt : x.toInt < 0 → WP X Z rc rs Q pt L S os ce sl) (kf : ¬ (x.toInt < 0) → WP X Z rc rs Q pf L S os ce sl) (hp : (pc : Int) + o = (pt : Int) := by decide) (hq : pc + 3 = pf := by rfl) : WP X Z rc rs Q pc L (.int x :: S) os ce sl :=
  W.ifc (F := x.toInt < 0) (fun h => XT.i0_lt_t (Int32.lt_iff_toInt_lt.mpr (by simpa using h))) (fun h => XT.i0_lt_f (fun q => h (by have q2 := Int32.lt_iff_toInt_lt.mp q; simpa using q2))) K pt pf hd kt (fun h => kf h) hp hq
theorem W.lcmp_lt {o : Int} {x z : Int64} (K : Ctx X l Z R y code maxL ret) (pc1 pt pf : Nat) (hd0 : decode code pc = .ok (.lcmp, 1)) (hd : decode code pc1 = .ok (.ifCond .lt o, 3)) (kt : x.toInt < z.toInt → WP X Z rc rs Q pt L S os ce sl) (kf : ¬ (x.toInt < z.toInt) → WP X Z rc rs Q pf L S os ce sl) (h1' : pc + 1 = pc1 := by rfl) (hp : (pc1 : Int) + o = (pt : Int) := by decide) (hq : pc1 + 3 = pf := by rfl) : WP X Z rc rs Q pc L (.long z :: .long x :: S) os ce sl :=
  W.lcmpc (F := x.toInt < z.toInt) (fun h => XT.ll_lt_t (Int64.lt_iff_toInt_lt.mpr h)) (fun h => XT.ll_lt_f (fun q => h (Int64.lt_iff_toInt_lt.mp q))) K pc1 pt pf hd0 hd kt (fun h => kf h) h1' hp hq
theorem W.icmp_ge {o : Int} {x z : Int32} (K : Ctx X l Z R y code maxL ret) (pt pf : Nat) (hd : decode code pc = .ok (.if_icmp .ge o, 3)) (kt : ¬ (x.toInt < z.toInt) → WP X Z rc rs Q pt L S os ce sl) (kf : x.toInt < z.toInt → WP X Z rc rs Q pf L S os ce sl) (hp : (pc : Int) + o = (pt : Int) := by decide) (hq : pc + 3 = pf := by rfl) : WP X Z rc rs Q pc L (.int z :: .int x :: S) os ce sl :=
  W.icmp (F := ¬ (x.toInt < z.toInt)) (fun h => XT.ii_ge_t (fun q => h (Int32.lt_iff_toInt_lt.mp q))) (fun h => XT.ii_ge_f (Int32.lt_iff_toInt_lt.mpr (Classical.not_not.mp h))) K pt pf hd kt (fun h => kf (Classical.not_not.mp h)) hp hq
theorem W.if_ge {o : Int} {x : Int32} (K : Ctx X l Z R y code maxL ret) (pt pf : Nat) (hd : decode code pc = .ok (.ifCond .ge o, 3)) (kt : ¬ (x.toInt < 0) → WP X Z rc rs Q pt L S os ce sl) (kf : x.toInt < 0 → WP X Z rc rs Q pf L S os ce sl) (hp : (pc : Int) + o = (pt : Int) := by decide) (hq : pc + 3 = pf := by rfl) : WP X Z rc rs Q pc L (.int x :: S) os ce sl :=
  W.ifc (F := ¬ (x.toInt < 0)) (fun h => XT.i0_ge_t (fun q => h (by have q2 := Int32.lt_iff_toInt_lt.mp q; simpa using q2))) (fun h => XT.i0_ge_f (Int32.lt_iff_toInt_lt.mpr (by simpa using (Classical.not_not.mp h)))) K pt pf hd kt (fun h => kf (Classical.not_not.mp h)) hp hq
theorem W.lcmp_ge {o : Int} {x z : Int64} (K : Ctx X l Z R y code maxL ret) (pc1 pt pf : Nat) (hd0 : decode code pc = .ok (.lcmp, 1)) (hd : decode code pc1 = .ok (.ifCond .ge o, 3)) (kt : ¬ (x.toInt < z.toInt) → WP X Z rc rs Q pt L S os ce sl) (kf : x.toInt < z.toInt → WP X Z rc rs Q pf L S os ce sl) (h1' : pc + 1 = pc1 := by rfl) (hp : (pc1 : Int) + o = (pt : Int) := by decide) (hq : pc1 + 3 = pf := by rfl) : WP X Z rc rs Q pc L (.long z :: .long x :: S) os ce sl :=
  W.lcmpc (F := ¬ (x.toInt < z.toInt)) (fun h => XT.ll_ge_t (fun q => h (Int64.lt_iff_toInt_lt.mp q))) (fun h => XT.ll_ge_f (Int64.lt_iff_toInt_lt.mpr (Classical.not_not.mp h))) K pc1 pt pf hd0 hd kt (fun h => kf (Classical.not_not.mp h)) h1' hp hq
theorem W.icmp_gt {o : Int} {x z : Int32} (K : Ctx X l Z R y code maxL ret) (pt pf : Nat) (hd : decode code pc = .ok (.if_icmp .gt o, 3)) (kt : z.toInt < x.toInt → WP X Z rc rs Q pt L S os ce sl) (kf : ¬ (z.toInt < x.toInt) → WP X Z rc rs Q pf L S os ce sl) (hp : (pc : Int) + o = (pt : Int) := by decide) (hq : pc + 3 = pf := by rfl) : WP X Z rc rs Q pc L (.int z :: .int x :: S) os ce sl :=
  W.icmp (F := z.toInt < x.toInt) (fun h => XT.ii_gt_t (Int32.lt_iff_toInt_lt.mpr h)) (fun h => XT.ii_gt_f (fun q => h (Int32.lt_iff_toInt_lt.mp q))) K pt pf hd kt (fun h => kf h) hp hq
theorem W.if_gt {o : Int} {x : Int32} (K : Ctx X l Z R y code maxL ret) (pt pf : Nat) (hd : decode code pc = .ok (.ifCond .gt o, 3)) (kt : 0 < x.toInt → WP X Z rc rs Q pt L S os ce sl) (kf : ¬ (0 < x.toInt) → WP X Z rc rs Q pf L S os ce sl) (hp : (pc : Int) + o = (pt : Int) := by decide) (hq : pc + 3 = pf := by rfl) : WP X Z rc rs Q pc L (.int x :: S) os ce sl :=
  W.ifc (F := 0 < x.toInt) (fun h => XT.i0_gt_t (Int32.lt_iff_toInt_lt.mpr (by simpa using h))) (fun h => XT.i0_gt_f (fun q => h (by have q2 := Int32.lt_iff_toInt_lt.mp q; simpa using q2))) K pt pf hd kt (fun h => kf h) hp hq
theorem W.lcmp_gt {o : Int} {x z : Int64} (K : Ctx X l Z R y code maxL ret) (pc1 pt pf : Nat) (hd0 : decode code pc = .ok (.lcmp, 1)) (hd : decode code pc1 = .ok (.ifCond .gt o, 3)) (kt : z.toInt < x.toInt → WP X Z rc rs Q pt L S os ce sl) (kf : ¬ (z.toInt < x.toInt) → WP X Z rc rs Q pf L S os ce sl) (h1' : pc + 1 = pc1 := by rfl) (hp : (pc1 : Int) + o = (pt : Int) := by decide) (hq : pc1 + 3 = pf := by rfl) : WP X Z rc rs Q pc L (.long z :: .long x :: S) os ce sl :=
  W.lcmpc (F := z.toInt < x.toInt) (fun h => XT.ll_gt_t (Int64.lt_iff_toInt_lt.mpr h)) (fun h => XT.ll_gt_f (fun q => h (Int64.lt_iff_toInt_lt.mp q))) K pc1 pt pf hd0 hd kt (fun h => kf h) h1' hp hq
theorem W.icmp_le {o : Int} {x z : Int32} (K : Ctx X l Z R y code maxL ret) (pt pf : Nat) (hd : decode code pc = .ok (.if_icmp .le o, 3)) (kt : ¬ (z.toInt < x.toInt) → WP X Z rc rs Q pt L S os ce sl) (kf : z.toInt < x.toInt → WP X Z rc rs Q pf L S os ce sl) (hp : (pc : Int) + o = (pt : Int) := by decide) (hq : pc + 3 = pf := by rfl) : WP X Z rc rs Q pc L (.int z :: .int x :: S) os ce sl :=
  W.icmp (F := ¬ (z.toInt < x.toInt)) (fun h => XT.ii_le_t (fun q => h (Int32.lt_iff_toInt_lt.mp q))) (fun h => XT.ii_le_f (Int32.lt_iff_toInt_lt.mpr (Classical.not_not.mp h))) K pt pf hd kt (fun h => kf (Classical.not_not.mp h)) hp hq
theorem W.if_le {o : Int} {x : Int32} (K : Ctx X l Z R y code maxL ret) (pt pf : Nat) (hd : decode code pc = .ok (.ifCond .le o, 3)) (kt : ¬ (0 < x.toInt) → WP X Z rc rs Q pt L S os ce sl) (kf : 0 < x.toInt → WP X Z rc rs Q pf L S os ce sl) (hp : (pc : Int) + o = (pt : Int) := by decide) (hq : pc + 3 = pf := by rfl) : WP X Z rc rs Q pc L (.int x :: S) os ce sl :=
  W.ifc (F := ¬ (0 < x.toInt)) (fun h => XT.i0_le_t (fun q => h (by have q2 := Int32.lt_iff_toInt_lt.mp q; simpa using q2))) (fun h => XT.i0_le_f (Int32.lt_iff_toInt_lt.mpr (by simpa using (Classical.not_not.mp h)))) K pt pf hd kt (fun h => kf (Classical.not_not.mp h)) hp hq
theorem W.lcmp_le {o : Int} {x z : Int64} (K : Ctx X l Z R y code maxL ret) (pc1 pt pf : Nat) (hd0 : decode code pc = .ok (.lcmp, 1)) (hd : decode code pc1 = .ok (.ifCond .le o, 3)) (kt : ¬ (z.toInt < x.toInt) → WP X Z rc rs Q pt L S os ce sl) (kf : z.toInt < x.toInt → WP X Z rc rs Q pf L S os ce sl) (h1' : pc + 1 = pc1 := by rfl) (hp : (pc1 : Int) + o = (pt : Int) := by decide) (hq : pc1 + 3 = pf := by rfl) : WP X Z rc rs Q pc L (.long z :: .long x :: S) os ce sl :=
  W.lcmpc (F := ¬ (z.toInt < x.toInt)) (fun h => XT.ll_le_t (fun q => h (Int64.lt_iff_toInt_lt.mp q))) (fun h => XT.ll_le_f (Int64.lt_iff_toInt_lt.mpr (Classical.not_not.mp h))) K pc1 pt pf hd0 hd kt (fun h => kf (Classical.not_not.mp h)) h1' hp hq
theorem W.ifnullY {o : Int} (K : Ctx X l Z R y code maxL ret) (pt : Nat) (hd : decode code pc = .ok (.ifnull o, 3)) (k : WP X Z rc rs Q pt L S os ce sl) (hp : (pc : Int) + o = (pt : Int) := by decide) : WP X Z rc rs Q pc L (.null :: S) os ce sl := by
  obtain ⟨p, l', e, R', s, m, args, below, meth, c⟩ := X
  obtain ⟨h1, h2, hx, hZ, hby, hml, hown, hnm, hret, hlk⟩ := K
  have h2' : R' = R := h2
  subst h2'
  intro T locs hT0 hH hF
  have hT : Stand p l' e R' s m args below meth c T locs ce sl := hT0
  obtain ⟨s2, o', st, r⟩ := k T locs hT hH hF
  exact ⟨s2, o', XS.ifnullYes (Stand.here hT) hx rfl (pc0 := pc) rfl (hb hby hd) rfl (by rw [hp]; exact Int.natCast_nonneg _) (by rw [hp]; rfl) st, r⟩
theorem W.ifnonnullY {o : Int} {a : Addr} (K : Ctx X l Z R y code maxL ret) (pt : Nat) (hd : decode code pc = .ok (.ifnonnull o, 3)) (k : WP X Z rc rs Q pt L S os ce sl) (hp : (pc : Int) + o = (pt : Int) := by decide) : WP X Z rc rs Q pc L (.ref a :: S) os ce sl := by
  obtain ⟨p, l', e, R', s, m, args, below, meth, c⟩ := X
  obtain ⟨h1, h2, hx, hZ, hby, hml, hown, hnm, hret, hlk⟩ := K
  have h2' : R' = R := h2
  subst h2'
  intro T locs hT0 hH hF
  have hT : Stand p l' e R' s m args below meth c T locs ce sl := hT0
  obtain ⟨s2, o', st, r⟩ := k T locs hT hH hF
  exact ⟨s2, o', XT.nonnullYes (Stand.here hT) hx rfl (pc0 := pc) rfl (hb hby hd) rfl rfl (by simp) (by rw [hp]; exact Int.natCast_nonneg _) (by rw [hp]; rfl) st, r⟩
theorem W.ifnullN {o : Int} {a : Addr} (K : Ctx X l Z R y code maxL ret) (pc' : Nat) (hd : decode code pc = .ok (.ifnull o, 3)) (k : WP X Z rc rs Q pc' L S os ce sl) (hp : pc + 3 = pc' := by rfl) : WP X Z rc rs Q pc L (.ref a :: S) os ce sl := by
  obtain ⟨p, l', e, R', s, m, args, below, meth, c⟩ := X
  obtain ⟨h1, h2, hx, hZ, hby, hml, hown, hnm, hret, hlk⟩ := K
  have h2' : R' = R := h2
  subst h2'
  subst hp
  intro T locs hT0 hH hF
  have hT : Stand p l' e R' s m args below meth c T locs ce sl := hT0
  obtain ⟨s2, o, st, r⟩ := k T locs hT hH hF
  exact ⟨s2, o, XS.ifnullNo (Stand.here hT) hx rfl (hb hby hd) rfl st, r⟩
theorem W.ifnonnullN {o : Int} (K : Ctx X l Z R y code maxL ret) (pc' : Nat) (hd : decode code pc = .ok (.ifnonnull o, 3)) (k : WP X Z rc rs Q pc' L S os ce sl) (hp : pc + 3 = pc' := by rfl) : WP X Z rc rs Q pc L (.null :: S) os ce sl := by
  obtain ⟨p, l', e, R', s, m, args, below, meth, c⟩ := X
  obtain ⟨h1, h2, hx, hZ, hby, hml, hown, hnm, hret, hlk⟩ := K
  have h2' : R' = R := h2
  subst h2'
  subst hp
  intro T locs hT0 hH hF
  have hT : Stand p l' e R' s m args below meth c T locs ce sl := hT0
  obtain ⟨s2, o, st, r⟩ := k T locs hT hH hF
  exact ⟨s2, o, XT.nonnullNo (Stand.here hT) hx rfl (hb hby hd) rfl rfl st, r⟩
theorem W.acmp_eq {o : Int} {x z : Value} (K : Ctx X l Z R y code maxL ret) (pt pf : Nat) (hd : decode code pc = .ok (.if_acmp .eq o, 3)) (kt : x = z → WP X Z rc rs Q pt L S os ce sl) (kf : ¬ x = z → WP X Z rc rs Q pf L S os ce sl) (hr1 : x.isRef = true := by rfl) (hr2 : z.isRef = true := by rfl) (hp : (pc : Int) + o = (pt : Int) := by decide) (hq : pc + 3 = pf := by rfl) : WP X Z rc rs Q pc L (z :: x :: S) os ce sl := by
  obtain ⟨p, l', e, R', s, m, args, below, meth, c⟩ := X
  obtain ⟨h1, h2, hx, hZ, hby, hml, hown, hnm, hret, hlk⟩ := K
  have h2' : R' = R := h2
  subst h2'
  subst hq
  intro T locs hT0 hH hF
  have hT : Stand p l' e R' s m args below meth c T locs ce sl := hT0
  by_cases h : x = z
  · obtain ⟨s2, o', st, r⟩ := kt h T locs hT hH hF
    exact ⟨s2, o', XT.acmpYes (Stand.here hT) hx rfl (pc0 := pc) rfl (hb hby hd) rfl hr1 hr2 (XT.aa_eq_t h) (by rw [hp]; exact Int.natCast_nonneg _) (by rw [hp]; rfl) st, r⟩
  · obtain ⟨s2, o', st, r⟩ := kf h T locs hT hH hF
    exact ⟨s2, o', XT.acmpNo (Stand.here hT) hx rfl (hb hby hd) rfl hr1 hr2 (XT.aa_eq_f h) st, r⟩
theorem W.acmp_ne {o : Int} {x z : Value} (K : Ctx X l Z R y code maxL ret) (pt pf : Nat) (hd : decode code pc = .ok (.if_acmp .ne o, 3)) (kt : ¬ x = z → WP X Z rc rs Q pt L S os ce sl) (kf : x = z → WP X Z rc rs Q pf L S os ce sl) (hr1 : x.isRef = true := by rfl) (hr2 : z.isRef = true := by rfl) (hp : (pc : Int) + o = (pt : Int) := by decide) (hq : pc + 3 = pf := by rfl) : WP X Z rc rs Q pc L (z :: x :: S) os ce sl := by
  obtain ⟨p, l', e, R', s, m, args, below, meth, c⟩ := X
  obtain ⟨h1, h2, hx, hZ, hby, hml, hown, hnm, hret, hlk⟩ := K
  have h2' : R' = R := h2
  subst h2'
  subst hq
  intro T locs hT0 hH hF
  have hT : Stand p l' e R' s m args below meth c T locs ce sl := hT0
  by_cases h : x = z
  · obtain ⟨s2, o', st, r⟩ := kf h T locs hT hH hF
    exact ⟨s2, o', XT.acmpNo (Stand.here hT) hx rfl (hb hby hd) rfl hr1 hr2 (XT.aa_ne_f h) st, r⟩
  · obtain ⟨s2, o', st, r⟩ := kt h T locs hT hH hF
    exact ⟨s2, o', XT.acmpYes (Stand.here hT) hx rfl (pc0 := pc) rfl (hb hby hd) rfl hr1 hr2 (XT.aa_ne_t h) (by rw [hp]; exact Int.natCast_nonneg _) (by rw [hp]; rfl) st, r⟩
theorem W.bool {A B : Prop} [Decidable A] {o : Int} {i1 i0 : Int} {pt pf pg : Nat} {S0 : List Value} (pj : Nat) (v1 v0 : Int32) (K : Ctx X l Z R y code maxL ret) (br : (A → WP X Z rc rs Q pt L S os ce sl) → (B → WP X Z rc rs Q pf L S os ce sl) → WP X Z rc rs Q pc L S0 os ce sl)
    (d1 : decode code pf = .ok (.iconst i1, 1)) (d2 : decode code pg = .ok (.goto o, 3)) (d3 : decode code pt = .ok (.iconst i0, 1)) (k : WP X Z rc rs Q pj L (.int (if A then v0 else v1) :: S) os ce sl)
    (hAB : B → ¬ A := by first | exact id | exact fun h h' => h' h) (e1 : Int32.ofInt i1 = v1 := by rfl) (e0 : Int32.ofInt i0 = v0 := by rfl) (q1 : pf + 1 = pg := by rfl) (q2 : (pg : Int) + o = (pj : Int) := by decide) (q3 : pt + 1 = pj := by rfl) : WP X Z rc rs Q pc L S0 os ce sl := by
  refine br (fun h => ?_) (fun h => ?_)
  · refine W.iconst K pj d3 v0 e0 ?_ q3
    rw [if_pos h] at k; exact k
  · refine W.iconst K pg d1 v1 e1 ?_ q1
    refine W.goto K pj d2 ?_ q2
    rw [if_neg (hAB h)] at k; exact k
theorem W.sel {A B : Prop} [Decidable A] {pt pf : Nat} {S0 : List Value} {vt vf : Value} (pj : Nat) (br : (A → WP X Z rc rs Q pt L S os ce sl) → (B → WP X Z rc rs Q pf L S os ce sl) → WP X Z rc rs Q pc L S0 os ce sl)
    (kt : WP X Z rc rs Q pj L (vt :: S) os ce sl → WP X Z rc rs Q pt L S os ce sl) (kf : WP X Z rc rs Q pj L (vf :: S) os ce sl → WP X Z rc rs Q pf L S os ce sl) (k : WP X Z rc rs Q pj L ((if A then vt else vf) :: S) os ce sl) (hAB : B → ¬ A := by first | exact id | exact fun h h' => h' h) : WP X Z rc rs Q pc L S0 os ce sl :=
  br (fun h => kt (by rw [if_pos h] at k; exact k)) (fun h => kf (by rw [if_neg (hAB h)] at k; exact k))
theorem W.selI {A B : Prop} [Decidable A] {pt pf : Nat} {S0 : List Value} {vt vf : Int32} (pj : Nat) (br : (A → WP X Z rc rs Q pt L S os ce sl) → (B → WP X Z rc rs Q pf L S os ce sl) → WP X Z rc rs Q pc L S0 os ce sl)
    (kt : WP X Z rc rs Q pj L (.int vt :: S) os ce sl → WP X Z rc rs Q pt L S os ce sl) (kf : WP X Z rc rs Q pj L (.int vf :: S) os ce sl → WP X Z rc rs Q pf L S os ce sl) (k : WP X Z rc rs Q pj L (.int (if A then vt else vf) :: S) os ce sl) (hAB : B → ¬ A := by first | exact id | exact fun h h' => h' h) : WP X Z rc rs Q pc L S0 os ce sl :=
  br (fun h => kt (by rw [if_pos h] at k; exact k)) (fun h => kf (by rw [if_neg (hAB h)] at k; exact k))
theorem W.selL {A B : Prop} [Decidable A] {pt pf : Nat} {S0 : List Value} {vt vf : Int64} (pj : Nat) (br : (A → WP X Z rc rs Q pt L S os ce sl) → (B → WP X Z rc rs Q pf L S os ce sl) → WP X Z rc rs Q pc L S0 os ce sl)
    (kt : WP X Z rc rs Q pj L (.long vt :: S) os ce sl → WP X Z rc rs Q pt L S os ce sl) (kf : WP X Z rc rs Q pj L (.long vf :: S) os ce sl → WP X Z rc rs Q pf L S os ce sl) (k : WP X Z rc rs Q pj L (.long (if A then vt else vf) :: S) os ce sl) (hAB : B → ¬ A := by first | exact id | exact fun h h' => h' h) : WP X Z rc rs Q pc L S0 os ce sl :=
  br (fun h => kt (by rw [if_pos h] at k; exact k)) (fun h => kf (by rw [if_neg (hAB h)] at k; exact k))
theorem W.joinI {F : Prop} [Decidable F] {S0 : List Value} (pj : Nat) (tree : (F → WP X Z rc rs Q pj L (.int 1 :: S) os ce sl) → (¬ F → WP X Z rc rs Q pj L (.int 0 :: S) os ce sl) → WP X Z rc rs Q pc L S0 os ce sl) (k : WP X Z rc rs Q pj L (.int (if F then 1 else 0) :: S) os ce sl) : WP X Z rc rs Q pc L S0 os ce sl :=
  tree (fun h => by rw [if_pos h] at k; exact k) (fun h => by rw [if_neg h] at k; exact k)
theorem W.cutI {G : Int32 → Prop} {S0 : List Value} (pj n : Nat) (tree : (∀ v, G v → WP X Z rc rs Q pj (L.set n (.val (.int v))) S os ce sl) → WP X Z rc rs Q pc L S0 os ce sl) (k : ∀ v, G v → WP X Z rc rs Q pj (L.set n (.val (.int v))) S os ce sl) : WP X Z rc rs Q pc L S0 os ce sl := tree k
theorem W.cutV {G : Value → Prop} {S0 : List Value} (pj n : Nat) (tree : (∀ v, G v → WP X Z rc rs Q pj (L.set n (.val v)) S os ce sl) → WP X Z rc rs Q pc L S0 os ce sl) (k : ∀ v, G v → WP X Z rc rs Q pj (L.set n (.val v)) S os ce sl) : WP X Z rc rs Q pc L S0 os ce sl := tree k
theorem W.cutO {G : OS → Prop} {S0 : List Value} (pj : Nat) (tree : (∀ os', G os' → WP X Z rc rs Q pj L S os' ce sl) → WP X Z rc rs Q pc L S0 os ce sl) (k : ∀ os', G os' → WP X Z rc rs Q pj L S os' ce sl) : WP X Z rc rs Q pc L S0 os ce sl := tree k
theorem W.cutIO {G : Int32 → OS → Prop} {S0 : List Value} (pj n : Nat) (tree : (∀ v os', G v os' → WP X Z rc rs Q pj (L.set n (.val (.int v))) S os' ce sl) → WP X Z rc rs Q pc L S0 os ce sl) (k : ∀ v os', G v os' → WP X Z rc rs Q pj (L.set n (.val (.int v))) S os' ce sl) : WP X Z rc rs Q pc L S0 os ce sl := tree k
theorem W.cutL {G : List Slot → Prop} {S0 : List Value} (pj : Nat) (tree : (∀ L', G L' → WP X Z rc rs Q pj L' S os ce sl) → WP X Z rc rs Q pc L S0 os ce sl) (k : ∀ L', G L' → WP X Z rc rs Q pj L' S os ce sl) : WP X Z rc rs Q pc L S0 os ce sl := tree k
theorem W.cutLO {G : List Slot → OS → Prop} {S0 : List Value} (pj : Nat) (tree : (∀ L' os', G L' os' → WP X Z rc rs Q pj L' S os' ce sl) → WP X Z rc rs Q pc L S0 os ce sl) (k : ∀ L' os', G L' os' → WP X Z rc rs Q pj L' S os' ce sl) : WP X Z rc rs Q pc L S0 os ce sl := tree k
theorem W.cut0 {S0 : List Value} (pj : Nat) (tree : WP X Z rc rs Q pj L S os ce sl → WP X Z rc rs Q pc L S0 os ce sl) (k : WP X Z rc rs Q pj L S os ce sl) : WP X Z rc rs Q pc L S0 os ce sl := tree k
theorem W.cutS {G : Value → Prop} {S0 : List Value} (pj : Nat) (tree : (∀ v, G v → WP X Z rc rs Q pj L (v :: S) os ce sl) → WP X Z rc rs Q pc L S0 os ce sl) (k : ∀ v, G v → WP X Z rc rs Q pj L (v :: S) os ce sl) : WP X Z rc rs Q pc L S0 os ce sl := tree k
theorem W.ldcI {idx : Nat} {v : Int32} (K : Ctx X l Z R y code maxL ret) (pc' : Nat) (hd : decode code pc = .ok (.ldc idx, 2)) (w : (Jvm.Cond.constant y.cls idx v).before a0 Z = true) (k : WP X Z rc rs Q pc' L (.int v :: S) os ce sl) (hp : pc + 2 = pc' := by rfl) : WP X Z rc rs Q pc L S os ce sl := by
  obtain ⟨p, l', e, R', s, m, args, below, meth, c⟩ := X
  obtain ⟨h1, h2, hx, hZ, hby, hml, hown, hnm, hret, hlk⟩ := K
  have h2' : R' = R := h2
  subst h2'
  subst hp
  intro T locs hT0 hH hF
  have hT : Stand p l' e R' s m args below meth c T locs ce sl := hT0
  obtain ⟨s2, o, st, r⟩ := k T locs hT hH hF
  exact ⟨s2, o, Stand.ldcInt hT hx hown (mvT hZ w) (g := mkF m pc L.toArray S) rfl (hb hby hd) _ st, r⟩
theorem W.ldc2 {idx : Nat} {v : Int64} (K : Ctx X l Z R y code maxL ret) (pc' : Nat) (hd : decode code pc = .ok (.ldc2_w idx, 3)) (w : (Jvm.Cond.constantLong y.cls idx v).before a0 Z = true) (k : WP X Z rc rs Q pc' L (.long v :: S) os ce sl) (hp : pc + 3 = pc' := by rfl) : WP X Z rc rs Q pc L S os ce sl := by
  obtain ⟨p, l', e, R', s, m, args, below, meth, c⟩ := X
  obtain ⟨h1, h2, hx, hZ, hby, hml, hown, hnm, hret, hlk⟩ := K
  have h2' : R' = R := h2
  subst h2'
  subst hp
  intro T locs hT0 hH hF
  have hT : Stand p l' e R' s m args below meth c T locs ce sl := hT0
  obtain ⟨s2, o, st, r⟩ := k T locs hT hH hF
  exact ⟨s2, o, Stand.ldc2Long hT hx hown (mvT hZ w) (g := mkF m pc L.toArray S) rfl (hb hby hd) _ st, r⟩
theorem idx_ok {vs : List Value} {c : Cell} {j : Int32} {k : Nat} {v : Value} (hs : c.slots = vs.toArray) (hj : j.toInt = (k : Int)) (hv : vs[k]? = some v) : ¬ (j < 0 ∨ c.slots.size ≤ j.toNatClampNeg) ∧ j.toNatClampNeg = k ∧ c.slots[j.toNatClampNeg]? = some v := by
  have e : j.toNatClampNeg = k := by show j.toInt.toNat = k; rw [hj]; rfl
  have hk := (List.getElem?_eq_some_iff.mp hv).1
  refine ⟨?_, e, by rw [e, hs]; simpa using hv⟩
  rw [Int32.lt_iff_toInt_lt, e, hs]
  simp only [List.size_toArray]
  intro q
  rcases q with q | q
  · rw [hj] at q
    exact absurd q (Int.not_lt.mpr (Int.natCast_nonneg k))
  · omega
theorem W.iaload {a : Addr} {vs : List Value} {j : Int32} {v : Value} (i : Nat) (K : Ctx X l Z R y code maxL ret) (pc' : Nat) (hd : decode code pc = .ok (.iaload, 1)) (hm : (a, ARR Z .int vs) ∈ os) (hj : j.toInt = (i : Int)) (hv : vs[i]? = some v) (k : WP X Z rc rs Q pc' L (v :: S) os ce sl) (hp : pc + 1 = pc' := by rfl) : WP X Z rc rs Q pc L (.int j :: .ref a :: S) os ce sl := by
  obtain ⟨p, l', e, R', s, m, args, below, meth, c⟩ := X
  obtain ⟨h1, h2, hx, hZ, hby, hml, hown, hnm, hret, hlk⟩ := K
  have h2' : R' = R := h2
  subst h2'
  subst hp
  intro T locs hT0 hH hF
  have hT : Stand p l' e R' s m args below meth c T locs ce sl := hT0
  obtain ⟨s2, o, st, r⟩ := k T locs hT hH hF
  obtain ⟨-, cl, hcl, q1, q2, q3, q4, q5⟩ := hH.get hm
  obtain ⟨e1, e2, e3⟩ := idx_ok q3 hj hv
  exact ⟨s2, o, Stand.iaload hT hx hcl (State.isArrayOf_alike hZ.alike q1) q2 e1 e3 (g := mkF m pc L.toArray (.int j :: .ref a :: S)) rfl rfl (hb hby hd) _ st, r⟩
theorem W.laload {a : Addr} {vs : List Value} {j : Int32} {v : Value} (i : Nat) (K : Ctx X l Z R y code maxL ret) (pc' : Nat) (hd : decode code pc = .ok (.laload, 1)) (hm : (a, ARR Z .long vs) ∈ os) (hj : j.toInt = (i : Int)) (hv : vs[i]? = some v) (k : WP X Z rc rs Q pc' L (v :: S) os ce sl) (hp : pc + 1 = pc' := by rfl) : WP X Z rc rs Q pc L (.int j :: .ref a :: S) os ce sl := by
  obtain ⟨p, l', e, R', s, m, args, below, meth, c⟩ := X
  obtain ⟨h1, h2, hx, hZ, hby, hml, hown, hnm, hret, hlk⟩ := K
  have h2' : R' = R := h2
  subst h2'
  subst hp
  intro T locs hT0 hH hF
  have hT : Stand p l' e R' s m args below meth c T locs ce sl := hT0
  obtain ⟨s2, o, st, r⟩ := k T locs hT hH hF
  obtain ⟨-, cl, hcl, q1, q2, q3, q4, q5⟩ := hH.get hm
  obtain ⟨e1, e2, e3⟩ := idx_ok q3 hj hv
  exact ⟨s2, o, Stand.laload hT hx hcl (State.isArrayOf_alike hZ.alike q1) q2 e1 e3 (g := mkF m pc L.toArray (.int j :: .ref a :: S)) rfl rfl (hb hby hd) _ st, r⟩
theorem W.caload {a : Addr} {vs : List Value} {j : Int32} {v : Value} (i : Nat) (K : Ctx X l Z R y code maxL ret) (pc' : Nat) (hd : decode code pc = .ok (.caload, 1)) (hm : (a, ARR Z .char vs) ∈ os) (hj : j.toInt = (i : Int)) (hv : vs[i]? = some v) (k : WP X Z rc rs Q pc' L (v :: S) os ce sl) (hp : pc + 1 = pc' := by rfl) : WP X Z rc rs Q pc L (.int j :: .ref a :: S) os ce sl := by
  obtain ⟨p, l', e, R', s, m, args, below, meth, c⟩ := X
  obtain ⟨h1, h2, hx, hZ, hby, hml, hown, hnm, hret, hlk⟩ := K
  have h2' : R' = R := h2
  subst h2'
  subst hp
  intro T locs hT0 hH hF
  have hT : Stand p l' e R' s m args below meth c T locs ce sl := hT0
  obtain ⟨s2, o, st, r⟩ := k T locs hT hH hF
  obtain ⟨-, cl, hcl, q1, q2, q3, q4, q5⟩ := hH.get hm
  obtain ⟨e1, e2, e3⟩ := idx_ok q3 hj hv
  exact ⟨s2, o, Stand.caload hT hx hcl (State.isArrayOf_alike hZ.alike q1) q2 e1 e3 (g := mkF m pc L.toArray (.int j :: .ref a :: S)) rfl rfl (hb hby hd) _ st, r⟩
theorem W.baload {a : Addr} {vs : List Value} {j : Int32} {v : Value} (i : Nat) (K : Ctx X l Z R y code maxL ret) (pc' : Nat) (hd : decode code pc = .ok (.baload, 1)) (hm : (a, ARR Z .byte vs) ∈ os) (hj : j.toInt = (i : Int)) (hv : vs[i]? = some v) (k : WP X Z rc rs Q pc' L (v :: S) os ce sl) (hp : pc + 1 = pc' := by rfl) : WP X Z rc rs Q pc L (.int j :: .ref a :: S) os ce sl := by
  obtain ⟨p, l', e, R', s, m, args, below, meth, c⟩ := X
  obtain ⟨h1, h2, hx, hZ, hby, hml, hown, hnm, hret, hlk⟩ := K
  have h2' : R' = R := h2
  subst h2'
  subst hp
  intro T locs hT0 hH hF
  have hT : Stand p l' e R' s m args below meth c T locs ce sl := hT0
  obtain ⟨s2, o, st, r⟩ := k T locs hT hH hF
  obtain ⟨-, cl, hcl, q1, q2, q3, q4, q5⟩ := hH.get hm
  obtain ⟨e1, e2, e3⟩ := idx_ok q3 hj hv
  exact ⟨s2, o, Stand.baloadBytes hT hx hcl (State.isArrayOf_alike hZ.alike q1) q2 e1 e3 (g := mkF m pc L.toArray (.int j :: .ref a :: S)) rfl rfl (hb hby hd) _ st, r⟩
theorem W.aaload {a : Addr} {vs : List Value} {j : Int32} {v : Value} {ty : FieldType} (i : Nat) (K : Ctx X l Z R y code maxL ret) (pc' : Nat) (hd : decode code pc = .ok (.aaload, 1)) (hm : (a, ARR Z ty vs) ∈ os) (hj : j.toInt = (i : Int)) (hv : vs[i]? = some v) (hty : ty.isReference = true) (k : WP X Z rc rs Q pc' L (v :: S) os ce sl) (hp : pc + 1 = pc' := by rfl) : WP X Z rc rs Q pc L (.int j :: .ref a :: S) os ce sl := by
  obtain ⟨p, l', e, R', s, m, args, below, meth, c⟩ := X
  obtain ⟨h1, h2, hx, hZ, hby, hml, hown, hnm, hret, hlk⟩ := K
  have h2' : R' = R := h2
  subst h2'
  subst hp
  intro T locs hT0 hH hF
  have hT : Stand p l' e R' s m args below meth c T locs ce sl := hT0
  obtain ⟨s2, o, st, r⟩ := k T locs hT hH hF
  obtain ⟨-, cl, hcl, q1, q2, q3, q4, q5⟩ := hH.get hm
  obtain ⟨e1, e2, e3⟩ := idx_ok q3 hj hv
  exact ⟨s2, o, Stand.aaload hT hx hcl (State.isArrayOf_alike hZ.alike q1) hty q2 e1 e3 (g := mkF m pc L.toArray (.int j :: .ref a :: S)) rfl rfl (hb hby hd) _ st, r⟩
theorem W.arraylength {a : Addr} {vs : List Value} {ty : FieldType} (z : Int32) (K : Ctx X l Z R y code maxL ret) (pc' : Nat) (hd : decode code pc = .ok (.arraylength, 1)) (hm : (a, ARR Z ty vs) ∈ os) (hz : vs.length.toInt32 = z) (k : WP X Z rc rs Q pc' L (.int z :: S) os ce sl) (hp : pc + 1 = pc' := by rfl) : WP X Z rc rs Q pc L (.ref a :: S) os ce sl := by
  obtain ⟨p, l', e, R', s, m, args, below, meth, c⟩ := X
  obtain ⟨h1, h2, hx, hZ, hby, hml, hown, hnm, hret, hlk⟩ := K
  have h2' : R' = R := h2
  subst h2'
  subst hp
  intro T locs hT0 hH hF
  have hT : Stand p l' e R' s m args below meth c T locs ce sl := hT0
  obtain ⟨s2, o, st, r⟩ := k T locs hT hH hF
  obtain ⟨-, cl, hcl, q1, q2, q3, q4, q5⟩ := hH.get hm
  have e : cl.slots.size.toInt32 = z := by rw [q3]; simpa using hz
  rw [← e] at st
  exact ⟨s2, o, Stand.arraylength hT hx hcl (State.isArrayOf_alike hZ.alike q1) (g := mkF m pc L.toArray (.ref a :: S)) rfl rfl (hb hby hd) _ st, r⟩
theorem W.iastore {a : Addr} {vs : List Value} {j : Int32} {x : Int32} {w : Value} (i : Nat) (K : Ctx X l Z R y code maxL ret) (pc' : Nat) (hd : decode code pc = .ok (.iastore, 1)) (hm : Upd os a (ARR Z .int vs) (ARR Z .int (vs.set i (.int x))) os') (hj : j.toInt = (i : Int)) (hv : vs[i]? = some w) (k : WP X Z rc rs Q pc' L S os' ce sl) (hp : pc + 1 = pc' := by rfl) : WP X Z rc rs Q pc L (.int x :: .int j :: .ref a :: S) os ce sl := by
  obtain ⟨p, l', e, R', s, m, args, below, meth, c⟩ := X
  obtain ⟨h1, h2, hx, hZ, hby, hml, hown, hnm, hret, hlk⟩ := K
  have h2' : R' = R := h2
  subst h2'
  subst hp
  intro T locs hT0 hH hF
  have hT : Stand p l' e R' s m args below meth c T locs ce sl := hT0
  obtain ⟨ii, hm, rfl⟩ := hm
  obtain ⟨ha, cl, hcl, q1, q2, q3, q4, q5⟩ := hH.2.2 ii _ hm
  obtain ⟨e1, e2, e3⟩ := idx_ok q3 hj hv
  obtain ⟨T', h', X', e', W', st'⟩ := RoadKit.stI hT hx hZ rfl ⟨hcl, q1, q2⟩ (x := x) e1 (g := mkF m pc L.toArray (.int x :: .int j :: .ref a :: S)) rfl rfl (hb hby hd)
  rw [e2] at W'
  obtain ⟨s2, o, st, r⟩ := k T' _ X' (by rw [e']; exact hH.upd hm W' (fun c c' g1 g2 g3 g4 => by rw [g4]; exact ARR.put g2 (rfl))) (Fr.snoc X' hF ha)
  exact ⟨s2, o, st' _ st, r⟩
theorem W.lastore {a : Addr} {vs : List Value} {j : Int32} {x : Int64} {w : Value} (i : Nat) (K : Ctx X l Z R y code maxL ret) (pc' : Nat) (hd : decode code pc = .ok (.lastore, 1)) (hm : Upd os a (ARR Z .long vs) (ARR Z .long (vs.set i (.long x))) os') (hj : j.toInt = (i : Int)) (hv : vs[i]? = some w) (k : WP X Z rc rs Q pc' L S os' ce sl) (hp : pc + 1 = pc' := by rfl) : WP X Z rc rs Q pc L (.long x :: .int j :: .ref a :: S) os ce sl := by
  obtain ⟨p, l', e, R', s, m, args, below, meth, c⟩ := X
  obtain ⟨h1, h2, hx, hZ, hby, hml, hown, hnm, hret, hlk⟩ := K
  have h2' : R' = R := h2
  subst h2'
  subst hp
  intro T locs hT0 hH hF
  have hT : Stand p l' e R' s m args below meth c T locs ce sl := hT0
  obtain ⟨ii, hm, rfl⟩ := hm
  obtain ⟨ha, cl, hcl, q1, q2, q3, q4, q5⟩ := hH.2.2 ii _ hm
  obtain ⟨e1, e2, e3⟩ := idx_ok q3 hj hv
  obtain ⟨T', h', X', e', W', st'⟩ := RoadKit.stJ hT hx hZ rfl ⟨hcl, q1, q2⟩ (x := x) e1 (g := mkF m pc L.toArray (.long x :: .int j :: .ref a :: S)) rfl rfl (hb hby hd)
  rw [e2] at W'
  obtain ⟨s2, o, st, r⟩ := k T' _ X' (by rw [e']; exact hH.upd hm W' (fun c c' g1 g2 g3 g4 => by rw [g4]; exact ARR.put g2 (rfl))) (Fr.snoc X' hF ha)
  exact ⟨s2, o, st' _ st, r⟩
theorem W.bastore {a : Addr} {vs : List Value} {j : Int32} {x : Int32} {w : Value} (i : Nat) (K : Ctx X l Z R y code maxL ret) (pc' : Nat) (hd : decode code pc = .ok (.bastore, 1)) (hm : Upd os a (ARR Z .byte vs) (ARR Z .byte (vs.set i (.int x.toInt8.toInt32))) os') (hj : j.toInt = (i : Int)) (hv : vs[i]? = some w) (k : WP X Z rc rs Q pc' L S os' ce sl) (hp : pc + 1 = pc' := by rfl) : WP X Z rc rs Q pc L (.int x :: .int j :: .ref a :: S) os ce sl := by
  obtain ⟨p, l', e, R', s, m, args, below, meth, c⟩ := X
  obtain ⟨h1, h2, hx, hZ, hby, hml, hown, hnm, hret, hlk⟩ := K
  have h2' : R' = R := h2
  subst h2'
  subst hp
  intro T locs hT0 hH hF
  have hT : Stand p l' e R' s m args below meth c T locs ce sl := hT0
  obtain ⟨ii, hm, rfl⟩ := hm
  obtain ⟨ha, cl, hcl, q1, q2, q3, q4, q5⟩ := hH.2.2 ii _ hm
  obtain ⟨e1, e2, e3⟩ := idx_ok q3 hj hv
  obtain ⟨T', h', X', e', W', st'⟩ := RoadKit.stB hT hx hZ rfl ⟨hcl, q1, q2⟩ (x := x) e1 (g := mkF m pc L.toArray (.int x :: .int j :: .ref a :: S)) rfl rfl (hb hby hd)
  rw [e2] at W'
  obtain ⟨s2, o, st, r⟩ := k T' _ X' (by rw [e']; exact hH.upd hm W' (fun c c' g1 g2 g3 g4 => by rw [g4]; exact ARR.put g2 (fits_nar_byte x))) (Fr.snoc X' hF ha)
  exact ⟨s2, o, st' _ st, r⟩
theorem W.castore {a : Addr} {vs : List Value} {j : Int32} {x : Int32} {w : Value} (i : Nat) (K : Ctx X l Z R y code maxL ret) (pc' : Nat) (hd : decode code pc = .ok (.castore, 1)) (hm : Upd os a (ARR Z .char vs) (ARR Z .char (vs.set i (.int x.toUInt32.toUInt16.toUInt32.toInt32))) os') (hj : j.toInt = (i : Int)) (hv : vs[i]? = some w) (k : WP X Z rc rs Q pc' L S os' ce sl) (hp : pc + 1 = pc' := by rfl) : WP X Z rc rs Q pc L (.int x :: .int j :: .ref a :: S) os ce sl := by
  obtain ⟨p, l', e, R', s, m, args, below, meth, c⟩ := X
  obtain ⟨h1, h2, hx, hZ, hby, hml, hown, hnm, hret, hlk⟩ := K
  have h2' : R' = R := h2
  subst h2'
  subst hp
  intro T locs hT0 hH hF
  have hT : Stand p l' e R' s m args below meth c T locs ce sl := hT0
  obtain ⟨ii, hm, rfl⟩ := hm
  obtain ⟨ha, cl, hcl, q1, q2, q3, q4, q5⟩ := hH.2.2 ii _ hm
  obtain ⟨e1, e2, e3⟩ := idx_ok q3 hj hv
  obtain ⟨T', h', X', e', W', st'⟩ := RoadKit.stC hT hx hZ rfl ⟨hcl, q1, q2⟩ (x := x) e1 (g := mkF m pc L.toArray (.int x :: .int j :: .ref a :: S)) rfl rfl (hb hby hd)
  rw [e2] at W'
  obtain ⟨s2, o, st, r⟩ := k T' _ X' (by rw [e']; exact hH.upd hm W' (fun c c' g1 g2 g3 g4 => by rw [g4]; exact ARR.put g2 (fits_nar_char x))) (Fr.snoc X' hF ha)
  exact ⟨s2, o, st' _ st, r⟩
theorem W.getF {a : Addr} {O n d C : String} {v : Value} {fs : List FV} {idx : Nat} (K : Ctx X l Z R y code maxL ret) (pc' : Nat) (hd : decode code pc = .ok (.getfield idx, 3)) (w : (Jvm.Cond.fieldLink y.cls idx O n d).before a0 Z = true) (hm : (a, OBJ Z C fs) ∈ os) (hf : (O, n, d, v) ∈ fs) (k : WP X Z rc rs Q pc' L (v :: S) os ce sl) (hp : pc + 3 = pc' := by rfl) : WP X Z rc rs Q pc L (.ref a :: S) os ce sl := by
  obtain ⟨p, l', e, R', s, m, args, below, meth, c⟩ := X
  obtain ⟨h1, h2, hx, hZ, hby, hml, hown, hnm, hret, hlk⟩ := K
  have h2' : R' = R := h2
  subst h2'
  subst hp
  intro T locs hT0 hH hF
  have hT : Stand p l' e R' s m args below meth c T locs ce sl := hT0
  obtain ⟨-, cl, hcl, hO⟩ := hH.get hm
  obtain ⟨T', X', e', st'⟩ := RoadKit.getF hT hx hZ hown (host := "") (Or.inl w) Via.refl rfl (hO.fld hcl hf) (g := mkF m pc L.toArray (.ref a :: S)) rfl rfl (hb hby hd)
  obtain ⟨s2, o, st, r⟩ := k T' locs X' (by rw [e']; exact hH) hF
  exact ⟨s2, o, st' _ st, r⟩
theorem W.getFN {a : Addr} {O n d C host : String} {v : Value} {fs : List FV} {idx : Nat} (K : Ctx X l Z R y code maxL ret) (pc' : Nat) (hd : decode code pc = .ok (.getfield idx, 3)) (w : (Jvm.Cond.fieldLinkNest y.cls idx O n d host).before a0 Z = true) (hm : (a, OBJ Z C fs) ∈ os) (hf : (O, n, d, v) ∈ fs) (k : WP X Z rc rs Q pc' L (v :: S) os ce sl) (hp : pc + 3 = pc' := by rfl) : WP X Z rc rs Q pc L (.ref a :: S) os ce sl := by
  obtain ⟨p, l', e, R', s, m, args, below, meth, c⟩ := X
  obtain ⟨h1, h2, hx, hZ, hby, hml, hown, hnm, hret, hlk⟩ := K
  have h2' : R' = R := h2
  subst h2'
  subst hp
  intro T locs hT0 hH hF
  have hT : Stand p l' e R' s m args below meth c T locs ce sl := hT0
  obtain ⟨-, cl, hcl, hO⟩ := hH.get hm
  obtain ⟨T', X', e', st'⟩ := RoadKit.getF hT hx hZ hown (host := host) (Or.inr w) Via.refl rfl (hO.fld hcl hf) (g := mkF m pc L.toArray (.ref a :: S)) rfl rfl (hb hby hd)
  obtain ⟨s2, o, st, r⟩ := k T' locs X' (by rw [e']; exact hH) hF
  exact ⟨s2, o, st' _ st, r⟩
theorem W.getFo {a : Addr} {O n d : String} {v : Value} {idx : Nat} (K : Ctx X l Z R y code maxL ret) (pc' : Nat) (hd : decode code pc = .ok (.getfield idx, 3)) (w : (Jvm.Cond.fieldLink y.cls idx O n d).before a0 Z = true) (F : Fld Z Z.heap a O n d v) (k : WP X Z rc rs Q pc' L (v :: S) os ce sl) (hp : pc + 3 = pc' := by rfl) : WP X Z rc rs Q pc L (.ref a :: S) os ce sl := by
  obtain ⟨p, l', e, R', s, m, args, below, meth, c⟩ := X
  obtain ⟨h1, h2, hx, hZ, hby, hml, hown, hnm, hret, hlk⟩ := K
  have h2' : R' = R := h2
  subst h2'
  subst hp
  intro T locs hT0 hH hF
  have hT : Stand p l' e R' s m args below meth c T locs ce sl := hT0
  obtain ⟨T', X', e', st'⟩ := RoadKit.getF hT hx hZ hown (host := "") (Or.inl w) Via.refl rfl (F.ext hH.1) (g := mkF m pc L.toArray (.ref a :: S)) rfl rfl (hb hby hd)
  obtain ⟨s2, o, st, r⟩ := k T' locs X' (by rw [e']; exact hH) hF
  exact ⟨s2, o, st' _ st, r⟩
theorem W.getFR {a : Addr} {O n d C : String} {v : Value} {fs : List FV} {idx : Nat} (K : Ctx X l Z R y code maxL ret) (pc' : Nat) (hd : decode code pc = .ok (.getfield idx, 3)) (w : (Jvm.Cond.fieldRef y.cls idx O n d).before a0 Z = true) (hm : (a, OBJ Z C fs) ∈ os) (hf : (O, n, d, v) ∈ fs) (k : WP X Z rc rs Q pc' L (v :: S) os ce sl) (hp : pc + 3 = pc' := by rfl) : WP X Z rc rs Q pc L (.ref a :: S) os ce sl := by
  obtain ⟨p, l', e, R', s, m, args, below, meth, c⟩ := X
  obtain ⟨h1, h2, hx, hZ, hby, hml, hown, hnm, hret, hlk⟩ := K
  have h2' : R' = R := h2
  subst h2'
  subst hp
  intro T locs hT0 hH hF
  have hT : Stand p l' e R' s m args below meth c T locs ce sl := hT0
  obtain ⟨-, cl, hcl, hO⟩ := hH.get hm
  obtain ⟨s2, o, st, r⟩ := k T locs hT hH hF
  obtain ⟨cell, cf, kf, i, f, f1, f2, f3, f4, f5, f6, f7⟩ := hO.fld hcl hf
  cases hcl.symm.trans f1
  have hZT : Z.Warmed39 T.vm := wtrans hZ (Stand.warmed hT)
  have w1 := Cond.fieldRef_warmed39 hZT w
  have hcur : (Z.setVm T.vm).vm.findClass y.cls = some m.cls := by
    have q := (Stand.warmed hT).alike.findClass y.cls
    show T.vm.findClass y.cls = some m.cls
    rw [q]; exact hown
  obtain ⟨c1, k1, i1, fd1, g1, g2⟩ := Cond.fieldRef_spec hcur w1
  obtain ⟨k2, g3, -⟩ := State.fieldFound?_setVm (s := Z) hZT.alike f2
  cases g1.symm.trans g3
  refine ⟨s2, o, ?_, r⟩
  have hX := Stand.here hT
  have hdg := hb hby hd
  jvm_step hX [hX.top, hx, hdg, getfield.wp_ready (e := e) (s := T) (f := mkF m pc L.toArray (.ref a :: S)) hX.top g2 f3 rfl f1 f4 f7]
  exact st
theorem W.putFg {a : Addr} {O n d C host : String} {v old : Value} {fs fs' : List FV} {idx kk : Nat} {ty : FieldType} (K : Ctx X l Z R y code maxL ret) (pc' : Nat) (hd : decode code pc = .ok (.putfield idx, 3)) (w : (Jvm.Cond.fieldLink y.cls idx O n d).before a0 Z = true ∨ (Jvm.Cond.fieldLinkNest y.cls idx O n d host).before a0 Z = true)
    (hL : (Jvm.Cond.lays C O n d).before a0 Z = true ∨ ((Jvm.Cond.laysFinal C O n d).before a0 Z = true ∧ y.cls = O ∧ y.name = "<init>")) (wi : (Jvm.Cond.instantiable C kk).before a0 Z = true) (hty : parseFieldDescriptor d = some ty) (hn : narrow ty v = v) (hfit : fits ty v = true)
    (hm : Upd os a (OBJ Z C fs) (OBJ Z C fs') os') (hf : UpdF fs O n d old v fs') (k : WP X Z rc rs Q pc' L S os' ce sl) (hp : pc + 3 = pc' := by rfl) : WP X Z rc rs Q pc L (v :: .ref a :: S) os ce sl := by
  obtain ⟨p, l', e, R', s, m, args, below, meth, c⟩ := X
  obtain ⟨h1, h2, hx, hZ, hby, hml, hown, hnm, hret, hlk⟩ := K
  have h2' : R' = R := h2
  subst h2'
  subst hp
  intro T locs hT0 hH hF
  have hT : Stand p l' e R' s m args below meth c T locs ce sl := hT0
  obtain ⟨ii, hm, rfl⟩ := hm
  obtain ⟨ha, cl, hcl, hO⟩ := hH.2.2 ii _ hm
  have hmem : (O, n, d, old) ∈ fs := by obtain ⟨jj, hj, -⟩ := hf; exact List.mem_of_getElem? hj
  obtain ⟨T', h', X', e', W', st'⟩ := RoadKit.putF hT hx hZ hown w Via.refl rfl (hO.fld hcl hmem) (hO.exa hcl) (hL.imp id (fun q => ⟨q.1, q.2.1, by rw [hnm]; exact q.2.2⟩)) wi hty hn hfit (g := mkF m pc L.toArray (v :: .ref a :: S)) rfl rfl (hb hby hd)
  obtain ⟨s2, o, st, r⟩ := k T' _ X' (by rw [e']; exact hH.upd hm W' (fun c c' g1 g2 g3 g4 => by rw [g4]; exact OBJ.put g2 hf)) (Fr.snoc X' hF ha)
  exact ⟨s2, o, st' _ st, r⟩
theorem W.putF {a : Addr} {O n d C : String} {v old : Value} {fs fs' : List FV} {idx kk : Nat} {ty : FieldType} (K : Ctx X l Z R y code maxL ret) (pc' : Nat) (hd : decode code pc = .ok (.putfield idx, 3)) (w : (Jvm.Cond.fieldLink y.cls idx O n d).before a0 Z = true)
    (hL : (Jvm.Cond.lays C O n d).before a0 Z = true) (wi : (Jvm.Cond.instantiable C kk).before a0 Z = true) (hty : parseFieldDescriptor d = some ty) (hm : Upd os a (OBJ Z C fs) (OBJ Z C fs') os') (hf : UpdF fs O n d old v fs') (k : WP X Z rc rs Q pc' L S os' ce sl) (hn : narrow ty v = v := by rfl) (hfit : fits ty v = true := by rfl)
    (hp : pc + 3 = pc' := by rfl) : WP X Z rc rs Q pc L (v :: .ref a :: S) os ce sl := W.putFg (host := "") K pc' hd (Or.inl w) (Or.inl hL) wi hty hn hfit hm hf k hp
theorem W.putFf {a : Addr} {O n d C : String} {v old : Value} {fs fs' : List FV} {idx kk : Nat} {ty : FieldType} (K : Ctx X l Z R y code maxL ret) (pc' : Nat) (hd : decode code pc = .ok (.putfield idx, 3)) (w : (Jvm.Cond.fieldLink y.cls idx O n d).before a0 Z = true)
    (hL : (Jvm.Cond.laysFinal C O n d).before a0 Z = true) (wi : (Jvm.Cond.instantiable C kk).before a0 Z = true) (hty : parseFieldDescriptor d = some ty) (hm : Upd os a (OBJ Z C fs) (OBJ Z C fs') os') (hf : UpdF fs O n d old v fs') (k : WP X Z rc rs Q pc' L S os' ce sl) (hn : narrow ty v = v := by rfl) (hfit : fits ty v = true := by rfl)
    (hy1 : y.cls = O := by rfl) (hy2 : y.name = "<init>" := by rfl) (hp : pc + 3 = pc' := by rfl) : WP X Z rc rs Q pc L (v :: .ref a :: S) os ce sl := W.putFg (host := "") K pc' hd (Or.inl w) (Or.inr ⟨hL, hy1, hy2⟩) wi hty hn hfit hm hf k hp
theorem W.getS {O n d : String} {v : Value} {idx : Nat} (K : Ctx X l Z R y code maxL ret) (pc' : Nat) (hd : decode code pc = .ok (.getstatic idx, 3)) (w : (Jvm.Cond.fieldLink y.cls idx O n d).before a0 Z = true) (F : Sta Z Z.heap O n d v) (k : WP X Z rc rs Q pc' L (v :: S) os ce sl) (hp : pc + 3 = pc' := by rfl) : WP X Z rc rs Q pc L S os ce sl := by
  obtain ⟨p, l', e, R', s, m, args, below, meth, c⟩ := X
  obtain ⟨h1, h2, hx, hZ, hby, hml, hown, hnm, hret, hlk⟩ := K
  have h2' : R' = R := h2
  subst h2'
  subst hp
  intro T locs hT0 hH hF
  have hT : Stand p l' e R' s m args below meth c T locs ce sl := hT0
  obtain ⟨T', X', e', st'⟩ := RoadKit.getS hT hx hZ (host := "") hown w Via.refl rfl (F.ext hH.1) (g := mkF m pc L.toArray S) rfl (hb hby hd)
  obtain ⟨s2, o, st, r⟩ := k T' locs X' (by rw [e']; exact hH) hF
  exact ⟨s2, o, st' _ st, r⟩
theorem W.new {C : String} {idx n : Nat} (fs : List FV) (K : Ctx X l Z R y code maxL ret) (pc' : Nat) (hd : decode code pc = .ok (.new idx, 3)) (w : (Jvm.Cond.classLink y.cls idx C).before a0 Z = true) (wi : (Jvm.Cond.instantiable C n).before a0 Z = true) (wz : (Jvm.Cond.initialized C).before a0 Z = true)
    (q : Laids Z a0 C fs) (k : ∀ a, WP X Z rc rs Q pc' L (.ref a :: S) ((a, OBJ Z C fs) :: os) (ce + 1) (sl + n)) (hc : ce + 1 ≤ R.cells := by decide) (hl : sl + n ≤ R.slots := by decide) (nd : (fs.map (fun f => f.2.1)).Nodup := by decide) (hp : pc + 3 = pc' := by rfl) : WP X Z rc rs Q pc L S os ce sl := by
  obtain ⟨p, l', e, R', s, m, args, below, meth, c⟩ := X
  obtain ⟨h1, h2, hx, hZ, hby, hml, hown, hnm, hret, hlk⟩ := K
  have h2' : R' = R := h2
  subst h2'
  subst hp
  intro T locs hT0 hH hF
  have hT : Stand p l' e R' s m args below meth c T locs ce sl := hT0
  obtain ⟨T', h', X', e', E', A', D', -, st'⟩ := RoadKit.newO hT hx hZ hown w wi wz rfl (g := mkF m pc L.toArray S) rfl (hb hby hd) (hc) (hl)
  obtain ⟨c0, hc0, hO⟩ := OBJ.new A' D' q nd
  obtain ⟨s2, o, st, r⟩ := k T.heap.size T' locs X' (by rw [e']; exact hH.new E' hc0 hO) hF
  exact ⟨s2, o, st' _ st, r⟩
theorem fits_dflt {ty : FieldType} (h : ty = .int ∨ ty = .long ∨ ty = .byte ∨ ty = .char ∨ ty = .boolean ∨ ty = .short) : fits ty (defaultValue ty) = true := by
  rcases h with rfl | rfl | rfl | rfl | rfl | rfl <;> rfl
theorem W.newarray {aty : ArrayType} {ty : FieldType} {z : Int32} (i cap : Nat) (K : Ctx X l Z R y code maxL ret) (pc' : Nat) (hd : decode code pc = .ok (.newarray aty, 2)) (w : (Jvm.Cond.arrayClass ty).before a0 Z = true) (hz : z.toInt = (i : Int)) (hi : i ≤ cap)
    (k : ∀ a, WP X Z rc rs Q pc' L (.ref a :: S) ((a, ARR Z ty (List.replicate i (defaultValue ty))) :: os) (ce + 1) (sl + cap)) (ht : newarray.typeOf aty = ty := by rfl) (htt : ty = .int ∨ ty = .long ∨ ty = .byte ∨ ty = .char ∨ ty = .boolean ∨ ty = .short := by simp) (hb8 : cap * 8 ≤ 536870912 := by decide) (hc : ce + 1 ≤ R.cells := by decide) (hl : sl + cap ≤ R.slots := by decide) (hp : pc + 2 = pc' := by rfl) :
    WP X Z rc rs Q pc L (.int z :: S) os ce sl := by
  obtain ⟨p, l', e, R', s, m, args, below, meth, c⟩ := X
  obtain ⟨h1, h2, hx, hZ, hby, hml, hown, hnm, hret, hlk⟩ := K
  have h2' : R' = R := h2
  subst h2'
  subst hp
  intro T locs hT0 hH hF
  have hT : Stand p l' e R' s m args below meth c T locs ce sl := hT0
  subst ht
  have ez : z.toNatClampNeg = i := by show z.toInt.toNat = i; rw [hz]; rfl
  obtain ⟨T', h', cA, X', e', E', A', st'⟩ := RoadKit.newP hT hx hZ w rfl (g := mkF m pc L.toArray (.int z :: S)) rfl (hb hby hd) rfl (by rw [Int32.lt_iff_toInt_lt, hz]; exact Int.not_lt.mpr (Int.natCast_nonneg i)) (cap := cap) (by rw [ez]; exact hi) hb8 (hc) (hl)
  have hA : ARR Z (newarray.typeOf aty) (List.replicate i (defaultValue (newarray.typeOf aty))) (newA cA (newarray.typeOf aty) z) := by
    refine ⟨A'.2.1, A'.2.2, by simp [newA, ez], fun v hv => ?_, by simp; omega⟩
    rw [(List.mem_replicate.mp hv).2]; exact fits_dflt htt
  obtain ⟨s2, o, st, r⟩ := k T.heap.size T' locs X' (by rw [e']; exact hH.new E' A'.1 hA) hF
  exact ⟨s2, o, st' _ st, r⟩
theorem W.initO {a : Addr} {idx : Nat} (K : Ctx X l Z R y code maxL ret) (pc' : Nat) (hd : decode code pc = .ok (.invokespecial idx, 3)) (w1 : (Jvm.Cond.methodLink y.cls idx Lib.objectInit).before a0 Z = true) (w2 : (Jvm.Cond.instanceMethod Lib.objectInit).before a0 Z = true) (w3 : (Jvm.Cond.code Lib.objectInit ⟨#[0xb1]⟩ 1 none).before a0 Z = true)
    (k : WP X Z rc rs Q pc' L S os ce sl) (hsz : L.length = maxL := by rfl) (hf : 1 ≤ R.frames := by decide) (hl : (S.map fun v => v.category).sum + 12 ≤ R.locals := by exact Nat.le_of_ble_eq_true rfl) (hp : pc + 3 = pc' := by rfl) : WP X Z rc rs Q pc L (.ref a :: S) os ce sl := by
  obtain ⟨p, l', e, R', s, m, args, below, meth, c⟩ := X
  obtain ⟨h1, h2, hx, hZ, hby, hml, hown, hnm, hret, hlk⟩ := K
  have h2' : R' = R := h2
  subst h2'
  subst hp
  intro T locs hT0 hH hF
  have hT : Stand p l' e R' s m args below meth c T locs ce sl := hT0
  obtain ⟨T', X', e', st'⟩ := RoadKit.initO hT hx hZ hown w1 w2 w3 rfl (g := mkF m pc L.toArray (.ref a :: S)) rfl (by rw [hml]; simpa using hsz) rfl (hb hby hd) (hf) (W := (S.map fun v => v.category).sum) (by show 2 * 0 + _ ≤ _; omega) (hl)
  obtain ⟨s2, o, st, r⟩ := k T' locs X' (by rw [e']; exact hH) hF
  exact ⟨s2, o, st' _ st, r⟩

theorem W.retG {w : Value} {t : FieldType} {i : Instr} (K : Ctx X l Z R y code maxL (some t)) (hn : narrow t w = w)
    (hi : (i = .ireturn ∧ (t = .int ∨ t = .boolean ∨ t = .byte ∨ t = .char ∨ t = .short) ∧ ∃ z, w = .int z) ∨ (i = .lreturn ∧ t = .long ∧ ∃ z, w = .long z) ∨ (i = .dreturn ∧ t = .double ∧ ∃ z, w = .double z) ∨ (i = .freturn ∧ t = .float ∧ ∃ z, w = .float z) ∨ (i = .areturn ∧ t.isReference = true ∧ w.isRef = true))
    (hd : decode code pc = .ok (i, 1)) (q : Q (some w) os) (hc : ce ≤ rc) (hs : sl ≤ rs) : WP X Z rc rs Q pc L (w :: S) os ce sl := by
  obtain ⟨p, l', e, R', s, m, args, below, meth, c⟩ := X
  obtain ⟨h1, h2, hx, hZ, hby, hml, hown, hnm, hret, hlk⟩ := K
  have h2' : R' = R := h2
  subst h2'
  intro T locs hT0 hH hF
  have hT : Stand p l' e R' s m args below meth c T locs ce sl := hT0
  have hret' : meth.sig.returnType = some t := hret
  obtain ⟨fs, hr, hrun, hended, hW, hsame⟩ := Stand.leave hT (v := some w) (fun h => by rw [hret'] at h; cases h) hlk
  exact ⟨_, _, retOut hT hx hret hn hi (hb hby hd) hr, hrun, hended, _, _, rfl, ⟨os, q, hH, hF⟩, ⟨_, rfl⟩, hW, hsame.mono hc hs⟩
theorem W.ireturn {z : Int32} (K : Ctx X l Z R y code maxL (some .int)) (hd : decode code pc = .ok (.ireturn, 1)) (q : Q (some (.int z)) os) (hc : ce ≤ rc := by decide) (hs : sl ≤ rs := by decide) : WP X Z rc rs Q pc L (.int z :: S) os ce sl := W.retG K rfl (Or.inl ⟨rfl, Or.inl rfl, z, rfl⟩) hd q hc hs
theorem W.lreturn {z : Int64} (K : Ctx X l Z R y code maxL (some .long)) (hd : decode code pc = .ok (.lreturn, 1)) (q : Q (some (.long z)) os) (hc : ce ≤ rc := by decide) (hs : sl ≤ rs := by decide) : WP X Z rc rs Q pc L (.long z :: S) os ce sl := W.retG K rfl (Or.inr (Or.inl ⟨rfl, rfl, z, rfl⟩)) hd q hc hs
theorem W.areturn {w : Value} {t : FieldType} (K : Ctx X l Z R y code maxL (some t)) (hd : decode code pc = .ok (.areturn, 1)) (q : Q (some w) os) (hw : w.isRef = true := by rfl) (ht : t.isReference = true := by rfl) (hc : ce ≤ rc := by decide) (hs : sl ≤ rs := by decide) : WP X Z rc rs Q pc L (w :: S) os ce sl :=
  W.retG K (by cases t <;> first | rfl | (cases w <;> first | rfl | cases ht | cases hw)) (Or.inr (Or.inr (Or.inr (Or.inr ⟨rfl, ht, hw⟩)))) hd q hc hs
theorem W.zreturn {z : Int32} (K : Ctx X l Z R y code maxL (some .boolean)) (hd : decode code pc = .ok (.ireturn, 1)) (hz : z = 0 ∨ z = 1) (q : Q (some (.int z)) os) (hc : ce ≤ rc := by decide) (hs : sl ≤ rs := by decide) : WP X Z rc rs Q pc L (.int z :: S) os ce sl :=
  W.retG K (by rcases hz with rfl | rfl <;> rfl) (Or.inl ⟨rfl, Or.inr (Or.inl rfl), z, rfl⟩) hd q hc hs
theorem W.creturn {z : Int32} (K : Ctx X l Z R y code maxL (some .char)) (hd : decode code pc = .ok (.ireturn, 1)) (hz : narrow .char (.int z) = .int z) (q : Q (some (.int z)) os) (hc : ce ≤ rc := by decide) (hs : sl ≤ rs := by decide) : WP X Z rc rs Q pc L (.int z :: S) os ce sl :=
  W.retG K hz (Or.inl ⟨rfl, Or.inr (Or.inr (Or.inr (Or.inl rfl))), z, rfl⟩) hd q hc hs
theorem W.breturn {z : Int32} (K : Ctx X l Z R y code maxL (some .byte)) (hd : decode code pc = .ok (.ireturn, 1)) (hz : narrow .byte (.int z) = .int z) (q : Q (some (.int z)) os) (hc : ce ≤ rc := by decide) (hs : sl ≤ rs := by decide) : WP X Z rc rs Q pc L (.int z :: S) os ce sl :=
  W.retG K hz (Or.inl ⟨rfl, Or.inr (Or.inr (Or.inl rfl)), z, rfl⟩) hd q hc hs
theorem W.return (K : Ctx X l Z R y code maxL none) (hd : decode code pc = .ok (.return_, 1)) (q : Q none os) (hc : ce ≤ rc := by decide) (hs : sl ≤ rs := by decide) : WP X Z rc rs Q pc L [] os ce sl := by
  obtain ⟨p, l', e, R', s, m, args, below, meth, c⟩ := X
  obtain ⟨h1, h2, hx, hZ, hby, hml, hown, hnm, hret, hlk⟩ := K
  have h2' : R' = R := h2
  subst h2'
  intro T locs hT0 hH hF
  have hT : Stand p l' e R' s m args below meth c T locs ce sl := hT0
  obtain ⟨fs, hr, hrun, hended, hW, hsame⟩ := Stand.leave hT (v := none) (fun _ => rfl) hlk
  exact ⟨_, _, Stand.returnOut hT hx hret (hb hby hd) hr, hrun, hended, _, _, rfl, ⟨os, q, hH, hF⟩, ⟨_, rfl⟩, hW, hsame.mono hc hs⟩

theorem W.callS {idx mx : Nat} {z : MethodName} {bytes : ByteArray} {rt : Option FieldType} {rm : Room} {argsL : List Value} {S0 : List Value} {ps : List FieldType} {rr : Option FieldType} {Q' : Option Value → OS → Prop} (K : Ctx X l Z R y code maxL ret) (pc' : Nat) (hd : decode code pc = .ok (.invokestatic idx, 3)) (w1 : (Jvm.Cond.methodLink y.cls idx z).before a0 Z = true) (w2 : (Jvm.Cond.static z).before a0 Z = true) (w3 : (Jvm.Cond.initialized z.cls).before a0 Z = true) (w4 : (Jvm.Cond.code z bytes mx rt).before a0 Z = true)
    (hsig : parseMethodDescriptor z.desc = some ⟨ps, rr⟩) (hM : OMeets l Z z bytes mx rt rm argsL os Q') (k : ∀ v os', Q' v os' → WP X Z rc rs Q pc' L (v.toList ++ S) os' (ce + rm.cells) (sl + rm.slots)) (hst : S0 = argsL.reverse ++ S := by rfl) (hlen : argsL.length = ps.length := by rfl) (hsz : L.length = maxL := by rfl) (hf : rm.frames + 1 ≤ R.frames := by decide) (hl : (S.map fun v => v.category).sum + (mx + 11) + rm.locals ≤ R.locals := by exact Nat.le_of_ble_eq_true rfl)
    (hc : ce + rm.cells ≤ R.cells := by decide) (hs : sl + rm.slots ≤ R.slots := by decide) (hy : z.cls ≠ "java/lang/invoke/MethodHandle" ∧ z.cls ≠ "java/lang/invoke/VarHandle" := by decide) (hp : pc + 3 = pc' := by rfl) : WP X Z rc rs Q pc L S0 os ce sl := by
  obtain ⟨p, l', e, R', s, m, args, below, meth, c⟩ := X
  obtain ⟨rfl, h2, hx, hZ, hby, hml, hown, hnm, hret, hlk⟩ := K
  have h2' : R' = R := h2
  subst h2'
  subst hp
  intro T locs hT0 hH hF
  have hT : Stand p l' e R' s m args below meth c T locs ce sl := hT0
  obtain ⟨v, vm1, ⟨T', L', k', n'⟩, -, X', ⟨Lc, ⟨os1, hQ1, hH1, hF1⟩, e1, e2, e3⟩, st'⟩ := Jvm.LawKit.callS hT hx (y := z) hown (mvT hZ w1) (mvT hZ w2) (mvT hZ w3) (mvT hZ w4) hy (backOf (W := (S.map fun v => v.category).sum) (Q := fun v h L => ∃ os', Q' v os' ∧ Hp Z h os' ∧ Fr Z.heap.size L) (hM _ hH []) hZ w4 w3 (hf) (hl)) (g := mkF m pc L.toArray S0) rfl (by rw [hml]; simpa using hsz) (argsL := argsL) (rest := S) (lenOf hsig hlen) hst (by show 2 * 0 + _ ≤ _; omega) (hb hby hd) (fun _ _ => ⟨rfl, rfl, hc, hs⟩)
  dsimp only [Pt.U, Pt.locs, Pt.cells, Pt.slots] at X' e1 e2 e3 st' hH1
  subst e1 e2 e3
  obtain ⟨s2, o, st, r⟩ := k v os1 hQ1 T' _ X' hH1 (Fr.app hF hF1)
  exact ⟨s2, o, st' _ st, r⟩
theorem W.callSv {idx mx : Nat} {z : MethodName} {bytes : ByteArray} {rt : Option FieldType} {rm : Room} {argsL : List Value} {S0 : List Value} {ps : List FieldType} {rr : Option FieldType} {q : Value → OS → Prop} (K : Ctx X l Z R y code maxL ret) (pc' : Nat) (hd : decode code pc = .ok (.invokestatic idx, 3)) (w1 : (Jvm.Cond.methodLink y.cls idx z).before a0 Z = true) (w2 : (Jvm.Cond.static z).before a0 Z = true) (w3 : (Jvm.Cond.initialized z.cls).before a0 Z = true) (w4 : (Jvm.Cond.code z bytes mx rt).before a0 Z = true)
    (hsig : parseMethodDescriptor z.desc = some ⟨ps, rr⟩) (hM : OMeets l Z z bytes mx rt rm argsL os (RetV q)) (k : ∀ v os', q v os' → WP X Z rc rs Q pc' L (v :: S) os' (ce + rm.cells) (sl + rm.slots)) (hst : S0 = argsL.reverse ++ S := by rfl) (hlen : argsL.length = ps.length := by rfl) (hsz : L.length = maxL := by rfl) (hf : rm.frames + 1 ≤ R.frames := by decide) (hl : (S.map fun v => v.category).sum + (mx + 11) + rm.locals ≤ R.locals := by exact Nat.le_of_ble_eq_true rfl)
    (hc : ce + rm.cells ≤ R.cells := by decide) (hs : sl + rm.slots ≤ R.slots := by decide) (hy : z.cls ≠ "java/lang/invoke/MethodHandle" ∧ z.cls ≠ "java/lang/invoke/VarHandle" := by decide) (hp : pc + 3 = pc' := by rfl) : WP X Z rc rs Q pc L S0 os ce sl :=
  W.callS K pc' hd w1 w2 w3 w4 hsig hM (fun v os' hq => by obtain ⟨x, rfl, hq⟩ := hq; exact k x os' hq) hst hlen hsz hf hl hc hs hy hp
theorem W.callSn {idx mx : Nat} {z : MethodName} {bytes : ByteArray} {rt : Option FieldType} {rm : Room} {argsL : List Value} {S0 : List Value} {ps : List FieldType} {rr : Option FieldType} {q : OS → Prop} (K : Ctx X l Z R y code maxL ret) (pc' : Nat) (hd : decode code pc = .ok (.invokestatic idx, 3)) (w1 : (Jvm.Cond.methodLink y.cls idx z).before a0 Z = true) (w2 : (Jvm.Cond.static z).before a0 Z = true) (w3 : (Jvm.Cond.initialized z.cls).before a0 Z = true) (w4 : (Jvm.Cond.code z bytes mx rt).before a0 Z = true)
    (hsig : parseMethodDescriptor z.desc = some ⟨ps, rr⟩) (hM : OMeets l Z z bytes mx rt rm argsL os (RetN q)) (k : ∀ os', q os' → WP X Z rc rs Q pc' L S os' (ce + rm.cells) (sl + rm.slots)) (hst : S0 = argsL.reverse ++ S := by rfl) (hlen : argsL.length = ps.length := by rfl) (hsz : L.length = maxL := by rfl) (hf : rm.frames + 1 ≤ R.frames := by decide) (hl : (S.map fun v => v.category).sum + (mx + 11) + rm.locals ≤ R.locals := by exact Nat.le_of_ble_eq_true rfl)
    (hc : ce + rm.cells ≤ R.cells := by decide) (hs : sl + rm.slots ≤ R.slots := by decide) (hy : z.cls ≠ "java/lang/invoke/MethodHandle" ∧ z.cls ≠ "java/lang/invoke/VarHandle" := by decide) (hp : pc + 3 = pc' := by rfl) : WP X Z rc rs Q pc L S0 os ce sl :=
  W.callS K pc' hd w1 w2 w3 w4 hsig hM (fun v os' hq => by obtain ⟨rfl, hq⟩ := hq; exact k os' hq) hst hlen hsz hf hl hc hs hy hp
theorem W.callI {idx mx : Nat} {z : MethodName} {bytes : ByteArray}  {rm : Room} {argsL : List Value} {S0 : List Value} {ps : List FieldType} {rr : Option FieldType} {b : Addr} {Q' : Option Value → OS → Prop} (K : Ctx X l Z R y code maxL ret) (pc' : Nat) (hd : decode code pc = .ok (.invokespecial idx, 3)) (w1 : (Jvm.Cond.methodLink y.cls idx z).before a0 Z = true) (w2 : (Jvm.Cond.instanceMethod z).before a0 Z = true) (w3 : (Jvm.Cond.initialized z.cls).before a0 Z = true) (w4 : (Jvm.Cond.code z bytes mx none).before a0 Z = true)
    (hsig : parseMethodDescriptor z.desc = some ⟨ps, rr⟩) (hM : OMeets l Z z bytes mx none rm (.ref b :: argsL) os Q') (k : ∀ v os', Q' v os' → WP X Z rc rs Q pc' L (v.toList ++ S) os' (ce + rm.cells) (sl + rm.slots)) (hz1 : z.name = "<init>" := by rfl) (hst : S0 = argsL.reverse ++ .ref b :: S := by rfl) (hlen : argsL.length = ps.length := by rfl) (hsz : L.length = maxL := by rfl) (hf : rm.frames + 1 ≤ R.frames := by decide) (hl : (S.map fun v => v.category).sum + (mx + 11) + rm.locals ≤ R.locals := by exact Nat.le_of_ble_eq_true rfl)
    (hc : ce + rm.cells ≤ R.cells := by decide) (hs : sl + rm.slots ≤ R.slots := by decide) (hy : z.cls ≠ "java/lang/invoke/MethodHandle" ∧ z.cls ≠ "java/lang/invoke/VarHandle" := by decide) (hp : pc + 3 = pc' := by rfl) : WP X Z rc rs Q pc L S0 os ce sl := by
  obtain ⟨p, l', e, R', s, m, args, below, meth, c⟩ := X
  obtain ⟨rfl, h2, hx, hZ, hby, hml, hown, hnm, hret, hlk⟩ := K
  have h2' : R' = R := h2
  subst h2'
  subst hp
  intro T locs hT0 hH hF
  have hT : Stand p l' e R' s m args below meth c T locs ce sl := hT0
  obtain ⟨v, vm1, ⟨T', L', k', n'⟩, -, X', ⟨Lc, ⟨os1, hQ1, hH1, hF1⟩, e1, e2, e3⟩, st'⟩ := Stand.specialBack hT hx (y := z) hz1 hown (mvT hZ w1) (mvT hZ w2) (mvT hZ w4) hy (backOf (W := (S.map fun v => v.category).sum) (Q := fun v h L => ∃ os', Q' v os' ∧ Hp Z h os' ∧ Fr Z.heap.size L) (hM _ hH []) hZ w4 w3 (hf) (hl)) (g := mkF m pc L.toArray S0) rfl (by rw [hml]; simpa using hsz) (Steps.refl _) (a := b) (argsL := argsL) (rest := S) (lenOf hsig hlen) hst (by show 2 * 0 + _ ≤ _; omega) (hb hby hd) (fun _ _ => ⟨rfl, rfl, hc, hs⟩)
  dsimp only [Pt.U, Pt.locs, Pt.cells, Pt.slots] at X' e1 e2 e3 st' hH1
  subst e1 e2 e3
  obtain ⟨s2, o, st, r⟩ := k v os1 hQ1 T' _ X' hH1 (Fr.app hF hF1)
  exact ⟨s2, o, st'.trans st, r⟩
theorem W.callIn {idx mx : Nat} {z : MethodName} {bytes : ByteArray}  {rm : Room} {argsL : List Value} {S0 : List Value} {ps : List FieldType} {rr : Option FieldType} {b : Addr} {q : OS → Prop} (K : Ctx X l Z R y code maxL ret) (pc' : Nat) (hd : decode code pc = .ok (.invokespecial idx, 3)) (w1 : (Jvm.Cond.methodLink y.cls idx z).before a0 Z = true) (w2 : (Jvm.Cond.instanceMethod z).before a0 Z = true) (w3 : (Jvm.Cond.initialized z.cls).before a0 Z = true) (w4 : (Jvm.Cond.code z bytes mx none).before a0 Z = true)
    (hsig : parseMethodDescriptor z.desc = some ⟨ps, rr⟩) (hM : OMeets l Z z bytes mx none rm (.ref b :: argsL) os (RetN q)) (k : ∀ os', q os' → WP X Z rc rs Q pc' L S os' (ce + rm.cells) (sl + rm.slots)) (hz1 : z.name = "<init>" := by rfl) (hst : S0 = argsL.reverse ++ .ref b :: S := by rfl) (hlen : argsL.length = ps.length := by rfl) (hsz : L.length = maxL := by rfl) (hf : rm.frames + 1 ≤ R.frames := by decide) (hl : (S.map fun v => v.category).sum + (mx + 11) + rm.locals ≤ R.locals := by exact Nat.le_of_ble_eq_true rfl)
    (hc : ce + rm.cells ≤ R.cells := by decide) (hs : sl + rm.slots ≤ R.slots := by decide) (hy : z.cls ≠ "java/lang/invoke/MethodHandle" ∧ z.cls ≠ "java/lang/invoke/VarHandle" := by decide) (hp : pc + 3 = pc' := by rfl) : WP X Z rc rs Q pc L S0 os ce sl :=
  W.callI K pc' hd w1 w2 w3 w4 hsig hM (fun v os' hq => by obtain ⟨rfl, hq⟩ := hq; exact k os' hq) hz1 hst hlen hsz hf hl hc hs hy hp
theorem W.callV {idx mx : Nat} {z : MethodName} {bytes : ByteArray} {rt : Option FieldType} {C : String} {rm : Room} {argsL : List Value} {S0 : List Value} {ps : List FieldType} {rr : Option FieldType} {b : Addr} {Q' : Option Value → OS → Prop} (K : Ctx X l Z R y code maxL ret) (pc' : Nat) (hd : decode code pc = .ok (.invokevirtual idx, 3)) (w1 : (Jvm.Cond.methodLink y.cls idx z).before a0 Z = true) (w2 : (Jvm.Cond.declares z).before a0 Z = true) (w5 : (Jvm.Cond.selects C z z).before a0 Z = true) (w6 : (Jvm.Cond.instanceMethod z).before a0 Z = true) (w3 : (Jvm.Cond.initialized z.cls).before a0 Z = true) (w4 : (Jvm.Cond.code z bytes mx rt).before a0 Z = true)
    (hsig : parseMethodDescriptor z.desc = some ⟨ps, rr⟩) (hrc : ∀ h, Hp Z h os → Exa Z h b C) (hM : OMeets l Z z bytes mx rt rm (.ref b :: argsL) os Q') (k : ∀ v os', Q' v os' → WP X Z rc rs Q pc' L (v.toList ++ S) os' (ce + rm.cells) (sl + rm.slots)) (hst : S0 = argsL.reverse ++ .ref b :: S := by rfl) (hlen : argsL.length = ps.length := by rfl) (hsz : L.length = maxL := by rfl) (hf : rm.frames + 1 ≤ R.frames := by decide) (hl : (S.map fun v => v.category).sum + (mx + 11) + rm.locals ≤ R.locals := by exact Nat.le_of_ble_eq_true rfl)
    (hc : ce + rm.cells ≤ R.cells := by decide) (hs : sl + rm.slots ≤ R.slots := by decide) (hy : z.cls ≠ "java/lang/invoke/MethodHandle" ∧ z.cls ≠ "java/lang/invoke/VarHandle" := by decide) (hp : pc + 3 = pc' := by rfl) : WP X Z rc rs Q pc L S0 os ce sl := by
  obtain ⟨p, l', e, R', s, m, args, below, meth, c⟩ := X
  obtain ⟨rfl, h2, hx, hZ, hby, hml, hown, hnm, hret, hlk⟩ := K
  have h2' : R' = R := h2
  subst h2'
  subst hp
  intro T locs hT0 hH hF
  have hT : Stand p l' e R' s m args below meth c T locs ce sl := hT0
  obtain ⟨cq7, kq7, q7a, q7b, q7c⟩ := isOf (T := T) hZ rfl (hrc T.heap hH)
  obtain ⟨v, vm1, ⟨T', L', k', n'⟩, -, X', ⟨Lc, ⟨os1, hQ1, hH1, hF1⟩, e1, e2, e3⟩, st'⟩ := Stand.virtualBack hT hx (y := z) (z := z) hown (mvT hZ w1) (mvT hZ w2) (notFace_of_selects (args := #[]) (mvT hZ w5)) (mvT hZ w5) (mvT hZ w6) hy (backOf (W := (S.map fun v => v.category).sum) (Q := fun v h L => ∃ os', Q' v os' ∧ Hp Z h os' ∧ Fr Z.heap.size L) (hM _ hH []) hZ w4 w3 (hf) (hl)) q7a q7c (g := mkF m pc L.toArray S0) rfl (by rw [hml]; simpa using hsz) (Steps.refl _) (argsL := argsL) (rest := S) (lenOf hsig hlen) hst (by show 2 * 0 + _ ≤ _; omega) (hb hby hd) (fun _ _ => ⟨rfl, rfl, hc, hs⟩)
  dsimp only [Pt.U, Pt.locs, Pt.cells, Pt.slots] at X' e1 e2 e3 st' hH1
  subst e1 e2 e3
  obtain ⟨s2, o, st, r⟩ := k v os1 hQ1 T' _ X' hH1 (Fr.app hF hF1)
  exact ⟨s2, o, st'.trans st, r⟩
theorem W.callVv {idx mx : Nat} {z : MethodName} {bytes : ByteArray} {rt : Option FieldType} {C : String} {rm : Room} {argsL : List Value} {S0 : List Value} {ps : List FieldType} {rr : Option FieldType} {b : Addr} {q : Value → OS → Prop} (K : Ctx X l Z R y code maxL ret) (pc' : Nat) (hd : decode code pc = .ok (.invokevirtual idx, 3)) (w1 : (Jvm.Cond.methodLink y.cls idx z).before a0 Z = true) (w2 : (Jvm.Cond.declares z).before a0 Z = true) (w5 : (Jvm.Cond.selects C z z).before a0 Z = true) (w6 : (Jvm.Cond.instanceMethod z).before a0 Z = true) (w3 : (Jvm.Cond.initialized z.cls).before a0 Z = true) (w4 : (Jvm.Cond.code z bytes mx rt).before a0 Z = true)
    (hsig : parseMethodDescriptor z.desc = some ⟨ps, rr⟩) (hrc : ∀ h, Hp Z h os → Exa Z h b C) (hM : OMeets l Z z bytes mx rt rm (.ref b :: argsL) os (RetV q)) (k : ∀ v os', q v os' → WP X Z rc rs Q pc' L (v :: S) os' (ce + rm.cells) (sl + rm.slots)) (hst : S0 = argsL.reverse ++ .ref b :: S := by rfl) (hlen : argsL.length = ps.length := by rfl) (hsz : L.length = maxL := by rfl) (hf : rm.frames + 1 ≤ R.frames := by decide) (hl : (S.map fun v => v.category).sum + (mx + 11) + rm.locals ≤ R.locals := by exact Nat.le_of_ble_eq_true rfl)
    (hc : ce + rm.cells ≤ R.cells := by decide) (hs : sl + rm.slots ≤ R.slots := by decide) (hy : z.cls ≠ "java/lang/invoke/MethodHandle" ∧ z.cls ≠ "java/lang/invoke/VarHandle" := by decide) (hp : pc + 3 = pc' := by rfl) : WP X Z rc rs Q pc L S0 os ce sl :=
  W.callV K pc' hd w1 w2 w5 w6 w3 w4 hsig hrc hM (fun v os' hq => by obtain ⟨x, rfl, hq⟩ := hq; exact k x os' hq) hst hlen hsz hf hl hc hs hy hp
theorem W.callVn {idx mx : Nat} {z : MethodName} {bytes : ByteArray} {rt : Option FieldType} {C : String} {rm : Room} {argsL : List Value} {S0 : List Value} {ps : List FieldType} {rr : Option FieldType} {b : Addr} {q : OS → Prop} (K : Ctx X l Z R y code maxL ret) (pc' : Nat) (hd : decode code pc = .ok (.invokevirtual idx, 3)) (w1 : (Jvm.Cond.methodLink y.cls idx z).before a0 Z = true) (w2 : (Jvm.Cond.declares z).before a0 Z = true) (w5 : (Jvm.Cond.selects C z z).before a0 Z = true) (w6 : (Jvm.Cond.instanceMethod z).before a0 Z = true) (w3 : (Jvm.Cond.initialized z.cls).before a0 Z = true) (w4 : (Jvm.Cond.code z bytes mx rt).before a0 Z = true)
    (hsig : parseMethodDescriptor z.desc = some ⟨ps, rr⟩) (hrc : ∀ h, Hp Z h os → Exa Z h b C) (hM : OMeets l Z z bytes mx rt rm (.ref b :: argsL) os (RetN q)) (k : ∀ os', q os' → WP X Z rc rs Q pc' L S os' (ce + rm.cells) (sl + rm.slots)) (hst : S0 = argsL.reverse ++ .ref b :: S := by rfl) (hlen : argsL.length = ps.length := by rfl) (hsz : L.length = maxL := by rfl) (hf : rm.frames + 1 ≤ R.frames := by decide) (hl : (S.map fun v => v.category).sum + (mx + 11) + rm.locals ≤ R.locals := by exact Nat.le_of_ble_eq_true rfl)
    (hc : ce + rm.cells ≤ R.cells := by decide) (hs : sl + rm.slots ≤ R.slots := by decide) (hy : z.cls ≠ "java/lang/invoke/MethodHandle" ∧ z.cls ≠ "java/lang/invoke/VarHandle" := by decide) (hp : pc + 3 = pc' := by rfl) : WP X Z rc rs Q pc L S0 os ce sl :=
  W.callV K pc' hd w1 w2 w5 w6 w3 w4 hsig hrc hM (fun v os' hq => by obtain ⟨rfl, hq⟩ := hq; exact k os' hq) hst hlen hsz hf hl hc hs hy hp
theorem W.callSv0 {idx mx : Nat} {z : MethodName} {bytes : ByteArray} {rt : Option FieldType} {rm : Room} {ps : List FieldType} {rr : Option FieldType} {q : Value → OS → Prop} (K : Ctx X l Z R y code maxL ret) (pc' : Nat) (hd : decode code pc = .ok (.invokestatic idx, 3)) (w1 : (Jvm.Cond.methodLink y.cls idx z).before a0 Z = true) (w2 : (Jvm.Cond.static z).before a0 Z = true) (w3 : (Jvm.Cond.initialized z.cls).before a0 Z = true) (w4 : (Jvm.Cond.code z bytes mx rt).before a0 Z = true)
    (hsig : parseMethodDescriptor z.desc = some ⟨ps, rr⟩) (hM : OMeets l Z z bytes mx rt rm [] os (RetV q)) (k : ∀ v os', q v os' → WP X Z rc rs Q pc' L (v :: S) os' (ce + rm.cells) (sl + rm.slots)) (hlen : ([] : List Value).length = ps.length := by rfl) (hsz : L.length = maxL := by rfl) (hf : rm.frames + 1 ≤ R.frames := by decide) (hl : (S.map fun v => v.category).sum + (mx + 11) + rm.locals ≤ R.locals := by exact Nat.le_of_ble_eq_true rfl)
    (hc : ce + rm.cells ≤ R.cells := by decide) (hs : sl + rm.slots ≤ R.slots := by decide) (hy : z.cls ≠ "java/lang/invoke/MethodHandle" ∧ z.cls ≠ "java/lang/invoke/VarHandle" := by decide) (hp : pc + 3 = pc' := by rfl) : WP X Z rc rs Q pc L (S) os ce sl :=
  W.callSv (argsL := []) (S := S) K pc' hd w1 w2 w3 w4 hsig hM k rfl hlen hsz hf hl hc hs hy hp
theorem W.callSv1 {idx mx : Nat} {z : MethodName} {bytes : ByteArray} {rt : Option FieldType} {rm : Room} {ps : List FieldType} {rr : Option FieldType} {x1 : Value} {q : Value → OS → Prop} (K : Ctx X l Z R y code maxL ret) (pc' : Nat) (hd : decode code pc = .ok (.invokestatic idx, 3)) (w1 : (Jvm.Cond.methodLink y.cls idx z).before a0 Z = true) (w2 : (Jvm.Cond.static z).before a0 Z = true) (w3 : (Jvm.Cond.initialized z.cls).before a0 Z = true) (w4 : (Jvm.Cond.code z bytes mx rt).before a0 Z = true)
    (hsig : parseMethodDescriptor z.desc = some ⟨ps, rr⟩) (hM : OMeets l Z z bytes mx rt rm [x1] os (RetV q)) (k : ∀ v os', q v os' → WP X Z rc rs Q pc' L (v :: S) os' (ce + rm.cells) (sl + rm.slots)) (hlen : ([x1] : List Value).length = ps.length := by rfl) (hsz : L.length = maxL := by rfl) (hf : rm.frames + 1 ≤ R.frames := by decide) (hl : (S.map fun v => v.category).sum + (mx + 11) + rm.locals ≤ R.locals := by exact Nat.le_of_ble_eq_true rfl)
    (hc : ce + rm.cells ≤ R.cells := by decide) (hs : sl + rm.slots ≤ R.slots := by decide) (hy : z.cls ≠ "java/lang/invoke/MethodHandle" ∧ z.cls ≠ "java/lang/invoke/VarHandle" := by decide) (hp : pc + 3 = pc' := by rfl) : WP X Z rc rs Q pc L (x1 :: S) os ce sl :=
  W.callSv (argsL := [x1]) (S := S) K pc' hd w1 w2 w3 w4 hsig hM k rfl hlen hsz hf hl hc hs hy hp
theorem W.callSv2 {idx mx : Nat} {z : MethodName} {bytes : ByteArray} {rt : Option FieldType} {rm : Room} {ps : List FieldType} {rr : Option FieldType} {x1 x2 : Value} {q : Value → OS → Prop} (K : Ctx X l Z R y code maxL ret) (pc' : Nat) (hd : decode code pc = .ok (.invokestatic idx, 3)) (w1 : (Jvm.Cond.methodLink y.cls idx z).before a0 Z = true) (w2 : (Jvm.Cond.static z).before a0 Z = true) (w3 : (Jvm.Cond.initialized z.cls).before a0 Z = true) (w4 : (Jvm.Cond.code z bytes mx rt).before a0 Z = true)
    (hsig : parseMethodDescriptor z.desc = some ⟨ps, rr⟩) (hM : OMeets l Z z bytes mx rt rm [x1, x2] os (RetV q)) (k : ∀ v os', q v os' → WP X Z rc rs Q pc' L (v :: S) os' (ce + rm.cells) (sl + rm.slots)) (hlen : ([x1, x2] : List Value).length = ps.length := by rfl) (hsz : L.length = maxL := by rfl) (hf : rm.frames + 1 ≤ R.frames := by decide) (hl : (S.map fun v => v.category).sum + (mx + 11) + rm.locals ≤ R.locals := by exact Nat.le_of_ble_eq_true rfl)
    (hc : ce + rm.cells ≤ R.cells := by decide) (hs : sl + rm.slots ≤ R.slots := by decide) (hy : z.cls ≠ "java/lang/invoke/MethodHandle" ∧ z.cls ≠ "java/lang/invoke/VarHandle" := by decide) (hp : pc + 3 = pc' := by rfl) : WP X Z rc rs Q pc L (x2 :: x1 :: S) os ce sl :=
  W.callSv (argsL := [x1, x2]) (S := S) K pc' hd w1 w2 w3 w4 hsig hM k rfl hlen hsz hf hl hc hs hy hp
theorem W.callSv3 {idx mx : Nat} {z : MethodName} {bytes : ByteArray} {rt : Option FieldType} {rm : Room} {ps : List FieldType} {rr : Option FieldType} {x1 x2 x3 : Value} {q : Value → OS → Prop} (K : Ctx X l Z R y code maxL ret) (pc' : Nat) (hd : decode code pc = .ok (.invokestatic idx, 3)) (w1 : (Jvm.Cond.methodLink y.cls idx z).before a0 Z = true) (w2 : (Jvm.Cond.static z).before a0 Z = true) (w3 : (Jvm.Cond.initialized z.cls).before a0 Z = true) (w4 : (Jvm.Cond.code z bytes mx rt).before a0 Z = true)
    (hsig : parseMethodDescriptor z.desc = some ⟨ps, rr⟩) (hM : OMeets l Z z bytes mx rt rm [x1, x2, x3] os (RetV q)) (k : ∀ v os', q v os' → WP X Z rc rs Q pc' L (v :: S) os' (ce + rm.cells) (sl + rm.slots)) (hlen : ([x1, x2, x3] : List Value).length = ps.length := by rfl) (hsz : L.length = maxL := by rfl) (hf : rm.frames + 1 ≤ R.frames := by decide) (hl : (S.map fun v => v.category).sum + (mx + 11) + rm.locals ≤ R.locals := by exact Nat.le_of_ble_eq_true rfl)
    (hc : ce + rm.cells ≤ R.cells := by decide) (hs : sl + rm.slots ≤ R.slots := by decide) (hy : z.cls ≠ "java/lang/invoke/MethodHandle" ∧ z.cls ≠ "java/lang/invoke/VarHandle" := by decide) (hp : pc + 3 = pc' := by rfl) : WP X Z rc rs Q pc L (x3 :: x2 :: x1 :: S) os ce sl :=
  W.callSv (argsL := [x1, x2, x3]) (S := S) K pc' hd w1 w2 w3 w4 hsig hM k rfl hlen hsz hf hl hc hs hy hp
theorem W.callSv4 {idx mx : Nat} {z : MethodName} {bytes : ByteArray} {rt : Option FieldType} {rm : Room} {ps : List FieldType} {rr : Option FieldType} {x1 x2 x3 x4 : Value} {q : Value → OS → Prop} (K : Ctx X l Z R y code maxL ret) (pc' : Nat) (hd : decode code pc = .ok (.invokestatic idx, 3)) (w1 : (Jvm.Cond.methodLink y.cls idx z).before a0 Z = true) (w2 : (Jvm.Cond.static z).before a0 Z = true) (w3 : (Jvm.Cond.initialized z.cls).before a0 Z = true) (w4 : (Jvm.Cond.code z bytes mx rt).before a0 Z = true)
    (hsig : parseMethodDescriptor z.desc = some ⟨ps, rr⟩) (hM : OMeets l Z z bytes mx rt rm [x1, x2, x3, x4] os (RetV q)) (k : ∀ v os', q v os' → WP X Z rc rs Q pc' L (v :: S) os' (ce + rm.cells) (sl + rm.slots)) (hlen : ([x1, x2, x3, x4] : List Value).length = ps.length := by rfl) (hsz : L.length = maxL := by rfl) (hf : rm.frames + 1 ≤ R.frames := by decide) (hl : (S.map fun v => v.category).sum + (mx + 11) + rm.locals ≤ R.locals := by exact Nat.le_of_ble_eq_true rfl)
    (hc : ce + rm.cells ≤ R.cells := by decide) (hs : sl + rm.slots ≤ R.slots := by decide) (hy : z.cls ≠ "java/lang/invoke/MethodHandle" ∧ z.cls ≠ "java/lang/invoke/VarHandle" := by decide) (hp : pc + 3 = pc' := by rfl) : WP X Z rc rs Q pc L (x4 :: x3 :: x2 :: x1 :: S) os ce sl :=
  W.callSv (argsL := [x1, x2, x3, x4]) (S := S) K pc' hd w1 w2 w3 w4 hsig hM k rfl hlen hsz hf hl hc hs hy hp
theorem W.callSv5 {idx mx : Nat} {z : MethodName} {bytes : ByteArray} {rt : Option FieldType} {rm : Room} {ps : List FieldType} {rr : Option FieldType} {x1 x2 x3 x4 x5 : Value} {q : Value → OS → Prop} (K : Ctx X l Z R y code maxL ret) (pc' : Nat) (hd : decode code pc = .ok (.invokestatic idx, 3)) (w1 : (Jvm.Cond.methodLink y.cls idx z).before a0 Z = true) (w2 : (Jvm.Cond.static z).before a0 Z = true) (w3 : (Jvm.Cond.initialized z.cls).before a0 Z = true) (w4 : (Jvm.Cond.code z bytes mx rt).before a0 Z = true)
    (hsig : parseMethodDescriptor z.desc = some ⟨ps, rr⟩) (hM : OMeets l Z z bytes mx rt rm [x1, x2, x3, x4, x5] os (RetV q)) (k : ∀ v os', q v os' → WP X Z rc rs Q pc' L (v :: S) os' (ce + rm.cells) (sl + rm.slots)) (hlen : ([x1, x2, x3, x4, x5] : List Value).length = ps.length := by rfl) (hsz : L.length = maxL := by rfl) (hf : rm.frames + 1 ≤ R.frames := by decide) (hl : (S.map fun v => v.category).sum + (mx + 11) + rm.locals ≤ R.locals := by exact Nat.le_of_ble_eq_true rfl)
    (hc : ce + rm.cells ≤ R.cells := by decide) (hs : sl + rm.slots ≤ R.slots := by decide) (hy : z.cls ≠ "java/lang/invoke/MethodHandle" ∧ z.cls ≠ "java/lang/invoke/VarHandle" := by decide) (hp : pc + 3 = pc' := by rfl) : WP X Z rc rs Q pc L (x5 :: x4 :: x3 :: x2 :: x1 :: S) os ce sl :=
  W.callSv (argsL := [x1, x2, x3, x4, x5]) (S := S) K pc' hd w1 w2 w3 w4 hsig hM k rfl hlen hsz hf hl hc hs hy hp
theorem W.callSv6 {idx mx : Nat} {z : MethodName} {bytes : ByteArray} {rt : Option FieldType} {rm : Room} {ps : List FieldType} {rr : Option FieldType} {x1 x2 x3 x4 x5 x6 : Value} {q : Value → OS → Prop} (K : Ctx X l Z R y code maxL ret) (pc' : Nat) (hd : decode code pc = .ok (.invokestatic idx, 3)) (w1 : (Jvm.Cond.methodLink y.cls idx z).before a0 Z = true) (w2 : (Jvm.Cond.static z).before a0 Z = true) (w3 : (Jvm.Cond.initialized z.cls).before a0 Z = true) (w4 : (Jvm.Cond.code z bytes mx rt).before a0 Z = true)
    (hsig : parseMethodDescriptor z.desc = some ⟨ps, rr⟩) (hM : OMeets l Z z bytes mx rt rm [x1, x2, x3, x4, x5, x6] os (RetV q)) (k : ∀ v os', q v os' → WP X Z rc rs Q pc' L (v :: S) os' (ce + rm.cells) (sl + rm.slots)) (hlen : ([x1, x2, x3, x4, x5, x6] : List Value).length = ps.length := by rfl) (hsz : L.length = maxL := by rfl) (hf : rm.frames + 1 ≤ R.frames := by decide) (hl : (S.map fun v => v.category).sum + (mx + 11) + rm.locals ≤ R.locals := by exact Nat.le_of_ble_eq_true rfl)
    (hc : ce + rm.cells ≤ R.cells := by decide) (hs : sl + rm.slots ≤ R.slots := by decide) (hy : z.cls ≠ "java/lang/invoke/MethodHandle" ∧ z.cls ≠ "java/lang/invoke/VarHandle" := by decide) (hp : pc + 3 = pc' := by rfl) : WP X Z rc rs Q pc L (x6 :: x5 :: x4 :: x3 :: x2 :: x1 :: S) os ce sl :=
  W.callSv (argsL := [x1, x2, x3, x4, x5, x6]) (S := S) K pc' hd w1 w2 w3 w4 hsig hM k rfl hlen hsz hf hl hc hs hy hp
theorem W.callSv7 {idx mx : Nat} {z : MethodName} {bytes : ByteArray} {rt : Option FieldType} {rm : Room} {ps : List FieldType} {rr : Option FieldType} {x1 x2 x3 x4 x5 x6 x7 : Value} {q : Value → OS → Prop} (K : Ctx X l Z R y code maxL ret) (pc' : Nat) (hd : decode code pc = .ok (.invokestatic idx, 3)) (w1 : (Jvm.Cond.methodLink y.cls idx z).before a0 Z = true) (w2 : (Jvm.Cond.static z).before a0 Z = true) (w3 : (Jvm.Cond.initialized z.cls).before a0 Z = true) (w4 : (Jvm.Cond.code z bytes mx rt).before a0 Z = true)
    (hsig : parseMethodDescriptor z.desc = some ⟨ps, rr⟩) (hM : OMeets l Z z bytes mx rt rm [x1, x2, x3, x4, x5, x6, x7] os (RetV q)) (k : ∀ v os', q v os' → WP X Z rc rs Q pc' L (v :: S) os' (ce + rm.cells) (sl + rm.slots)) (hlen : ([x1, x2, x3, x4, x5, x6, x7] : List Value).length = ps.length := by rfl) (hsz : L.length = maxL := by rfl) (hf : rm.frames + 1 ≤ R.frames := by decide) (hl : (S.map fun v => v.category).sum + (mx + 11) + rm.locals ≤ R.locals := by exact Nat.le_of_ble_eq_true rfl)
    (hc : ce + rm.cells ≤ R.cells := by decide) (hs : sl + rm.slots ≤ R.slots := by decide) (hy : z.cls ≠ "java/lang/invoke/MethodHandle" ∧ z.cls ≠ "java/lang/invoke/VarHandle" := by decide) (hp : pc + 3 = pc' := by rfl) : WP X Z rc rs Q pc L (x7 :: x6 :: x5 :: x4 :: x3 :: x2 :: x1 :: S) os ce sl :=
  W.callSv (argsL := [x1, x2, x3, x4, x5, x6, x7]) (S := S) K pc' hd w1 w2 w3 w4 hsig hM k rfl hlen hsz hf hl hc hs hy hp
theorem W.callSn0 {idx mx : Nat} {z : MethodName} {bytes : ByteArray} {rt : Option FieldType} {rm : Room} {ps : List FieldType} {rr : Option FieldType} {q : OS → Prop} (K : Ctx X l Z R y code maxL ret) (pc' : Nat) (hd : decode code pc = .ok (.invokestatic idx, 3)) (w1 : (Jvm.Cond.methodLink y.cls idx z).before a0 Z = true) (w2 : (Jvm.Cond.static z).before a0 Z = true) (w3 : (Jvm.Cond.initialized z.cls).before a0 Z = true) (w4 : (Jvm.Cond.code z bytes mx rt).before a0 Z = true)
    (hsig : parseMethodDescriptor z.desc = some ⟨ps, rr⟩) (hM : OMeets l Z z bytes mx rt rm [] os (RetN q)) (k : ∀ os', q os' → WP X Z rc rs Q pc' L S os' (ce + rm.cells) (sl + rm.slots)) (hlen : ([] : List Value).length = ps.length := by rfl) (hsz : L.length = maxL := by rfl) (hf : rm.frames + 1 ≤ R.frames := by decide) (hl : (S.map fun v => v.category).sum + (mx + 11) + rm.locals ≤ R.locals := by exact Nat.le_of_ble_eq_true rfl)
    (hc : ce + rm.cells ≤ R.cells := by decide) (hs : sl + rm.slots ≤ R.slots := by decide) (hy : z.cls ≠ "java/lang/invoke/MethodHandle" ∧ z.cls ≠ "java/lang/invoke/VarHandle" := by decide) (hp : pc + 3 = pc' := by rfl) : WP X Z rc rs Q pc L (S) os ce sl :=
  W.callSn (argsL := []) (S := S) K pc' hd w1 w2 w3 w4 hsig hM k rfl hlen hsz hf hl hc hs hy hp
theorem W.callSn1 {idx mx : Nat} {z : MethodName} {bytes : ByteArray} {rt : Option FieldType} {rm : Room} {ps : List FieldType} {rr : Option FieldType} {x1 : Value} {q : OS → Prop} (K : Ctx X l Z R y code maxL ret) (pc' : Nat) (hd : decode code pc = .ok (.invokestatic idx, 3)) (w1 : (Jvm.Cond.methodLink y.cls idx z).before a0 Z = true) (w2 : (Jvm.Cond.static z).before a0 Z = true) (w3 : (Jvm.Cond.initialized z.cls).before a0 Z = true) (w4 : (Jvm.Cond.code z bytes mx rt).before a0 Z = true)
    (hsig : parseMethodDescriptor z.desc = some ⟨ps, rr⟩) (hM : OMeets l Z z bytes mx rt rm [x1] os (RetN q)) (k : ∀ os', q os' → WP X Z rc rs Q pc' L S os' (ce + rm.cells) (sl + rm.slots)) (hlen : ([x1] : List Value).length = ps.length := by rfl) (hsz : L.length = maxL := by rfl) (hf : rm.frames + 1 ≤ R.frames := by decide) (hl : (S.map fun v => v.category).sum + (mx + 11) + rm.locals ≤ R.locals := by exact Nat.le_of_ble_eq_true rfl)
    (hc : ce + rm.cells ≤ R.cells := by decide) (hs : sl + rm.slots ≤ R.slots := by decide) (hy : z.cls ≠ "java/lang/invoke/MethodHandle" ∧ z.cls ≠ "java/lang/invoke/VarHandle" := by decide) (hp : pc + 3 = pc' := by rfl) : WP X Z rc rs Q pc L (x1 :: S) os ce sl :=
  W.callSn (argsL := [x1]) (S := S) K pc' hd w1 w2 w3 w4 hsig hM k rfl hlen hsz hf hl hc hs hy hp
theorem W.callSn2 {idx mx : Nat} {z : MethodName} {bytes : ByteArray} {rt : Option FieldType} {rm : Room} {ps : List FieldType} {rr : Option FieldType} {x1 x2 : Value} {q : OS → Prop} (K : Ctx X l Z R y code maxL ret) (pc' : Nat) (hd : decode code pc = .ok (.invokestatic idx, 3)) (w1 : (Jvm.Cond.methodLink y.cls idx z).before a0 Z = true) (w2 : (Jvm.Cond.static z).before a0 Z = true) (w3 : (Jvm.Cond.initialized z.cls).before a0 Z = true) (w4 : (Jvm.Cond.code z bytes mx rt).before a0 Z = true)
    (hsig : parseMethodDescriptor z.desc = some ⟨ps, rr⟩) (hM : OMeets l Z z bytes mx rt rm [x1, x2] os (RetN q)) (k : ∀ os', q os' → WP X Z rc rs Q pc' L S os' (ce + rm.cells) (sl + rm.slots)) (hlen : ([x1, x2] : List Value).length = ps.length := by rfl) (hsz : L.length = maxL := by rfl) (hf : rm.frames + 1 ≤ R.frames := by decide) (hl : (S.map fun v => v.category).sum + (mx + 11) + rm.locals ≤ R.locals := by exact Nat.le_of_ble_eq_true rfl)
    (hc : ce + rm.cells ≤ R.cells := by decide) (hs : sl + rm.slots ≤ R.slots := by decide) (hy : z.cls ≠ "java/lang/invoke/MethodHandle" ∧ z.cls ≠ "java/lang/invoke/VarHandle" := by decide) (hp : pc + 3 = pc' := by rfl) : WP X Z rc rs Q pc L (x2 :: x1 :: S) os ce sl :=
  W.callSn (argsL := [x1, x2]) (S := S) K pc' hd w1 w2 w3 w4 hsig hM k rfl hlen hsz hf hl hc hs hy hp
theorem W.callSn3 {idx mx : Nat} {z : MethodName} {bytes : ByteArray} {rt : Option FieldType} {rm : Room} {ps : List FieldType} {rr : Option FieldType} {x1 x2 x3 : Value} {q : OS → Prop} (K : Ctx X l Z R y code maxL ret) (pc' : Nat) (hd : decode code pc = .ok (.invokestatic idx, 3)) (w1 : (Jvm.Cond.methodLink y.cls idx z).before a0 Z = true) (w2 : (Jvm.Cond.static z).before a0 Z = true) (w3 : (Jvm.Cond.initialized z.cls).before a0 Z = true) (w4 : (Jvm.Cond.code z bytes mx rt).before a0 Z = true)
    (hsig : parseMethodDescriptor z.desc = some ⟨ps, rr⟩) (hM : OMeets l Z z bytes mx rt rm [x1, x2, x3] os (RetN q)) (k : ∀ os', q os' → WP X Z rc rs Q pc' L S os' (ce + rm.cells) (sl + rm.slots)) (hlen : ([x1, x2, x3] : List Value).length = ps.length := by rfl) (hsz : L.length = maxL := by rfl) (hf : rm.frames + 1 ≤ R.frames := by decide) (hl : (S.map fun v => v.category).sum + (mx + 11) + rm.locals ≤ R.locals := by exact Nat.le_of_ble_eq_true rfl)
    (hc : ce + rm.cells ≤ R.cells := by decide) (hs : sl + rm.slots ≤ R.slots := by decide) (hy : z.cls ≠ "java/lang/invoke/MethodHandle" ∧ z.cls ≠ "java/lang/invoke/VarHandle" := by decide) (hp : pc + 3 = pc' := by rfl) : WP X Z rc rs Q pc L (x3 :: x2 :: x1 :: S) os ce sl :=
  W.callSn (argsL := [x1, x2, x3]) (S := S) K pc' hd w1 w2 w3 w4 hsig hM k rfl hlen hsz hf hl hc hs hy hp
theorem W.callSn4 {idx mx : Nat} {z : MethodName} {bytes : ByteArray} {rt : Option FieldType} {rm : Room} {ps : List FieldType} {rr : Option FieldType} {x1 x2 x3 x4 : Value} {q : OS → Prop} (K : Ctx X l Z R y code maxL ret) (pc' : Nat) (hd : decode code pc = .ok (.invokestatic idx, 3)) (w1 : (Jvm.Cond.methodLink y.cls idx z).before a0 Z = true) (w2 : (Jvm.Cond.static z).before a0 Z = true) (w3 : (Jvm.Cond.initialized z.cls).before a0 Z = true) (w4 : (Jvm.Cond.code z bytes mx rt).before a0 Z = true)
    (hsig : parseMethodDescriptor z.desc = some ⟨ps, rr⟩) (hM : OMeets l Z z bytes mx rt rm [x1, x2, x3, x4] os (RetN q)) (k : ∀ os', q os' → WP X Z rc rs Q pc' L S os' (ce + rm.cells) (sl + rm.slots)) (hlen : ([x1, x2, x3, x4] : List Value).length = ps.length := by rfl) (hsz : L.length = maxL := by rfl) (hf : rm.frames + 1 ≤ R.frames := by decide) (hl : (S.map fun v => v.category).sum + (mx + 11) + rm.locals ≤ R.locals := by exact Nat.le_of_ble_eq_true rfl)
    (hc : ce + rm.cells ≤ R.cells := by decide) (hs : sl + rm.slots ≤ R.slots := by decide) (hy : z.cls ≠ "java/lang/invoke/MethodHandle" ∧ z.cls ≠ "java/lang/invoke/VarHandle" := by decide) (hp : pc + 3 = pc' := by rfl) : WP X Z rc rs Q pc L (x4 :: x3 :: x2 :: x1 :: S) os ce sl :=
  W.callSn (argsL := [x1, x2, x3, x4]) (S := S) K pc' hd w1 w2 w3 w4 hsig hM k rfl hlen hsz hf hl hc hs hy hp
theorem W.callSn5 {idx mx : Nat} {z : MethodName} {bytes : ByteArray} {rt : Option FieldType} {rm : Room} {ps : List FieldType} {rr : Option FieldType} {x1 x2 x3 x4 x5 : Value} {q : OS → Prop} (K : Ctx X l Z R y code maxL ret) (pc' : Nat) (hd : decode code pc = .ok (.invokestatic idx, 3)) (w1 : (Jvm.Cond.methodLink y.cls idx z).before a0 Z = true) (w2 : (Jvm.Cond.static z).before a0 Z = true) (w3 : (Jvm.Cond.initialized z.cls).before a0 Z = true) (w4 : (Jvm.Cond.code z bytes mx rt).before a0 Z = true)
    (hsig : parseMethodDescriptor z.desc = some ⟨ps, rr⟩) (hM : OMeets l Z z bytes mx rt rm [x1, x2, x3, x4, x5] os (RetN q)) (k : ∀ os', q os' → WP X Z rc rs Q pc' L S os' (ce + rm.cells) (sl + rm.slots)) (hlen : ([x1, x2, x3, x4, x5] : List Value).length = ps.length := by rfl) (hsz : L.length = maxL := by rfl) (hf : rm.frames + 1 ≤ R.frames := by decide) (hl : (S.map fun v => v.category).sum + (mx + 11) + rm.locals ≤ R.locals := by exact Nat.le_of_ble_eq_true rfl)
    (hc : ce + rm.cells ≤ R.cells := by decide) (hs : sl + rm.slots ≤ R.slots := by decide) (hy : z.cls ≠ "java/lang/invoke/MethodHandle" ∧ z.cls ≠ "java/lang/invoke/VarHandle" := by decide) (hp : pc + 3 = pc' := by rfl) : WP X Z rc rs Q pc L (x5 :: x4 :: x3 :: x2 :: x1 :: S) os ce sl :=
  W.callSn (argsL := [x1, x2, x3, x4, x5]) (S := S) K pc' hd w1 w2 w3 w4 hsig hM k rfl hlen hsz hf hl hc hs hy hp
theorem W.callSn6 {idx mx : Nat} {z : MethodName} {bytes : ByteArray} {rt : Option FieldType} {rm : Room} {ps : List FieldType} {rr : Option FieldType} {x1 x2 x3 x4 x5 x6 : Value} {q : OS → Prop} (K : Ctx X l Z R y code maxL ret) (pc' : Nat) (hd : decode code pc = .ok (.invokestatic idx, 3)) (w1 : (Jvm.Cond.methodLink y.cls idx z).before a0 Z = true) (w2 : (Jvm.Cond.static z).before a0 Z = true) (w3 : (Jvm.Cond.initialized z.cls).before a0 Z = true) (w4 : (Jvm.Cond.code z bytes mx rt).before a0 Z = true)
    (hsig : parseMethodDescriptor z.desc = some ⟨ps, rr⟩) (hM : OMeets l Z z bytes mx rt rm [x1, x2, x3, x4, x5, x6] os (RetN q)) (k : ∀ os', q os' → WP X Z rc rs Q pc' L S os' (ce + rm.cells) (sl + rm.slots)) (hlen : ([x1, x2, x3, x4, x5, x6] : List Value).length = ps.length := by rfl) (hsz : L.length = maxL := by rfl) (hf : rm.frames + 1 ≤ R.frames := by decide) (hl : (S.map fun v => v.category).sum + (mx + 11) + rm.locals ≤ R.locals := by exact Nat.le_of_ble_eq_true rfl)
    (hc : ce + rm.cells ≤ R.cells := by decide) (hs : sl + rm.slots ≤ R.slots := by decide) (hy : z.cls ≠ "java/lang/invoke/MethodHandle" ∧ z.cls ≠ "java/lang/invoke/VarHandle" := by decide) (hp : pc + 3 = pc' := by rfl) : WP X Z rc rs Q pc L (x6 :: x5 :: x4 :: x3 :: x2 :: x1 :: S) os ce sl :=
  W.callSn (argsL := [x1, x2, x3, x4, x5, x6]) (S := S) K pc' hd w1 w2 w3 w4 hsig hM k rfl hlen hsz hf hl hc hs hy hp
theorem W.callSn7 {idx mx : Nat} {z : MethodName} {bytes : ByteArray} {rt : Option FieldType} {rm : Room} {ps : List FieldType} {rr : Option FieldType} {x1 x2 x3 x4 x5 x6 x7 : Value} {q : OS → Prop} (K : Ctx X l Z R y code maxL ret) (pc' : Nat) (hd : decode code pc = .ok (.invokestatic idx, 3)) (w1 : (Jvm.Cond.methodLink y.cls idx z).before a0 Z = true) (w2 : (Jvm.Cond.static z).before a0 Z = true) (w3 : (Jvm.Cond.initialized z.cls).before a0 Z = true) (w4 : (Jvm.Cond.code z bytes mx rt).before a0 Z = true)
    (hsig : parseMethodDescriptor z.desc = some ⟨ps, rr⟩) (hM : OMeets l Z z bytes mx rt rm [x1, x2, x3, x4, x5, x6, x7] os (RetN q)) (k : ∀ os', q os' → WP X Z rc rs Q pc' L S os' (ce + rm.cells) (sl + rm.slots)) (hlen : ([x1, x2, x3, x4, x5, x6, x7] : List Value).length = ps.length := by rfl) (hsz : L.length = maxL := by rfl) (hf : rm.frames + 1 ≤ R.frames := by decide) (hl : (S.map fun v => v.category).sum + (mx + 11) + rm.locals ≤ R.locals := by exact Nat.le_of_ble_eq_true rfl)
    (hc : ce + rm.cells ≤ R.cells := by decide) (hs : sl + rm.slots ≤ R.slots := by decide) (hy : z.cls ≠ "java/lang/invoke/MethodHandle" ∧ z.cls ≠ "java/lang/invoke/VarHandle" := by decide) (hp : pc + 3 = pc' := by rfl) : WP X Z rc rs Q pc L (x7 :: x6 :: x5 :: x4 :: x3 :: x2 :: x1 :: S) os ce sl :=
  W.callSn (argsL := [x1, x2, x3, x4, x5, x6, x7]) (S := S) K pc' hd w1 w2 w3 w4 hsig hM k rfl hlen hsz hf hl hc hs hy hp
theorem W.callIn0 {idx mx : Nat} {z : MethodName} {bytes : ByteArray} {rm : Room} {ps : List FieldType} {rr : Option FieldType} {b : Addr} {q : OS → Prop} (K : Ctx X l Z R y code maxL ret) (pc' : Nat) (hd : decode code pc = .ok (.invokespecial idx, 3)) (w1 : (Jvm.Cond.methodLink y.cls idx z).before a0 Z = true) (w2 : (Jvm.Cond.instanceMethod z).before a0 Z = true) (w3 : (Jvm.Cond.initialized z.cls).before a0 Z = true) (w4 : (Jvm.Cond.code z bytes mx none).before a0 Z = true)
    (hsig : parseMethodDescriptor z.desc = some ⟨ps, rr⟩) (hM : OMeets l Z z bytes mx none rm [.ref b] os (RetN q)) (k : ∀ os', q os' → WP X Z rc rs Q pc' L S os' (ce + rm.cells) (sl + rm.slots)) (hz1 : z.name = "<init>" := by rfl) (hlen : ([] : List Value).length = ps.length := by rfl) (hsz : L.length = maxL := by rfl) (hf : rm.frames + 1 ≤ R.frames := by decide) (hl : (S.map fun v => v.category).sum + (mx + 11) + rm.locals ≤ R.locals := by exact Nat.le_of_ble_eq_true rfl)
    (hc : ce + rm.cells ≤ R.cells := by decide) (hs : sl + rm.slots ≤ R.slots := by decide) (hy : z.cls ≠ "java/lang/invoke/MethodHandle" ∧ z.cls ≠ "java/lang/invoke/VarHandle" := by decide) (hp : pc + 3 = pc' := by rfl) : WP X Z rc rs Q pc L (.ref b :: S) os ce sl :=
  W.callIn (argsL := []) (S := S) K pc' hd w1 w2 w3 w4 hsig hM k hz1 rfl hlen hsz hf hl hc hs hy hp
theorem W.callIn1 {idx mx : Nat} {z : MethodName} {bytes : ByteArray} {rm : Room} {ps : List FieldType} {rr : Option FieldType} {b : Addr} {x1 : Value} {q : OS → Prop} (K : Ctx X l Z R y code maxL ret) (pc' : Nat) (hd : decode code pc = .ok (.invokespecial idx, 3)) (w1 : (Jvm.Cond.methodLink y.cls idx z).before a0 Z = true) (w2 : (Jvm.Cond.instanceMethod z).before a0 Z = true) (w3 : (Jvm.Cond.initialized z.cls).before a0 Z = true) (w4 : (Jvm.Cond.code z bytes mx none).before a0 Z = true)
    (hsig : parseMethodDescriptor z.desc = some ⟨ps, rr⟩) (hM : OMeets l Z z bytes mx none rm [.ref b, x1] os (RetN q)) (k : ∀ os', q os' → WP X Z rc rs Q pc' L S os' (ce + rm.cells) (sl + rm.slots)) (hz1 : z.name = "<init>" := by rfl) (hlen : ([x1] : List Value).length = ps.length := by rfl) (hsz : L.length = maxL := by rfl) (hf : rm.frames + 1 ≤ R.frames := by decide) (hl : (S.map fun v => v.category).sum + (mx + 11) + rm.locals ≤ R.locals := by exact Nat.le_of_ble_eq_true rfl)
    (hc : ce + rm.cells ≤ R.cells := by decide) (hs : sl + rm.slots ≤ R.slots := by decide) (hy : z.cls ≠ "java/lang/invoke/MethodHandle" ∧ z.cls ≠ "java/lang/invoke/VarHandle" := by decide) (hp : pc + 3 = pc' := by rfl) : WP X Z rc rs Q pc L (x1 :: .ref b :: S) os ce sl :=
  W.callIn (argsL := [x1]) (S := S) K pc' hd w1 w2 w3 w4 hsig hM k hz1 rfl hlen hsz hf hl hc hs hy hp
theorem W.callIn2 {idx mx : Nat} {z : MethodName} {bytes : ByteArray} {rm : Room} {ps : List FieldType} {rr : Option FieldType} {b : Addr} {x1 x2 : Value} {q : OS → Prop} (K : Ctx X l Z R y code maxL ret) (pc' : Nat) (hd : decode code pc = .ok (.invokespecial idx, 3)) (w1 : (Jvm.Cond.methodLink y.cls idx z).before a0 Z = true) (w2 : (Jvm.Cond.instanceMethod z).before a0 Z = true) (w3 : (Jvm.Cond.initialized z.cls).before a0 Z = true) (w4 : (Jvm.Cond.code z bytes mx none).before a0 Z = true)
    (hsig : parseMethodDescriptor z.desc = some ⟨ps, rr⟩) (hM : OMeets l Z z bytes mx none rm [.ref b, x1, x2] os (RetN q)) (k : ∀ os', q os' → WP X Z rc rs Q pc' L S os' (ce + rm.cells) (sl + rm.slots)) (hz1 : z.name = "<init>" := by rfl) (hlen : ([x1, x2] : List Value).length = ps.length := by rfl) (hsz : L.length = maxL := by rfl) (hf : rm.frames + 1 ≤ R.frames := by decide) (hl : (S.map fun v => v.category).sum + (mx + 11) + rm.locals ≤ R.locals := by exact Nat.le_of_ble_eq_true rfl)
    (hc : ce + rm.cells ≤ R.cells := by decide) (hs : sl + rm.slots ≤ R.slots := by decide) (hy : z.cls ≠ "java/lang/invoke/MethodHandle" ∧ z.cls ≠ "java/lang/invoke/VarHandle" := by decide) (hp : pc + 3 = pc' := by rfl) : WP X Z rc rs Q pc L (x2 :: x1 :: .ref b :: S) os ce sl :=
  W.callIn (argsL := [x1, x2]) (S := S) K pc' hd w1 w2 w3 w4 hsig hM k hz1 rfl hlen hsz hf hl hc hs hy hp
theorem W.callIn3 {idx mx : Nat} {z : MethodName} {bytes : ByteArray} {rm : Room} {ps : List FieldType} {rr : Option FieldType} {b : Addr} {x1 x2 x3 : Value} {q : OS → Prop} (K : Ctx X l Z R y code maxL ret) (pc' : Nat) (hd : decode code pc = .ok (.invokespecial idx, 3)) (w1 : (Jvm.Cond.methodLink y.cls idx z).before a0 Z = true) (w2 : (Jvm.Cond.instanceMethod z).before a0 Z = true) (w3 : (Jvm.Cond.initialized z.cls).before a0 Z = true) (w4 : (Jvm.Cond.code z bytes mx none).before a0 Z = true)
    (hsig : parseMethodDescriptor z.desc = some ⟨ps, rr⟩) (hM : OMeets l Z z bytes mx none rm [.ref b, x1, x2, x3] os (RetN q)) (k : ∀ os', q os' → WP X Z rc rs Q pc' L S os' (ce + rm.cells) (sl + rm.slots)) (hz1 : z.name = "<init>" := by rfl) (hlen : ([x1, x2, x3] : List Value).length = ps.length := by rfl) (hsz : L.length = maxL := by rfl) (hf : rm.frames + 1 ≤ R.frames := by decide) (hl : (S.map fun v => v.category).sum + (mx + 11) + rm.locals ≤ R.locals := by exact Nat.le_of_ble_eq_true rfl)
    (hc : ce + rm.cells ≤ R.cells := by decide) (hs : sl + rm.slots ≤ R.slots := by decide) (hy : z.cls ≠ "java/lang/invoke/MethodHandle" ∧ z.cls ≠ "java/lang/invoke/VarHandle" := by decide) (hp : pc + 3 = pc' := by rfl) : WP X Z rc rs Q pc L (x3 :: x2 :: x1 :: .ref b :: S) os ce sl :=
  W.callIn (argsL := [x1, x2, x3]) (S := S) K pc' hd w1 w2 w3 w4 hsig hM k hz1 rfl hlen hsz hf hl hc hs hy hp
theorem W.callIn4 {idx mx : Nat} {z : MethodName} {bytes : ByteArray} {rm : Room} {ps : List FieldType} {rr : Option FieldType} {b : Addr} {x1 x2 x3 x4 : Value} {q : OS → Prop} (K : Ctx X l Z R y code maxL ret) (pc' : Nat) (hd : decode code pc = .ok (.invokespecial idx, 3)) (w1 : (Jvm.Cond.methodLink y.cls idx z).before a0 Z = true) (w2 : (Jvm.Cond.instanceMethod z).before a0 Z = true) (w3 : (Jvm.Cond.initialized z.cls).before a0 Z = true) (w4 : (Jvm.Cond.code z bytes mx none).before a0 Z = true)
    (hsig : parseMethodDescriptor z.desc = some ⟨ps, rr⟩) (hM : OMeets l Z z bytes mx none rm [.ref b, x1, x2, x3, x4] os (RetN q)) (k : ∀ os', q os' → WP X Z rc rs Q pc' L S os' (ce + rm.cells) (sl + rm.slots)) (hz1 : z.name = "<init>" := by rfl) (hlen : ([x1, x2, x3, x4] : List Value).length = ps.length := by rfl) (hsz : L.length = maxL := by rfl) (hf : rm.frames + 1 ≤ R.frames := by decide) (hl : (S.map fun v => v.category).sum + (mx + 11) + rm.locals ≤ R.locals := by exact Nat.le_of_ble_eq_true rfl)
    (hc : ce + rm.cells ≤ R.cells := by decide) (hs : sl + rm.slots ≤ R.slots := by decide) (hy : z.cls ≠ "java/lang/invoke/MethodHandle" ∧ z.cls ≠ "java/lang/invoke/VarHandle" := by decide) (hp : pc + 3 = pc' := by rfl) : WP X Z rc rs Q pc L (x4 :: x3 :: x2 :: x1 :: .ref b :: S) os ce sl :=
  W.callIn (argsL := [x1, x2, x3, x4]) (S := S) K pc' hd w1 w2 w3 w4 hsig hM k hz1 rfl hlen hsz hf hl hc hs hy hp
theorem W.callIn5 {idx mx : Nat} {z : MethodName} {bytes : ByteArray} {rm : Room} {ps : List FieldType} {rr : Option FieldType} {b : Addr} {x1 x2 x3 x4 x5 : Value} {q : OS → Prop} (K : Ctx X l Z R y code maxL ret) (pc' : Nat) (hd : decode code pc = .ok (.invokespecial idx, 3)) (w1 : (Jvm.Cond.methodLink y.cls idx z).before a0 Z = true) (w2 : (Jvm.Cond.instanceMethod z).before a0 Z = true) (w3 : (Jvm.Cond.initialized z.cls).before a0 Z = true) (w4 : (Jvm.Cond.code z bytes mx none).before a0 Z = true)
    (hsig : parseMethodDescriptor z.desc = some ⟨ps, rr⟩) (hM : OMeets l Z z bytes mx none rm [.ref b, x1, x2, x3, x4, x5] os (RetN q)) (k : ∀ os', q os' → WP X Z rc rs Q pc' L S os' (ce + rm.cells) (sl + rm.slots)) (hz1 : z.name = "<init>" := by rfl) (hlen : ([x1, x2, x3, x4, x5] : List Value).length = ps.length := by rfl) (hsz : L.length = maxL := by rfl) (hf : rm.frames + 1 ≤ R.frames := by decide) (hl : (S.map fun v => v.category).sum + (mx + 11) + rm.locals ≤ R.locals := by exact Nat.le_of_ble_eq_true rfl)
    (hc : ce + rm.cells ≤ R.cells := by decide) (hs : sl + rm.slots ≤ R.slots := by decide) (hy : z.cls ≠ "java/lang/invoke/MethodHandle" ∧ z.cls ≠ "java/lang/invoke/VarHandle" := by decide) (hp : pc + 3 = pc' := by rfl) : WP X Z rc rs Q pc L (x5 :: x4 :: x3 :: x2 :: x1 :: .ref b :: S) os ce sl :=
  W.callIn (argsL := [x1, x2, x3, x4, x5]) (S := S) K pc' hd w1 w2 w3 w4 hsig hM k hz1 rfl hlen hsz hf hl hc hs hy hp
theorem W.callIn6 {idx mx : Nat} {z : MethodName} {bytes : ByteArray} {rm : Room} {ps : List FieldType} {rr : Option FieldType} {b : Addr} {x1 x2 x3 x4 x5 x6 : Value} {q : OS → Prop} (K : Ctx X l Z R y code maxL ret) (pc' : Nat) (hd : decode code pc = .ok (.invokespecial idx, 3)) (w1 : (Jvm.Cond.methodLink y.cls idx z).before a0 Z = true) (w2 : (Jvm.Cond.instanceMethod z).before a0 Z = true) (w3 : (Jvm.Cond.initialized z.cls).before a0 Z = true) (w4 : (Jvm.Cond.code z bytes mx none).before a0 Z = true)
    (hsig : parseMethodDescriptor z.desc = some ⟨ps, rr⟩) (hM : OMeets l Z z bytes mx none rm [.ref b, x1, x2, x3, x4, x5, x6] os (RetN q)) (k : ∀ os', q os' → WP X Z rc rs Q pc' L S os' (ce + rm.cells) (sl + rm.slots)) (hz1 : z.name = "<init>" := by rfl) (hlen : ([x1, x2, x3, x4, x5, x6] : List Value).length = ps.length := by rfl) (hsz : L.length = maxL := by rfl) (hf : rm.frames + 1 ≤ R.frames := by decide) (hl : (S.map fun v => v.category).sum + (mx + 11) + rm.locals ≤ R.locals := by exact Nat.le_of_ble_eq_true rfl)
    (hc : ce + rm.cells ≤ R.cells := by decide) (hs : sl + rm.slots ≤ R.slots := by decide) (hy : z.cls ≠ "java/lang/invoke/MethodHandle" ∧ z.cls ≠ "java/lang/invoke/VarHandle" := by decide) (hp : pc + 3 = pc' := by rfl) : WP X Z rc rs Q pc L (x6 :: x5 :: x4 :: x3 :: x2 :: x1 :: .ref b :: S) os ce sl :=
  W.callIn (argsL := [x1, x2, x3, x4, x5, x6]) (S := S) K pc' hd w1 w2 w3 w4 hsig hM k hz1 rfl hlen hsz hf hl hc hs hy hp
theorem W.callIn7 {idx mx : Nat} {z : MethodName} {bytes : ByteArray} {rm : Room} {ps : List FieldType} {rr : Option FieldType} {b : Addr} {x1 x2 x3 x4 x5 x6 x7 : Value} {q : OS → Prop} (K : Ctx X l Z R y code maxL ret) (pc' : Nat) (hd : decode code pc = .ok (.invokespecial idx, 3)) (w1 : (Jvm.Cond.methodLink y.cls idx z).before a0 Z = true) (w2 : (Jvm.Cond.instanceMethod z).before a0 Z = true) (w3 : (Jvm.Cond.initialized z.cls).before a0 Z = true) (w4 : (Jvm.Cond.code z bytes mx none).before a0 Z = true)
    (hsig : parseMethodDescriptor z.desc = some ⟨ps, rr⟩) (hM : OMeets l Z z bytes mx none rm [.ref b, x1, x2, x3, x4, x5, x6, x7] os (RetN q)) (k : ∀ os', q os' → WP X Z rc rs Q pc' L S os' (ce + rm.cells) (sl + rm.slots)) (hz1 : z.name = "<init>" := by rfl) (hlen : ([x1, x2, x3, x4, x5, x6, x7] : List Value).length = ps.length := by rfl) (hsz : L.length = maxL := by rfl) (hf : rm.frames + 1 ≤ R.frames := by decide) (hl : (S.map fun v => v.category).sum + (mx + 11) + rm.locals ≤ R.locals := by exact Nat.le_of_ble_eq_true rfl)
    (hc : ce + rm.cells ≤ R.cells := by decide) (hs : sl + rm.slots ≤ R.slots := by decide) (hy : z.cls ≠ "java/lang/invoke/MethodHandle" ∧ z.cls ≠ "java/lang/invoke/VarHandle" := by decide) (hp : pc + 3 = pc' := by rfl) : WP X Z rc rs Q pc L (x7 :: x6 :: x5 :: x4 :: x3 :: x2 :: x1 :: .ref b :: S) os ce sl :=
  W.callIn (argsL := [x1, x2, x3, x4, x5, x6, x7]) (S := S) K pc' hd w1 w2 w3 w4 hsig hM k hz1 rfl hlen hsz hf hl hc hs hy hp
theorem W.callVv0 {idx mx : Nat} {z : MethodName} {bytes : ByteArray} {rt : Option FieldType} {C : String} {rm : Room} {ps : List FieldType} {rr : Option FieldType} {b : Addr} {q : Value → OS → Prop} (K : Ctx X l Z R y code maxL ret) (pc' : Nat) (hd : decode code pc = .ok (.invokevirtual idx, 3)) (w1 : (Jvm.Cond.methodLink y.cls idx z).before a0 Z = true) (w2 : (Jvm.Cond.declares z).before a0 Z = true) (w5 : (Jvm.Cond.selects C z z).before a0 Z = true) (w6 : (Jvm.Cond.instanceMethod z).before a0 Z = true) (w3 : (Jvm.Cond.initialized z.cls).before a0 Z = true) (w4 : (Jvm.Cond.code z bytes mx rt).before a0 Z = true)
    (hsig : parseMethodDescriptor z.desc = some ⟨ps, rr⟩) (hrc : ∀ h, Hp Z h os → Exa Z h b C) (hM : OMeets l Z z bytes mx rt rm [.ref b] os (RetV q)) (k : ∀ v os', q v os' → WP X Z rc rs Q pc' L (v :: S) os' (ce + rm.cells) (sl + rm.slots)) (hlen : ([] : List Value).length = ps.length := by rfl) (hsz : L.length = maxL := by rfl) (hf : rm.frames + 1 ≤ R.frames := by decide) (hl : (S.map fun v => v.category).sum + (mx + 11) + rm.locals ≤ R.locals := by exact Nat.le_of_ble_eq_true rfl)
    (hc : ce + rm.cells ≤ R.cells := by decide) (hs : sl + rm.slots ≤ R.slots := by decide) (hy : z.cls ≠ "java/lang/invoke/MethodHandle" ∧ z.cls ≠ "java/lang/invoke/VarHandle" := by decide) (hp : pc + 3 = pc' := by rfl) : WP X Z rc rs Q pc L (.ref b :: S) os ce sl :=
  W.callVv (argsL := []) (S := S) K pc' hd w1 w2 w5 w6 w3 w4 hsig hrc hM k rfl hlen hsz hf hl hc hs hy hp
theorem W.callVv1 {idx mx : Nat} {z : MethodName} {bytes : ByteArray} {rt : Option FieldType} {C : String} {rm : Room} {ps : List FieldType} {rr : Option FieldType} {b : Addr} {x1 : Value} {q : Value → OS → Prop} (K : Ctx X l Z R y code maxL ret) (pc' : Nat) (hd : decode code pc = .ok (.invokevirtual idx, 3)) (w1 : (Jvm.Cond.methodLink y.cls idx z).before a0 Z = true) (w2 : (Jvm.Cond.declares z).before a0 Z = true) (w5 : (Jvm.Cond.selects C z z).before a0 Z = true) (w6 : (Jvm.Cond.instanceMethod z).before a0 Z = true) (w3 : (Jvm.Cond.initialized z.cls).before a0 Z = true) (w4 : (Jvm.Cond.code z bytes mx rt).before a0 Z = true)
    (hsig : parseMethodDescriptor z.desc = some ⟨ps, rr⟩) (hrc : ∀ h, Hp Z h os → Exa Z h b C) (hM : OMeets l Z z bytes mx rt rm [.ref b, x1] os (RetV q)) (k : ∀ v os', q v os' → WP X Z rc rs Q pc' L (v :: S) os' (ce + rm.cells) (sl + rm.slots)) (hlen : ([x1] : List Value).length = ps.length := by rfl) (hsz : L.length = maxL := by rfl) (hf : rm.frames + 1 ≤ R.frames := by decide) (hl : (S.map fun v => v.category).sum + (mx + 11) + rm.locals ≤ R.locals := by exact Nat.le_of_ble_eq_true rfl)
    (hc : ce + rm.cells ≤ R.cells := by decide) (hs : sl + rm.slots ≤ R.slots := by decide) (hy : z.cls ≠ "java/lang/invoke/MethodHandle" ∧ z.cls ≠ "java/lang/invoke/VarHandle" := by decide) (hp : pc + 3 = pc' := by rfl) : WP X Z rc rs Q pc L (x1 :: .ref b :: S) os ce sl :=
  W.callVv (argsL := [x1]) (S := S) K pc' hd w1 w2 w5 w6 w3 w4 hsig hrc hM k rfl hlen hsz hf hl hc hs hy hp
theorem W.callVv2 {idx mx : Nat} {z : MethodName} {bytes : ByteArray} {rt : Option FieldType} {C : String} {rm : Room} {ps : List FieldType} {rr : Option FieldType} {b : Addr} {x1 x2 : Value} {q : Value → OS → Prop} (K : Ctx X l Z R y code maxL ret) (pc' : Nat) (hd : decode code pc = .ok (.invokevirtual idx, 3)) (w1 : (Jvm.Cond.methodLink y.cls idx z).before a0 Z = true) (w2 : (Jvm.Cond.declares z).before a0 Z = true) (w5 : (Jvm.Cond.selects C z z).before a0 Z = true) (w6 : (Jvm.Cond.instanceMethod z).before a0 Z = true) (w3 : (Jvm.Cond.initialized z.cls).before a0 Z = true) (w4 : (Jvm.Cond.code z bytes mx rt).before a0 Z = true)
    (hsig : parseMethodDescriptor z.desc = some ⟨ps, rr⟩) (hrc : ∀ h, Hp Z h os → Exa Z h b C) (hM : OMeets l Z z bytes mx rt rm [.ref b, x1, x2] os (RetV q)) (k : ∀ v os', q v os' → WP X Z rc rs Q pc' L (v :: S) os' (ce + rm.cells) (sl + rm.slots)) (hlen : ([x1, x2] : List Value).length = ps.length := by rfl) (hsz : L.length = maxL := by rfl) (hf : rm.frames + 1 ≤ R.frames := by decide) (hl : (S.map fun v => v.category).sum + (mx + 11) + rm.locals ≤ R.locals := by exact Nat.le_of_ble_eq_true rfl)
    (hc : ce + rm.cells ≤ R.cells := by decide) (hs : sl + rm.slots ≤ R.slots := by decide) (hy : z.cls ≠ "java/lang/invoke/MethodHandle" ∧ z.cls ≠ "java/lang/invoke/VarHandle" := by decide) (hp : pc + 3 = pc' := by rfl) : WP X Z rc rs Q pc L (x2 :: x1 :: .ref b :: S) os ce sl :=
  W.callVv (argsL := [x1, x2]) (S := S) K pc' hd w1 w2 w5 w6 w3 w4 hsig hrc hM k rfl hlen hsz hf hl hc hs hy hp
theorem W.callVv3 {idx mx : Nat} {z : MethodName} {bytes : ByteArray} {rt : Option FieldType} {C : String} {rm : Room} {ps : List FieldType} {rr : Option FieldType} {b : Addr} {x1 x2 x3 : Value} {q : Value → OS → Prop} (K : Ctx X l Z R y code maxL ret) (pc' : Nat) (hd : decode code pc = .ok (.invokevirtual idx, 3)) (w1 : (Jvm.Cond.methodLink y.cls idx z).before a0 Z = true) (w2 : (Jvm.Cond.declares z).before a0 Z = true) (w5 : (Jvm.Cond.selects C z z).before a0 Z = true) (w6 : (Jvm.Cond.instanceMethod z).before a0 Z = true) (w3 : (Jvm.Cond.initialized z.cls).before a0 Z = true) (w4 : (Jvm.Cond.code z bytes mx rt).before a0 Z = true)
    (hsig : parseMethodDescriptor z.desc = some ⟨ps, rr⟩) (hrc : ∀ h, Hp Z h os → Exa Z h b C) (hM : OMeets l Z z bytes mx rt rm [.ref b, x1, x2, x3] os (RetV q)) (k : ∀ v os', q v os' → WP X Z rc rs Q pc' L (v :: S) os' (ce + rm.cells) (sl + rm.slots)) (hlen : ([x1, x2, x3] : List Value).length = ps.length := by rfl) (hsz : L.length = maxL := by rfl) (hf : rm.frames + 1 ≤ R.frames := by decide) (hl : (S.map fun v => v.category).sum + (mx + 11) + rm.locals ≤ R.locals := by exact Nat.le_of_ble_eq_true rfl)
    (hc : ce + rm.cells ≤ R.cells := by decide) (hs : sl + rm.slots ≤ R.slots := by decide) (hy : z.cls ≠ "java/lang/invoke/MethodHandle" ∧ z.cls ≠ "java/lang/invoke/VarHandle" := by decide) (hp : pc + 3 = pc' := by rfl) : WP X Z rc rs Q pc L (x3 :: x2 :: x1 :: .ref b :: S) os ce sl :=
  W.callVv (argsL := [x1, x2, x3]) (S := S) K pc' hd w1 w2 w5 w6 w3 w4 hsig hrc hM k rfl hlen hsz hf hl hc hs hy hp
theorem W.callVv4 {idx mx : Nat} {z : MethodName} {bytes : ByteArray} {rt : Option FieldType} {C : String} {rm : Room} {ps : List FieldType} {rr : Option FieldType} {b : Addr} {x1 x2 x3 x4 : Value} {q : Value → OS → Prop} (K : Ctx X l Z R y code maxL ret) (pc' : Nat) (hd : decode code pc = .ok (.invokevirtual idx, 3)) (w1 : (Jvm.Cond.methodLink y.cls idx z).before a0 Z = true) (w2 : (Jvm.Cond.declares z).before a0 Z = true) (w5 : (Jvm.Cond.selects C z z).before a0 Z = true) (w6 : (Jvm.Cond.instanceMethod z).before a0 Z = true) (w3 : (Jvm.Cond.initialized z.cls).before a0 Z = true) (w4 : (Jvm.Cond.code z bytes mx rt).before a0 Z = true)
    (hsig : parseMethodDescriptor z.desc = some ⟨ps, rr⟩) (hrc : ∀ h, Hp Z h os → Exa Z h b C) (hM : OMeets l Z z bytes mx rt rm [.ref b, x1, x2, x3, x4] os (RetV q)) (k : ∀ v os', q v os' → WP X Z rc rs Q pc' L (v :: S) os' (ce + rm.cells) (sl + rm.slots)) (hlen : ([x1, x2, x3, x4] : List Value).length = ps.length := by rfl) (hsz : L.length = maxL := by rfl) (hf : rm.frames + 1 ≤ R.frames := by decide) (hl : (S.map fun v => v.category).sum + (mx + 11) + rm.locals ≤ R.locals := by exact Nat.le_of_ble_eq_true rfl)
    (hc : ce + rm.cells ≤ R.cells := by decide) (hs : sl + rm.slots ≤ R.slots := by decide) (hy : z.cls ≠ "java/lang/invoke/MethodHandle" ∧ z.cls ≠ "java/lang/invoke/VarHandle" := by decide) (hp : pc + 3 = pc' := by rfl) : WP X Z rc rs Q pc L (x4 :: x3 :: x2 :: x1 :: .ref b :: S) os ce sl :=
  W.callVv (argsL := [x1, x2, x3, x4]) (S := S) K pc' hd w1 w2 w5 w6 w3 w4 hsig hrc hM k rfl hlen hsz hf hl hc hs hy hp
theorem W.callVv5 {idx mx : Nat} {z : MethodName} {bytes : ByteArray} {rt : Option FieldType} {C : String} {rm : Room} {ps : List FieldType} {rr : Option FieldType} {b : Addr} {x1 x2 x3 x4 x5 : Value} {q : Value → OS → Prop} (K : Ctx X l Z R y code maxL ret) (pc' : Nat) (hd : decode code pc = .ok (.invokevirtual idx, 3)) (w1 : (Jvm.Cond.methodLink y.cls idx z).before a0 Z = true) (w2 : (Jvm.Cond.declares z).before a0 Z = true) (w5 : (Jvm.Cond.selects C z z).before a0 Z = true) (w6 : (Jvm.Cond.instanceMethod z).before a0 Z = true) (w3 : (Jvm.Cond.initialized z.cls).before a0 Z = true) (w4 : (Jvm.Cond.code z bytes mx rt).before a0 Z = true)
    (hsig : parseMethodDescriptor z.desc = some ⟨ps, rr⟩) (hrc : ∀ h, Hp Z h os → Exa Z h b C) (hM : OMeets l Z z bytes mx rt rm [.ref b, x1, x2, x3, x4, x5] os (RetV q)) (k : ∀ v os', q v os' → WP X Z rc rs Q pc' L (v :: S) os' (ce + rm.cells) (sl + rm.slots)) (hlen : ([x1, x2, x3, x4, x5] : List Value).length = ps.length := by rfl) (hsz : L.length = maxL := by rfl) (hf : rm.frames + 1 ≤ R.frames := by decide) (hl : (S.map fun v => v.category).sum + (mx + 11) + rm.locals ≤ R.locals := by exact Nat.le_of_ble_eq_true rfl)
    (hc : ce + rm.cells ≤ R.cells := by decide) (hs : sl + rm.slots ≤ R.slots := by decide) (hy : z.cls ≠ "java/lang/invoke/MethodHandle" ∧ z.cls ≠ "java/lang/invoke/VarHandle" := by decide) (hp : pc + 3 = pc' := by rfl) : WP X Z rc rs Q pc L (x5 :: x4 :: x3 :: x2 :: x1 :: .ref b :: S) os ce sl :=
  W.callVv (argsL := [x1, x2, x3, x4, x5]) (S := S) K pc' hd w1 w2 w5 w6 w3 w4 hsig hrc hM k rfl hlen hsz hf hl hc hs hy hp
theorem W.callVv6 {idx mx : Nat} {z : MethodName} {bytes : ByteArray} {rt : Option FieldType} {C : String} {rm : Room} {ps : List FieldType} {rr : Option FieldType} {b : Addr} {x1 x2 x3 x4 x5 x6 : Value} {q : Value → OS → Prop} (K : Ctx X l Z R y code maxL ret) (pc' : Nat) (hd : decode code pc = .ok (.invokevirtual idx, 3)) (w1 : (Jvm.Cond.methodLink y.cls idx z).before a0 Z = true) (w2 : (Jvm.Cond.declares z).before a0 Z = true) (w5 : (Jvm.Cond.selects C z z).before a0 Z = true) (w6 : (Jvm.Cond.instanceMethod z).before a0 Z = true) (w3 : (Jvm.Cond.initialized z.cls).before a0 Z = true) (w4 : (Jvm.Cond.code z bytes mx rt).before a0 Z = true)
    (hsig : parseMethodDescriptor z.desc = some ⟨ps, rr⟩) (hrc : ∀ h, Hp Z h os → Exa Z h b C) (hM : OMeets l Z z bytes mx rt rm [.ref b, x1, x2, x3, x4, x5, x6] os (RetV q)) (k : ∀ v os', q v os' → WP X Z rc rs Q pc' L (v :: S) os' (ce + rm.cells) (sl + rm.slots)) (hlen : ([x1, x2, x3, x4, x5, x6] : List Value).length = ps.length := by rfl) (hsz : L.length = maxL := by rfl) (hf : rm.frames + 1 ≤ R.frames := by decide) (hl : (S.map fun v => v.category).sum + (mx + 11) + rm.locals ≤ R.locals := by exact Nat.le_of_ble_eq_true rfl)
    (hc : ce + rm.cells ≤ R.cells := by decide) (hs : sl + rm.slots ≤ R.slots := by decide) (hy : z.cls ≠ "java/lang/invoke/MethodHandle" ∧ z.cls ≠ "java/lang/invoke/VarHandle" := by decide) (hp : pc + 3 = pc' := by rfl) : WP X Z rc rs Q pc L (x6 :: x5 :: x4 :: x3 :: x2 :: x1 :: .ref b :: S) os ce sl :=
  W.callVv (argsL := [x1, x2, x3, x4, x5, x6]) (S := S) K pc' hd w1 w2 w5 w6 w3 w4 hsig hrc hM k rfl hlen hsz hf hl hc hs hy hp
theorem W.callVv7 {idx mx : Nat} {z : MethodName} {bytes : ByteArray} {rt : Option FieldType} {C : String} {rm : Room} {ps : List FieldType} {rr : Option FieldType} {b : Addr} {x1 x2 x3 x4 x5 x6 x7 : Value} {q : Value → OS → Prop} (K : Ctx X l Z R y code maxL ret) (pc' : Nat) (hd : decode code pc = .ok (.invokevirtual idx, 3)) (w1 : (Jvm.Cond.methodLink y.cls idx z).before a0 Z = true) (w2 : (Jvm.Cond.declares z).before a0 Z = true) (w5 : (Jvm.Cond.selects C z z).before a0 Z = true) (w6 : (Jvm.Cond.instanceMethod z).before a0 Z = true) (w3 : (Jvm.Cond.initialized z.cls).before a0 Z = true) (w4 : (Jvm.Cond.code z bytes mx rt).before a0 Z = true)
    (hsig : parseMethodDescriptor z.desc = some ⟨ps, rr⟩) (hrc : ∀ h, Hp Z h os → Exa Z h b C) (hM : OMeets l Z z bytes mx rt rm [.ref b, x1, x2, x3, x4, x5, x6, x7] os (RetV q)) (k : ∀ v os', q v os' → WP X Z rc rs Q pc' L (v :: S) os' (ce + rm.cells) (sl + rm.slots)) (hlen : ([x1, x2, x3, x4, x5, x6, x7] : List Value).length = ps.length := by rfl) (hsz : L.length = maxL := by rfl) (hf : rm.frames + 1 ≤ R.frames := by decide) (hl : (S.map fun v => v.category).sum + (mx + 11) + rm.locals ≤ R.locals := by exact Nat.le_of_ble_eq_true rfl)
    (hc : ce + rm.cells ≤ R.cells := by decide) (hs : sl + rm.slots ≤ R.slots := by decide) (hy : z.cls ≠ "java/lang/invoke/MethodHandle" ∧ z.cls ≠ "java/lang/invoke/VarHandle" := by decide) (hp : pc + 3 = pc' := by rfl) : WP X Z rc rs Q pc L (x7 :: x6 :: x5 :: x4 :: x3 :: x2 :: x1 :: .ref b :: S) os ce sl :=
  W.callVv (argsL := [x1, x2, x3, x4, x5, x6, x7]) (S := S) K pc' hd w1 w2 w5 w6 w3 w4 hsig hrc hM k rfl hlen hsz hf hl hc hs hy hp
theorem W.callVn0 {idx mx : Nat} {z : MethodName} {bytes : ByteArray} {rt : Option FieldType} {C : String} {rm : Room} {ps : List FieldType} {rr : Option FieldType} {b : Addr} {q : OS → Prop} (K : Ctx X l Z R y code maxL ret) (pc' : Nat) (hd : decode code pc = .ok (.invokevirtual idx, 3)) (w1 : (Jvm.Cond.methodLink y.cls idx z).before a0 Z = true) (w2 : (Jvm.Cond.declares z).before a0 Z = true) (w5 : (Jvm.Cond.selects C z z).before a0 Z = true) (w6 : (Jvm.Cond.instanceMethod z).before a0 Z = true) (w3 : (Jvm.Cond.initialized z.cls).before a0 Z = true) (w4 : (Jvm.Cond.code z bytes mx rt).before a0 Z = true)
    (hsig : parseMethodDescriptor z.desc = some ⟨ps, rr⟩) (hrc : ∀ h, Hp Z h os → Exa Z h b C) (hM : OMeets l Z z bytes mx rt rm [.ref b] os (RetN q)) (k : ∀ os', q os' → WP X Z rc rs Q pc' L S os' (ce + rm.cells) (sl + rm.slots)) (hlen : ([] : List Value).length = ps.length := by rfl) (hsz : L.length = maxL := by rfl) (hf : rm.frames + 1 ≤ R.frames := by decide) (hl : (S.map fun v => v.category).sum + (mx + 11) + rm.locals ≤ R.locals := by exact Nat.le_of_ble_eq_true rfl)
    (hc : ce + rm.cells ≤ R.cells := by decide) (hs : sl + rm.slots ≤ R.slots := by decide) (hy : z.cls ≠ "java/lang/invoke/MethodHandle" ∧ z.cls ≠ "java/lang/invoke/VarHandle" := by decide) (hp : pc + 3 = pc' := by rfl) : WP X Z rc rs Q pc L (.ref b :: S) os ce sl :=
  W.callVn (argsL := []) (S := S) K pc' hd w1 w2 w5 w6 w3 w4 hsig hrc hM k rfl hlen hsz hf hl hc hs hy hp
theorem W.callVn1 {idx mx : Nat} {z : MethodName} {bytes : ByteArray} {rt : Option FieldType} {C : String} {rm : Room} {ps : List FieldType} {rr : Option FieldType} {b : Addr} {x1 : Value} {q : OS → Prop} (K : Ctx X l Z R y code maxL ret) (pc' : Nat) (hd : decode code pc = .ok (.invokevirtual idx, 3)) (w1 : (Jvm.Cond.methodLink y.cls idx z).before a0 Z = true) (w2 : (Jvm.Cond.declares z).before a0 Z = true) (w5 : (Jvm.Cond.selects C z z).before a0 Z = true) (w6 : (Jvm.Cond.instanceMethod z).before a0 Z = true) (w3 : (Jvm.Cond.initialized z.cls).before a0 Z = true) (w4 : (Jvm.Cond.code z bytes mx rt).before a0 Z = true)
    (hsig : parseMethodDescriptor z.desc = some ⟨ps, rr⟩) (hrc : ∀ h, Hp Z h os → Exa Z h b C) (hM : OMeets l Z z bytes mx rt rm [.ref b, x1] os (RetN q)) (k : ∀ os', q os' → WP X Z rc rs Q pc' L S os' (ce + rm.cells) (sl + rm.slots)) (hlen : ([x1] : List Value).length = ps.length := by rfl) (hsz : L.length = maxL := by rfl) (hf : rm.frames + 1 ≤ R.frames := by decide) (hl : (S.map fun v => v.category).sum + (mx + 11) + rm.locals ≤ R.locals := by exact Nat.le_of_ble_eq_true rfl)
    (hc : ce + rm.cells ≤ R.cells := by decide) (hs : sl + rm.slots ≤ R.slots := by decide) (hy : z.cls ≠ "java/lang/invoke/MethodHandle" ∧ z.cls ≠ "java/lang/invoke/VarHandle" := by decide) (hp : pc + 3 = pc' := by rfl) : WP X Z rc rs Q pc L (x1 :: .ref b :: S) os ce sl :=
  W.callVn (argsL := [x1]) (S := S) K pc' hd w1 w2 w5 w6 w3 w4 hsig hrc hM k rfl hlen hsz hf hl hc hs hy hp
theorem W.callVn2 {idx mx : Nat} {z : MethodName} {bytes : ByteArray} {rt : Option FieldType} {C : String} {rm : Room} {ps : List FieldType} {rr : Option FieldType} {b : Addr} {x1 x2 : Value} {q : OS → Prop} (K : Ctx X l Z R y code maxL ret) (pc' : Nat) (hd : decode code pc = .ok (.invokevirtual idx, 3)) (w1 : (Jvm.Cond.methodLink y.cls idx z).before a0 Z = true) (w2 : (Jvm.Cond.declares z).before a0 Z = true) (w5 : (Jvm.Cond.selects C z z).before a0 Z = true) (w6 : (Jvm.Cond.instanceMethod z).before a0 Z = true) (w3 : (Jvm.Cond.initialized z.cls).before a0 Z = true) (w4 : (Jvm.Cond.code z bytes mx rt).before a0 Z = true)
    (hsig : parseMethodDescriptor z.desc = some ⟨ps, rr⟩) (hrc : ∀ h, Hp Z h os → Exa Z h b C) (hM : OMeets l Z z bytes mx rt rm [.ref b, x1, x2] os (RetN q)) (k : ∀ os', q os' → WP X Z rc rs Q pc' L S os' (ce + rm.cells) (sl + rm.slots)) (hlen : ([x1, x2] : List Value).length = ps.length := by rfl) (hsz : L.length = maxL := by rfl) (hf : rm.frames + 1 ≤ R.frames := by decide) (hl : (S.map fun v => v.category).sum + (mx + 11) + rm.locals ≤ R.locals := by exact Nat.le_of_ble_eq_true rfl)
    (hc : ce + rm.cells ≤ R.cells := by decide) (hs : sl + rm.slots ≤ R.slots := by decide) (hy : z.cls ≠ "java/lang/invoke/MethodHandle" ∧ z.cls ≠ "java/lang/invoke/VarHandle" := by decide) (hp : pc + 3 = pc' := by rfl) : WP X Z rc rs Q pc L (x2 :: x1 :: .ref b :: S) os ce sl :=
  W.callVn (argsL := [x1, x2]) (S := S) K pc' hd w1 w2 w5 w6 w3 w4 hsig hrc hM k rfl hlen hsz hf hl hc hs hy hp
theorem W.callVn3 {idx mx : Nat} {z : MethodName} {bytes : ByteArray} {rt : Option FieldType} {C : String} {rm : Room} {ps : List FieldType} {rr : Option FieldType} {b : Addr} {x1 x2 x3 : Value} {q : OS → Prop} (K : Ctx X l Z R y code maxL ret) (pc' : Nat) (hd : decode code pc = .ok (.invokevirtual idx, 3)) (w1 : (Jvm.Cond.methodLink y.cls idx z).before a0 Z = true) (w2 : (Jvm.Cond.declares z).before a0 Z = true) (w5 : (Jvm.Cond.selects C z z).before a0 Z = true) (w6 : (Jvm.Cond.instanceMethod z).before a0 Z = true) (w3 : (Jvm.Cond.initialized z.cls).before a0 Z = true) (w4 : (Jvm.Cond.code z bytes mx rt).before a0 Z = true)
    (hsig : parseMethodDescriptor z.desc = some ⟨ps, rr⟩) (hrc : ∀ h, Hp Z h os → Exa Z h b C) (hM : OMeets l Z z bytes mx rt rm [.ref b, x1, x2, x3] os (RetN q)) (k : ∀ os', q os' → WP X Z rc rs Q pc' L S os' (ce + rm.cells) (sl + rm.slots)) (hlen : ([x1, x2, x3] : List Value).length = ps.length := by rfl) (hsz : L.length = maxL := by rfl) (hf : rm.frames + 1 ≤ R.frames := by decide) (hl : (S.map fun v => v.category).sum + (mx + 11) + rm.locals ≤ R.locals := by exact Nat.le_of_ble_eq_true rfl)
    (hc : ce + rm.cells ≤ R.cells := by decide) (hs : sl + rm.slots ≤ R.slots := by decide) (hy : z.cls ≠ "java/lang/invoke/MethodHandle" ∧ z.cls ≠ "java/lang/invoke/VarHandle" := by decide) (hp : pc + 3 = pc' := by rfl) : WP X Z rc rs Q pc L (x3 :: x2 :: x1 :: .ref b :: S) os ce sl :=
  W.callVn (argsL := [x1, x2, x3]) (S := S) K pc' hd w1 w2 w5 w6 w3 w4 hsig hrc hM k rfl hlen hsz hf hl hc hs hy hp
theorem W.callVn4 {idx mx : Nat} {z : MethodName} {bytes : ByteArray} {rt : Option FieldType} {C : String} {rm : Room} {ps : List FieldType} {rr : Option FieldType} {b : Addr} {x1 x2 x3 x4 : Value} {q : OS → Prop} (K : Ctx X l Z R y code maxL ret) (pc' : Nat) (hd : decode code pc = .ok (.invokevirtual idx, 3)) (w1 : (Jvm.Cond.methodLink y.cls idx z).before a0 Z = true) (w2 : (Jvm.Cond.declares z).before a0 Z = true) (w5 : (Jvm.Cond.selects C z z).before a0 Z = true) (w6 : (Jvm.Cond.instanceMethod z).before a0 Z = true) (w3 : (Jvm.Cond.initialized z.cls).before a0 Z = true) (w4 : (Jvm.Cond.code z bytes mx rt).before a0 Z = true)
    (hsig : parseMethodDescriptor z.desc = some ⟨ps, rr⟩) (hrc : ∀ h, Hp Z h os → Exa Z h b C) (hM : OMeets l Z z bytes mx rt rm [.ref b, x1, x2, x3, x4] os (RetN q)) (k : ∀ os', q os' → WP X Z rc rs Q pc' L S os' (ce + rm.cells) (sl + rm.slots)) (hlen : ([x1, x2, x3, x4] : List Value).length = ps.length := by rfl) (hsz : L.length = maxL := by rfl) (hf : rm.frames + 1 ≤ R.frames := by decide) (hl : (S.map fun v => v.category).sum + (mx + 11) + rm.locals ≤ R.locals := by exact Nat.le_of_ble_eq_true rfl)
    (hc : ce + rm.cells ≤ R.cells := by decide) (hs : sl + rm.slots ≤ R.slots := by decide) (hy : z.cls ≠ "java/lang/invoke/MethodHandle" ∧ z.cls ≠ "java/lang/invoke/VarHandle" := by decide) (hp : pc + 3 = pc' := by rfl) : WP X Z rc rs Q pc L (x4 :: x3 :: x2 :: x1 :: .ref b :: S) os ce sl :=
  W.callVn (argsL := [x1, x2, x3, x4]) (S := S) K pc' hd w1 w2 w5 w6 w3 w4 hsig hrc hM k rfl hlen hsz hf hl hc hs hy hp
theorem W.callVn5 {idx mx : Nat} {z : MethodName} {bytes : ByteArray} {rt : Option FieldType} {C : String} {rm : Room} {ps : List FieldType} {rr : Option FieldType} {b : Addr} {x1 x2 x3 x4 x5 : Value} {q : OS → Prop} (K : Ctx X l Z R y code maxL ret) (pc' : Nat) (hd : decode code pc = .ok (.invokevirtual idx, 3)) (w1 : (Jvm.Cond.methodLink y.cls idx z).before a0 Z = true) (w2 : (Jvm.Cond.declares z).before a0 Z = true) (w5 : (Jvm.Cond.selects C z z).before a0 Z = true) (w6 : (Jvm.Cond.instanceMethod z).before a0 Z = true) (w3 : (Jvm.Cond.initialized z.cls).before a0 Z = true) (w4 : (Jvm.Cond.code z bytes mx rt).before a0 Z = true)
    (hsig : parseMethodDescriptor z.desc = some ⟨ps, rr⟩) (hrc : ∀ h, Hp Z h os → Exa Z h b C) (hM : OMeets l Z z bytes mx rt rm [.ref b, x1, x2, x3, x4, x5] os (RetN q)) (k : ∀ os', q os' → WP X Z rc rs Q pc' L S os' (ce + rm.cells) (sl + rm.slots)) (hlen : ([x1, x2, x3, x4, x5] : List Value).length = ps.length := by rfl) (hsz : L.length = maxL := by rfl) (hf : rm.frames + 1 ≤ R.frames := by decide) (hl : (S.map fun v => v.category).sum + (mx + 11) + rm.locals ≤ R.locals := by exact Nat.le_of_ble_eq_true rfl)
    (hc : ce + rm.cells ≤ R.cells := by decide) (hs : sl + rm.slots ≤ R.slots := by decide) (hy : z.cls ≠ "java/lang/invoke/MethodHandle" ∧ z.cls ≠ "java/lang/invoke/VarHandle" := by decide) (hp : pc + 3 = pc' := by rfl) : WP X Z rc rs Q pc L (x5 :: x4 :: x3 :: x2 :: x1 :: .ref b :: S) os ce sl :=
  W.callVn (argsL := [x1, x2, x3, x4, x5]) (S := S) K pc' hd w1 w2 w5 w6 w3 w4 hsig hrc hM k rfl hlen hsz hf hl hc hs hy hp
theorem W.callVn6 {idx mx : Nat} {z : MethodName} {bytes : ByteArray} {rt : Option FieldType} {C : String} {rm : Room} {ps : List FieldType} {rr : Option FieldType} {b : Addr} {x1 x2 x3 x4 x5 x6 : Value} {q : OS → Prop} (K : Ctx X l Z R y code maxL ret) (pc' : Nat) (hd : decode code pc = .ok (.invokevirtual idx, 3)) (w1 : (Jvm.Cond.methodLink y.cls idx z).before a0 Z = true) (w2 : (Jvm.Cond.declares z).before a0 Z = true) (w5 : (Jvm.Cond.selects C z z).before a0 Z = true) (w6 : (Jvm.Cond.instanceMethod z).before a0 Z = true) (w3 : (Jvm.Cond.initialized z.cls).before a0 Z = true) (w4 : (Jvm.Cond.code z bytes mx rt).before a0 Z = true)
    (hsig : parseMethodDescriptor z.desc = some ⟨ps, rr⟩) (hrc : ∀ h, Hp Z h os → Exa Z h b C) (hM : OMeets l Z z bytes mx rt rm [.ref b, x1, x2, x3, x4, x5, x6] os (RetN q)) (k : ∀ os', q os' → WP X Z rc rs Q pc' L S os' (ce + rm.cells) (sl + rm.slots)) (hlen : ([x1, x2, x3, x4, x5, x6] : List Value).length = ps.length := by rfl) (hsz : L.length = maxL := by rfl) (hf : rm.frames + 1 ≤ R.frames := by decide) (hl : (S.map fun v => v.category).sum + (mx + 11) + rm.locals ≤ R.locals := by exact Nat.le_of_ble_eq_true rfl)
    (hc : ce + rm.cells ≤ R.cells := by decide) (hs : sl + rm.slots ≤ R.slots := by decide) (hy : z.cls ≠ "java/lang/invoke/MethodHandle" ∧ z.cls ≠ "java/lang/invoke/VarHandle" := by decide) (hp : pc + 3 = pc' := by rfl) : WP X Z rc rs Q pc L (x6 :: x5 :: x4 :: x3 :: x2 :: x1 :: .ref b :: S) os ce sl :=
  W.callVn (argsL := [x1, x2, x3, x4, x5, x6]) (S := S) K pc' hd w1 w2 w5 w6 w3 w4 hsig hrc hM k rfl hlen hsz hf hl hc hs hy hp
theorem W.callVn7 {idx mx : Nat} {z : MethodName} {bytes : ByteArray} {rt : Option FieldType} {C : String} {rm : Room} {ps : List FieldType} {rr : Option FieldType} {b : Addr} {x1 x2 x3 x4 x5 x6 x7 : Value} {q : OS → Prop} (K : Ctx X l Z R y code maxL ret) (pc' : Nat) (hd : decode code pc = .ok (.invokevirtual idx, 3)) (w1 : (Jvm.Cond.methodLink y.cls idx z).before a0 Z = true) (w2 : (Jvm.Cond.declares z).before a0 Z = true) (w5 : (Jvm.Cond.selects C z z).before a0 Z = true) (w6 : (Jvm.Cond.instanceMethod z).before a0 Z = true) (w3 : (Jvm.Cond.initialized z.cls).before a0 Z = true) (w4 : (Jvm.Cond.code z bytes mx rt).before a0 Z = true)
    (hsig : parseMethodDescriptor z.desc = some ⟨ps, rr⟩) (hrc : ∀ h, Hp Z h os → Exa Z h b C) (hM : OMeets l Z z bytes mx rt rm [.ref b, x1, x2, x3, x4, x5, x6, x7] os (RetN q)) (k : ∀ os', q os' → WP X Z rc rs Q pc' L S os' (ce + rm.cells) (sl + rm.slots)) (hlen : ([x1, x2, x3, x4, x5, x6, x7] : List Value).length = ps.length := by rfl) (hsz : L.length = maxL := by rfl) (hf : rm.frames + 1 ≤ R.frames := by decide) (hl : (S.map fun v => v.category).sum + (mx + 11) + rm.locals ≤ R.locals := by exact Nat.le_of_ble_eq_true rfl)
    (hc : ce + rm.cells ≤ R.cells := by decide) (hs : sl + rm.slots ≤ R.slots := by decide) (hy : z.cls ≠ "java/lang/invoke/MethodHandle" ∧ z.cls ≠ "java/lang/invoke/VarHandle" := by decide) (hp : pc + 3 = pc' := by rfl) : WP X Z rc rs Q pc L (x7 :: x6 :: x5 :: x4 :: x3 :: x2 :: x1 :: .ref b :: S) os ce sl :=
  W.callVn (argsL := [x1, x2, x3, x4, x5, x6, x7]) (S := S) K pc' hd w1 w2 w5 w6 w3 w4 hsig hrc hM k rfl hlen hsz hf hl hc hs hy hp
theorem Rc.new {b : Addr} {C : String} {fs : List FV} (hm : (b, OBJ Z C fs) ∈ os) : ∀ h, Hp Z h os → Exa Z h b C := fun h H => by
  obtain ⟨-, c, hc, hO⟩ := H.get hm; exact hO.exa hc
theorem Rc.old {b : Addr} {C : String} (E : Exa Z Z.heap b C) : ∀ h, Hp Z h os → Exa Z h b C := fun h H => E.ext H.1
end Ops
end Jvm.OwnW
namespace Jvm.OwnW
open Sem ClassFile Op Lib Jvm.Stand Jvm.Free Jvm.LawKit Jvm.RoadKit
/-! arrays as functions -/
def AF {α : Type} (c : α → Value) (n : Nat) (F : Nat → α) : List Value := (List.range n).map fun i => c (F i)
def updA {α : Type} (F : Nat → α) (k : Nat) (v : α) : Nat → α := fun i => if i = k then v else F i
theorem updA_same {α : Type} (F : Nat → α) (k : Nat) (v : α) : updA F k v k = v := by simp [updA]
theorem updA_ne {α : Type} (F : Nat → α) {k i : Nat} (v : α) (h : i ≠ k) : updA F k v i = F i := by simp [updA, h]
theorem AF_len {α : Type} {c : α → Value} {n : Nat} {F : Nat → α} : (AF c n F).length = n := by simp [AF]
theorem AF_at {α : Type} {c : α → Value} {n : Nat} {F : Nat → α} {i : Nat} (h : i < n) : (AF c n F)[i]? = some (c (F i)) := by simp [AF, h]
theorem AF_out {α : Type} {c : α → Value} {n : Nat} {F : Nat → α} {i : Nat} (h : ¬ i < n) : (AF c n F)[i]? = none := by simp [AF]; omega
theorem AF_ext {α : Type} {c : α → Value} {n : Nat} {F G : Nat → α} (h : ∀ i, i < n → F i = G i) : AF c n F = AF c n G := by
  apply List.ext_getElem?
  intro i
  by_cases hi : i < n
  · rw [AF_at hi, AF_at hi, h i hi]
  · rw [AF_out hi, AF_out hi]
theorem AF_set {α : Type} {c : α → Value} {n : Nat} {F : Nat → α} {k : Nat} {v : α} : (AF c n F).set k (c v) = AF c n (updA F k v) := by
  apply List.ext_getElem?
  intro i
  rw [List.getElem?_set]
  by_cases hi : i < n
  · rw [AF_at hi, AF_at hi]
    by_cases e : k = i
    · subst e
      rw [if_pos rfl, if_pos (by rw [AF_len]; exact hi), updA_same]
    · rw [if_neg e, updA_ne _ _ (fun h => e h.symm)]
  · rw [AF_out hi, AF_out hi]
    split
    · rename_i e; subst e
      rw [if_neg (by rw [AF_len]; exact hi)]
    · rfl
theorem AF_rep {α : Type} {c : α → Value} {n : Nat} {v : α} : List.replicate n (c v) = AF c n (fun _ => v) := by
  apply List.ext_getElem?
  intro i
  by_cases hi : i < n
  · rw [AF_at hi]; simp [List.getElem?_replicate, hi]
  · rw [AF_out hi]; simp [List.getElem?_replicate, hi]
theorem AF_repI {n : Nat} : List.replicate n (defaultValue .int) = AF Value.int n (fun _ => 0) := AF_rep
theorem AF_repB {n : Nat} : List.replicate n (defaultValue .byte) = AF Value.int n (fun _ => 0) := AF_rep
theorem AF_repC {n : Nat} : List.replicate n (defaultValue .char) = AF Value.int n (fun _ => 0) := AF_rep
theorem AF_repJ {n : Nat} : List.replicate n (defaultValue .long) = AF Value.long n (fun _ => 0) := AF_rep
theorem AF_size {α : Type} {c : α → Value} {n : Nat} {F : Nat → α} {z : Int32} (h : z.toInt = (n : Int)) : (AF c n F).length.toInt32 = z := by
  rw [AF_len]
  apply Int32.toInt_inj.mp
  have h1 := rng32 z
  rw [len_toInt (by omega), h]
theorem toInt_add32 {x z : Int32} {a b : Int} (hx : x.toInt = a) (hz : z.toInt = b) (h1 : -2147483648 ≤ a + b) (h2 : a + b < 2147483648) : (x + z).toInt = a + b := by
  have q := c_iadd x z; have r := rng32 (x + z); omega
theorem toInt_sub32 {x z : Int32} {a b : Int} (hx : x.toInt = a) (hz : z.toInt = b) (h1 : -2147483648 ≤ a - b) (h2 : a - b < 2147483648) : (x - z).toInt = a - b := by
  have q := c_isub x z; have r := rng32 (x - z); omega
theorem toInt_add64 {x z : Int64} {a b : Int} (hx : x.toInt = a) (hz : z.toInt = b) (h1 : -9223372036854775808 ≤ a + b) (h2 : a + b < 9223372036854775808) : (x + z).toInt = a + b := by
  have q := c_ladd x z; have r := rng64 (x + z); omega
theorem toInt_sub64 {x z : Int64} {a b : Int} (hx : x.toInt = a) (hz : z.toInt = b) (h1 : -9223372036854775808 ≤ a - b) (h2 : a - b < 9223372036854775808) : (x - z).toInt = a - b := by
  have q := c_lsub x z; have r := rng64 (x - z); omega
section Old
variable {X : Cx} {l : Launch} {Z : State} {R : Room} {y : MethodName} {code : ByteArray} {maxL : Nat} {ret : Option FieldType} {rc rs : Nat} {Q : Option Value → OS → Prop} {pc : Nat} {L : List Slot} {S : List Value} {os os' : OS} {ce sl : Nat} {a0 : Array Value}
/-- an array that stood at the start -/
theorem W.baloadO {a : Addr} {cl : Cell} {j : Int32} {v : Value} (i : Nat) (K : Ctx X l Z R y code maxL ret) (pc' : Nat) (hd : decode code pc = .ok (.baload, 1)) (A : Arr Z Z.heap a cl .byte) (hj : j.toInt = (i : Int)) (hv : cl.slots[i]? = some v) (k : WP X Z rc rs Q pc' L (v :: S) os ce sl) (hp : pc + 1 = pc' := by rfl) : WP X Z rc rs Q pc L (.int j :: .ref a :: S) os ce sl := by
  obtain ⟨p, l', e, R', s, m, args, below, meth, c⟩ := X
  obtain ⟨h1, h2, hx, hZ, hby, hml, hown, hnm, hret, hlk⟩ := K
  subst hp
  intro T locs hT0 hH hF
  have hT : Stand p l' e R' s m args below meth c T locs ce sl := hT0
  obtain ⟨s2, o, st, r⟩ := k T locs hT hH hF
  have A' := A.ext hH.1
  have e2 : j.toNatClampNeg = i := by show j.toInt.toNat = i; rw [hj]; rfl
  have hlt := (Array.getElem?_eq_some_iff.mp hv).1
  have e1 : ¬ (j < 0 ∨ cl.slots.size ≤ j.toNatClampNeg) := by
    rw [Int32.lt_iff_toInt_lt, e2, hj]
    intro q
    rcases q with q | q
    · exact absurd q (Int.not_lt.mpr (Int.natCast_nonneg i))
    · omega
  exact ⟨s2, o, Stand.baloadBytes hT hx A'.1 (State.isArrayOf_alike hZ.alike A'.2.1) A'.2.2 e1 (by rw [e2]; exact hv) (g := mkF m pc L.toArray (.int j :: .ref a :: S)) rfl rfl (hb hby hd) _ st, r⟩
end Old
end Jvm.OwnW
namespace Jvm.OwnW
open Sem ClassFile Op Lib Jvm.Stand Jvm.Free Jvm.LawKit Jvm.RoadKit
section Copy
variable {X : Cx} {l : Launch} {Z : State} {R : Room} {y : MethodName} {code : ByteArray} {maxL : Nat} {ret : Option FieldType} {rc rs : Nat} {Q : Option Value → OS → Prop} {pc : Nat} {L : List Slot} {S : List Value} {os os' : OS} {ce sl : Nat} {a0 : Array Value}
theorem W.dupX2 {x u v : Value} (K : Ctx X l Z R y code maxL ret) (pc' : Nat) (hd : decode code pc = .ok (.dup_x2, 1)) (k : WP X Z rc rs Q pc' L (x :: u :: v :: x :: S) os ce sl) (hc : x.category = 1 := by rfl) (hc2 : u.category = 1 := by rfl) (hc3 : v.category = 1 := by rfl) (hp : pc + 1 = pc' := by rfl) : WP X Z rc rs Q pc L (x :: u :: v :: S) os ce sl := by
  obtain ⟨p, l', e, R', s, m, args, below, meth, c⟩ := X
  obtain ⟨h1, h2, hx, hZ, hby, hml, hown, hnm, hret, hlk⟩ := K
  subst hp
  intro T locs hT0 hH hF
  have hT : Stand p l' e R' s m args below meth c T locs ce sl := hT0
  obtain ⟨s2, o, st, r⟩ := k T locs hT hH hF
  refine ⟨s2, o, ?_, r⟩
  have hX := Stand.here hT
  have hdg := hb hby hd
  jvm_step hX [hX.top, hx, hdg, hc, hc2, hc3]
  exact st
theorem Hp.keepAt {h h' : Heap} {b : Addr} {P P' : Cell → Prop} {i : Nat} {c' : Cell} (H : Hp Z h os) (hi : os[i]? = some (b, P)) (Kp : Keep h h' [b]) (hc : h'[b]? = some c') (hP : P' c') : Hp Z h' (os.set i (b, P')) := by
  obtain ⟨hb, cb, hcb, -⟩ := H.2.2 i _ hi
  refine ⟨⟨Nat.le_trans H.1.1 Kp.1, fun x cx hx => ?_⟩, ?_, fun k x hx => ?_⟩
  · refine Kp.2.1 x cx (H.1.2 x cx hx) (fun q => ?_)
    have e := List.mem_singleton.mp q
    rw [e] at hx
    exact absurd (Array.getElem?_eq_some_iff.mp hx).1 (Nat.not_lt.mpr hb)
  · have e : (os.set i (b, P')).map Prod.fst = os.map Prod.fst := by
      apply List.ext_getElem?
      intro k
      simp only [List.getElem?_map, List.getElem?_set]
      split
      · rename_i e; subst e
        rw [if_pos (List.getElem?_eq_some_iff.mp hi).1, hi]; rfl
      · rfl
    rw [e]; exact H.2.1
  · rw [List.getElem?_set] at hx
    split at hx
    · rename_i e; subst e
      split at hx
      · cases hx; exact ⟨hb, c', hc, hP⟩
      · cases hx
    · rename_i hne
      obtain ⟨g1, cx, g2, g3⟩ := H.2.2 k x hx
      have ne : x.1 ≠ b := H.ne (i := k) (j := i) (P := x.2) hx hi (fun e => hne e.symm)
      exact ⟨g1, cx, Kp.2.1 _ _ g2 (fun q => ne (List.mem_singleton.mp q)), g3⟩
theorem ARR.arv {h : Heap} {a : Addr} {c : Cell} {ty : FieldType} {vs : List Value} (hc : h[a]? = some c) (q : ARR Z ty vs c) : Arv Z h a c.cls ty vs.length.toInt32 vs .null := by
  obtain ⟨q1, q2, q3, q4, q5⟩ := q
  have e : vs.length.toInt32.toInt = (vs.length : Int) := len_toInt q5
  have e2 : vs.length.toInt32.toNatClampNeg = vs.length := by show (vs.length.toInt32.toInt).toNat = _; rw [e]; rfl
  have hs : c.slots.size = vs.length := by rw [q3]; simp
  refine ⟨c, ⟨hc, q1, q2⟩, rfl, by rw [e2, hs], by rw [Int32.lt_iff_toInt_lt, e]; exact Int.not_lt.mpr (Int.natCast_nonneg _), fun k hk => ?_, fun i hi => ?_⟩
  · rw [hs] at hk
    rw [q3]; simp [List.getElem?_eq_getElem hk]
  · rw [hs] at hi
    refine q4 _ ?_
    rw [List.getD_eq_getElem?_getD, List.getElem?_eq_getElem hi]
    exact List.getElem_mem hi
theorem W.arraycopy {a b : Addr} {vs vd : List Value} {ty : FieldType} {sp dp nn : Int32} {idx : Nat} (i j n : Nat) (K : Ctx X l Z R y code maxL ret) (pc' : Nat) (hd : decode code pc = .ok (.invokestatic idx, 3)) (w1 : (Jvm.Cond.methodLink y.cls idx Jvm.Stand.acN).before a0 Z = true) (w2 : (Jvm.Cond.native Jvm.Stand.acN).before a0 Z = true) (w3 : (Jvm.Cond.static Jvm.Stand.acN).before a0 Z = true) (w4 : (Jvm.Cond.initialized "java/lang/System").before a0 Z = true)
    (hm : (a, ARR Z ty vs) ∈ os) (hu : Upd os b (ARR Z ty vd) (ARR Z ty (vd.take j ++ (vs.drop i).take n ++ vd.drop (j + n))) os') (hsp : sp.toInt = (i : Int)) (hdp : dp.toInt = (j : Int)) (hnn : nn.toInt = (n : Int)) (h4 : i + n ≤ vs.length) (h5 : j + n ≤ vd.length) (hty : refKind ty = false)
    (k : WP X Z rc rs Q pc' L S os' ce sl) (hsz : L.length = maxL := by rfl) (hf : 1 ≤ R.frames := by decide) (hlo : (S.map fun v => v.category).sum + (nativeFrameWords "java/lang/System" "arraycopy" 5 + 11) ≤ R.locals := by exact Nat.le_of_ble_eq_true rfl) (hp : pc + 3 = pc' := by rfl) : WP X Z rc rs Q pc L (.int nn :: .int dp :: .ref b :: .int sp :: .ref a :: S) os ce sl := by
  obtain ⟨p, l', e, R', s, m, args, below, meth, c⟩ := X
  obtain ⟨h1, h2, hx, hZ, hby, hml, hown, hnm, hret, hlk⟩ := K
  have h2' : R' = R := h2
  subst h2'
  subst hp
  intro T locs hT0 hH hF
  have hT : Stand p l' e R' s m args below meth c T locs ce sl := hT0
  obtain ⟨ii, hi, rfl⟩ := hu
  obtain ⟨hbn, cd, hcd, qd⟩ := hH.2.2 ii _ hi
  obtain ⟨-, cs, hcs, qs⟩ := hH.get hm
  have nat : ∀ {x : Int32} {z : Nat}, x.toInt = (z : Int) → x.toNatClampNeg = z := fun {x z} h => by show x.toInt.toNat = z; rw [h]; rfl
  have neg : ∀ {x : Int32} {z : Nat}, x.toInt = (z : Int) → ¬ x < 0 := fun {x z} h => by rw [Int32.lt_iff_toInt_lt, h]; exact Int.not_lt.mpr (Int.natCast_nonneg z)
  have n1 := nat hsp; have n2 := nat hdp; have n3 := nat hnn
  have v1 : vs.length.toInt32.toNatClampNeg = vs.length := nat (len_toInt qs.2.2.2.2)
  have v2 : vd.length.toInt32.toNatClampNeg = vd.length := nat (len_toInt qd.2.2.2.2)
  have hus : (vs.drop i).take n = (List.range nn.toNatClampNeg).map fun q => vs.getD (sp.toNatClampNeg + q) .null := by
    rw [n1, n3]
    apply List.ext_getElem?
    intro q
    by_cases hq : q < n
    · rw [List.getElem?_take, if_pos hq, List.getElem?_drop]
      have hlt : i + q < vs.length := by omega
      simp [hq, List.getElem?_eq_getElem hlt]
    · rw [List.getElem?_take, if_neg hq]
      simp [hq]
  obtain ⟨T', h', L', X', e', N', K', A', st'⟩ := cpA hT hx hZ hown w1 w2 w3 w4 rfl (ARR.arv hcs qs) (ARR.arv hcd qd) (us := (vs.drop i).take n) (Or.inl ⟨rfl, hty⟩) (neg hsp) (neg hdp) (neg hnn) (by rw [n1, n3, v1]; exact h4) (by rw [n2, n3, v2]; exact h5) hus (by rw [n2, n3]; exact h5) hF hbn
    (g := mkF m pc L.toArray (.int nn :: .int dp :: .ref b :: .int sp :: .ref a :: S)) rfl (by rw [hml]; simpa using hsz) rfl (hb hby hd) hf (W := (S.map fun v => v.category).sum) (by show 2 * 0 + _ ≤ _; omega) hlo
  rw [n2, n3] at A'
  obtain ⟨c', B1, -, B3, -, B5, B6⟩ := A'
  have hlen : (vd.take j ++ (vs.drop i).take n ++ vd.drop (j + n)).length = vd.length := by simp; omega
  rw [v2] at B3
  have hA : ARR Z ty (vd.take j ++ (vs.drop i).take n ++ vd.drop (j + n)) c' := by
    generalize vd.take j ++ (vs.drop i).take n ++ vd.drop (j + n) = nv at *
    refine ⟨B1.2.1, B1.2.2, ?_, fun v hv => ?_, by rw [hlen]; exact qd.2.2.2.2⟩
    · apply Array.ext_getElem?
      intro q
      by_cases hq : q < c'.slots.size
      · rw [B5 q hq]
        have hq2 : q < nv.length := by omega
        simp [List.getElem?_eq_getElem hq2]
      · have hq2 : ¬ q < nv.length := by omega
        rw [Array.getElem?_eq_none (by omega)]
        simp; omega
    · obtain ⟨q, hq⟩ := List.getElem?_of_mem hv
      have hlt := (List.getElem?_eq_some_iff.mp hq).1
      have g := B6 q (by omega)
      rw [List.getD_eq_getElem?_getD, hq] at g
      exact g
  obtain ⟨s2, o, st, r⟩ := k T' L' X' (by rw [e']; exact hH.keepAt hi K' B1.1 hA) N'
  exact ⟨s2, o, st' _ st, r⟩
theorem AF_copy {α : Type} {cc : α → Value} {n k : Nat} {F G : Nat → α} (h : k ≤ n) : (AF cc k G).take 0 ++ ((AF cc n F).drop 0).take k ++ (AF cc k G).drop (0 + k) = AF cc k F := by
  have e1 : (AF cc k G).drop (0 + k) = [] := by rw [Nat.zero_add]; exact List.drop_eq_nil_of_le (by rw [AF_len]; exact Nat.le_refl _)
  rw [e1, List.append_nil, List.take_zero, List.nil_append, List.drop_zero]
  apply List.ext_getElem?
  intro i
  rw [List.getElem?_take]
  by_cases hi : i < k
  · rw [if_pos hi, AF_at (by omega), AF_at hi]
  · rw [if_neg hi, AF_out hi]
end Copy
end Jvm.OwnW
namespace Jvm.OwnW
open Sem ClassFile Op Lib Jvm.Stand Jvm.Free Jvm.LawKit Jvm.RoadKit
section Inst
variable {X : Cx} {l : Launch} {Z : State} {R : Room} {y : MethodName} {code : ByteArray} {maxL : Nat} {ret : Option FieldType} {rc rs : Nat} {Q : Option Value → OS → Prop} {pc : Nat} {L : List Slot} {S : List Value} {os os' : OS} {ce sl : Nat} {a0 : Array Value}
theorem W.instY {a : Addr} {C : String} {idx : Nat} (K : Ctx X l Z R y code maxL ret) (pc' : Nat) (hd : decode code pc = .ok (.instanceof idx, 3)) (w : (Jvm.Cond.classLink y.cls idx C).before a0 Z = true) (hE : ∀ h, Hp Z h os → Exa Z h a C) (k : WP X Z rc rs Q pc' L (.int 1 :: S) os ce sl) (hp : pc + 3 = pc' := by rfl) : WP X Z rc rs Q pc L (.ref a :: S) os ce sl := by
  obtain ⟨p, l', e, R', s, m, args, below, meth, c⟩ := X
  obtain ⟨h1, h2, hx, hZ, hby, hml, hown, hnm, hret, hlk⟩ := K
  subst hp
  intro T locs hT0 hH hF
  have hT : Stand p l' e R' s m args below meth c T locs ce sl := hT0
  obtain ⟨T', X', e', st'⟩ := RoadKit.instY hT hx hZ hown w rfl (Ins.self (hE _ hH)) (g := mkF m pc L.toArray (.ref a :: S)) rfl rfl (hb hby hd)
  obtain ⟨s2, o, st, r⟩ := k T' locs X' (by rw [e']; exact hH) hF
  exact ⟨s2, o, st' _ st, r⟩
theorem W.castY {a : Addr} {C : String} {idx : Nat} (K : Ctx X l Z R y code maxL ret) (pc' : Nat) (hd : decode code pc = .ok (.checkcast idx, 3)) (w : (Jvm.Cond.classLink y.cls idx C).before a0 Z = true) (hE : ∀ h, Hp Z h os → Exa Z h a C) (k : WP X Z rc rs Q pc' L (.ref a :: S) os ce sl) (hp : pc + 3 = pc' := by rfl) : WP X Z rc rs Q pc L (.ref a :: S) os ce sl := by
  obtain ⟨p, l', e, R', s, m, args, below, meth, c⟩ := X
  obtain ⟨h1, h2, hx, hZ, hby, hml, hown, hnm, hret, hlk⟩ := K
  subst hp
  intro T locs hT0 hH hF
  have hT : Stand p l' e R' s m args below meth c T locs ce sl := hT0
  obtain ⟨T', X', e', st'⟩ := RoadKit.castY hT hx hZ hown w rfl (Ins.self (hE _ hH)) (g := mkF m pc L.toArray (.ref a :: S)) rfl rfl (hb hby hd)
  obtain ⟨s2, o, st, r⟩ := k T' locs X' (by rw [e']; exact hH) hF
  exact ⟨s2, o, st' _ st, r⟩
theorem W.instNo {a : Addr} {C C' : String} {idx : Nat} (K : Ctx X l Z R y code maxL ret) (pc' : Nat) (hd : decode code pc = .ok (.instanceof idx, 3)) (w : (Jvm.Cond.classLink y.cls idx C').before a0 Z = true) (hE : ∀ h, Hp Z h os → Exa Z h a C) (hN : ∃ c t, Z.vm.findClass C = some c ∧ Z.vm.findClass C' = some t ∧ Z.vm.assignable c t = false) (k : WP X Z rc rs Q pc' L (.int 0 :: S) os ce sl) (hp : pc + 3 = pc' := by rfl) : WP X Z rc rs Q pc L (.ref a :: S) os ce sl := by
  obtain ⟨p, l', e, R', s, m, args, below, meth, c⟩ := X
  obtain ⟨h1, h2, hx, hZ, hby, hml, hown, hnm, hret, hlk⟩ := K
  subst hp
  intro T locs hT0 hH hF
  have hT : Stand p l' e R' s m args below meth c T locs ce sl := hT0
  obtain ⟨T', X', e', st'⟩ := RoadKit.instNo hT hx hZ hown w rfl (hE _ hH) hN (g := mkF m pc L.toArray (.ref a :: S)) rfl rfl (hb hby hd)
  obtain ⟨s2, o, st, r⟩ := k T' locs X' (by rw [e']; exact hH) hF
  exact ⟨s2, o, st' _ st, r⟩
theorem W.instNull {idx : Nat} (K : Ctx X l Z R y code maxL ret) (pc' : Nat) (hd : decode code pc = .ok (.instanceof idx, 3)) (k : WP X Z rc rs Q pc' L (.int 0 :: S) os ce sl) (hp : pc + 3 = pc' := by rfl) : WP X Z rc rs Q pc L (.null :: S) os ce sl := by
  obtain ⟨p, l', e, R', s, m, args, below, meth, c⟩ := X
  obtain ⟨h1, h2, hx, hZ, hby, hml, hown, hnm, hret, hlk⟩ := K
  subst hp
  intro T locs hT0 hH hF
  have hT : Stand p l' e R' s m args below meth c T locs ce sl := hT0
  obtain ⟨s2, o, st, r⟩ := k T locs hT hH hF
  exact ⟨s2, o, Jvm.Stand.instanceofNull hT hx (g := mkF m pc L.toArray (.null :: S)) rfl rfl (hb hby hd) _ st, r⟩
theorem W.aaloadO {a : Addr} {cl : Cell} {ty : FieldType} {j : Int32} {v : Value} (i : Nat) (K : Ctx X l Z R y code maxL ret) (pc' : Nat) (hd : decode code pc = .ok (.aaload, 1)) (A : Arr Z Z.heap a cl ty) (hty : ty.isReference = true) (hj : j.toInt = (i : Int)) (hv : cl.slots[i]? = some v) (k : WP X Z rc rs Q pc' L (v :: S) os ce sl) (hp : pc + 1 = pc' := by rfl) : WP X Z rc rs Q pc L (.int j :: .ref a :: S) os ce sl := by
  obtain ⟨p, l', e, R', s, m, args, below, meth, c⟩ := X
  obtain ⟨h1, h2, hx, hZ, hby, hml, hown, hnm, hret, hlk⟩ := K
  subst hp
  intro T locs hT0 hH hF
  have hT : Stand p l' e R' s m args below meth c T locs ce sl := hT0
  obtain ⟨s2, o, st, r⟩ := k T locs hT hH hF
  have A' := A.ext hH.1
  have e2 : j.toNatClampNeg = i := by show j.toInt.toNat = i; rw [hj]; rfl
  have hlt := (Array.getElem?_eq_some_iff.mp hv).1
  have e1 : ¬ (j < 0 ∨ cl.slots.size ≤ j.toNatClampNeg) := by
    rw [Int32.lt_iff_toInt_lt, e2, hj]
    intro q
    rcases q with q | q
    · exact absurd q (Int.not_lt.mpr (Int.natCast_nonneg i))
    · omega
  exact ⟨s2, o, Stand.aaload hT hx A'.1 (State.isArrayOf_alike hZ.alike A'.2.1) hty A'.2.2 e1 (by rw [e2]; exact hv) (g := mkF m pc L.toArray (.int j :: .ref a :: S)) rfl rfl (hb hby hd) _ st, r⟩
end Inst
end Jvm.OwnW
namespace Jvm.OwnW
open Sem ClassFile Op Lib Jvm.Stand Jvm.Free Jvm.LawKit Jvm.RoadKit
section More
variable {X : Cx} {l : Launch} {Z : State} {R : Room} {y : MethodName} {code : ByteArray} {maxL : Nat} {ret : Option FieldType} {rc rs : Nat} {Q : Option Value → OS → Prop} {pc : Nat} {L : List Slot} {S : List Value} {os os' : OS} {ce sl : Nat} {a0 : Array Value}
/-- an array whose class is the one of this name -/
def ARX (Z : State) (ty : FieldType) (vs : List Value) (C : String) (c : Cell) : Prop := ARR Z ty vs c ∧ ExaC Z C c
/-- an array of int arrays -/
def ARO (Z : State) (vs : List Value) (c : Cell) : Prop := ARR Z (.array .int) vs c ∧ OvrA Z c.cls .int "[I"
theorem Rc.arx {b : Addr} {C : String} {ty : FieldType} {vs : List Value} (hm : (b, ARX Z ty vs C) ∈ os) : ∀ h, Hp Z h os → Exa Z h b C := fun h H => by
  obtain ⟨-, c, hc, -, k, h1, h2, h3, h4⟩ := H.get hm
  exact ⟨c, k, hc, h1, h2, h3, h4⟩
theorem W.newarrayX {aty : ArrayType} {ty : FieldType} {z : Int32} {ad : String} (i cap : Nat) (K : Ctx X l Z R y code maxL ret) (pc' : Nat) (hd : decode code pc = .ok (.newarray aty, 2)) (w : (Jvm.Cond.arrayClass ty).before a0 Z = true) (hz : z.toInt = (i : Int)) (hi : i ≤ cap)
    (k : ∀ a, WP X Z rc rs Q pc' L (.ref a :: S) ((a, ARX Z ty (List.replicate i (defaultValue ty)) ad) :: os) (ce + 1) (sl + cap)) (ht : newarray.typeOf aty = ty := by rfl) (had : "[" ++ (newarray.typeOf aty).toString = ad := by rfl) (htt : ty = .int ∨ ty = .long ∨ ty = .byte ∨ ty = .char ∨ ty = .boolean ∨ ty = .short := by simp) (hb8 : cap * 8 ≤ 536870912 := by decide) (hc : ce + 1 ≤ R.cells := by decide) (hl : sl + cap ≤ R.slots := by decide) (hp : pc + 2 = pc' := by rfl) :
    WP X Z rc rs Q pc L (.int z :: S) os ce sl := by
  obtain ⟨p, l', e, R', s, m, args, below, meth, c⟩ := X
  obtain ⟨h1, h2, hx, hZ, hby, hml, hown, hnm, hret, hlk⟩ := K
  have h2' : R' = R := h2
  subst h2'
  subst hp
  intro T locs hT0 hH hF
  have hT : Stand p l' e R' s m args below meth c T locs ce sl := hT0
  subst ht
  have ez : z.toNatClampNeg = i := by show z.toInt.toNat = i; rw [hz]; rfl
  obtain ⟨T', h', cA, X', e', E', A', Ex', st'⟩ := RoadKit.newPE hT hx hZ w rfl (g := mkF m pc L.toArray (.int z :: S)) rfl (hb hby hd) rfl (by rw [Int32.lt_iff_toInt_lt, hz]; exact Int.not_lt.mpr (Int.natCast_nonneg i)) (cap := cap) (by rw [ez]; exact hi) hb8 (hc) (hl) had
  have hA : ARR Z (newarray.typeOf aty) (List.replicate i (defaultValue (newarray.typeOf aty))) (newA cA (newarray.typeOf aty) z) := by
    refine ⟨A'.2.1, A'.2.2, by simp [newA, ez], fun v hv => ?_, by simp; omega⟩
    rw [(List.mem_replicate.mp hv).2]; exact fits_dflt htt
  have hX : ExaC Z ad (newA cA (newarray.typeOf aty) z) := by
    obtain ⟨cell, k, g1, g2, g3, g4, g5⟩ := Ex'
    cases g1.symm.trans A'.1
    exact ⟨k, g2, g3, g4, g5⟩
  obtain ⟨s2, o, st, r⟩ := k T.heap.size T' locs X' (by rw [e']; exact hH.new E' A'.1 ⟨hA, hX⟩) hF
  exact ⟨s2, o, st' _ st, r⟩
theorem W.anewarrayA {z : Int32} {idx : Nat} (i cap : Nat) (K : Ctx X l Z R y code maxL ret) (pc' : Nat) (hd : decode code pc = .ok (.anewarray idx, 3)) (w1 : (Jvm.Cond.classLink y.cls idx "[I").before a0 Z = true) (w2 : (Jvm.Cond.arrayOver (.array .int)).before a0 Z = true) (hz : z.toInt = (i : Int)) (hi : i ≤ cap)
    (k : ∀ a, WP X Z rc rs Q pc' L (.ref a :: S) ((a, ARO Z (List.replicate i .null)) :: os) (ce + 1) (sl + cap)) (hb8 : cap * 8 ≤ 536870912 := by decide) (hc : ce + 1 ≤ R.cells := by decide) (hl : sl + cap ≤ R.slots := by decide) (hp : pc + 3 = pc' := by rfl) :
    WP X Z rc rs Q pc L (.int z :: S) os ce sl := by
  obtain ⟨p, l', e, R', s, m, args, below, meth, c⟩ := X
  obtain ⟨h1, h2, hx, hZ, hby, hml, hown, hnm, hret, hlk⟩ := K
  have h2' : R' = R := h2
  subst h2'
  subst hp
  intro T locs hT0 hH hF
  have hT : Stand p l' e R' s m args below meth c T locs ce sl := hT0
  have ez : z.toNatClampNeg = i := by show z.toInt.toNat = i; rw [hz]; rfl
  obtain ⟨T', h', cA, X', e', E', A', Ex', O', st'⟩ := RoadKit.newRA hT hx hZ (ty := .int) (C := "[I") hown rfl w1 w2 rfl (g := mkF m pc L.toArray (.int z :: S)) rfl (hb hby hd) rfl (by rw [Int32.lt_iff_toInt_lt, hz]; exact Int.not_lt.mpr (Int.natCast_nonneg i)) (cap := cap) (by rw [ez]; exact hi) hb8 (hc) (hl) (ad := "[[I") rfl
  have hA : ARR Z (.array .int) (List.replicate i .null) (newA cA (.array .int) z) := by
    refine ⟨A'.2.1, A'.2.2, by simp [newA, ez, defaultValue], fun v hv => ?_, by simp; omega⟩
    rw [(List.mem_replicate.mp hv).2]; rfl
  obtain ⟨s2, o, st, r⟩ := k T.heap.size T' locs X' (by rw [e']; exact hH.new E' A'.1 ⟨hA, O'⟩) hF
  exact ⟨s2, o, st' _ st, r⟩
theorem W.aastoreA {a b : Addr} {vs ws : List Value} {j : Int32} {w : Value} (i : Nat) (K : Ctx X l Z R y code maxL ret) (pc' : Nat) (hd : decode code pc = .ok (.aastore, 1)) (hm : Upd os a (ARO Z vs) (ARR Z (.array .int) (vs.set i (.ref b))) os') (hbm : (b, ARX Z .int ws "[I") ∈ os) (hj : j.toInt = (i : Int)) (hv : vs[i]? = some w) (k : WP X Z rc rs Q pc' L S os' ce sl) (hp : pc + 1 = pc' := by rfl) : WP X Z rc rs Q pc L (.ref b :: .int j :: .ref a :: S) os ce sl := by
  obtain ⟨p, l', e, R', s, m, args, below, meth, c⟩ := X
  obtain ⟨h1, h2, hx, hZ, hby, hml, hown, hnm, hret, hlk⟩ := K
  have h2' : R' = R := h2
  subst h2'
  subst hp
  intro T locs hT0 hH hF
  have hT : Stand p l' e R' s m args below meth c T locs ce sl := hT0
  obtain ⟨ii, hm, rfl⟩ := hm
  obtain ⟨ha, cl, hcl, ⟨q1, q2, q3, q4, q5⟩, q6⟩ := hH.2.2 ii _ hm
  obtain ⟨e1, e2, e3⟩ := idx_ok q3 hj hv
  obtain ⟨T', h', X', e', W', st'⟩ := RoadKit.stR hT hx hZ rfl ⟨hcl, q1, q2⟩ (v := .ref b) e1 rfl (Sto.ofVA ⟨hcl, q1, q2⟩ rfl q6 (Ins.self (Rc.arx hbm _ hH))) (g := mkF m pc L.toArray (.ref b :: .int j :: .ref a :: S)) rfl rfl (hb hby hd)
  rw [e2] at W'
  obtain ⟨s2, o, st, r⟩ := k T' _ X' (by rw [e']; exact hH.upd hm W' (fun c c' g1 g2 g3 g4 => by rw [g4]; exact ARR.put g2.1 rfl)) (Fr.snoc X' hF ha)
  exact ⟨s2, o, st' _ st, r⟩
theorem W.ldcF {idx : Nat} {v : UInt32} (K : Ctx X l Z R y code maxL ret) (pc' : Nat) (hd : decode code pc = .ok (.ldc idx, 2)) (w : (Jvm.Cond.constantFloat y.cls idx v).before a0 Z = true) (k : WP X Z rc rs Q pc' L (.float v :: S) os ce sl) (hp : pc + 2 = pc' := by rfl) : WP X Z rc rs Q pc L S os ce sl := by
  obtain ⟨p, l', e, R', s, m, args, below, meth, c⟩ := X
  obtain ⟨h1, h2, hx, hZ, hby, hml, hown, hnm, hret, hlk⟩ := K
  have h2' : R' = R := h2
  subst h2'
  subst hp
  intro T locs hT0 hH hF
  have hT : Stand p l' e R' s m args below meth c T locs ce sl := hT0
  obtain ⟨s2, o, st, r⟩ := k T locs hT hH hF
  exact ⟨s2, o, Stand.ldcFloatC hT hx hown (mvT hZ w) (g := mkF m pc L.toArray S) rfl (hb hby hd) _ st, r⟩
theorem W.getFV {a : Addr} {R0 O n d C : String} {v : Value} {fs : List FV} {idx : Nat} (K : Ctx X l Z R y code maxL ret) (pc' : Nat) (hd : decode code pc = .ok (.getfield idx, 3)) (w : (Jvm.Cond.fieldLink y.cls idx R0 n d).before a0 Z = true) (wv : (Jvm.Cond.sameField R0 O n d).before a0 Z = true) (hm : (a, OBJ Z C fs) ∈ os) (hf : (O, n, d, v) ∈ fs) (k : WP X Z rc rs Q pc' L (v :: S) os ce sl) (hp : pc + 3 = pc' := by rfl) : WP X Z rc rs Q pc L (.ref a :: S) os ce sl := by
  obtain ⟨p, l', e, R', s, m, args, below, meth, c⟩ := X
  obtain ⟨h1, h2, hx, hZ, hby, hml, hown, hnm, hret, hlk⟩ := K
  have h2' : R' = R := h2
  subst h2'
  subst hp
  intro T locs hT0 hH hF
  have hT : Stand p l' e R' s m args below meth c T locs ce sl := hT0
  obtain ⟨-, cl, hcl, hO⟩ := hH.get hm
  obtain ⟨T', X', e', st'⟩ := RoadKit.getF hT hx hZ hown (host := "") (Or.inl w) (Via.of wv) rfl (hO.fld hcl hf) (g := mkF m pc L.toArray (.ref a :: S)) rfl rfl (hb hby hd)
  obtain ⟨s2, o, st, r⟩ := k T' locs X' (by rw [e']; exact hH) hF
  exact ⟨s2, o, st' _ st, r⟩
theorem W.putFV {a : Addr} {R0 O n d C : String} {v old : Value} {fs fs' : List FV} {idx kk : Nat} {ty : FieldType} (K : Ctx X l Z R y code maxL ret) (pc' : Nat) (hd : decode code pc = .ok (.putfield idx, 3)) (w : (Jvm.Cond.fieldLink y.cls idx R0 n d).before a0 Z = true) (wv : (Jvm.Cond.sameField R0 O n d).before a0 Z = true)
    (hL : (Jvm.Cond.lays C O n d).before a0 Z = true) (wi : (Jvm.Cond.instantiable C kk).before a0 Z = true) (hty : parseFieldDescriptor d = some ty) (hm : Upd os a (OBJ Z C fs) (OBJ Z C fs') os') (hf : UpdF fs O n d old v fs') (k : WP X Z rc rs Q pc' L S os' ce sl) (hn : narrow ty v = v := by rfl) (hfit : fits ty v = true := by rfl)
    (hp : pc + 3 = pc' := by rfl) : WP X Z rc rs Q pc L (v :: .ref a :: S) os ce sl := by
  obtain ⟨p, l', e, R', s, m, args, below, meth, c⟩ := X
  obtain ⟨h1, h2, hx, hZ, hby, hml, hown, hnm, hret, hlk⟩ := K
  have h2' : R' = R := h2
  subst h2'
  subst hp
  intro T locs hT0 hH hF
  have hT : Stand p l' e R' s m args below meth c T locs ce sl := hT0
  obtain ⟨ii, hm, rfl⟩ := hm
  obtain ⟨ha, cl, hcl, hO⟩ := hH.2.2 ii _ hm
  have hmem : (O, n, d, old) ∈ fs := by obtain ⟨jj, hj, -⟩ := hf; exact List.mem_of_getElem? hj
  obtain ⟨T', h', X', e', W', st'⟩ := RoadKit.putF hT hx hZ hown (host := "") (Or.inl w) (Via.of wv) rfl (hO.fld hcl hmem) (hO.exa hcl) (Or.inl hL) wi hty hn hfit (g := mkF m pc L.toArray (v :: .ref a :: S)) rfl rfl (hb hby hd)
  obtain ⟨s2, o, st, r⟩ := k T' _ X' (by rw [e']; exact hH.upd hm W' (fun c c' g1 g2 g3 g4 => by rw [g4]; exact OBJ.put g2 hf)) (Fr.snoc X' hF ha)
  exact ⟨s2, o, st' _ st, r⟩
theorem mvF {s : State} {args : Array Value} {p n d : String} (hZ : Z.Warmed39 s.vm) (hy : p ≠ "java/lang/invoke/MethodHandle" ∧ p ≠ "java/lang/invoke/VarHandle") (w : (Jvm.Cond.interfaceMethod p p n d).before a0 Z = true) : (Jvm.Cond.interfaceMethod p p n d).before args s = true := by
  have h1 : (Jvm.Cond.interfaceMethod p p n d).before a0 (Z.setVm s.vm) = true := Cond.rides hZ (by simp [Cond.keepsFace, Cond.keeps, Cond.faceAtom, Cond.steady]; exact hy) w
  exact h1
theorem W.callF {idx cnt mx : Nat} {xi z : MethodName} {bytes : ByteArray} {rt : Option FieldType} {C : String} {rm : Room} {argsL : List Value} {S0 : List Value} {ps : List FieldType} {rr : Option FieldType} {b : Addr} {q : Value → OS → Prop} (K : Ctx X l Z R y code maxL ret) (pc' : Nat) (hd : decode code pc = .ok (.invokeinterface idx cnt, 5)) (w1 : (Jvm.Cond.methodLink y.cls idx xi).before a0 Z = true) (w2 : (Jvm.Cond.declares xi).before a0 Z = true)
    (w7 : (Jvm.Cond.interfaceMethod xi.cls xi.cls xi.name xi.desc).before a0 Z = true) (w5 : (Jvm.Cond.selects C xi z).before a0 Z = true) (w6 : (Jvm.Cond.instanceMethod z).before a0 Z = true) (w8 : (Jvm.Cond.publicMethod z).before a0 Z = true) (w9 : (Jvm.Cond.unhidden C xi.name xi.desc).before a0 Z = true) (w10 : (Jvm.Cond.castable C xi.cls).before a0 Z = true) (w3 : (Jvm.Cond.initialized z.cls).before a0 Z = true) (w4 : (Jvm.Cond.code z bytes mx rt).before a0 Z = true)
    (hsig : parseMethodDescriptor xi.desc = some ⟨ps, rr⟩) (hrc : ∀ h, Hp Z h os → Exa Z h b C) (hM : OMeets l Z z bytes mx rt rm (.ref b :: argsL) os (RetV q)) (k : ∀ v os', q v os' → WP X Z rc rs Q pc' L (v :: S) os' (ce + rm.cells) (sl + rm.slots)) (hst : S0 = argsL.reverse ++ .ref b :: S := by rfl) (hlen : argsL.length = ps.length := by rfl) (hsz : L.length = maxL := by rfl) (hf : rm.frames + 1 ≤ R.frames := by decide) (hl : (S.map fun v => v.category).sum + (mx + 11) + rm.locals ≤ R.locals := by exact Nat.le_of_ble_eq_true rfl)
    (hc : ce + rm.cells ≤ R.cells := by decide) (hs : sl + rm.slots ≤ R.slots := by decide) (hy : xi.cls ≠ "java/lang/invoke/MethodHandle" ∧ xi.cls ≠ "java/lang/invoke/VarHandle" := by decide) (hp : pc + 5 = pc' := by rfl) : WP X Z rc rs Q pc L S0 os ce sl := by
  obtain ⟨p, l', e, R', s, m, args, below, meth, c⟩ := X
  obtain ⟨rfl, h2, hx, hZ, hby, hml, hown, hnm, hret, hlk⟩ := K
  have h2' : R' = R := h2
  subst h2'
  subst hp
  intro T locs hT0 hH hF
  have hT : Stand p l' e R' s m args below meth c T locs ce sl := hT0
  obtain ⟨cq7, kq7, q7a, q7b, q7c⟩ := isOf (T := T) hZ rfl (hrc T.heap hH)
  obtain ⟨v, vm1, ⟨T', L', k', n'⟩, -, X', ⟨Lc, ⟨os1, hQ1, hH1, hF1⟩, e1, e2, e3⟩, st'⟩ := Stand.interfaceBack hT hx (xi := xi) (y := z) hown (mvT hZ w1) (mvT hZ w2) (mvF hZ hy w7) (mvT hZ w5) (mvT hZ w6) (mvT hZ w8) (mvT hZ w9) (mvT hZ w10) hy (backOf (W := (S.map fun v => v.category).sum) (Q := fun v h L => ∃ os', RetV q v os' ∧ Hp Z h os' ∧ Fr Z.heap.size L) (hM _ hH []) hZ w4 w3 (hf) (hl)) q7a q7b q7c (g := mkF m pc L.toArray S0) rfl (by rw [hml]; simpa using hsz) (Steps.refl _) (argsL := argsL) (rest := S) (lenOf hsig hlen) hst (by show 2 * 0 + _ ≤ _; omega) (hb hby hd) (fun _ _ => ⟨rfl, rfl, hc, hs⟩)
  dsimp only [Pt.U, Pt.locs, Pt.cells, Pt.slots] at X' e1 e2 e3 st' hH1
  subst e1 e2 e3
  obtain ⟨v0, rfl, hQ1⟩ := hQ1
  obtain ⟨s2, o, st, r⟩ := k v0 os1 hQ1 T' _ X' hH1 (Fr.app hF hF1)
  exact ⟨s2, o, st'.trans st, r⟩
theorem W.callP {idx mx nn : Nat} {z : MethodName} {bytes : ByteArray} {rt : Option FieldType} {rm : Room} {argsL : List Value} {S0 : List Value} {ps : List FieldType} {rr : Option FieldType} {b : Addr} {C : String} {Q' : Option Value → OS → Prop} (K : Ctx X l Z R y code maxL ret) (pc' : Nat) (hd : decode code pc = .ok (.invokevirtual idx, 3)) (w1 : (Jvm.Cond.methodLink y.cls idx z).before a0 Z = true) (w6 : (Jvm.Cond.instanceMethod z).before a0 Z = true) (w2 : (Jvm.Cond.privateMethod z).before a0 Z = true) (wi : (Jvm.Cond.instantiable z.cls nn).before a0 Z = true) (w3 : (Jvm.Cond.initialized z.cls).before a0 Z = true) (w4 : (Jvm.Cond.code z bytes mx rt).before a0 Z = true)
    (hsig : parseMethodDescriptor z.desc = some ⟨ps, rr⟩) (hrc : ∀ h, Hp Z h os → Exa Z h b C) (hM : OMeets l Z z bytes mx rt rm (.ref b :: argsL) os Q') (k : ∀ v os', Q' v os' → WP X Z rc rs Q pc' L (v.toList ++ S) os' (ce + rm.cells) (sl + rm.slots)) (hst : S0 = argsL.reverse ++ .ref b :: S := by rfl) (hlen : argsL.length = ps.length := by rfl) (hsz : L.length = maxL := by rfl) (hf : rm.frames + 1 ≤ R.frames := by decide) (hl : (S.map fun v => v.category).sum + (mx + 11) + rm.locals ≤ R.locals := by exact Nat.le_of_ble_eq_true rfl)
    (hc : ce + rm.cells ≤ R.cells := by decide) (hs : sl + rm.slots ≤ R.slots := by decide) (hy : z.cls ≠ "java/lang/invoke/MethodHandle" ∧ z.cls ≠ "java/lang/invoke/VarHandle" := by decide) (hp : pc + 3 = pc' := by rfl) : WP X Z rc rs Q pc L S0 os ce sl := by
  obtain ⟨p, l', e, R', s, m, args, below, meth, c⟩ := X
  obtain ⟨rfl, h2, hx, hZ, hby, hml, hown, hnm, hret, hlk⟩ := K
  have h2' : R' = R := h2
  subst h2'
  subst hp
  intro T locs hT0 hH hF
  have hT : Stand p l' e R' s m args below meth c T locs ce sl := hT0
  obtain ⟨cell, hcell, hobj⟩ := Exa.cell (hrc T.heap hH)
  have wi' : (Jvm.Cond.instantiable z.cls nn).before args s = true := mvT hZ wi
  have w6' : (Jvm.Cond.instanceMethod z).before args s = true := mvT hZ w6
  have hpv : s.PrivateAt z := Cond.privateMethod_at (mvP (args := args) hZ w2)
  obtain ⟨cz, kz, i1, i2, -, i3, -⟩ := Cond.instantiable_spec wi'
  have hsel : (Jvm.Cond.selects z.cls z z).before args s = true := selects_self_of_private i1 i2 (by revert i3; cases kz.isInterface <;> simp) hpv w6' hy
  obtain ⟨v, vm1, ⟨T', L', k', n'⟩, -, X', ⟨Lc, ⟨os1, hQ1, hH1, hF1⟩, e1, e2, e3⟩, st'⟩ := Stand.privateBack hT hx (y := z) hown (mvT hZ w1) w6' hsel hpv (mvT hZ w4) hy (backOf (W := (S.map fun v => v.category).sum) (Q := fun v h L => ∃ os', Q' v os' ∧ Hp Z h os' ∧ Fr Z.heap.size L) (hM _ hH []) hZ w4 w3 (hf) (hl)) (g := mkF m pc L.toArray S0) rfl (by rw [hml]; simpa using hsz) (Steps.refl _) (a := b) hcell hobj (argsL := argsL) (rest := S) (lenOf hsig hlen) hst (by show 2 * 0 + _ ≤ _; omega) (hb hby hd) (fun _ _ => ⟨rfl, rfl, hc, hs⟩)
  dsimp only [Pt.U, Pt.locs, Pt.cells, Pt.slots] at X' e1 e2 e3 st' hH1
  subst e1 e2 e3
  obtain ⟨s2, o, st, r⟩ := k v os1 hQ1 T' _ X' hH1 (Fr.app hF hF1)
  exact ⟨s2, o, st'.trans st, r⟩
theorem W.callPv {idx mx nn : Nat} {z : MethodName} {bytes : ByteArray} {rt : Option FieldType} {rm : Room} {argsL : List Value} {S0 : List Value} {ps : List FieldType} {rr : Option FieldType} {b : Addr} {C : String} {q : Value → OS → Prop} (K : Ctx X l Z R y code maxL ret) (pc' : Nat) (hd : decode code pc = .ok (.invokevirtual idx, 3)) (w1 : (Jvm.Cond.methodLink y.cls idx z).before a0 Z = true) (w6 : (Jvm.Cond.instanceMethod z).before a0 Z = true) (w2 : (Jvm.Cond.privateMethod z).before a0 Z = true) (wi : (Jvm.Cond.instantiable z.cls nn).before a0 Z = true) (w3 : (Jvm.Cond.initialized z.cls).before a0 Z = true) (w4 : (Jvm.Cond.code z bytes mx rt).before a0 Z = true)
    (hsig : parseMethodDescriptor z.desc = some ⟨ps, rr⟩) (hrc : ∀ h, Hp Z h os → Exa Z h b C) (hM : OMeets l Z z bytes mx rt rm (.ref b :: argsL) os (RetV q)) (k : ∀ v os', q v os' → WP X Z rc rs Q pc' L (v :: S) os' (ce + rm.cells) (sl + rm.slots)) (hst : S0 = argsL.reverse ++ .ref b :: S := by rfl) (hlen : argsL.length = ps.length := by rfl) (hsz : L.length = maxL := by rfl) (hf : rm.frames + 1 ≤ R.frames := by decide) (hl : (S.map fun v => v.category).sum + (mx + 11) + rm.locals ≤ R.locals := by exact Nat.le_of_ble_eq_true rfl)
    (hc : ce + rm.cells ≤ R.cells := by decide) (hs : sl + rm.slots ≤ R.slots := by decide) (hy : z.cls ≠ "java/lang/invoke/MethodHandle" ∧ z.cls ≠ "java/lang/invoke/VarHandle" := by decide) (hp : pc + 3 = pc' := by rfl) : WP X Z rc rs Q pc L S0 os ce sl :=
  W.callP K pc' hd w1 w6 w2 wi w3 w4 hsig hrc hM (fun v os' hq => by obtain ⟨w, rfl, hq⟩ := hq; exact k w os' hq) hst hlen hsz hf hl hc hs hy hp
theorem W.callPn {idx mx nn : Nat} {z : MethodName} {bytes : ByteArray} {rm : Room} {argsL : List Value} {S0 : List Value} {ps : List FieldType} {rr : Option FieldType} {b : Addr} {C : String} {q : OS → Prop} (K : Ctx X l Z R y code maxL ret) (pc' : Nat) (hd : decode code pc = .ok (.invokevirtual idx, 3)) (w1 : (Jvm.Cond.methodLink y.cls idx z).before a0 Z = true) (w6 : (Jvm.Cond.instanceMethod z).before a0 Z = true) (w2 : (Jvm.Cond.privateMethod z).before a0 Z = true) (wi : (Jvm.Cond.instantiable z.cls nn).before a0 Z = true) (w3 : (Jvm.Cond.initialized z.cls).before a0 Z = true) (w4 : (Jvm.Cond.code z bytes mx none).before a0 Z = true)
    (hsig : parseMethodDescriptor z.desc = some ⟨ps, rr⟩) (hrc : ∀ h, Hp Z h os → Exa Z h b C) (hM : OMeets l Z z bytes mx none rm (.ref b :: argsL) os (RetN q)) (k : ∀ os', q os' → WP X Z rc rs Q pc' L S os' (ce + rm.cells) (sl + rm.slots)) (hst : S0 = argsL.reverse ++ .ref b :: S := by rfl) (hlen : argsL.length = ps.length := by rfl) (hsz : L.length = maxL := by rfl) (hf : rm.frames + 1 ≤ R.frames := by decide) (hl : (S.map fun v => v.category).sum + (mx + 11) + rm.locals ≤ R.locals := by exact Nat.le_of_ble_eq_true rfl)
    (hc : ce + rm.cells ≤ R.cells := by decide) (hs : sl + rm.slots ≤ R.slots := by decide) (hy : z.cls ≠ "java/lang/invoke/MethodHandle" ∧ z.cls ≠ "java/lang/invoke/VarHandle" := by decide) (hp : pc + 3 = pc' := by rfl) : WP X Z rc rs Q pc L S0 os ce sl :=
  W.callP K pc' hd w1 w6 w2 wi w3 w4 hsig hrc hM (fun v os' hq => by obtain ⟨rfl, hq⟩ := hq; exact k os' hq) hst hlen hsz hf hl hc hs hy hp
theorem WP.weaken {Q' : Option Value → OS → Prop} (k : WP X Z rc rs Q pc L S os ce sl) (q : ∀ v os', Q v os' → Q' v os') : WP X Z rc rs Q' pc L S os ce sl := fun T locs hT hH hF => by
  obtain ⟨s2, o, h1, h2, h3, v, L, h4, ⟨os', h5, h6⟩, h7⟩ := k T locs hT hH hF
  exact ⟨s2, o, h1, h2, h3, v, L, h4, ⟨os', q v os' h5, h6⟩, h7⟩
end More
end Jvm.OwnW
namespace Jvm.Pilot.@@N@@
open Jvm Jvm.ClassFile Sem Op Lib Jvm.Free Jvm.Stand Jvm.LawKit Jvm.RoadKit Bundle Jvm.OwnW Jvm.Pilot.@@N@@.Jvm.D
theorem pn_0 : plainFor x = true := plainFor_of_name (show plainName "com/example/pointfold/pointfold/datalog/FlatRelationEndRoundPinLaw" = true by first | (simp [plainName, overriddenIn]; done) | decide +kernel)
theorem pd_0 : parseMethodDescriptor "(IIIII)Z" = some ⟨[.int, .int, .int, .int, .int], some .boolean⟩ := by decide +kernel
theorem d1_0 : decode prog_10_method_1_code 0 = .ok (.aload_n 0, 1) := by decide +kernel
theorem d1_1 : decode prog_10_method_1_code 1 = .ok (.invokespecial 1, 3) := by decide +kernel
theorem d1_4 : decode prog_10_method_1_code 4 = .ok (.aload_n 0, 1) := by decide +kernel
theorem d1_5 : decode prog_10_method_1_code 5 = .ok (.new 7, 3) := by decide +kernel
theorem d1_8 : decode prog_10_method_1_code 8 = .ok (.dup, 1) := by decide +kernel
theorem d1_9 : decode prog_10_method_1_code 9 = .ok (.invokespecial 9, 3) := by decide +kernel
theorem d1_12 : decode prog_10_method_1_code 12 = .ok (.putfield 10, 3) := by decide +kernel
theorem d1_15 : decode prog_10_method_1_code 15 = .ok (.aload_n 0, 1) := by decide +kernel
theorem d1_16 : decode prog_10_method_1_code 16 = .ok (.new 16, 3) := by decide +kernel
theorem d1_19 : decode prog_10_method_1_code 19 = .ok (.dup, 1) := by decide +kernel
theorem d1_20 : decode prog_10_method_1_code 20 = .ok (.invokespecial 18, 3) := by decide +kernel
theorem d1_23 : decode prog_10_method_1_code 23 = .ok (.putfield 19, 3) := by decide +kernel
theorem d1_26 : decode prog_10_method_1_code 26 = .ok (.aload_n 0, 1) := by decide +kernel
theorem d1_27 : decode prog_10_method_1_code 27 = .ok (.iload_n 1, 1) := by decide +kernel
theorem d1_28 : decode prog_10_method_1_code 28 = .ok (.putfield 23, 3) := by decide +kernel
theorem d1_31 : decode prog_10_method_1_code 31 = .ok (.aload_n 0, 1) := by decide +kernel
theorem d1_32 : decode prog_10_method_1_code 32 = .ok (.iload_n 1, 1) := by decide +kernel
theorem d1_33 : decode prog_10_method_1_code 33 = .ok (.newarray .int, 2) := by decide +kernel
theorem d1_35 : decode prog_10_method_1_code 35 = .ok (.putfield 27, 3) := by decide +kernel
theorem d1_38 : decode prog_10_method_1_code 38 = .ok (.iconst 0, 1) := by decide +kernel
theorem d1_39 : decode prog_10_method_1_code 39 = .ok (.istore_n 2, 1) := by decide +kernel
theorem d1_40 : decode prog_10_method_1_code 40 = .ok (.iload_n 2, 1) := by decide +kernel
theorem d1_41 : decode prog_10_method_1_code 41 = .ok (.iload_n 1, 1) := by decide +kernel
theorem d1_42 : decode prog_10_method_1_code 42 = .ok (.if_icmp .ge 16, 3) := by decide +kernel
theorem d1_45 : decode prog_10_method_1_code 45 = .ok (.aload_n 0, 1) := by decide +kernel
theorem d1_46 : decode prog_10_method_1_code 46 = .ok (.getfield 27, 3) := by decide +kernel
theorem d1_49 : decode prog_10_method_1_code 49 = .ok (.iload_n 2, 1) := by decide +kernel
theorem d1_50 : decode prog_10_method_1_code 50 = .ok (.iload_n 2, 1) := by decide +kernel
theorem d1_51 : decode prog_10_method_1_code 51 = .ok (.iastore, 1) := by decide +kernel
theorem d1_52 : decode prog_10_method_1_code 52 = .ok (.iinc 2 1, 3) := by decide +kernel
theorem d1_55 : decode prog_10_method_1_code 55 = .ok (.goto (-15), 3) := by decide +kernel
theorem d1_58 : decode prog_10_method_1_code 58 = .ok (.aload_n 0, 1) := by decide +kernel
theorem d1_59 : decode prog_10_method_1_code 59 = .ok (.iload_n 1, 1) := by decide +kernel
theorem d1_60 : decode prog_10_method_1_code 60 = .ok (.newarray .int, 2) := by decide +kernel
theorem d1_62 : decode prog_10_method_1_code 62 = .ok (.putfield 31, 3) := by decide +kernel
theorem d1_65 : decode prog_10_method_1_code 65 = .ok (.aload_n 0, 1) := by decide +kernel
theorem d1_66 : decode prog_10_method_1_code 66 = .ok (.iload_n 1, 1) := by decide +kernel
theorem d1_67 : decode prog_10_method_1_code 67 = .ok (.newarray .int, 2) := by decide +kernel
theorem d1_69 : decode prog_10_method_1_code 69 = .ok (.putfield 34, 3) := by decide +kernel
theorem d1_72 : decode prog_10_method_1_code 72 = .ok (.aload_n 0, 1) := by decide +kernel
theorem d1_73 : decode prog_10_method_1_code 73 = .ok (.getfield 31, 3) := by decide +kernel
theorem d1_76 : decode prog_10_method_1_code 76 = .ok (.iconst (-1), 1) := by decide +kernel
theorem d1_77 : decode prog_10_method_1_code 77 = .ok (.invokestatic 37, 3) := by decide +kernel
theorem d1_80 : decode prog_10_method_1_code 80 = .ok (.aload_n 0, 1) := by decide +kernel
theorem d1_81 : decode prog_10_method_1_code 81 = .ok (.new 43, 3) := by decide +kernel
theorem d1_84 : decode prog_10_method_1_code 84 = .ok (.dup, 1) := by decide +kernel
theorem d1_85 : decode prog_10_method_1_code 85 = .ok (.aload_n 0, 1) := by decide +kernel
theorem d1_86 : decode prog_10_method_1_code 86 = .ok (.aload_n 0, 1) := by decide +kernel
theorem d1_87 : decode prog_10_method_1_code 87 = .ok (.getfield 27, 3) := by decide +kernel
theorem d1_90 : decode prog_10_method_1_code 90 = .ok (.invokespecial 45, 3) := by decide +kernel
theorem d1_93 : decode prog_10_method_1_code 93 = .ok (.putfield 48, 3) := by decide +kernel
theorem d1_96 : decode prog_10_method_1_code 96 = .ok (.return_, 1) := by decide +kernel
theorem pn_1 : plainFor (⟨"com/example/pointfold/pointfold/datalog/FlatRelation", "<init>", "(I)V"⟩ : MethodName) = true := plainFor_of_name (show plainName "com/example/pointfold/pointfold/datalog/FlatRelation" = true by first | (simp [plainName, overriddenIn]; done) | decide +kernel)
theorem pd_1 : parseMethodDescriptor "(I)V" = some ⟨[.int], none⟩ := by decide +kernel
theorem d2_0 : decode prog_47_method_1_code 0 = .ok (.aload_n 0, 1) := by decide +kernel
theorem d2_1 : decode prog_47_method_1_code 1 = .ok (.invokespecial 1, 3) := by decide +kernel
theorem d2_4 : decode prog_47_method_1_code 4 = .ok (.return_, 1) := by decide +kernel
theorem pn_2 : plainFor (⟨"com/example/pointfold/pointfold/datalog/Relation", "<init>", "()V"⟩ : MethodName) = true := plainFor_of_name (show plainName "com/example/pointfold/pointfold/datalog/Relation" = true by first | (simp [plainName, overriddenIn]; done) | decide +kernel)
theorem pd_2 : parseMethodDescriptor "()V" = some ⟨[], none⟩ := by decide +kernel
theorem d4_0 : decode prog_16_method_1_code 0 = .ok (.aload_n 0, 1) := by decide +kernel
theorem d4_1 : decode prog_16_method_1_code 1 = .ok (.invokespecial 3, 3) := by decide +kernel
theorem d4_4 : decode prog_16_method_1_code 4 = .ok (.aload_n 0, 1) := by decide +kernel
theorem d4_5 : decode prog_16_method_1_code 5 = .ok (.iconst 1, 1) := by decide +kernel
theorem d4_6 : decode prog_16_method_1_code 6 = .ok (.anewarray 9, 3) := by decide +kernel
theorem d4_9 : decode prog_16_method_1_code 9 = .ok (.dup, 1) := by decide +kernel
theorem d4_10 : decode prog_16_method_1_code 10 = .ok (.iconst 0, 1) := by decide +kernel
theorem d4_11 : decode prog_16_method_1_code 11 = .ok (.bipush 16, 2) := by decide +kernel
theorem d4_13 : decode prog_16_method_1_code 13 = .ok (.newarray .int, 2) := by decide +kernel
theorem d4_15 : decode prog_16_method_1_code 15 = .ok (.aastore, 1) := by decide +kernel
theorem d4_16 : decode prog_16_method_1_code 16 = .ok (.putfield 11, 3) := by decide +kernel
theorem d4_19 : decode prog_16_method_1_code 19 = .ok (.return_, 1) := by decide +kernel
theorem pn_4 : plainFor (⟨"com/example/pointfold/pointfold/datalog/IntBlocks", "<init>", "()V"⟩ : MethodName) = true := plainFor_of_name (show plainName "com/example/pointfold/pointfold/datalog/IntBlocks" = true by first | (simp [plainName, overriddenIn]; done) | decide +kernel)
theorem pd_4 : parseMethodDescriptor "()V" = some ⟨[], none⟩ := by decide +kernel
theorem d5_0 : decode jdk_69_method_7_code 0 = .ok (.aload_n 0, 1) := by decide +kernel
theorem d5_1 : decode jdk_69_method_7_code 1 = .ok (.invokespecial 43, 3) := by decide +kernel
theorem d5_4 : decode jdk_69_method_7_code 4 = .ok (.aload_n 0, 1) := by decide +kernel
theorem d5_5 : decode jdk_69_method_7_code 5 = .ok (.ldc 92, 2) := by decide +kernel
theorem d5_7 : decode jdk_69_method_7_code 7 = .ok (.putfield 81, 3) := by decide +kernel
theorem d5_10 : decode jdk_69_method_7_code 10 = .ok (.return_, 1) := by decide +kernel
theorem pn_5 : plainFor (⟨"java/util/HashMap", "<init>", "()V"⟩ : MethodName) = true := plainFor_of_name (show plainName "java/util/HashMap" = true by first | (simp [plainName, overriddenIn]; done) | decide +kernel)
theorem pd_5 : parseMethodDescriptor "()V" = some ⟨[], none⟩ := by decide +kernel
theorem d6_0 : decode jdk_71_method_1_code 0 = .ok (.aload_n 0, 1) := by decide +kernel
theorem d6_1 : decode jdk_71_method_1_code 1 = .ok (.invokespecial 1, 3) := by decide +kernel
theorem d6_4 : decode jdk_71_method_1_code 4 = .ok (.return_, 1) := by decide +kernel
theorem pn_6 : plainFor (⟨"java/util/AbstractMap", "<init>", "()V"⟩ : MethodName) = true := plainFor_of_name (show plainName "java/util/AbstractMap" = true by first | (simp [plainName, overriddenIn]; done) | decide +kernel)
theorem pd_6 : parseMethodDescriptor "()V" = some ⟨[], none⟩ := by decide +kernel
theorem d7_0 : decode jdk_65_method_103_code 0 = .ok (.iconst 0, 1) := by decide +kernel
theorem d7_1 : decode jdk_65_method_103_code 1 = .ok (.istore_n 2, 1) := by decide +kernel
theorem d7_2 : decode jdk_65_method_103_code 2 = .ok (.aload_n 0, 1) := by decide +kernel
theorem d7_3 : decode jdk_65_method_103_code 3 = .ok (.arraylength, 1) := by decide +kernel
theorem d7_4 : decode jdk_65_method_103_code 4 = .ok (.istore_n 3, 1) := by decide +kernel
theorem d7_5 : decode jdk_65_method_103_code 5 = .ok (.iload_n 2, 1) := by decide +kernel
theorem d7_6 : decode jdk_65_method_103_code 6 = .ok (.iload_n 3, 1) := by decide +kernel
theorem d7_7 : decode jdk_65_method_103_code 7 = .ok (.if_icmp .ge 13, 3) := by decide +kernel
theorem d7_10 : decode jdk_65_method_103_code 10 = .ok (.aload_n 0, 1) := by decide +kernel
theorem d7_11 : decode jdk_65_method_103_code 11 = .ok (.iload_n 2, 1) := by decide +kernel
theorem d7_12 : decode jdk_65_method_103_code 12 = .ok (.iload_n 1, 1) := by decide +kernel
theorem d7_13 : decode jdk_65_method_103_code 13 = .ok (.iastore, 1) := by decide +kernel
theorem d7_14 : decode jdk_65_method_103_code 14 = .ok (.iinc 2 1, 3) := by decide +kernel
theorem d7_17 : decode jdk_65_method_103_code 17 = .ok (.goto (-12), 3) := by decide +kernel
theorem d7_20 : decode jdk_65_method_103_code 20 = .ok (.return_, 1) := by decide +kernel
theorem pn_7 : plainFor (⟨"java/util/Arrays", "fill", "([II)V"⟩ : MethodName) = true := plainFor_of_name (show plainName "java/util/Arrays" = true by first | (simp [plainName, overriddenIn]; done) | decide +kernel)
theorem pd_7 : parseMethodDescriptor "([II)V" = some ⟨[(.array .int), .int], none⟩ := by decide +kernel
theorem d8_0 : decode prog_55_method_1_code 0 = .ok (.aload_n 0, 1) := by decide +kernel
theorem d8_1 : decode prog_55_method_1_code 1 = .ok (.invokespecial 1, 3) := by decide +kernel
theorem d8_4 : decode prog_55_method_1_code 4 = .ok (.aload_n 0, 1) := by decide +kernel
theorem d8_5 : decode prog_55_method_1_code 5 = .ok (.bipush 16, 2) := by decide +kernel
theorem d8_7 : decode prog_55_method_1_code 7 = .ok (.putfield 7, 3) := by decide +kernel
theorem d8_10 : decode prog_55_method_1_code 10 = .ok (.aload_n 0, 1) := by decide +kernel
theorem d8_11 : decode prog_55_method_1_code 11 = .ok (.new 13, 3) := by decide +kernel
theorem d8_14 : decode prog_55_method_1_code 14 = .ok (.dup, 1) := by decide +kernel
theorem d8_15 : decode prog_55_method_1_code 15 = .ok (.aload_n 0, 1) := by decide +kernel
theorem d8_16 : decode prog_55_method_1_code 16 = .ok (.getfield 7, 3) := by decide +kernel
theorem d8_19 : decode prog_55_method_1_code 19 = .ok (.invokespecial 15, 3) := by decide +kernel
theorem d8_22 : decode prog_55_method_1_code 22 = .ok (.putfield 18, 3) := by decide +kernel
theorem d8_25 : decode prog_55_method_1_code 25 = .ok (.aload_n 0, 1) := by decide +kernel
theorem d8_26 : decode prog_55_method_1_code 26 = .ok (.new 22, 3) := by decide +kernel
theorem d8_29 : decode prog_55_method_1_code 29 = .ok (.dup, 1) := by decide +kernel
theorem d8_30 : decode prog_55_method_1_code 30 = .ok (.aload_n 0, 1) := by decide +kernel
theorem d8_31 : decode prog_55_method_1_code 31 = .ok (.getfield 7, 3) := by decide +kernel
theorem d8_34 : decode prog_55_method_1_code 34 = .ok (.invokespecial 24, 3) := by decide +kernel
theorem d8_37 : decode prog_55_method_1_code 37 = .ok (.putfield 25, 3) := by decide +kernel
theorem d8_40 : decode prog_55_method_1_code 40 = .ok (.aload_n 0, 1) := by decide +kernel
theorem d8_41 : decode prog_55_method_1_code 41 = .ok (.new 13, 3) := by decide +kernel
theorem d8_44 : decode prog_55_method_1_code 44 = .ok (.dup, 1) := by decide +kernel
theorem d8_45 : decode prog_55_method_1_code 45 = .ok (.invokespecial 29, 3) := by decide +kernel
theorem d8_48 : decode prog_55_method_1_code 48 = .ok (.putfield 30, 3) := by decide +kernel
theorem d8_51 : decode prog_55_method_1_code 51 = .ok (.aload_n 0, 1) := by decide +kernel
theorem d8_52 : decode prog_55_method_1_code 52 = .ok (.aload_n 1, 1) := by decide +kernel
theorem d8_53 : decode prog_55_method_1_code 53 = .ok (.putfield 33, 3) := by decide +kernel
theorem d8_56 : decode prog_55_method_1_code 56 = .ok (.aload_n 0, 1) := by decide +kernel
theorem d8_57 : decode prog_55_method_1_code 57 = .ok (.aload_n 2, 1) := by decide +kernel
theorem d8_58 : decode prog_55_method_1_code 58 = .ok (.putfield 37, 3) := by decide +kernel
theorem d8_61 : decode prog_55_method_1_code 61 = .ok (.return_, 1) := by decide +kernel
theorem pn_8 : plainFor (⟨"com/example/pointfold/pointfold/datalog/TupleIndex", "<init>", "(Lcom/example/pointfold/pointfold/datalog/FlatRelation;[I)V"⟩ : MethodName) = true := plainFor_of_name (show plainName "com/example/pointfold/pointfold/datalog/TupleIndex" = true by first | (simp [plainName, overriddenIn]; done) | decide +kernel)
theorem pd_8 : parseMethodDescriptor "(Lcom/example/pointfold/pointfold/datalog/FlatRelation;[I)V" = some ⟨[(.object "com/example/pointfold/pointfold/datalog/FlatRelation"), (.array .int)], none⟩ := by decide +kernel
theorem d9_0 : decode prog_16_method_2_code 0 = .ok (.aload_n 0, 1) := by decide +kernel
theorem d9_1 : decode prog_16_method_2_code 1 = .ok (.invokespecial 3, 3) := by decide +kernel
theorem d9_4 : decode prog_16_method_2_code 4 = .ok (.aload_n 0, 1) := by decide +kernel
theorem d9_5 : decode prog_16_method_2_code 5 = .ok (.iconst 1, 1) := by decide +kernel
theorem d9_6 : decode prog_16_method_2_code 6 = .ok (.anewarray 9, 3) := by decide +kernel
theorem d9_9 : decode prog_16_method_2_code 9 = .ok (.dup, 1) := by decide +kernel
theorem d9_10 : decode prog_16_method_2_code 10 = .ok (.iconst 0, 1) := by decide +kernel
theorem d9_11 : decode prog_16_method_2_code 11 = .ok (.bipush 16, 2) := by decide +kernel
theorem d9_13 : decode prog_16_method_2_code 13 = .ok (.newarray .int, 2) := by decide +kernel
theorem d9_15 : decode prog_16_method_2_code 15 = .ok (.aastore, 1) := by decide +kernel
theorem d9_16 : decode prog_16_method_2_code 16 = .ok (.putfield 11, 3) := by decide +kernel
theorem d9_19 : decode prog_16_method_2_code 19 = .ok (.iload_n 1, 1) := by decide +kernel
theorem d9_20 : decode prog_16_method_2_code 20 = .ok (.bipush 16, 2) := by decide +kernel
theorem d9_22 : decode prog_16_method_2_code 22 = .ok (.iushr, 1) := by decide +kernel
theorem d9_23 : decode prog_16_method_2_code 23 = .ok (.istore_n 2, 1) := by decide +kernel
theorem d9_24 : decode prog_16_method_2_code 24 = .ok (.iload_n 2, 1) := by decide +kernel
theorem d9_25 : decode prog_16_method_2_code 25 = .ok (.ifCond .ne 23, 3) := by decide +kernel
theorem d9_28 : decode prog_16_method_2_code 28 = .ok (.aload_n 0, 1) := by decide +kernel
theorem d9_29 : decode prog_16_method_2_code 29 = .ok (.iconst 1, 1) := by decide +kernel
theorem d9_30 : decode prog_16_method_2_code 30 = .ok (.anewarray 9, 3) := by decide +kernel
theorem d9_33 : decode prog_16_method_2_code 33 = .ok (.dup, 1) := by decide +kernel
theorem d9_34 : decode prog_16_method_2_code 34 = .ok (.iconst 0, 1) := by decide +kernel
theorem d9_35 : decode prog_16_method_2_code 35 = .ok (.bipush 16, 2) := by decide +kernel
theorem d9_37 : decode prog_16_method_2_code 37 = .ok (.iload_n 1, 1) := by decide +kernel
theorem d9_38 : decode prog_16_method_2_code 38 = .ok (.invokestatic 15, 3) := by decide +kernel
theorem d9_41 : decode prog_16_method_2_code 41 = .ok (.newarray .int, 2) := by decide +kernel
theorem d9_43 : decode prog_16_method_2_code 43 = .ok (.aastore, 1) := by decide +kernel
theorem d9_44 : decode prog_16_method_2_code 44 = .ok (.putfield 11, 3) := by decide +kernel
theorem d9_47 : decode prog_16_method_2_code 47 = .ok (.return_, 1) := by decide +kernel
theorem pn_9 : plainFor (⟨"com/example/pointfold/pointfold/datalog/IntBlocks", "<init>", "(I)V"⟩ : MethodName) = true := plainFor_of_name (show plainName "com/example/pointfold/pointfold/datalog/IntBlocks" = true by first | (simp [plainName, overriddenIn]; done) | decide +kernel)
theorem pd_9 : parseMethodDescriptor "(I)V" = some ⟨[.int], none⟩ := by decide +kernel
theorem d10_0 : decode jdk_29_method_65_code 0 = .ok (.iload_n 0, 1) := by decide +kernel
theorem d10_1 : decode jdk_29_method_65_code 1 = .ok (.iload_n 1, 1) := by decide +kernel
theorem d10_2 : decode jdk_29_method_65_code 2 = .ok (.if_icmp .lt 7, 3) := by decide +kernel
theorem d10_5 : decode jdk_29_method_65_code 5 = .ok (.iload_n 0, 1) := by decide +kernel
theorem d10_6 : decode jdk_29_method_65_code 6 = .ok (.goto 4, 3) := by decide +kernel
theorem d10_9 : decode jdk_29_method_65_code 9 = .ok (.iload_n 1, 1) := by decide +kernel
theorem d10_10 : decode jdk_29_method_65_code 10 = .ok (.ireturn, 1) := by decide +kernel
theorem pn_10 : plainFor (⟨"java/lang/Math", "max", "(II)I"⟩ : MethodName) = true := Jvm.Free.JP.mathPlain rfl (by decide +kernel)
theorem pd_10 : parseMethodDescriptor "(II)I" = some ⟨[.int, .int], some .int⟩ := by decide +kernel
theorem d11_0 : decode prog_14_method_1_code 0 = .ok (.aload_n 0, 1) := by decide +kernel
theorem d11_1 : decode prog_14_method_1_code 1 = .ok (.invokespecial 1, 3) := by decide +kernel
theorem d11_4 : decode prog_14_method_1_code 4 = .ok (.aload_n 0, 1) := by decide +kernel
theorem d11_5 : decode prog_14_method_1_code 5 = .ok (.iload_n 1, 1) := by decide +kernel
theorem d11_6 : decode prog_14_method_1_code 6 = .ok (.bipush 8, 2) := by decide +kernel
theorem d11_8 : decode prog_14_method_1_code 8 = .ok (.idiv, 1) := by decide +kernel
theorem d11_9 : decode prog_14_method_1_code 9 = .ok (.newarray .long, 2) := by decide +kernel
theorem d11_11 : decode prog_14_method_1_code 11 = .ok (.putfield 7, 3) := by decide +kernel
theorem d11_14 : decode prog_14_method_1_code 14 = .ok (.aload_n 0, 1) := by decide +kernel
theorem d11_15 : decode prog_14_method_1_code 15 = .ok (.ldc2_w 13, 3) := by decide +kernel
theorem d11_18 : decode prog_14_method_1_code 18 = .ok (.iload_n 1, 1) := by decide +kernel
theorem d11_19 : decode prog_14_method_1_code 19 = .ok (.i2l, 1) := by decide +kernel
theorem d11_20 : decode prog_14_method_1_code 20 = .ok (.lmul, 1) := by decide +kernel
theorem d11_21 : decode prog_14_method_1_code 21 = .ok (.lconst 1, 1) := by decide +kernel
theorem d11_22 : decode prog_14_method_1_code 22 = .ok (.lsub, 1) := by decide +kernel
theorem d11_23 : decode prog_14_method_1_code 23 = .ok (.putfield 15, 3) := by decide +kernel
theorem d11_26 : decode prog_14_method_1_code 26 = .ok (.return_, 1) := by decide +kernel
theorem pn_11 : plainFor (⟨"com/example/pointfold/pointfold/datalog/HashFilter", "<init>", "(I)V"⟩ : MethodName) = true := plainFor_of_name (show plainName "com/example/pointfold/pointfold/datalog/HashFilter" = true by first | (simp [plainName, overriddenIn]; done) | decide +kernel)
theorem pd_11 : parseMethodDescriptor "(I)V" = some ⟨[.int], none⟩ := by decide +kernel
theorem d12_0 : decode prog_10_method_13_code 0 = .ok (.aload_n 0, 1) := by decide +kernel
theorem d12_1 : decode prog_10_method_13_code 1 = .ok (.aload_n 0, 1) := by decide +kernel
theorem d12_2 : decode prog_10_method_13_code 2 = .ok (.getfield 52, 3) := by decide +kernel
theorem d12_5 : decode prog_10_method_13_code 5 = .ok (.putfield 134, 3) := by decide +kernel
theorem d12_8 : decode prog_10_method_13_code 8 = .ok (.return_, 1) := by decide +kernel
theorem pn_12 : plainFor (⟨"com/example/pointfold/pointfold/datalog/FlatRelation", "beginRound", "()V"⟩ : MethodName) = true := plainFor_of_name (show plainName "com/example/pointfold/pointfold/datalog/FlatRelation" = true by first | (simp [plainName, overriddenIn]; done) | decide +kernel)
theorem pd_12 : parseMethodDescriptor "()V" = some ⟨[], none⟩ := by decide +kernel
theorem d13_0 : decode prog_10_method_8_code 0 = .ok (.aload_n 0, 1) := by decide +kernel
theorem d13_1 : decode prog_10_method_8_code 1 = .ok (.aload_n 1, 1) := by decide +kernel
theorem d13_2 : decode prog_10_method_8_code 2 = .ok (.invokevirtual 74, 3) := by decide +kernel
theorem d13_5 : decode prog_10_method_8_code 5 = .ok (.ifCond .eq 5, 3) := by decide +kernel
theorem d13_8 : decode prog_10_method_8_code 8 = .ok (.iconst 0, 1) := by decide +kernel
theorem d13_9 : decode prog_10_method_8_code 9 = .ok (.ireturn, 1) := by decide +kernel
theorem d13_10 : decode prog_10_method_8_code 10 = .ok (.iconst 0, 1) := by decide +kernel
theorem d13_11 : decode prog_10_method_8_code 11 = .ok (.istore_n 2, 1) := by decide +kernel
theorem d13_12 : decode prog_10_method_8_code 12 = .ok (.iload_n 2, 1) := by decide +kernel
theorem d13_13 : decode prog_10_method_8_code 13 = .ok (.aload_n 0, 1) := by decide +kernel
theorem d13_14 : decode prog_10_method_8_code 14 = .ok (.getfield 23, 3) := by decide +kernel
theorem d13_17 : decode prog_10_method_8_code 17 = .ok (.if_icmp .ge 54, 3) := by decide +kernel
theorem d13_20 : decode prog_10_method_8_code 20 = .ok (.aload_n 0, 1) := by decide +kernel
theorem d13_21 : decode prog_10_method_8_code 21 = .ok (.getfield 52, 3) := by decide +kernel
theorem d13_24 : decode prog_10_method_8_code 24 = .ok (.ifCond .ne 15, 3) := by decide +kernel
theorem d13_27 : decode prog_10_method_8_code 27 = .ok (.aload_n 0, 1) := by decide +kernel
theorem d13_28 : decode prog_10_method_8_code 28 = .ok (.getfield 34, 3) := by decide +kernel
theorem d13_31 : decode prog_10_method_8_code 31 = .ok (.iload_n 2, 1) := by decide +kernel
theorem d13_32 : decode prog_10_method_8_code 32 = .ok (.aload_n 1, 1) := by decide +kernel
theorem d13_33 : decode prog_10_method_8_code 33 = .ok (.iload_n 2, 1) := by decide +kernel
theorem d13_34 : decode prog_10_method_8_code 34 = .ok (.iaload, 1) := by decide +kernel
theorem d13_35 : decode prog_10_method_8_code 35 = .ok (.iastore, 1) := by decide +kernel
theorem d13_36 : decode prog_10_method_8_code 36 = .ok (.goto 29, 3) := by decide +kernel
theorem d13_39 : decode prog_10_method_8_code 39 = .ok (.aload_n 0, 1) := by decide +kernel
theorem d13_40 : decode prog_10_method_8_code 40 = .ok (.getfield 31, 3) := by decide +kernel
theorem d13_43 : decode prog_10_method_8_code 43 = .ok (.iload_n 2, 1) := by decide +kernel
theorem d13_44 : decode prog_10_method_8_code 44 = .ok (.iaload, 1) := by decide +kernel
theorem d13_45 : decode prog_10_method_8_code 45 = .ok (.ifCond .ge 20, 3) := by decide +kernel
theorem d13_48 : decode prog_10_method_8_code 48 = .ok (.aload_n 0, 1) := by decide +kernel
theorem d13_49 : decode prog_10_method_8_code 49 = .ok (.getfield 34, 3) := by decide +kernel
theorem d13_52 : decode prog_10_method_8_code 52 = .ok (.iload_n 2, 1) := by decide +kernel
theorem d13_53 : decode prog_10_method_8_code 53 = .ok (.iaload, 1) := by decide +kernel
theorem d13_54 : decode prog_10_method_8_code 54 = .ok (.aload_n 1, 1) := by decide +kernel
theorem d13_55 : decode prog_10_method_8_code 55 = .ok (.iload_n 2, 1) := by decide +kernel
theorem d13_56 : decode prog_10_method_8_code 56 = .ok (.iaload, 1) := by decide +kernel
theorem d13_57 : decode prog_10_method_8_code 57 = .ok (.if_icmp .eq 8, 3) := by decide +kernel
theorem d13_60 : decode prog_10_method_8_code 60 = .ok (.aload_n 0, 1) := by decide +kernel
theorem d13_61 : decode prog_10_method_8_code 61 = .ok (.iload_n 2, 1) := by decide +kernel
theorem d13_62 : decode prog_10_method_8_code 62 = .ok (.invokevirtual 78, 3) := by decide +kernel
theorem d13_65 : decode prog_10_method_8_code 65 = .ok (.iinc 2 1, 3) := by decide +kernel
theorem d13_68 : decode prog_10_method_8_code 68 = .ok (.goto (-56), 3) := by decide +kernel
theorem d13_71 : decode prog_10_method_8_code 71 = .ok (.iconst 0, 1) := by decide +kernel
theorem d13_72 : decode prog_10_method_8_code 72 = .ok (.istore_n 2, 1) := by decide +kernel
theorem d13_73 : decode prog_10_method_8_code 73 = .ok (.iload_n 2, 1) := by decide +kernel
theorem d13_74 : decode prog_10_method_8_code 74 = .ok (.aload_n 0, 1) := by decide +kernel
theorem d13_75 : decode prog_10_method_8_code 75 = .ok (.getfield 23, 3) := by decide +kernel
theorem d13_78 : decode prog_10_method_8_code 78 = .ok (.if_icmp .ge 44, 3) := by decide +kernel
theorem d13_81 : decode prog_10_method_8_code 81 = .ok (.aload_n 0, 1) := by decide +kernel
theorem d13_82 : decode prog_10_method_8_code 82 = .ok (.getfield 31, 3) := by decide +kernel
theorem d13_85 : decode prog_10_method_8_code 85 = .ok (.iload_n 2, 1) := by decide +kernel
theorem d13_86 : decode prog_10_method_8_code 86 = .ok (.iaload, 1) := by decide +kernel
theorem d13_87 : decode prog_10_method_8_code 87 = .ok (.ifCond .lt 29, 3) := by decide +kernel
theorem d13_90 : decode prog_10_method_8_code 90 = .ok (.aload_n 0, 1) := by decide +kernel
theorem d13_91 : decode prog_10_method_8_code 91 = .ok (.getfield 10, 3) := by decide +kernel
theorem d13_94 : decode prog_10_method_8_code 94 = .ok (.aload_n 0, 1) := by decide +kernel
theorem d13_95 : decode prog_10_method_8_code 95 = .ok (.getfield 52, 3) := by decide +kernel
theorem d13_98 : decode prog_10_method_8_code 98 = .ok (.aload_n 0, 1) := by decide +kernel
theorem d13_99 : decode prog_10_method_8_code 99 = .ok (.getfield 55, 3) := by decide +kernel
theorem d13_102 : decode prog_10_method_8_code 102 = .ok (.imul, 1) := by decide +kernel
theorem d13_103 : decode prog_10_method_8_code 103 = .ok (.aload_n 0, 1) := by decide +kernel
theorem d13_104 : decode prog_10_method_8_code 104 = .ok (.getfield 31, 3) := by decide +kernel
theorem d13_107 : decode prog_10_method_8_code 107 = .ok (.iload_n 2, 1) := by decide +kernel
theorem d13_108 : decode prog_10_method_8_code 108 = .ok (.iaload, 1) := by decide +kernel
theorem d13_109 : decode prog_10_method_8_code 109 = .ok (.iadd, 1) := by decide +kernel
theorem d13_110 : decode prog_10_method_8_code 110 = .ok (.aload_n 1, 1) := by decide +kernel
theorem d13_111 : decode prog_10_method_8_code 111 = .ok (.iload_n 2, 1) := by decide +kernel
theorem d13_112 : decode prog_10_method_8_code 112 = .ok (.iaload, 1) := by decide +kernel
theorem d13_113 : decode prog_10_method_8_code 113 = .ok (.invokevirtual 82, 3) := by decide +kernel
theorem d13_116 : decode prog_10_method_8_code 116 = .ok (.iinc 2 1, 3) := by decide +kernel
theorem d13_119 : decode prog_10_method_8_code 119 = .ok (.goto (-46), 3) := by decide +kernel
theorem d13_122 : decode prog_10_method_8_code 122 = .ok (.aload_n 0, 1) := by decide +kernel
theorem d13_123 : decode prog_10_method_8_code 123 = .ok (.dup, 1) := by decide +kernel
theorem d13_124 : decode prog_10_method_8_code 124 = .ok (.getfield 52, 3) := by decide +kernel
theorem d13_127 : decode prog_10_method_8_code 127 = .ok (.dup_x1, 1) := by decide +kernel
theorem d13_128 : decode prog_10_method_8_code 128 = .ok (.iconst 1, 1) := by decide +kernel
theorem d13_129 : decode prog_10_method_8_code 129 = .ok (.iadd, 1) := by decide +kernel
theorem d13_130 : decode prog_10_method_8_code 130 = .ok (.putfield 52, 3) := by decide +kernel
theorem d13_133 : decode prog_10_method_8_code 133 = .ok (.istore_n 2, 1) := by decide +kernel
theorem d13_134 : decode prog_10_method_8_code 134 = .ok (.aload_n 0, 1) := by decide +kernel
theorem d13_135 : decode prog_10_method_8_code 135 = .ok (.getfield 48, 3) := by decide +kernel
theorem d13_138 : decode prog_10_method_8_code 138 = .ok (.iload_n 2, 1) := by decide +kernel
theorem d13_139 : decode prog_10_method_8_code 139 = .ok (.invokevirtual 86, 3) := by decide +kernel
theorem d13_142 : decode prog_10_method_8_code 142 = .ok (.aload_n 0, 1) := by decide +kernel
theorem d13_143 : decode prog_10_method_8_code 143 = .ok (.getfield 19, 3) := by decide +kernel
theorem d13_146 : decode prog_10_method_8_code 146 = .ok (.invokeinterface 89 1, 5) := by decide +kernel
theorem d13_151 : decode prog_10_method_8_code 151 = .ok (.invokeinterface 94 1, 5) := by decide +kernel
theorem d13_156 : decode prog_10_method_8_code 156 = .ok (.astore_n 3, 1) := by decide +kernel
theorem d13_157 : decode prog_10_method_8_code 157 = .ok (.aload_n 3, 1) := by decide +kernel
theorem d13_158 : decode prog_10_method_8_code 158 = .ok (.invokeinterface 100 1, 5) := by decide +kernel
theorem d13_163 : decode prog_10_method_8_code 163 = .ok (.ifCond .eq 23, 3) := by decide +kernel
theorem d13_186 : decode prog_10_method_8_code 186 = .ok (.iconst 1, 1) := by decide +kernel
theorem d13_187 : decode prog_10_method_8_code 187 = .ok (.ireturn, 1) := by decide +kernel
theorem pn_13 : plainFor (⟨"com/example/pointfold/pointfold/datalog/FlatRelation", "add", "([I)Z"⟩ : MethodName) = true := plainFor_of_name (show plainName "com/example/pointfold/pointfold/datalog/FlatRelation" = true by first | (simp [plainName, overriddenIn]; done) | decide +kernel)
theorem pd_13 : parseMethodDescriptor "([I)Z" = some ⟨[(.array .int)], some .boolean⟩ := by decide +kernel
theorem d14_0 : decode prog_10_method_6_code 0 = .ok (.aload_n 0, 1) := by decide +kernel
theorem d14_1 : decode prog_10_method_6_code 1 = .ok (.aload_n 0, 1) := by decide +kernel
theorem d14_2 : decode prog_10_method_6_code 2 = .ok (.getfield 27, 3) := by decide +kernel
theorem d14_5 : decode prog_10_method_6_code 5 = .ok (.invokevirtual 66, 3) := by decide +kernel
theorem d14_8 : decode prog_10_method_6_code 8 = .ok (.aload_n 1, 1) := by decide +kernel
theorem d14_9 : decode prog_10_method_6_code 9 = .ok (.invokevirtual 70, 3) := by decide +kernel
theorem d14_12 : decode prog_10_method_6_code 12 = .ok (.ifCond .lt 7, 3) := by decide +kernel
theorem d14_15 : decode prog_10_method_6_code 15 = .ok (.iconst 1, 1) := by decide +kernel
theorem d14_16 : decode prog_10_method_6_code 16 = .ok (.goto 4, 3) := by decide +kernel
theorem d14_19 : decode prog_10_method_6_code 19 = .ok (.iconst 0, 1) := by decide +kernel
theorem d14_20 : decode prog_10_method_6_code 20 = .ok (.ireturn, 1) := by decide +kernel
theorem pn_14 : plainFor (⟨"com/example/pointfold/pointfold/datalog/FlatRelation", "contains", "([I)Z"⟩ : MethodName) = true := plainFor_of_name (show plainName "com/example/pointfold/pointfold/datalog/FlatRelation" = true by first | (simp [plainName, overriddenIn]; done) | decide +kernel)
theorem pd_14 : parseMethodDescriptor "([I)Z" = some ⟨[(.array .int)], some .boolean⟩ := by decide +kernel
theorem d15_0 : decode prog_10_method_11_code 0 = .ok (.aload_n 1, 1) := by decide +kernel
theorem d15_1 : decode prog_10_method_11_code 1 = .ok (.arraylength, 1) := by decide +kernel
theorem d15_2 : decode prog_10_method_11_code 2 = .ok (.aload_n 0, 1) := by decide +kernel
theorem d15_3 : decode prog_10_method_11_code 3 = .ok (.getfield 23, 3) := by decide +kernel
theorem d15_6 : decode prog_10_method_11_code 6 = .ok (.if_icmp .ne 55, 3) := by decide +kernel
theorem d15_9 : decode prog_10_method_11_code 9 = .ok (.aload_n 0, 1) := by decide +kernel
theorem d15_10 : decode prog_10_method_11_code 10 = .ok (.getfield 48, 3) := by decide +kernel
theorem d15_13 : decode prog_10_method_11_code 13 = .ok (.ifnonnull 43, 3) := by decide +kernel
theorem d15_56 : decode prog_10_method_11_code 56 = .ok (.aload_n 0, 1) := by decide +kernel
theorem d15_57 : decode prog_10_method_11_code 57 = .ok (.getfield 48, 3) := by decide +kernel
theorem d15_60 : decode prog_10_method_11_code 60 = .ok (.areturn, 1) := by decide +kernel
theorem pn_15 : plainFor (⟨"com/example/pointfold/pointfold/datalog/FlatRelation", "index", "([I)Lcom/example/pointfold/pointfold/datalog/TupleIndex;"⟩ : MethodName) = true := plainFor_of_name (show plainName "com/example/pointfold/pointfold/datalog/FlatRelation" = true by first | (simp [plainName, overriddenIn]; done) | decide +kernel)
theorem pd_15 : parseMethodDescriptor "([I)Lcom/example/pointfold/pointfold/datalog/TupleIndex;" = some ⟨[(.array .int)], some (.object "com/example/pointfold/pointfold/datalog/TupleIndex")⟩ := by decide +kernel
theorem d16_0 : decode prog_55_method_3_code 0 = .ok (.aload_n 1, 1) := by decide +kernel
theorem d16_1 : decode prog_55_method_3_code 1 = .ok (.invokestatic 50, 3) := by decide +kernel
theorem d16_4 : decode prog_55_method_3_code 4 = .ok (.istore_n 2, 1) := by decide +kernel
theorem d16_5 : decode prog_55_method_3_code 5 = .ok (.aload_n 0, 1) := by decide +kernel
theorem d16_6 : decode prog_55_method_3_code 6 = .ok (.getfield 25, 3) := by decide +kernel
theorem d16_9 : decode prog_55_method_3_code 9 = .ok (.iload_n 2, 1) := by decide +kernel
theorem d16_10 : decode prog_55_method_3_code 10 = .ok (.invokevirtual 54, 3) := by decide +kernel
theorem d16_13 : decode prog_55_method_3_code 13 = .ok (.ifCond .ne 5, 3) := by decide +kernel
theorem d16_16 : decode prog_55_method_3_code 16 = .ok (.iconst (-1), 1) := by decide +kernel
theorem d16_17 : decode prog_55_method_3_code 17 = .ok (.ireturn, 1) := by decide +kernel
theorem d16_18 : decode prog_55_method_3_code 18 = .ok (.aload_n 0, 1) := by decide +kernel
theorem d16_19 : decode prog_55_method_3_code 19 = .ok (.aload_n 0, 1) := by decide +kernel
theorem d16_20 : decode prog_55_method_3_code 20 = .ok (.getfield 18, 3) := by decide +kernel
theorem d16_23 : decode prog_55_method_3_code 23 = .ok (.iload_n 2, 1) := by decide +kernel
theorem d16_24 : decode prog_55_method_3_code 24 = .ok (.aload_n 0, 1) := by decide +kernel
theorem d16_25 : decode prog_55_method_3_code 25 = .ok (.getfield 7, 3) := by decide +kernel
theorem d16_28 : decode prog_55_method_3_code 28 = .ok (.iconst 1, 1) := by decide +kernel
theorem d16_29 : decode prog_55_method_3_code 29 = .ok (.isub, 1) := by decide +kernel
theorem d16_30 : decode prog_55_method_3_code 30 = .ok (.iand, 1) := by decide +kernel
theorem d16_31 : decode prog_55_method_3_code 31 = .ok (.invokevirtual 58, 3) := by decide +kernel
theorem d16_34 : decode prog_55_method_3_code 34 = .ok (.aload_n 1, 1) := by decide +kernel
theorem d16_35 : decode prog_55_method_3_code 35 = .ok (.invokevirtual 62, 3) := by decide +kernel
theorem d16_38 : decode prog_55_method_3_code 38 = .ok (.ireturn, 1) := by decide +kernel
theorem pn_16 : plainFor (⟨"com/example/pointfold/pointfold/datalog/TupleIndex", "find", "([I)I"⟩ : MethodName) = true := plainFor_of_name (show plainName "com/example/pointfold/pointfold/datalog/TupleIndex" = true by first | (simp [plainName, overriddenIn]; done) | decide +kernel)
theorem pd_16 : parseMethodDescriptor "([I)I" = some ⟨[(.array .int)], some .int⟩ := by decide +kernel
theorem d17_0 : decode prog_55_method_8_code 0 = .ok (.iconst 1, 1) := by decide +kernel
theorem d17_1 : decode prog_55_method_8_code 1 = .ok (.istore_n 1, 1) := by decide +kernel
theorem d17_2 : decode prog_55_method_8_code 2 = .ok (.aload_n 0, 1) := by decide +kernel
theorem d17_3 : decode prog_55_method_8_code 3 = .ok (.astore_n 2, 1) := by decide +kernel
theorem d17_4 : decode prog_55_method_8_code 4 = .ok (.aload_n 2, 1) := by decide +kernel
theorem d17_5 : decode prog_55_method_8_code 5 = .ok (.arraylength, 1) := by decide +kernel
theorem d17_6 : decode prog_55_method_8_code 6 = .ok (.istore_n 3, 1) := by decide +kernel
theorem d17_7 : decode prog_55_method_8_code 7 = .ok (.iconst 0, 1) := by decide +kernel
theorem d17_8 : decode prog_55_method_8_code 8 = .ok (.istore 4, 2) := by decide +kernel
theorem d17_10 : decode prog_55_method_8_code 10 = .ok (.iload 4, 2) := by decide +kernel
theorem d17_12 : decode prog_55_method_8_code 12 = .ok (.iload_n 3, 1) := by decide +kernel
theorem d17_13 : decode prog_55_method_8_code 13 = .ok (.if_icmp .ge 22, 3) := by decide +kernel
theorem d17_16 : decode prog_55_method_8_code 16 = .ok (.aload_n 2, 1) := by decide +kernel
theorem d17_17 : decode prog_55_method_8_code 17 = .ok (.iload 4, 2) := by decide +kernel
theorem d17_19 : decode prog_55_method_8_code 19 = .ok (.iaload, 1) := by decide +kernel
theorem d17_20 : decode prog_55_method_8_code 20 = .ok (.istore 5, 2) := by decide +kernel
theorem d17_22 : decode prog_55_method_8_code 22 = .ok (.iload_n 1, 1) := by decide +kernel
theorem d17_23 : decode prog_55_method_8_code 23 = .ok (.iload 5, 2) := by decide +kernel
theorem d17_25 : decode prog_55_method_8_code 25 = .ok (.invokestatic 76, 3) := by decide +kernel
theorem d17_28 : decode prog_55_method_8_code 28 = .ok (.istore_n 1, 1) := by decide +kernel
theorem d17_29 : decode prog_55_method_8_code 29 = .ok (.iinc 4 1, 3) := by decide +kernel
theorem d17_32 : decode prog_55_method_8_code 32 = .ok (.goto (-22), 3) := by decide +kernel
theorem d17_35 : decode prog_55_method_8_code 35 = .ok (.iload_n 1, 1) := by decide +kernel
theorem d17_36 : decode prog_55_method_8_code 36 = .ok (.ireturn, 1) := by decide +kernel
theorem pn_17 : plainFor (⟨"com/example/pointfold/pointfold/datalog/TupleIndex", "hashKey", "([I)I"⟩ : MethodName) = true := plainFor_of_name (show plainName "com/example/pointfold/pointfold/datalog/TupleIndex" = true by first | (simp [plainName, overriddenIn]; done) | decide +kernel)
theorem pd_17 : parseMethodDescriptor "([I)I" = some ⟨[(.array .int)], some .int⟩ := by decide +kernel
theorem d18_0 : decode prog_47_method_10_code 0 = .ok (.iload_n 0, 1) := by decide +kernel
theorem d18_1 : decode prog_47_method_10_code 1 = .ok (.iload_n 1, 1) := by decide +kernel
theorem d18_2 : decode prog_47_method_10_code 2 = .ok (.iadd, 1) := by decide +kernel
theorem d18_3 : decode prog_47_method_10_code 3 = .ok (.ldc 7, 2) := by decide +kernel
theorem d18_5 : decode prog_47_method_10_code 5 = .ok (.imul, 1) := by decide +kernel
theorem d18_6 : decode prog_47_method_10_code 6 = .ok (.istore_n 2, 1) := by decide +kernel
theorem d18_7 : decode prog_47_method_10_code 7 = .ok (.iload_n 2, 1) := by decide +kernel
theorem d18_8 : decode prog_47_method_10_code 8 = .ok (.iload_n 2, 1) := by decide +kernel
theorem d18_9 : decode prog_47_method_10_code 9 = .ok (.bipush 15, 2) := by decide +kernel
theorem d18_11 : decode prog_47_method_10_code 11 = .ok (.iushr, 1) := by decide +kernel
theorem d18_12 : decode prog_47_method_10_code 12 = .ok (.ixor, 1) := by decide +kernel
theorem d18_13 : decode prog_47_method_10_code 13 = .ok (.ireturn, 1) := by decide +kernel
theorem pn_18 : plainFor (⟨"com/example/pointfold/pointfold/datalog/Relation", "combine", "(II)I"⟩ : MethodName) = true := plainFor_of_name (show plainName "com/example/pointfold/pointfold/datalog/Relation" = true by first | (simp [plainName, overriddenIn]; done) | decide +kernel)
theorem pd_18 : parseMethodDescriptor "(II)I" = some ⟨[.int, .int], some .int⟩ := by decide +kernel
theorem d19_0 : decode prog_14_method_3_code 0 = .ok (.iload_n 1, 1) := by decide +kernel
theorem d19_1 : decode prog_14_method_3_code 1 = .ok (.i2l, 1) := by decide +kernel
theorem d19_2 : decode prog_14_method_3_code 2 = .ok (.aload_n 0, 1) := by decide +kernel
theorem d19_3 : decode prog_14_method_3_code 3 = .ok (.getfield 15, 3) := by decide +kernel
theorem d19_6 : decode prog_14_method_3_code 6 = .ok (.land, 1) := by decide +kernel
theorem d19_7 : decode prog_14_method_3_code 7 = .ok (.lstore_n 2, 1) := by decide +kernel
theorem d19_8 : decode prog_14_method_3_code 8 = .ok (.aload_n 0, 1) := by decide +kernel
theorem d19_9 : decode prog_14_method_3_code 9 = .ok (.getfield 7, 3) := by decide +kernel
theorem d19_12 : decode prog_14_method_3_code 12 = .ok (.lload_n 2, 1) := by decide +kernel
theorem d19_13 : decode prog_14_method_3_code 13 = .ok (.bipush 6, 2) := by decide +kernel
theorem d19_15 : decode prog_14_method_3_code 15 = .ok (.lushr, 1) := by decide +kernel
theorem d19_16 : decode prog_14_method_3_code 16 = .ok (.l2i, 1) := by decide +kernel
theorem d19_17 : decode prog_14_method_3_code 17 = .ok (.laload, 1) := by decide +kernel
theorem d19_18 : decode prog_14_method_3_code 18 = .ok (.lconst 1, 1) := by decide +kernel
theorem d19_19 : decode prog_14_method_3_code 19 = .ok (.lload_n 2, 1) := by decide +kernel
theorem d19_20 : decode prog_14_method_3_code 20 = .ok (.l2i, 1) := by decide +kernel
theorem d19_21 : decode prog_14_method_3_code 21 = .ok (.lshl, 1) := by decide +kernel
theorem d19_22 : decode prog_14_method_3_code 22 = .ok (.land, 1) := by decide +kernel
theorem d19_23 : decode prog_14_method_3_code 23 = .ok (.lconst 0, 1) := by decide +kernel
theorem d19_24 : decode prog_14_method_3_code 24 = .ok (.lcmp, 1) := by decide +kernel
theorem d19_25 : decode prog_14_method_3_code 25 = .ok (.ifCond .eq 7, 3) := by decide +kernel
theorem d19_28 : decode prog_14_method_3_code 28 = .ok (.iconst 1, 1) := by decide +kernel
theorem d19_29 : decode prog_14_method_3_code 29 = .ok (.goto 4, 3) := by decide +kernel
theorem d19_32 : decode prog_14_method_3_code 32 = .ok (.iconst 0, 1) := by decide +kernel
theorem d19_33 : decode prog_14_method_3_code 33 = .ok (.ireturn, 1) := by decide +kernel
theorem pn_19 : plainFor (⟨"com/example/pointfold/pointfold/datalog/HashFilter", "mayHold", "(I)Z"⟩ : MethodName) = true := plainFor_of_name (show plainName "com/example/pointfold/pointfold/datalog/HashFilter" = true by first | (simp [plainName, overriddenIn]; done) | decide +kernel)
theorem pd_19 : parseMethodDescriptor "(I)Z" = some ⟨[.int], some .boolean⟩ := by decide +kernel
theorem d20_0 : decode prog_55_method_2_code 0 = .ok (.aload_n 0, 1) := by decide +kernel
theorem d20_1 : decode prog_55_method_2_code 1 = .ok (.getfield 41, 3) := by decide +kernel
theorem d20_4 : decode prog_55_method_2_code 4 = .ok (.aload_n 0, 1) := by decide +kernel
theorem d20_5 : decode prog_55_method_2_code 5 = .ok (.getfield 7, 3) := by decide +kernel
theorem d20_8 : decode prog_55_method_2_code 8 = .ok (.if_icmp .ne 13, 3) := by decide +kernel
theorem d20_21 : decode prog_55_method_2_code 21 = .ok (.aload_n 0, 1) := by decide +kernel
theorem d20_22 : decode prog_55_method_2_code 22 = .ok (.iload_n 1, 1) := by decide +kernel
theorem d20_23 : decode prog_55_method_2_code 23 = .ok (.invokevirtual 47, 3) := by decide +kernel
theorem d20_26 : decode prog_55_method_2_code 26 = .ok (.aload_n 0, 1) := by decide +kernel
theorem d20_27 : decode prog_55_method_2_code 27 = .ok (.dup, 1) := by decide +kernel
theorem d20_28 : decode prog_55_method_2_code 28 = .ok (.getfield 41, 3) := by decide +kernel
theorem d20_31 : decode prog_55_method_2_code 31 = .ok (.iconst 1, 1) := by decide +kernel
theorem d20_32 : decode prog_55_method_2_code 32 = .ok (.iadd, 1) := by decide +kernel
theorem d20_33 : decode prog_55_method_2_code 33 = .ok (.putfield 41, 3) := by decide +kernel
theorem d20_36 : decode prog_55_method_2_code 36 = .ok (.return_, 1) := by decide +kernel
theorem pn_20 : plainFor (⟨"com/example/pointfold/pointfold/datalog/TupleIndex", "add", "(I)V"⟩ : MethodName) = true := plainFor_of_name (show plainName "com/example/pointfold/pointfold/datalog/TupleIndex" = true by first | (simp [plainName, overriddenIn]; done) | decide +kernel)
theorem pd_20 : parseMethodDescriptor "(I)V" = some ⟨[.int], none⟩ := by decide +kernel
theorem d21_0 : decode prog_55_method_6_code 0 = .ok (.iconst 1, 1) := by decide +kernel
theorem d21_1 : decode prog_55_method_6_code 1 = .ok (.istore_n 2, 1) := by decide +kernel
theorem d21_2 : decode prog_55_method_6_code 2 = .ok (.aload_n 0, 1) := by decide +kernel
theorem d21_3 : decode prog_55_method_6_code 3 = .ok (.getfield 37, 3) := by decide +kernel
theorem d21_6 : decode prog_55_method_6_code 6 = .ok (.astore_n 3, 1) := by decide +kernel
theorem d21_7 : decode prog_55_method_6_code 7 = .ok (.aload_n 3, 1) := by decide +kernel
theorem d21_8 : decode prog_55_method_6_code 8 = .ok (.arraylength, 1) := by decide +kernel
theorem d21_9 : decode prog_55_method_6_code 9 = .ok (.istore 4, 2) := by decide +kernel
theorem d21_11 : decode prog_55_method_6_code 11 = .ok (.iconst 0, 1) := by decide +kernel
theorem d21_12 : decode prog_55_method_6_code 12 = .ok (.istore 5, 2) := by decide +kernel
theorem d21_14 : decode prog_55_method_6_code 14 = .ok (.iload 5, 2) := by decide +kernel
theorem d21_16 : decode prog_55_method_6_code 16 = .ok (.iload 4, 2) := by decide +kernel
theorem d21_18 : decode prog_55_method_6_code 18 = .ok (.if_icmp .ge 30, 3) := by decide +kernel
theorem d21_21 : decode prog_55_method_6_code 21 = .ok (.aload_n 3, 1) := by decide +kernel
theorem d21_22 : decode prog_55_method_6_code 22 = .ok (.iload 5, 2) := by decide +kernel
theorem d21_24 : decode prog_55_method_6_code 24 = .ok (.iaload, 1) := by decide +kernel
theorem d21_25 : decode prog_55_method_6_code 25 = .ok (.istore 6, 2) := by decide +kernel
theorem d21_27 : decode prog_55_method_6_code 27 = .ok (.iload_n 2, 1) := by decide +kernel
theorem d21_28 : decode prog_55_method_6_code 28 = .ok (.aload_n 0, 1) := by decide +kernel
theorem d21_29 : decode prog_55_method_6_code 29 = .ok (.getfield 33, 3) := by decide +kernel
theorem d21_32 : decode prog_55_method_6_code 32 = .ok (.iload_n 1, 1) := by decide +kernel
theorem d21_33 : decode prog_55_method_6_code 33 = .ok (.iload 6, 2) := by decide +kernel
theorem d21_35 : decode prog_55_method_6_code 35 = .ok (.invokevirtual 72, 3) := by decide +kernel
theorem d21_38 : decode prog_55_method_6_code 38 = .ok (.invokestatic 76, 3) := by decide +kernel
theorem d21_41 : decode prog_55_method_6_code 41 = .ok (.istore_n 2, 1) := by decide +kernel
theorem d21_42 : decode prog_55_method_6_code 42 = .ok (.iinc 5 1, 3) := by decide +kernel
theorem d21_45 : decode prog_55_method_6_code 45 = .ok (.goto (-31), 3) := by decide +kernel
theorem d21_48 : decode prog_55_method_6_code 48 = .ok (.iload_n 2, 1) := by decide +kernel
theorem d21_49 : decode prog_55_method_6_code 49 = .ok (.aload_n 0, 1) := by decide +kernel
theorem d21_50 : decode prog_55_method_6_code 50 = .ok (.getfield 7, 3) := by decide +kernel
theorem d21_53 : decode prog_55_method_6_code 53 = .ok (.iconst 1, 1) := by decide +kernel
theorem d21_54 : decode prog_55_method_6_code 54 = .ok (.isub, 1) := by decide +kernel
theorem d21_55 : decode prog_55_method_6_code 55 = .ok (.iand, 1) := by decide +kernel
theorem d21_56 : decode prog_55_method_6_code 56 = .ok (.istore_n 3, 1) := by decide +kernel
theorem d21_57 : decode prog_55_method_6_code 57 = .ok (.aload_n 0, 1) := by decide +kernel
theorem d21_58 : decode prog_55_method_6_code 58 = .ok (.getfield 30, 3) := by decide +kernel
theorem d21_61 : decode prog_55_method_6_code 61 = .ok (.iload_n 1, 1) := by decide +kernel
theorem d21_62 : decode prog_55_method_6_code 62 = .ok (.aload_n 0, 1) := by decide +kernel
theorem d21_63 : decode prog_55_method_6_code 63 = .ok (.getfield 18, 3) := by decide +kernel
theorem d21_66 : decode prog_55_method_6_code 66 = .ok (.iload_n 3, 1) := by decide +kernel
theorem d21_67 : decode prog_55_method_6_code 67 = .ok (.invokevirtual 58, 3) := by decide +kernel
theorem d21_70 : decode prog_55_method_6_code 70 = .ok (.invokevirtual 81, 3) := by decide +kernel
theorem d21_73 : decode prog_55_method_6_code 73 = .ok (.aload_n 0, 1) := by decide +kernel
theorem d21_74 : decode prog_55_method_6_code 74 = .ok (.getfield 18, 3) := by decide +kernel
theorem d21_77 : decode prog_55_method_6_code 77 = .ok (.iload_n 3, 1) := by decide +kernel
theorem d21_78 : decode prog_55_method_6_code 78 = .ok (.iload_n 1, 1) := by decide +kernel
theorem d21_79 : decode prog_55_method_6_code 79 = .ok (.iconst 1, 1) := by decide +kernel
theorem d21_80 : decode prog_55_method_6_code 80 = .ok (.iadd, 1) := by decide +kernel
theorem d21_81 : decode prog_55_method_6_code 81 = .ok (.invokevirtual 81, 3) := by decide +kernel
theorem d21_84 : decode prog_55_method_6_code 84 = .ok (.aload_n 0, 1) := by decide +kernel
theorem d21_85 : decode prog_55_method_6_code 85 = .ok (.getfield 25, 3) := by decide +kernel
theorem d21_88 : decode prog_55_method_6_code 88 = .ok (.iload_n 2, 1) := by decide +kernel
theorem d21_89 : decode prog_55_method_6_code 89 = .ok (.invokevirtual 85, 3) := by decide +kernel
theorem d21_92 : decode prog_55_method_6_code 92 = .ok (.return_, 1) := by decide +kernel
theorem pn_21 : plainFor (⟨"com/example/pointfold/pointfold/datalog/TupleIndex", "link", "(I)V"⟩ : MethodName) = true := plainFor_of_name (show plainName "com/example/pointfold/pointfold/datalog/TupleIndex" = true by first | (simp [plainName, overriddenIn]; done) | decide +kernel)
theorem pd_21 : parseMethodDescriptor "(I)V" = some ⟨[.int], none⟩ := by decide +kernel
theorem d22_0 : decode prog_10_method_4_code 0 = .ok (.aload_n 0, 1) := by decide +kernel
theorem d22_1 : decode prog_10_method_4_code 1 = .ok (.getfield 31, 3) := by decide +kernel
theorem d22_4 : decode prog_10_method_4_code 4 = .ok (.iload_n 2, 1) := by decide +kernel
theorem d22_5 : decode prog_10_method_4_code 5 = .ok (.iaload, 1) := by decide +kernel
theorem d22_6 : decode prog_10_method_4_code 6 = .ok (.istore_n 3, 1) := by decide +kernel
theorem d22_7 : decode prog_10_method_4_code 7 = .ok (.iload_n 3, 1) := by decide +kernel
theorem d22_8 : decode prog_10_method_4_code 8 = .ok (.ifCond .ge 12, 3) := by decide +kernel
theorem d22_11 : decode prog_10_method_4_code 11 = .ok (.aload_n 0, 1) := by decide +kernel
theorem d22_12 : decode prog_10_method_4_code 12 = .ok (.getfield 34, 3) := by decide +kernel
theorem d22_15 : decode prog_10_method_4_code 15 = .ok (.iload_n 2, 1) := by decide +kernel
theorem d22_16 : decode prog_10_method_4_code 16 = .ok (.iaload, 1) := by decide +kernel
theorem d22_17 : decode prog_10_method_4_code 17 = .ok (.goto 18, 3) := by decide +kernel
theorem d22_20 : decode prog_10_method_4_code 20 = .ok (.aload_n 0, 1) := by decide +kernel
theorem d22_21 : decode prog_10_method_4_code 21 = .ok (.getfield 10, 3) := by decide +kernel
theorem d22_24 : decode prog_10_method_4_code 24 = .ok (.iload_n 1, 1) := by decide +kernel
theorem d22_25 : decode prog_10_method_4_code 25 = .ok (.aload_n 0, 1) := by decide +kernel
theorem d22_26 : decode prog_10_method_4_code 26 = .ok (.getfield 55, 3) := by decide +kernel
theorem d22_29 : decode prog_10_method_4_code 29 = .ok (.imul, 1) := by decide +kernel
theorem d22_30 : decode prog_10_method_4_code 30 = .ok (.iload_n 3, 1) := by decide +kernel
theorem d22_31 : decode prog_10_method_4_code 31 = .ok (.iadd, 1) := by decide +kernel
theorem d22_32 : decode prog_10_method_4_code 32 = .ok (.invokevirtual 58, 3) := by decide +kernel
theorem d22_35 : decode prog_10_method_4_code 35 = .ok (.ireturn, 1) := by decide +kernel
theorem pn_22 : plainFor (⟨"com/example/pointfold/pointfold/datalog/FlatRelation", "value", "(II)I"⟩ : MethodName) = true := plainFor_of_name (show plainName "com/example/pointfold/pointfold/datalog/FlatRelation" = true by first | (simp [plainName, overriddenIn]; done) | decide +kernel)
theorem pd_22 : parseMethodDescriptor "(II)I" = some ⟨[.int, .int], some .int⟩ := by decide +kernel
theorem d23_0 : decode prog_16_method_3_code 0 = .ok (.aload_n 0, 1) := by decide +kernel
theorem d23_1 : decode prog_16_method_3_code 1 = .ok (.getfield 11, 3) := by decide +kernel
theorem d23_4 : decode prog_16_method_3_code 4 = .ok (.iload_n 1, 1) := by decide +kernel
theorem d23_5 : decode prog_16_method_3_code 5 = .ok (.bipush 16, 2) := by decide +kernel
theorem d23_7 : decode prog_16_method_3_code 7 = .ok (.iushr, 1) := by decide +kernel
theorem d23_8 : decode prog_16_method_3_code 8 = .ok (.aaload, 1) := by decide +kernel
theorem d23_9 : decode prog_16_method_3_code 9 = .ok (.iload_n 1, 1) := by decide +kernel
theorem d23_10 : decode prog_16_method_3_code 10 = .ok (.ldc 21, 2) := by decide +kernel
theorem d23_12 : decode prog_16_method_3_code 12 = .ok (.iand, 1) := by decide +kernel
theorem d23_13 : decode prog_16_method_3_code 13 = .ok (.iaload, 1) := by decide +kernel
theorem d23_14 : decode prog_16_method_3_code 14 = .ok (.ireturn, 1) := by decide +kernel
theorem pn_23 : plainFor (⟨"com/example/pointfold/pointfold/datalog/IntBlocks", "get", "(I)I"⟩ : MethodName) = true := plainFor_of_name (show plainName "com/example/pointfold/pointfold/datalog/IntBlocks" = true by first | (simp [plainName, overriddenIn]; done) | decide +kernel)
theorem pd_23 : parseMethodDescriptor "(I)I" = some ⟨[.int], some .int⟩ := by decide +kernel
theorem d24_0 : decode prog_16_method_4_code 0 = .ok (.iload_n 1, 1) := by decide +kernel
theorem d24_1 : decode prog_16_method_4_code 1 = .ok (.bipush 16, 2) := by decide +kernel
theorem d24_3 : decode prog_16_method_4_code 3 = .ok (.iushr, 1) := by decide +kernel
theorem d24_4 : decode prog_16_method_4_code 4 = .ok (.istore_n 3, 1) := by decide +kernel
theorem d24_5 : decode prog_16_method_4_code 5 = .ok (.iload_n 3, 1) := by decide +kernel
theorem d24_6 : decode prog_16_method_4_code 6 = .ok (.ifCond .ne 52, 3) := by decide +kernel
theorem d24_9 : decode prog_16_method_4_code 9 = .ok (.iload_n 1, 1) := by decide +kernel
theorem d24_10 : decode prog_16_method_4_code 10 = .ok (.aload_n 0, 1) := by decide +kernel
theorem d24_11 : decode prog_16_method_4_code 11 = .ok (.getfield 11, 3) := by decide +kernel
theorem d24_14 : decode prog_16_method_4_code 14 = .ok (.iconst 0, 1) := by decide +kernel
theorem d24_15 : decode prog_16_method_4_code 15 = .ok (.aaload, 1) := by decide +kernel
theorem d24_16 : decode prog_16_method_4_code 16 = .ok (.arraylength, 1) := by decide +kernel
theorem d24_17 : decode prog_16_method_4_code 17 = .ok (.if_icmp .lt 125, 3) := by decide +kernel
theorem d24_142 : decode prog_16_method_4_code 142 = .ok (.aload_n 0, 1) := by decide +kernel
theorem d24_143 : decode prog_16_method_4_code 143 = .ok (.getfield 11, 3) := by decide +kernel
theorem d24_146 : decode prog_16_method_4_code 146 = .ok (.iload_n 3, 1) := by decide +kernel
theorem d24_147 : decode prog_16_method_4_code 147 = .ok (.aaload, 1) := by decide +kernel
theorem d24_148 : decode prog_16_method_4_code 148 = .ok (.iload_n 1, 1) := by decide +kernel
theorem d24_149 : decode prog_16_method_4_code 149 = .ok (.ldc 21, 2) := by decide +kernel
theorem d24_151 : decode prog_16_method_4_code 151 = .ok (.iand, 1) := by decide +kernel
theorem d24_152 : decode prog_16_method_4_code 152 = .ok (.iload_n 2, 1) := by decide +kernel
theorem d24_153 : decode prog_16_method_4_code 153 = .ok (.iastore, 1) := by decide +kernel
theorem d24_154 : decode prog_16_method_4_code 154 = .ok (.return_, 1) := by decide +kernel
theorem pn_24 : plainFor (⟨"com/example/pointfold/pointfold/datalog/IntBlocks", "set", "(II)V"⟩ : MethodName) = true := plainFor_of_name (show plainName "com/example/pointfold/pointfold/datalog/IntBlocks" = true by first | (simp [plainName, overriddenIn]; done) | decide +kernel)
theorem pd_24 : parseMethodDescriptor "(II)V" = some ⟨[.int, .int], none⟩ := by decide +kernel
theorem d25_0 : decode prog_14_method_2_code 0 = .ok (.iload_n 1, 1) := by decide +kernel
theorem d25_1 : decode prog_14_method_2_code 1 = .ok (.i2l, 1) := by decide +kernel
theorem d25_2 : decode prog_14_method_2_code 2 = .ok (.aload_n 0, 1) := by decide +kernel
theorem d25_3 : decode prog_14_method_2_code 3 = .ok (.getfield 15, 3) := by decide +kernel
theorem d25_6 : decode prog_14_method_2_code 6 = .ok (.land, 1) := by decide +kernel
theorem d25_7 : decode prog_14_method_2_code 7 = .ok (.lstore_n 2, 1) := by decide +kernel
theorem d25_8 : decode prog_14_method_2_code 8 = .ok (.aload_n 0, 1) := by decide +kernel
theorem d25_9 : decode prog_14_method_2_code 9 = .ok (.getfield 7, 3) := by decide +kernel
theorem d25_12 : decode prog_14_method_2_code 12 = .ok (.lload_n 2, 1) := by decide +kernel
theorem d25_13 : decode prog_14_method_2_code 13 = .ok (.bipush 6, 2) := by decide +kernel
theorem d25_15 : decode prog_14_method_2_code 15 = .ok (.lushr, 1) := by decide +kernel
theorem d25_16 : decode prog_14_method_2_code 16 = .ok (.l2i, 1) := by decide +kernel
theorem d25_17 : decode prog_14_method_2_code 17 = .ok (.dup2, 1) := by decide +kernel
theorem d25_18 : decode prog_14_method_2_code 18 = .ok (.laload, 1) := by decide +kernel
theorem d25_19 : decode prog_14_method_2_code 19 = .ok (.lconst 1, 1) := by decide +kernel
theorem d25_20 : decode prog_14_method_2_code 20 = .ok (.lload_n 2, 1) := by decide +kernel
theorem d25_21 : decode prog_14_method_2_code 21 = .ok (.l2i, 1) := by decide +kernel
theorem d25_22 : decode prog_14_method_2_code 22 = .ok (.lshl, 1) := by decide +kernel
theorem d25_23 : decode prog_14_method_2_code 23 = .ok (.lor, 1) := by decide +kernel
theorem d25_24 : decode prog_14_method_2_code 24 = .ok (.lastore, 1) := by decide +kernel
theorem d25_25 : decode prog_14_method_2_code 25 = .ok (.return_, 1) := by decide +kernel
theorem pn_25 : plainFor (⟨"com/example/pointfold/pointfold/datalog/HashFilter", "add", "(I)V"⟩ : MethodName) = true := plainFor_of_name (show plainName "com/example/pointfold/pointfold/datalog/HashFilter" = true by first | (simp [plainName, overriddenIn]; done) | decide +kernel)
theorem pd_25 : parseMethodDescriptor "(I)V" = some ⟨[.int], none⟩ := by decide +kernel
theorem d26_0 : decode jdk_69_method_28_code 0 = .ok (.aload_n 0, 1) := by decide +kernel
theorem d26_1 : decode jdk_69_method_28_code 1 = .ok (.getfield 259, 3) := by decide +kernel
theorem d26_4 : decode jdk_69_method_28_code 4 = .ok (.astore_n 1, 1) := by decide +kernel
theorem d26_5 : decode jdk_69_method_28_code 5 = .ok (.aload_n 1, 1) := by decide +kernel
theorem d26_6 : decode jdk_69_method_28_code 6 = .ok (.ifnonnull 17, 3) := by decide +kernel
theorem d26_9 : decode jdk_69_method_28_code 9 = .ok (.new 263, 3) := by decide +kernel
theorem d26_12 : decode jdk_69_method_28_code 12 = .ok (.dup, 1) := by decide +kernel
theorem d26_13 : decode jdk_69_method_28_code 13 = .ok (.aload_n 0, 1) := by decide +kernel
theorem d26_14 : decode jdk_69_method_28_code 14 = .ok (.invokespecial 265, 3) := by decide +kernel
theorem d26_17 : decode jdk_69_method_28_code 17 = .ok (.astore_n 1, 1) := by decide +kernel
theorem d26_18 : decode jdk_69_method_28_code 18 = .ok (.aload_n 0, 1) := by decide +kernel
theorem d26_19 : decode jdk_69_method_28_code 19 = .ok (.aload_n 1, 1) := by decide +kernel
theorem d26_20 : decode jdk_69_method_28_code 20 = .ok (.putfield 259, 3) := by decide +kernel
theorem d26_23 : decode jdk_69_method_28_code 23 = .ok (.aload_n 1, 1) := by decide +kernel
theorem d26_24 : decode jdk_69_method_28_code 24 = .ok (.areturn, 1) := by decide +kernel
theorem pn_26 : plainFor (⟨"java/util/HashMap", "values", "()Ljava/util/Collection;"⟩ : MethodName) = true := plainFor_of_name (show plainName "java/util/HashMap" = true by first | (simp [plainName, overriddenIn]; done) | decide +kernel)
theorem pd_26 : parseMethodDescriptor "()Ljava/util/Collection;" = some ⟨[], some (.object "java/util/Collection")⟩ := by decide +kernel
theorem d27_0 : decode jdk_2571_method_1_code 0 = .ok (.aload_n 0, 1) := by decide +kernel
theorem d27_1 : decode jdk_2571_method_1_code 1 = .ok (.aload_n 1, 1) := by decide +kernel
theorem d27_2 : decode jdk_2571_method_1_code 2 = .ok (.putfield 1, 3) := by decide +kernel
theorem d27_5 : decode jdk_2571_method_1_code 5 = .ok (.aload_n 0, 1) := by decide +kernel
theorem d27_6 : decode jdk_2571_method_1_code 6 = .ok (.invokespecial 7, 3) := by decide +kernel
theorem d27_9 : decode jdk_2571_method_1_code 9 = .ok (.return_, 1) := by decide +kernel
theorem pn_27 : plainFor (⟨"java/util/HashMap$Values", "<init>", "(Ljava/util/HashMap;)V"⟩ : MethodName) = true := plainFor_of_name (show plainName "java/util/HashMap$Values" = true by first | (simp [plainName, overriddenIn]; done) | decide +kernel)
theorem pd_27 : parseMethodDescriptor "(Ljava/util/HashMap;)V" = some ⟨[(.object "java/util/HashMap")], none⟩ := by decide +kernel
theorem d28_0 : decode jdk_22_method_1_code 0 = .ok (.aload_n 0, 1) := by decide +kernel
theorem d28_1 : decode jdk_22_method_1_code 1 = .ok (.invokespecial 1, 3) := by decide +kernel
theorem d28_4 : decode jdk_22_method_1_code 4 = .ok (.return_, 1) := by decide +kernel
theorem pn_28 : plainFor (⟨"java/util/AbstractCollection", "<init>", "()V"⟩ : MethodName) = true := plainFor_of_name (show plainName "java/util/AbstractCollection" = true by first | (simp [plainName, overriddenIn]; done) | decide +kernel)
theorem pd_28 : parseMethodDescriptor "()V" = some ⟨[], none⟩ := by decide +kernel
theorem d29_0 : decode jdk_2571_method_4_code 0 = .ok (.new 22, 3) := by decide +kernel
theorem d29_3 : decode jdk_2571_method_4_code 3 = .ok (.dup, 1) := by decide +kernel
theorem d29_4 : decode jdk_2571_method_4_code 4 = .ok (.aload_n 0, 1) := by decide +kernel
theorem d29_5 : decode jdk_2571_method_4_code 5 = .ok (.getfield 1, 3) := by decide +kernel
theorem d29_8 : decode jdk_2571_method_4_code 8 = .ok (.invokespecial 24, 3) := by decide +kernel
theorem d29_11 : decode jdk_2571_method_4_code 11 = .ok (.areturn, 1) := by decide +kernel
theorem pn_29 : plainFor (⟨"java/util/HashMap$Values", "iterator", "()Ljava/util/Iterator;"⟩ : MethodName) = true := plainFor_of_name (show plainName "java/util/HashMap$Values" = true by first | (simp [plainName, overriddenIn]; done) | decide +kernel)
theorem pd_29 : parseMethodDescriptor "()Ljava/util/Iterator;" = some ⟨[], some (.object "java/util/Iterator")⟩ := by decide +kernel
theorem d30_0 : decode jdk_2569_method_1_code 0 = .ok (.aload_n 0, 1) := by decide +kernel
theorem d30_1 : decode jdk_2569_method_1_code 1 = .ok (.aload_n 1, 1) := by decide +kernel
theorem d30_2 : decode jdk_2569_method_1_code 2 = .ok (.invokespecial 1, 3) := by decide +kernel
theorem d30_5 : decode jdk_2569_method_1_code 5 = .ok (.return_, 1) := by decide +kernel
theorem pn_30 : plainFor (⟨"java/util/HashMap$ValueIterator", "<init>", "(Ljava/util/HashMap;)V"⟩ : MethodName) = true := plainFor_of_name (show plainName "java/util/HashMap$ValueIterator" = true by first | (simp [plainName, overriddenIn]; done) | decide +kernel)
theorem pd_30 : parseMethodDescriptor "(Ljava/util/HashMap;)V" = some ⟨[(.object "java/util/HashMap")], none⟩ := by decide +kernel
theorem d31_0 : decode jdk_99_method_1_code 0 = .ok (.aload_n 0, 1) := by decide +kernel
theorem d31_1 : decode jdk_99_method_1_code 1 = .ok (.aload_n 1, 1) := by decide +kernel
theorem d31_2 : decode jdk_99_method_1_code 2 = .ok (.putfield 1, 3) := by decide +kernel
theorem d31_5 : decode jdk_99_method_1_code 5 = .ok (.aload_n 0, 1) := by decide +kernel
theorem d31_6 : decode jdk_99_method_1_code 6 = .ok (.invokespecial 7, 3) := by decide +kernel
theorem d31_9 : decode jdk_99_method_1_code 9 = .ok (.aload_n 0, 1) := by decide +kernel
theorem d31_10 : decode jdk_99_method_1_code 10 = .ok (.aload_n 1, 1) := by decide +kernel
theorem d31_11 : decode jdk_99_method_1_code 11 = .ok (.getfield 13, 3) := by decide +kernel
theorem d31_14 : decode jdk_99_method_1_code 14 = .ok (.putfield 19, 3) := by decide +kernel
theorem d31_17 : decode jdk_99_method_1_code 17 = .ok (.aload_n 1, 1) := by decide +kernel
theorem d31_18 : decode jdk_99_method_1_code 18 = .ok (.getfield 22, 3) := by decide +kernel
theorem d31_21 : decode jdk_99_method_1_code 21 = .ok (.astore_n 2, 1) := by decide +kernel
theorem d31_22 : decode jdk_99_method_1_code 22 = .ok (.aload_n 0, 1) := by decide +kernel
theorem d31_23 : decode jdk_99_method_1_code 23 = .ok (.aload_n 0, 1) := by decide +kernel
theorem d31_24 : decode jdk_99_method_1_code 24 = .ok (.aconst_null, 1) := by decide +kernel
theorem d31_25 : decode jdk_99_method_1_code 25 = .ok (.dup_x1, 1) := by decide +kernel
theorem d31_26 : decode jdk_99_method_1_code 26 = .ok (.putfield 26, 3) := by decide +kernel
theorem d31_29 : decode jdk_99_method_1_code 29 = .ok (.putfield 30, 3) := by decide +kernel
theorem d31_32 : decode jdk_99_method_1_code 32 = .ok (.aload_n 0, 1) := by decide +kernel
theorem d31_33 : decode jdk_99_method_1_code 33 = .ok (.iconst 0, 1) := by decide +kernel
theorem d31_34 : decode jdk_99_method_1_code 34 = .ok (.putfield 33, 3) := by decide +kernel
theorem d31_37 : decode jdk_99_method_1_code 37 = .ok (.aload_n 2, 1) := by decide +kernel
theorem d31_38 : decode jdk_99_method_1_code 38 = .ok (.ifnull 40, 3) := by decide +kernel
theorem d31_78 : decode jdk_99_method_1_code 78 = .ok (.return_, 1) := by decide +kernel
theorem pn_31 : plainFor (⟨"java/util/HashMap$HashIterator", "<init>", "(Ljava/util/HashMap;)V"⟩ : MethodName) = true := plainFor_of_name (show plainName "java/util/HashMap$HashIterator" = true by first | (simp [plainName, overriddenIn]; done) | decide +kernel)
theorem pd_31 : parseMethodDescriptor "(Ljava/util/HashMap;)V" = some ⟨[(.object "java/util/HashMap")], none⟩ := by decide +kernel
theorem d32_0 : decode jdk_99_method_2_code 0 = .ok (.aload_n 0, 1) := by decide +kernel
theorem d32_1 : decode jdk_99_method_2_code 1 = .ok (.getfield 26, 3) := by decide +kernel
theorem d32_4 : decode jdk_99_method_2_code 4 = .ok (.ifnull 7, 3) := by decide +kernel
theorem d32_11 : decode jdk_99_method_2_code 11 = .ok (.iconst 0, 1) := by decide +kernel
theorem d32_12 : decode jdk_99_method_2_code 12 = .ok (.ireturn, 1) := by decide +kernel
theorem pn_32 : plainFor (⟨"java/util/HashMap$HashIterator", "hasNext", "()Z"⟩ : MethodName) = true := plainFor_of_name (show plainName "java/util/HashMap$HashIterator" = true by first | (simp [plainName, overriddenIn]; done) | decide +kernel)
theorem pd_32 : parseMethodDescriptor "()Z" = some ⟨[], some .boolean⟩ := by decide +kernel
theorem d33_0 : decode prog_10_method_9_code 0 = .ok (.new 7, 3) := by decide +kernel
theorem d33_3 : decode prog_10_method_9_code 3 = .ok (.dup, 1) := by decide +kernel
theorem d33_4 : decode prog_10_method_9_code 4 = .ok (.invokespecial 9, 3) := by decide +kernel
theorem d33_7 : decode prog_10_method_9_code 7 = .ok (.astore_n 2, 1) := by decide +kernel
theorem d33_8 : decode prog_10_method_9_code 8 = .ok (.aload_n 0, 1) := by decide +kernel
theorem d33_9 : decode prog_10_method_9_code 9 = .ok (.getfield 55, 3) := by decide +kernel
theorem d33_12 : decode prog_10_method_9_code 12 = .ok (.iconst 1, 1) := by decide +kernel
theorem d33_13 : decode prog_10_method_9_code 13 = .ok (.iadd, 1) := by decide +kernel
theorem d33_14 : decode prog_10_method_9_code 14 = .ok (.istore_n 3, 1) := by decide +kernel
theorem d33_15 : decode prog_10_method_9_code 15 = .ok (.iconst 0, 1) := by decide +kernel
theorem d33_16 : decode prog_10_method_9_code 16 = .ok (.istore 4, 2) := by decide +kernel
theorem d33_18 : decode prog_10_method_9_code 18 = .ok (.iload 4, 2) := by decide +kernel
theorem d33_20 : decode prog_10_method_9_code 20 = .ok (.aload_n 0, 1) := by decide +kernel
theorem d33_21 : decode prog_10_method_9_code 21 = .ok (.getfield 52, 3) := by decide +kernel
theorem d33_24 : decode prog_10_method_9_code 24 = .ok (.if_icmp .ge 80, 3) := by decide +kernel
theorem d33_27 : decode prog_10_method_9_code 27 = .ok (.iconst 0, 1) := by decide +kernel
theorem d33_28 : decode prog_10_method_9_code 28 = .ok (.istore 5, 2) := by decide +kernel
theorem d33_30 : decode prog_10_method_9_code 30 = .ok (.iload 5, 2) := by decide +kernel
theorem d33_32 : decode prog_10_method_9_code 32 = .ok (.aload_n 0, 1) := by decide +kernel
theorem d33_33 : decode prog_10_method_9_code 33 = .ok (.getfield 23, 3) := by decide +kernel
theorem d33_36 : decode prog_10_method_9_code 36 = .ok (.if_icmp .ge 43, 3) := by decide +kernel
theorem d33_39 : decode prog_10_method_9_code 39 = .ok (.aload_n 0, 1) := by decide +kernel
theorem d33_40 : decode prog_10_method_9_code 40 = .ok (.getfield 31, 3) := by decide +kernel
theorem d33_43 : decode prog_10_method_9_code 43 = .ok (.iload 5, 2) := by decide +kernel
theorem d33_45 : decode prog_10_method_9_code 45 = .ok (.iaload, 1) := by decide +kernel
theorem d33_46 : decode prog_10_method_9_code 46 = .ok (.ifCond .lt 27, 3) := by decide +kernel
theorem d33_73 : decode prog_10_method_9_code 73 = .ok (.iinc 5 1, 3) := by decide +kernel
theorem d33_76 : decode prog_10_method_9_code 76 = .ok (.goto (-46), 3) := by decide +kernel
theorem d33_79 : decode prog_10_method_9_code 79 = .ok (.aload_n 2, 1) := by decide +kernel
theorem d33_80 : decode prog_10_method_9_code 80 = .ok (.iload 4, 2) := by decide +kernel
theorem d33_82 : decode prog_10_method_9_code 82 = .ok (.iload_n 3, 1) := by decide +kernel
theorem d33_83 : decode prog_10_method_9_code 83 = .ok (.imul, 1) := by decide +kernel
theorem d33_84 : decode prog_10_method_9_code 84 = .ok (.aload_n 0, 1) := by decide +kernel
theorem d33_85 : decode prog_10_method_9_code 85 = .ok (.getfield 55, 3) := by decide +kernel
theorem d33_88 : decode prog_10_method_9_code 88 = .ok (.iadd, 1) := by decide +kernel
theorem d33_89 : decode prog_10_method_9_code 89 = .ok (.aload_n 0, 1) := by decide +kernel
theorem d33_90 : decode prog_10_method_9_code 90 = .ok (.getfield 34, 3) := by decide +kernel
theorem d33_93 : decode prog_10_method_9_code 93 = .ok (.iload_n 1, 1) := by decide +kernel
theorem d33_94 : decode prog_10_method_9_code 94 = .ok (.iaload, 1) := by decide +kernel
theorem d33_95 : decode prog_10_method_9_code 95 = .ok (.invokevirtual 82, 3) := by decide +kernel
theorem d33_98 : decode prog_10_method_9_code 98 = .ok (.iinc 4 1, 3) := by decide +kernel
theorem d33_101 : decode prog_10_method_9_code 101 = .ok (.goto (-83), 3) := by decide +kernel
theorem d33_104 : decode prog_10_method_9_code 104 = .ok (.aload_n 0, 1) := by decide +kernel
theorem d33_105 : decode prog_10_method_9_code 105 = .ok (.aload_n 2, 1) := by decide +kernel
theorem d33_106 : decode prog_10_method_9_code 106 = .ok (.putfield 10, 3) := by decide +kernel
theorem d33_109 : decode prog_10_method_9_code 109 = .ok (.aload_n 0, 1) := by decide +kernel
theorem d33_110 : decode prog_10_method_9_code 110 = .ok (.getfield 31, 3) := by decide +kernel
theorem d33_113 : decode prog_10_method_9_code 113 = .ok (.iload_n 1, 1) := by decide +kernel
theorem d33_114 : decode prog_10_method_9_code 114 = .ok (.aload_n 0, 1) := by decide +kernel
theorem d33_115 : decode prog_10_method_9_code 115 = .ok (.getfield 55, 3) := by decide +kernel
theorem d33_118 : decode prog_10_method_9_code 118 = .ok (.iastore, 1) := by decide +kernel
theorem d33_119 : decode prog_10_method_9_code 119 = .ok (.aload_n 0, 1) := by decide +kernel
theorem d33_120 : decode prog_10_method_9_code 120 = .ok (.iload_n 3, 1) := by decide +kernel
theorem d33_121 : decode prog_10_method_9_code 121 = .ok (.putfield 55, 3) := by decide +kernel
theorem d33_124 : decode prog_10_method_9_code 124 = .ok (.return_, 1) := by decide +kernel
theorem pn_33 : plainFor (⟨"com/example/pointfold/pointfold/datalog/FlatRelation", "store", "(I)V"⟩ : MethodName) = true := plainFor_of_name (show plainName "com/example/pointfold/pointfold/datalog/FlatRelation" = true by first | (simp [plainName, overriddenIn]; done) | decide +kernel)
theorem pd_33 : parseMethodDescriptor "(I)V" = some ⟨[.int], none⟩ := by decide +kernel
theorem d34_0 : decode prog_55_method_5_code 0 = .ok (.iload_n 1, 1) := by decide +kernel
theorem d34_1 : decode prog_55_method_5_code 1 = .ok (.istore_n 3, 1) := by decide +kernel
theorem d34_2 : decode prog_55_method_5_code 2 = .ok (.iload_n 3, 1) := by decide +kernel
theorem d34_3 : decode prog_55_method_5_code 3 = .ok (.ifCond .eq 35, 3) := by decide +kernel
theorem d34_6 : decode prog_55_method_5_code 6 = .ok (.aload_n 0, 1) := by decide +kernel
theorem d34_7 : decode prog_55_method_5_code 7 = .ok (.getfield 33, 3) := by decide +kernel
theorem d34_10 : decode prog_55_method_5_code 10 = .ok (.iload_n 3, 1) := by decide +kernel
theorem d34_11 : decode prog_55_method_5_code 11 = .ok (.iconst 1, 1) := by decide +kernel
theorem d34_12 : decode prog_55_method_5_code 12 = .ok (.isub, 1) := by decide +kernel
theorem d34_13 : decode prog_55_method_5_code 13 = .ok (.aload_n 0, 1) := by decide +kernel
theorem d34_14 : decode prog_55_method_5_code 14 = .ok (.getfield 37, 3) := by decide +kernel
theorem d34_17 : decode prog_55_method_5_code 17 = .ok (.aload_n 2, 1) := by decide +kernel
theorem d34_18 : decode prog_55_method_5_code 18 = .ok (.invokevirtual 66, 3) := by decide +kernel
theorem d34_21 : decode prog_55_method_5_code 21 = .ok (.ifCond .ne 17, 3) := by decide +kernel
theorem d34_24 : decode prog_55_method_5_code 24 = .ok (.aload_n 0, 1) := by decide +kernel
theorem d34_25 : decode prog_55_method_5_code 25 = .ok (.getfield 30, 3) := by decide +kernel
theorem d34_28 : decode prog_55_method_5_code 28 = .ok (.iload_n 3, 1) := by decide +kernel
theorem d34_29 : decode prog_55_method_5_code 29 = .ok (.iconst 1, 1) := by decide +kernel
theorem d34_30 : decode prog_55_method_5_code 30 = .ok (.isub, 1) := by decide +kernel
theorem d34_31 : decode prog_55_method_5_code 31 = .ok (.invokevirtual 58, 3) := by decide +kernel
theorem d34_34 : decode prog_55_method_5_code 34 = .ok (.istore_n 3, 1) := by decide +kernel
theorem d34_35 : decode prog_55_method_5_code 35 = .ok (.goto (-33), 3) := by decide +kernel
theorem d34_38 : decode prog_55_method_5_code 38 = .ok (.iload_n 3, 1) := by decide +kernel
theorem d34_39 : decode prog_55_method_5_code 39 = .ok (.iconst 1, 1) := by decide +kernel
theorem d34_40 : decode prog_55_method_5_code 40 = .ok (.isub, 1) := by decide +kernel
theorem d34_41 : decode prog_55_method_5_code 41 = .ok (.ireturn, 1) := by decide +kernel
theorem pn_34 : plainFor (⟨"com/example/pointfold/pointfold/datalog/TupleIndex", "match", "(I[I)I"⟩ : MethodName) = true := plainFor_of_name (show plainName "com/example/pointfold/pointfold/datalog/TupleIndex" = true by first | (simp [plainName, overriddenIn]; done) | decide +kernel)
theorem pd_34 : parseMethodDescriptor "(I[I)I" = some ⟨[.int, (.array .int)], some .int⟩ := by decide +kernel
theorem d35_0 : decode prog_10_method_5_code 0 = .ok (.iconst 0, 1) := by decide +kernel
theorem d35_1 : decode prog_10_method_5_code 1 = .ok (.istore 4, 2) := by decide +kernel
theorem d35_3 : decode prog_10_method_5_code 3 = .ok (.iload 4, 2) := by decide +kernel
theorem d35_5 : decode prog_10_method_5_code 5 = .ok (.aload_n 2, 1) := by decide +kernel
theorem d35_6 : decode prog_10_method_5_code 6 = .ok (.arraylength, 1) := by decide +kernel
theorem d35_7 : decode prog_10_method_5_code 7 = .ok (.if_icmp .ge 27, 3) := by decide +kernel
theorem d35_10 : decode prog_10_method_5_code 10 = .ok (.aload_n 0, 1) := by decide +kernel
theorem d35_11 : decode prog_10_method_5_code 11 = .ok (.iload_n 1, 1) := by decide +kernel
theorem d35_12 : decode prog_10_method_5_code 12 = .ok (.aload_n 2, 1) := by decide +kernel
theorem d35_13 : decode prog_10_method_5_code 13 = .ok (.iload 4, 2) := by decide +kernel
theorem d35_15 : decode prog_10_method_5_code 15 = .ok (.iaload, 1) := by decide +kernel
theorem d35_16 : decode prog_10_method_5_code 16 = .ok (.invokevirtual 62, 3) := by decide +kernel
theorem d35_19 : decode prog_10_method_5_code 19 = .ok (.aload_n 3, 1) := by decide +kernel
theorem d35_20 : decode prog_10_method_5_code 20 = .ok (.iload 4, 2) := by decide +kernel
theorem d35_22 : decode prog_10_method_5_code 22 = .ok (.iaload, 1) := by decide +kernel
theorem d35_23 : decode prog_10_method_5_code 23 = .ok (.if_icmp .eq 5, 3) := by decide +kernel
theorem d35_26 : decode prog_10_method_5_code 26 = .ok (.iconst 0, 1) := by decide +kernel
theorem d35_27 : decode prog_10_method_5_code 27 = .ok (.ireturn, 1) := by decide +kernel
theorem d35_28 : decode prog_10_method_5_code 28 = .ok (.iinc 4 1, 3) := by decide +kernel
theorem d35_31 : decode prog_10_method_5_code 31 = .ok (.goto (-28), 3) := by decide +kernel
theorem d35_34 : decode prog_10_method_5_code 34 = .ok (.iconst 1, 1) := by decide +kernel
theorem d35_35 : decode prog_10_method_5_code 35 = .ok (.ireturn, 1) := by decide +kernel
theorem pn_35 : plainFor (⟨"com/example/pointfold/pointfold/datalog/FlatRelation", "holds", "(I[I[I)Z"⟩ : MethodName) = true := plainFor_of_name (show plainName "com/example/pointfold/pointfold/datalog/FlatRelation" = true by first | (simp [plainName, overriddenIn]; done) | decide +kernel)
theorem pd_35 : parseMethodDescriptor "(I[I[I)Z" = some ⟨[.int, (.array .int), (.array .int)], some .boolean⟩ := by decide +kernel
theorem d36_0 : decode prog_10_method_14_code 0 = .ok (.aload_n 0, 1) := by decide +kernel
theorem d36_1 : decode prog_10_method_14_code 1 = .ok (.aload_n 0, 1) := by decide +kernel
theorem d36_2 : decode prog_10_method_14_code 2 = .ok (.getfield 134, 3) := by decide +kernel
theorem d36_5 : decode prog_10_method_14_code 5 = .ok (.putfield 137, 3) := by decide +kernel
theorem d36_8 : decode prog_10_method_14_code 8 = .ok (.aload_n 0, 1) := by decide +kernel
theorem d36_9 : decode prog_10_method_14_code 9 = .ok (.aload_n 0, 1) := by decide +kernel
theorem d36_10 : decode prog_10_method_14_code 10 = .ok (.getfield 52, 3) := by decide +kernel
theorem d36_13 : decode prog_10_method_14_code 13 = .ok (.putfield 140, 3) := by decide +kernel
theorem d36_16 : decode prog_10_method_14_code 16 = .ok (.aload_n 0, 1) := by decide +kernel
theorem d36_17 : decode prog_10_method_14_code 17 = .ok (.getfield 140, 3) := by decide +kernel
theorem d36_20 : decode prog_10_method_14_code 20 = .ok (.aload_n 0, 1) := by decide +kernel
theorem d36_21 : decode prog_10_method_14_code 21 = .ok (.getfield 137, 3) := by decide +kernel
theorem d36_24 : decode prog_10_method_14_code 24 = .ok (.if_icmp .le 7, 3) := by decide +kernel
theorem d36_27 : decode prog_10_method_14_code 27 = .ok (.iconst 1, 1) := by decide +kernel
theorem d36_28 : decode prog_10_method_14_code 28 = .ok (.goto 4, 3) := by decide +kernel
theorem d36_31 : decode prog_10_method_14_code 31 = .ok (.iconst 0, 1) := by decide +kernel
theorem d36_32 : decode prog_10_method_14_code 32 = .ok (.ireturn, 1) := by decide +kernel
theorem pn_36 : plainFor (⟨"com/example/pointfold/pointfold/datalog/FlatRelation", "endRound", "()Z"⟩ : MethodName) = true := plainFor_of_name (show plainName "com/example/pointfold/pointfold/datalog/FlatRelation" = true by first | (simp [plainName, overriddenIn]; done) | decide +kernel)
theorem pd_36 : parseMethodDescriptor "()Z" = some ⟨[], some .boolean⟩ := by decide +kernel
theorem d37_0 : decode prog_10_method_12_code 0 = .ok (.iload_n 2, 1) := by decide +kernel
theorem d37_1 : decode prog_10_method_12_code 1 = .ok (.ifCond .ne 8, 3) := by decide +kernel
theorem d37_9 : decode prog_10_method_12_code 9 = .ok (.new 124, 3) := by decide +kernel
theorem d37_12 : decode prog_10_method_12_code 12 = .ok (.dup, 1) := by decide +kernel
theorem d37_13 : decode prog_10_method_12_code 13 = .ok (.aload_n 0, 1) := by decide +kernel
theorem d37_14 : decode prog_10_method_12_code 14 = .ok (.aload_n 1, 1) := by decide +kernel
theorem d37_15 : decode prog_10_method_12_code 15 = .ok (.iload_n 2, 1) := by decide +kernel
theorem d37_16 : decode prog_10_method_12_code 16 = .ok (.invokespecial 126, 3) := by decide +kernel
theorem d37_19 : decode prog_10_method_12_code 19 = .ok (.areturn, 1) := by decide +kernel
theorem pn_37 : plainFor (⟨"com/example/pointfold/pointfold/datalog/FlatRelation", "cursor", "([IZ)Lcom/example/pointfold/pointfold/datalog/Relation$Cursor;"⟩ : MethodName) = true := plainFor_of_name (show plainName "com/example/pointfold/pointfold/datalog/FlatRelation" = true by first | (simp [plainName, overriddenIn]; done) | decide +kernel)
theorem pd_37 : parseMethodDescriptor "([IZ)Lcom/example/pointfold/pointfold/datalog/Relation$Cursor;" = some ⟨[(.array .int), .boolean], some (.object "com/example/pointfold/pointfold/datalog/Relation$Cursor")⟩ := by decide +kernel
theorem d38_0 : decode prog_12_method_1_code 0 = .ok (.aload_n 0, 1) := by decide +kernel
theorem d38_1 : decode prog_12_method_1_code 1 = .ok (.aload_n 1, 1) := by decide +kernel
theorem d38_2 : decode prog_12_method_1_code 2 = .ok (.putfield 1, 3) := by decide +kernel
theorem d38_5 : decode prog_12_method_1_code 5 = .ok (.aload_n 0, 1) := by decide +kernel
theorem d38_6 : decode prog_12_method_1_code 6 = .ok (.invokespecial 7, 3) := by decide +kernel
theorem d38_9 : decode prog_12_method_1_code 9 = .ok (.aload_n 0, 1) := by decide +kernel
theorem d38_10 : decode prog_12_method_1_code 10 = .ok (.aload_n 2, 1) := by decide +kernel
theorem d38_11 : decode prog_12_method_1_code 11 = .ok (.putfield 13, 3) := by decide +kernel
theorem d38_14 : decode prog_12_method_1_code 14 = .ok (.aload_n 0, 1) := by decide +kernel
theorem d38_15 : decode prog_12_method_1_code 15 = .ok (.iload_n 3, 1) := by decide +kernel
theorem d38_16 : decode prog_12_method_1_code 16 = .ok (.putfield 17, 3) := by decide +kernel
theorem d38_19 : decode prog_12_method_1_code 19 = .ok (.return_, 1) := by decide +kernel
theorem pn_38 : plainFor (⟨"com/example/pointfold/pointfold/datalog/FlatRelation$RangeCursor", "<init>", "(Lcom/example/pointfold/pointfold/datalog/FlatRelation;[IZ)V"⟩ : MethodName) = true := plainFor_of_name (show plainName "com/example/pointfold/pointfold/datalog/FlatRelation$RangeCursor" = true by first | (simp [plainName, overriddenIn]; done) | decide +kernel)
theorem pd_38 : parseMethodDescriptor "(Lcom/example/pointfold/pointfold/datalog/FlatRelation;[IZ)V" = some ⟨[(.object "com/example/pointfold/pointfold/datalog/FlatRelation"), (.array .int), .boolean], none⟩ := by decide +kernel
theorem d39_0 : decode prog_12_method_2_code 0 = .ok (.aload_n 0, 1) := by decide +kernel
theorem d39_1 : decode prog_12_method_2_code 1 = .ok (.aload_n 1, 1) := by decide +kernel
theorem d39_2 : decode prog_12_method_2_code 2 = .ok (.putfield 21, 3) := by decide +kernel
theorem d39_5 : decode prog_12_method_2_code 5 = .ok (.aload_n 0, 1) := by decide +kernel
theorem d39_6 : decode prog_12_method_2_code 6 = .ok (.aload_n 0, 1) := by decide +kernel
theorem d39_7 : decode prog_12_method_2_code 7 = .ok (.getfield 17, 3) := by decide +kernel
theorem d39_10 : decode prog_12_method_2_code 10 = .ok (.ifCond .eq 13, 3) := by decide +kernel
theorem d39_13 : decode prog_12_method_2_code 13 = .ok (.aload_n 0, 1) := by decide +kernel
theorem d39_14 : decode prog_12_method_2_code 14 = .ok (.getfield 1, 3) := by decide +kernel
theorem d39_17 : decode prog_12_method_2_code 17 = .ok (.getfield 24, 3) := by decide +kernel
theorem d39_20 : decode prog_12_method_2_code 20 = .ok (.goto 4, 3) := by decide +kernel
theorem d39_24 : decode prog_12_method_2_code 24 = .ok (.iconst 1, 1) := by decide +kernel
theorem d39_25 : decode prog_12_method_2_code 25 = .ok (.isub, 1) := by decide +kernel
theorem d39_26 : decode prog_12_method_2_code 26 = .ok (.putfield 30, 3) := by decide +kernel
theorem d39_29 : decode prog_12_method_2_code 29 = .ok (.aload_n 0, 1) := by decide +kernel
theorem d39_30 : decode prog_12_method_2_code 30 = .ok (.aload_n 0, 1) := by decide +kernel
theorem d39_31 : decode prog_12_method_2_code 31 = .ok (.getfield 17, 3) := by decide +kernel
theorem d39_34 : decode prog_12_method_2_code 34 = .ok (.ifCond .eq 13, 3) := by decide +kernel
theorem d39_37 : decode prog_12_method_2_code 37 = .ok (.aload_n 0, 1) := by decide +kernel
theorem d39_38 : decode prog_12_method_2_code 38 = .ok (.getfield 1, 3) := by decide +kernel
theorem d39_41 : decode prog_12_method_2_code 41 = .ok (.getfield 33, 3) := by decide +kernel
theorem d39_44 : decode prog_12_method_2_code 44 = .ok (.goto 10, 3) := by decide +kernel
theorem d39_54 : decode prog_12_method_2_code 54 = .ok (.putfield 39, 3) := by decide +kernel
theorem d39_57 : decode prog_12_method_2_code 57 = .ok (.aload_n 0, 1) := by decide +kernel
theorem d39_58 : decode prog_12_method_2_code 58 = .ok (.invokevirtual 42, 3) := by decide +kernel
theorem d39_61 : decode prog_12_method_2_code 61 = .ok (.ireturn, 1) := by decide +kernel
theorem pn_39 : plainFor (⟨"com/example/pointfold/pointfold/datalog/FlatRelation$RangeCursor", "first", "([I)Z"⟩ : MethodName) = true := plainFor_of_name (show plainName "com/example/pointfold/pointfold/datalog/FlatRelation$RangeCursor" = true by first | (simp [plainName, overriddenIn]; done) | decide +kernel)
theorem pd_39 : parseMethodDescriptor "([I)Z" = some ⟨[(.array .int)], some .boolean⟩ := by decide +kernel
theorem d40_0 : decode prog_12_method_3_code 0 = .ok (.aload_n 0, 1) := by decide +kernel
theorem d40_1 : decode prog_12_method_3_code 1 = .ok (.dup, 1) := by decide +kernel
theorem d40_2 : decode prog_12_method_3_code 2 = .ok (.getfield 30, 3) := by decide +kernel
theorem d40_5 : decode prog_12_method_3_code 5 = .ok (.iconst 1, 1) := by decide +kernel
theorem d40_6 : decode prog_12_method_3_code 6 = .ok (.iadd, 1) := by decide +kernel
theorem d40_7 : decode prog_12_method_3_code 7 = .ok (.dup_x1, 1) := by decide +kernel
theorem d40_8 : decode prog_12_method_3_code 8 = .ok (.putfield 30, 3) := by decide +kernel
theorem d40_11 : decode prog_12_method_3_code 11 = .ok (.aload_n 0, 1) := by decide +kernel
theorem d40_12 : decode prog_12_method_3_code 12 = .ok (.getfield 39, 3) := by decide +kernel
theorem d40_15 : decode prog_12_method_3_code 15 = .ok (.if_icmp .ge 27, 3) := by decide +kernel
theorem d40_18 : decode prog_12_method_3_code 18 = .ok (.aload_n 0, 1) := by decide +kernel
theorem d40_19 : decode prog_12_method_3_code 19 = .ok (.getfield 1, 3) := by decide +kernel
theorem d40_22 : decode prog_12_method_3_code 22 = .ok (.aload_n 0, 1) := by decide +kernel
theorem d40_23 : decode prog_12_method_3_code 23 = .ok (.getfield 30, 3) := by decide +kernel
theorem d40_26 : decode prog_12_method_3_code 26 = .ok (.aload_n 0, 1) := by decide +kernel
theorem d40_27 : decode prog_12_method_3_code 27 = .ok (.getfield 13, 3) := by decide +kernel
theorem d40_30 : decode prog_12_method_3_code 30 = .ok (.aload_n 0, 1) := by decide +kernel
theorem d40_31 : decode prog_12_method_3_code 31 = .ok (.getfield 21, 3) := by decide +kernel
theorem d40_34 : decode prog_12_method_3_code 34 = .ok (.invokevirtual 46, 3) := by decide +kernel
theorem d40_37 : decode prog_12_method_3_code 37 = .ok (.ifCond .eq (-37), 3) := by decide +kernel
theorem d40_40 : decode prog_12_method_3_code 40 = .ok (.iconst 1, 1) := by decide +kernel
theorem d40_41 : decode prog_12_method_3_code 41 = .ok (.ireturn, 1) := by decide +kernel
theorem d40_42 : decode prog_12_method_3_code 42 = .ok (.iconst 0, 1) := by decide +kernel
theorem d40_43 : decode prog_12_method_3_code 43 = .ok (.ireturn, 1) := by decide +kernel
theorem pn_40 : plainFor (⟨"com/example/pointfold/pointfold/datalog/FlatRelation$RangeCursor", "next", "()Z"⟩ : MethodName) = true := plainFor_of_name (show plainName "com/example/pointfold/pointfold/datalog/FlatRelation$RangeCursor" = true by first | (simp [plainName, overriddenIn]; done) | decide +kernel)
theorem pd_40 : parseMethodDescriptor "()Z" = some ⟨[], some .boolean⟩ := by decide +kernel
theorem d41_0 : decode method_3_code 0 = .ok (.iload_n 0, 1) := by decide +kernel
theorem d41_1 : decode method_3_code 1 = .ok (.iload_n 2, 1) := by decide +kernel
theorem d41_2 : decode method_3_code 2 = .ok (.if_icmp .eq 14, 3) := by decide +kernel
theorem d41_5 : decode method_3_code 5 = .ok (.iload_n 0, 1) := by decide +kernel
theorem d41_6 : decode method_3_code 6 = .ok (.iload_n 3, 1) := by decide +kernel
theorem d41_7 : decode method_3_code 7 = .ok (.if_icmp .eq 9, 3) := by decide +kernel
theorem d41_10 : decode method_3_code 10 = .ok (.iload_n 0, 1) := by decide +kernel
theorem d41_11 : decode method_3_code 11 = .ok (.iload 4, 2) := by decide +kernel
theorem d41_13 : decode method_3_code 13 = .ok (.if_icmp .ne 7, 3) := by decide +kernel
theorem d41_16 : decode method_3_code 16 = .ok (.iconst 1, 1) := by decide +kernel
theorem d41_17 : decode method_3_code 17 = .ok (.goto 4, 3) := by decide +kernel
theorem d41_20 : decode method_3_code 20 = .ok (.iconst 0, 1) := by decide +kernel
theorem d41_21 : decode method_3_code 21 = .ok (.istore 5, 2) := by decide +kernel
theorem d41_23 : decode method_3_code 23 = .ok (.iload 5, 2) := by decide +kernel
theorem d41_25 : decode method_3_code 25 = .ok (.ifCond .eq 19, 3) := by decide +kernel
theorem d41_28 : decode method_3_code 28 = .ok (.iload_n 0, 1) := by decide +kernel
theorem d41_29 : decode method_3_code 29 = .ok (.iload_n 1, 1) := by decide +kernel
theorem d41_30 : decode method_3_code 30 = .ok (.iload_n 2, 1) := by decide +kernel
theorem d41_31 : decode method_3_code 31 = .ok (.iload_n 3, 1) := by decide +kernel
theorem d41_32 : decode method_3_code 32 = .ok (.iload 4, 2) := by decide +kernel
theorem d41_34 : decode method_3_code 34 = .ok (.invokestatic 7, 3) := by decide +kernel
theorem d41_37 : decode method_3_code 37 = .ok (.ifCond .ne 7, 3) := by decide +kernel
theorem d41_40 : decode method_3_code 40 = .ok (.iconst 1, 1) := by decide +kernel
theorem d41_41 : decode method_3_code 41 = .ok (.goto 4, 3) := by decide +kernel
theorem d41_44 : decode method_3_code 44 = .ok (.iconst 0, 1) := by decide +kernel
theorem d41_45 : decode method_3_code 45 = .ok (.ireturn, 1) := by decide +kernel
theorem pn_41 : plainFor (⟨"com/example/pointfold/pointfold/datalog/FlatRelationEndRoundPinLaw", "inDelta", "(IIIII)Z"⟩ : MethodName) = true := plainFor_of_name (show plainName "com/example/pointfold/pointfold/datalog/FlatRelationEndRoundPinLaw" = true by first | (simp [plainName, overriddenIn]; done) | decide +kernel)
theorem pd_41 : parseMethodDescriptor "(IIIII)Z" = some ⟨[.int, .int, .int, .int, .int], some .boolean⟩ := by decide +kernel
theorem d42_0 : decode method_2_code 0 = .ok (.iload_n 1, 1) := by decide +kernel
theorem d42_1 : decode method_2_code 1 = .ok (.iconst 1, 1) := by decide +kernel
theorem d42_2 : decode method_2_code 2 = .ok (.if_icmp .lt 8, 3) := by decide +kernel
theorem d42_5 : decode method_2_code 5 = .ok (.iload_n 0, 1) := by decide +kernel
theorem d42_6 : decode method_2_code 6 = .ok (.iload_n 2, 1) := by decide +kernel
theorem d42_7 : decode method_2_code 7 = .ok (.if_icmp .eq 24, 3) := by decide +kernel
theorem d42_10 : decode method_2_code 10 = .ok (.iload_n 1, 1) := by decide +kernel
theorem d42_11 : decode method_2_code 11 = .ok (.iconst 2, 1) := by decide +kernel
theorem d42_12 : decode method_2_code 12 = .ok (.if_icmp .lt 8, 3) := by decide +kernel
theorem d42_15 : decode method_2_code 15 = .ok (.iload_n 0, 1) := by decide +kernel
theorem d42_16 : decode method_2_code 16 = .ok (.iload_n 3, 1) := by decide +kernel
theorem d42_17 : decode method_2_code 17 = .ok (.if_icmp .eq 14, 3) := by decide +kernel
theorem d42_20 : decode method_2_code 20 = .ok (.iload_n 1, 1) := by decide +kernel
theorem d42_21 : decode method_2_code 21 = .ok (.iconst 3, 1) := by decide +kernel
theorem d42_22 : decode method_2_code 22 = .ok (.if_icmp .lt 13, 3) := by decide +kernel
theorem d42_25 : decode method_2_code 25 = .ok (.iload_n 0, 1) := by decide +kernel
theorem d42_26 : decode method_2_code 26 = .ok (.iload 4, 2) := by decide +kernel
theorem d42_28 : decode method_2_code 28 = .ok (.if_icmp .ne 7, 3) := by decide +kernel
theorem d42_31 : decode method_2_code 31 = .ok (.iconst 1, 1) := by decide +kernel
theorem d42_32 : decode method_2_code 32 = .ok (.goto 4, 3) := by decide +kernel
theorem d42_35 : decode method_2_code 35 = .ok (.iconst 0, 1) := by decide +kernel
theorem d42_36 : decode method_2_code 36 = .ok (.ireturn, 1) := by decide +kernel
theorem pn_42 : plainFor (⟨"com/example/pointfold/pointfold/datalog/FlatRelationEndRoundPinLaw", "before", "(IIIII)Z"⟩ : MethodName) = true := plainFor_of_name (show plainName "com/example/pointfold/pointfold/datalog/FlatRelationEndRoundPinLaw" = true by first | (simp [plainName, overriddenIn]; done) | decide +kernel)
theorem pd_42 : parseMethodDescriptor "(IIIII)Z" = some ⟨[.int, .int, .int, .int, .int], some .boolean⟩ := by decide +kernel
/-- the buckets and the chains of an index over sz tuples with the values V -/
def own_IX (h : Int32 → Nat) (sz : Nat) (V Bk Nx : Nat → Int32) : Prop :=
  (∀ j, j < 16 → ∃ m : Nat, (Bk j).toInt = (m : Int) ∧ m ≤ sz ∧ (∀ t, m = t + 1 → h (V t) = j) ∧ ∀ t, m ≤ t → t < sz → h (V t) ≠ j) ∧
  (∀ t, t < sz → ∃ m : Nat, (Nx t).toInt = (m : Int) ∧ m ≤ t ∧ (∀ u, m = u + 1 → h (V u) = h (V t)) ∧ ∀ u, m ≤ u → u < t → h (V u) ≠ h (V t))
theorem own_IX0 (h : Int32 → Nat) (V Nx : Nat → Int32) : own_IX h 0 V (fun _ => 0) Nx :=
  ⟨fun j hj => ⟨0, (by decide : (0 : Int32).toInt = 0), by omega, fun t ht => by omega, fun t _ ht => by omega⟩, fun t ht => by omega⟩
theorem own_IX_link {h : Int32 → Nat} {sz : Nat} {V Bk Nx : Nat → Int32} (I : own_IX h sz V Bk Nx) {v s1 : Int32} {j : Nat} (hj : h v = j) (hj16 : j < 16) (hs : s1.toInt = ((sz + 1 : Nat) : Int)) : own_IX h (sz + 1) (updA V sz v) (updA Bk j s1) (updA Nx sz (Bk j)) := by
  have eo : ∀ t, t < sz → updA V sz v t = V t := fun t ht => updA_ne _ _ (by omega)
  have es : updA V sz v sz = v := updA_same _ _ _
  generalize updA V sz v = W at eo es
  constructor
  · intro i hi
    by_cases e : i = j
    · subst e
      exact ⟨sz + 1, by rw [updA_same, hs], by omega, fun t ht => by rw [show t = sz by omega, es, hj], fun t h1 h2 => by omega⟩
    · obtain ⟨m, a1, a2, a3, a4⟩ := I.1 i hi
      refine ⟨m, by rw [updA_ne _ _ e]; exact a1, by omega, fun t ht => by rw [eo t (by omega)]; exact a3 t ht, fun t h1 h2 => ?_⟩
      by_cases et : t = sz
      · subst et; rw [es, hj]; exact fun q => e q.symm
      · rw [eo t (by omega)]; exact a4 t h1 (by omega)
  · intro t ht
    by_cases et : t = sz
    · subst et
      obtain ⟨m, a1, a2, a3, a4⟩ := I.1 j hj16
      refine ⟨m, by rw [updA_same]; exact a1, a2, fun u hu => by rw [eo u (by omega), es, hj]; exact a3 u hu, fun u h1 h2 => by rw [eo u h2, es, hj]; exact a4 u h1 h2⟩
    · obtain ⟨m, a1, a2, a3, a4⟩ := I.2 t (by omega)
      exact ⟨m, by rw [updA_ne _ _ et]; exact a1, a2, fun u hu => by rw [eo u (by omega), eo t (by omega)]; exact a3 u hu, fun u h1 h2 => by rw [eo u (by omega), eo t (by omega)]; exact a4 u h1 h2⟩
/-- where the search stands: no tuple from m on has the value v, and m's is of v's bucket -/
def own_at (h : Int32 → Nat) (sz : Nat) (V : Nat → Int32) (v : Int32) (m : Nat) : Prop := m ≤ sz ∧ (∀ t, m = t + 1 → h (V t) = h v) ∧ ∀ t, m ≤ t → t < sz → V t ≠ v
theorem own_at0 {h : Int32 → Nat} {sz : Nat} {V Bk Nx : Nat → Int32} (I : own_IX h sz V Bk Nx) (v : Int32) (hv : h v < 16) : ∃ m : Nat, (Bk (h v)).toInt = (m : Int) ∧ own_at h sz V v m := by
  obtain ⟨m, a1, a2, a3, a4⟩ := I.1 (h v) hv
  exact ⟨m, a1, a2, a3, fun t h1 h2 e => a4 t h1 h2 (by rw [e])⟩
theorem own_atS {h : Int32 → Nat} {sz : Nat} {V Bk Nx : Nat → Int32} (I : own_IX h sz V Bk Nx) {v : Int32} {t : Nat} (A : own_at h sz V v (t + 1)) (hne : V t ≠ v) : ∃ m : Nat, (Nx t).toInt = (m : Int) ∧ m ≤ t ∧ own_at h sz V v m := by
  obtain ⟨b1, b2, b3⟩ := A
  obtain ⟨m, a1, a2, a3, a4⟩ := I.2 t (by omega)
  have ht := b2 t rfl
  refine ⟨m, a1, a2, by omega, fun u hu => by rw [a3 u hu, ht], fun u h1 h2 e => ?_⟩
  by_cases c1 : u = t
  · subst c1; exact hne e
  · by_cases c2 : u < t
    · exact a4 u h1 c2 (by rw [e, ht])
    · exact b3 u (by omega) h2 e
/-- the filter: each tuple's bit is set -/
def own_FI (w : Int32 → Nat) (bt : Int32 → Int64) (sz : Nat) (V : Nat → Int32) (Bf : Nat → Int64) : Prop := ∀ t, t < sz → Bf (w (V t)) &&& bt (V t) ≠ 0
theorem own_or_keep (a b c : Int64) (h : a &&& c ≠ 0) : (a ||| b) &&& c ≠ 0 := fun q => h (by
  apply Int64.toBitVec_inj.mp
  have q' := congrArg Int64.toBitVec q
  rw [Int64.toBitVec_and, Int64.toBitVec_or] at q'
  rw [Int64.toBitVec_and]
  apply BitVec.eq_of_getLsbD_eq
  intro i hi
  have q2 := congrArg (fun z => z.getLsbD i) q'
  simp only [BitVec.getLsbD_and, BitVec.getLsbD_or] at q2 ⊢
  revert q2
  cases a.toBitVec.getLsbD i <;> cases b.toBitVec.getLsbD i <;> cases c.toBitVec.getLsbD i <;> simp_all)
theorem own_or_set (a b : Int64) (h : b ≠ 0) : (a ||| b) &&& b ≠ 0 := fun q => h (by
  apply Int64.toBitVec_inj.mp
  have q' := congrArg Int64.toBitVec q
  rw [Int64.toBitVec_and, Int64.toBitVec_or] at q'
  apply BitVec.eq_of_getLsbD_eq
  intro i hi
  have q2 := congrArg (fun z => z.getLsbD i) q'
  simp only [BitVec.getLsbD_and, BitVec.getLsbD_or] at q2 ⊢
  revert q2
  cases a.toBitVec.getLsbD i <;> cases b.toBitVec.getLsbD i <;> simp_all)
theorem own_FI_add {w : Int32 → Nat} {bt : Int32 → Int64} {sz : Nat} {V : Nat → Int32} {Bf : Nat → Int64} (hb : ∀ v, bt v ≠ 0) (I : own_FI w bt sz V Bf) (v : Int32) : own_FI w bt (sz + 1) (updA V sz v) (updA Bf (w v) (Bf (w v) ||| bt v)) := by
  intro t ht
  by_cases e : t = sz
  · subst e; rw [updA_same, updA_same]; exact own_or_set _ _ (hb v)
  · rw [updA_ne _ _ e]
    by_cases e2 : w (V t) = w v
    · rw [e2, updA_same, ← e2]; exact own_or_keep _ _ _ (I t (by omega))
    · rw [updA_ne _ _ e2]; exact I t (by omega)
/-- the tuples so far: the distinct ones of these values; the first rs of them are the first kk's -/
def own_S (sz : Nat) (V : Nat → Int32) (S : Int32 → Prop) : Prop := (∀ t, t < sz → S (V t)) ∧ (∀ y, S y → ∃ t, t < sz ∧ V t = y) ∧ ∀ t u, t < u → u < sz → V t ≠ V u
theorem own_S_old {sz : Nat} {V : Nat → Int32} {S : Int32 → Prop} (H : own_S sz V S) {v : Int32} (h : ∃ t, t < sz ∧ V t = v) : own_S sz V (fun y => S y ∨ y = v) :=
  ⟨fun t ht => Or.inl (H.1 t ht), fun y hy => by rcases hy with hy | rfl; exact H.2.1 y hy; exact h, H.2.2⟩
theorem own_S_new {sz : Nat} {V : Nat → Int32} {S : Int32 → Prop} (H : own_S sz V S) {v : Int32} (h : ∀ t, t < sz → V t ≠ v) : own_S (sz + 1) (updA V sz v) (fun y => S y ∨ y = v) := by
  refine ⟨fun t ht => ?_, fun y hy => ?_, fun t u htu hu => ?_⟩
  · by_cases e : t = sz
    · subst e; right; rw [updA_same]
    · rw [updA_ne _ _ e]; exact Or.inl (H.1 t (by omega))
  · rcases hy with hy | rfl
    · obtain ⟨t, ht, e⟩ := H.2.1 y hy; exact ⟨t, by omega, by rw [updA_ne _ _ (by omega)]; exact e⟩
    · exact ⟨sz, by omega, updA_same _ _ _⟩
  · by_cases e : u = sz
    · subst e; rw [updA_same, updA_ne _ _ (by omega)]; exact h t (by omega)
    · rw [updA_ne _ _ e, updA_ne _ _ (by omega)]; exact H.2.2 t u htu (by omega)
def own_R (rs : Nat) (V : Nat → Int32) (S0 : Int32 → Prop) : Prop := ∀ y, S0 y ↔ ∃ t, t < rs ∧ V t = y
theorem own_R_now {sz : Nat} {V : Nat → Int32} {S : Int32 → Prop} (H : own_S sz V S) : own_R sz V S := fun y => ⟨fun h => H.2.1 y h, fun ⟨t, ht, e⟩ => e ▸ H.1 t ht⟩
theorem own_R_upd {rs sz : Nat} {V : Nat → Int32} {S0 : Int32 → Prop} (H : own_R rs V S0) (h : rs ≤ sz) (v : Int32) : own_R rs (updA V sz v) S0 := fun y =>
  (H y).trans ⟨fun ⟨t, ht, e⟩ => ⟨t, ht, by rw [updA_ne _ _ (by omega)]; exact e⟩, fun ⟨t, ht, e⟩ => ⟨t, ht, by rw [updA_ne _ _ (by omega)] at e; exact e⟩⟩
theorem own_delta {rs sz : Nat} {V : Nat → Int32} {S S0 : Int32 → Prop} (H : own_S sz V S) (R : own_R rs V S0) (h : rs ≤ sz) (y : Int32) : (∃ t, rs ≤ t ∧ t < sz ∧ V t = y) ↔ (S y ∧ ¬ S0 y) := by
  constructor
  · rintro ⟨t, h1, h2, e⟩
    refine ⟨e ▸ H.1 t h2, fun q => ?_⟩
    obtain ⟨u, hu, eu⟩ := (R y).mp q
    exact H.2.2 u t (by omega) h2 (eu.trans e.symm)
  · rintro ⟨h1, h2⟩
    obtain ⟨t, ht, e⟩ := H.2.1 y h1
    refine ⟨t, ?_, ht, e⟩
    exact Nat.le_of_not_lt fun q => h2 ((R y).mpr ⟨t, q, e⟩)

set_option maxRecDepth 65536 in
set_option maxHeartbeats 40000000 in
theorem spec_2 (l : Launch) (Z : State) (a0 : Array Value) (hw : ∀ d ∈ tables_1, d.before a0 Z = true) (a : Addr) (os : OS) : OMeets l Z (⟨"com/example/pointfold/pointfold/datalog/Relation", "<init>", "()V"⟩ : MethodName) prog_47_method_1_code 1 none ({ frames := 1, cells := 0, slots := 0, locals := 12 } : Room) [(.ref a)] os (RetN fun os' => os' = os) := by
  refine OMeets.of_body [.val (.ref a)] pn_2 (laid_eq _ _ rfl) ?_
  intro X K
  refine W.aloadN K 1 d2_0 0 rfl rfl rfl ?_
  refine W.initO K 4 d2_1 (hw _ (List.mem_of_getElem? (i := 12) rfl)) (hw _ (List.mem_of_getElem? (i := 13) rfl)) (hw _ (List.mem_of_getElem? (i := 14) rfl)) ?_
  exact W.return K d2_4 ⟨rfl, rfl⟩
set_option maxRecDepth 65536 in
set_option maxHeartbeats 40000000 in
theorem spec_6 (l : Launch) (Z : State) (a0 : Array Value) (hw : ∀ d ∈ tables_1, d.before a0 Z = true) (a : Addr) (os : OS) : OMeets l Z (⟨"java/util/AbstractMap", "<init>", "()V"⟩ : MethodName) jdk_71_method_1_code 1 none ({ frames := 1, cells := 0, slots := 0, locals := 12 } : Room) [(.ref a)] os (RetN fun os' => os' = os) := by
  refine OMeets.of_body [.val (.ref a)] pn_6 (laid_eq _ _ rfl) ?_
  intro X K
  refine W.aloadN K 1 d6_0 0 rfl rfl rfl ?_
  refine W.initO K 4 d6_1 (hw _ (List.mem_of_getElem? (i := 41) rfl)) (hw _ (List.mem_of_getElem? (i := 13) rfl)) (hw _ (List.mem_of_getElem? (i := 14) rfl)) ?_
  exact W.return K d6_4 ⟨rfl, rfl⟩
set_option maxRecDepth 65536 in
set_option maxHeartbeats 40000000 in
theorem spec_28 (l : Launch) (Z : State) (a0 : Array Value) (hw : ∀ d ∈ tables_1, d.before a0 Z = true) (a : Addr) (os : OS) : OMeets l Z (⟨"java/util/AbstractCollection", "<init>", "()V"⟩ : MethodName) jdk_22_method_1_code 1 none ({ frames := 1, cells := 0, slots := 0, locals := 12 } : Room) [(.ref a)] os (RetN fun os' => os' = os) := by
  refine OMeets.of_body [.val (.ref a)] pn_28 (laid_eq _ _ rfl) ?_
  intro X K
  refine W.aloadN K 1 d28_0 0 rfl rfl rfl ?_
  refine W.initO K 4 d28_1 (hw _ (List.mem_of_getElem? (i := 201) rfl)) (hw _ (List.mem_of_getElem? (i := 13) rfl)) (hw _ (List.mem_of_getElem? (i := 14) rfl)) ?_
  exact W.return K d28_4 ⟨rfl, rfl⟩
def own_max (x y : Int32) : Int32 := if x.toInt < y.toInt then y else x
set_option maxRecDepth 65536 in
set_option maxHeartbeats 40000000 in
theorem spec_10 (l : Launch) (Z : State) (a0 : Array Value) (hw : ∀ d ∈ tables_1, d.before a0 Z = true) (x y : Int32) (os : OS) : OMeets l Z (⟨"java/lang/Math", "max", "(II)I"⟩ : MethodName) jdk_29_method_65_code 2 (some .int) ({ frames := 0, cells := 0, slots := 0, locals := 0 } : Room) [(.int x), (.int y)] os (RetV fun v os' => v = .int (own_max x y) ∧ os' = os) := by
  refine OMeets.of_body [.val (.int x), .val (.int y)] pn_10 (laid_eq _ _ rfl) ?_
  intro X K
  refine W.iloadN K 1 d10_0 0 rfl rfl ?_
  refine W.iloadN K 2 d10_1 1 rfl rfl ?_
  refine W.icmp_lt K 9 5 d10_2 (fun h2 => ?_) (fun h2 => ?_)
  · refine W.iloadN K 10 d10_9 1 rfl rfl ?_
    refine W.ireturn K d10_10 ⟨_, rfl, by unfold own_max; first | rw [if_pos (by omega)] | rw [if_neg (by omega)], rfl⟩
  · refine W.iloadN K 6 d10_5 0 rfl rfl ?_
    refine W.goto K 10 d10_6 ?_
    refine W.ireturn K d10_10 ⟨_, rfl, by unfold own_max; first | rw [if_pos (by omega)] | rw [if_neg (by omega)], rfl⟩
set_option maxRecDepth 65536 in
set_option maxHeartbeats 40000000 in
theorem spec_4 (l : Launch) (Z : State) (a0 : Array Value) (hw : ∀ d ∈ tables_1, d.before a0 Z = true) (a : Addr) (v0 : Value) (rest : OS) : OMeets l Z (⟨"com/example/pointfold/pointfold/datalog/IntBlocks", "<init>", "()V"⟩ : MethodName) prog_16_method_1_code 1 none ({ frames := 1, cells := 2, slots := 17, locals := 12 } : Room) [(.ref a)] ((a, OBJ Z "com/example/pointfold/pointfold/datalog/IntBlocks" [("com/example/pointfold/pointfold/datalog/IntBlocks", "blocks", "[[I", v0)]) :: rest) (RetN fun os' => ∃ b1 b2 : Addr, os' = (a, OBJ Z "com/example/pointfold/pointfold/datalog/IntBlocks" [("com/example/pointfold/pointfold/datalog/IntBlocks", "blocks", "[[I", .ref b1)]) :: (b2, ARR Z .int (AF Value.int 16 (fun _ => 0))) :: (b1, ARR Z (.array .int) [.ref b2]) :: rest) := by
  refine OMeets.of_body [.val (.ref a)] pn_4 (laid_eq _ _ rfl) ?_
  intro X K
  refine W.aloadN K 1 d4_0 0 rfl rfl rfl ?_
  refine W.initO K 4 d4_1 (hw _ (List.mem_of_getElem? (i := 21) rfl)) (hw _ (List.mem_of_getElem? (i := 13) rfl)) (hw _ (List.mem_of_getElem? (i := 14) rfl)) ?_
  refine W.aloadN K 5 d4_4 0 rfl rfl rfl ?_
  refine W.iconst K 6 d4_5 (1 : Int32) (by decide) ?_
  refine W.anewarrayA 1 1 K 9 d4_6 (hw _ (List.mem_of_getElem? (i := 22) rfl)) (hw _ (List.mem_of_getElem? (i := 23) rfl)) (by decide) (by decide) (fun b6 => ?_)
  refine W.dup K 10 d4_9 ?_
  refine W.iconst K 11 d4_10 (0 : Int32) (by decide) ?_
  refine W.bipush K 13 d4_11 (16 : Int32) (by decide) ?_
  refine W.newarrayX (ty := .int) (ad := "[I") 16 16 K 15 d4_13 (hw _ (List.mem_of_getElem? (i := 0) rfl)) (by decide) (by decide) (fun b13 => ?_)
  refine W.aastoreA 0 K 16 d4_15 (by repeat (first | exact Upd.here | apply Upd.there)) (by repeat (first | exact List.mem_cons_self | apply List.mem_cons_of_mem)) (by decide) rfl ?_
  refine WP.imp0 (fun c h => h.1) ?_
  rw [AF_repI]
  refine W.putF (ty := (.array (.array .int))) K 19 d4_16 (hw _ (List.mem_of_getElem? (i := 25) rfl)) (hw _ (List.mem_of_getElem? (i := 26) rfl)) (hw _ (List.mem_of_getElem? (i := 16) rfl)) (by decide +kernel) (by repeat (first | exact Upd.here | apply Upd.there)) (by repeat (first | exact UpdF.here | apply UpdF.there)) ?_
  refine WP.pick a (by repeat (first | exact pickHere | apply pickThere)) ?_
  exact W.return K d4_19 ⟨rfl, _, _, rfl⟩
set_option maxRecDepth 65536 in
set_option maxHeartbeats 40000000 in
theorem spec_9 (l : Launch) (Z : State) (a0 : Array Value) (hw : ∀ d ∈ tables_1, d.before a0 Z = true) (a : Addr) (v0 : Value) (rest : OS) : OMeets l Z (⟨"com/example/pointfold/pointfold/datalog/IntBlocks", "<init>", "(I)V"⟩ : MethodName) prog_16_method_2_code 4 none ({ frames := 1, cells := 4, slots := 34, locals := 17 } : Room) [(.ref a), (.int 16)] ((a, OBJ Z "com/example/pointfold/pointfold/datalog/IntBlocks" [("com/example/pointfold/pointfold/datalog/IntBlocks", "blocks", "[[I", v0)]) :: rest) (RetN fun os' => ∃ b1 b2 : Addr, os' = (a, OBJ Z "com/example/pointfold/pointfold/datalog/IntBlocks" [("com/example/pointfold/pointfold/datalog/IntBlocks", "blocks", "[[I", .ref b1)]) :: (b2, ARR Z .int (AF Value.int 16 (fun _ => 0))) :: (b1, ARR Z (.array .int) [.ref b2]) :: rest) := by
  refine OMeets.of_body [.val (.ref a), .val (.int 16), .unset, .unset] pn_9 (laid_eq _ _ rfl) ?_
  intro X K
  refine W.aloadN K 1 d9_0 0 rfl rfl rfl ?_
  refine W.initO K 4 d9_1 (hw _ (List.mem_of_getElem? (i := 21) rfl)) (hw _ (List.mem_of_getElem? (i := 13) rfl)) (hw _ (List.mem_of_getElem? (i := 14) rfl)) ?_
  refine W.aloadN K 5 d9_4 0 rfl rfl rfl ?_
  refine W.iconst K 6 d9_5 (1 : Int32) (by decide) ?_
  refine W.anewarrayA 1 1 K 9 d9_6 (hw _ (List.mem_of_getElem? (i := 22) rfl)) (hw _ (List.mem_of_getElem? (i := 23) rfl)) (by decide) (by decide) (fun b6 => ?_)
  refine W.dup K 10 d9_9 ?_
  refine W.iconst K 11 d9_10 (0 : Int32) (by decide) ?_
  refine W.bipush K 13 d9_11 (16 : Int32) (by decide) ?_
  refine W.newarrayX (ty := .int) (ad := "[I") 16 16 K 15 d9_13 (hw _ (List.mem_of_getElem? (i := 0) rfl)) (by decide) (by decide) (fun b13 => ?_)
  refine W.aastoreA 0 K 16 d9_15 (by repeat (first | exact Upd.here | apply Upd.there)) (by repeat (first | exact List.mem_cons_self | apply List.mem_cons_of_mem)) (by decide) rfl ?_
  refine WP.imp0 (fun c h => h.1) ?_
  rw [AF_repI]
  refine W.putF (ty := (.array (.array .int))) K 19 d9_16 (hw _ (List.mem_of_getElem? (i := 25) rfl)) (hw _ (List.mem_of_getElem? (i := 26) rfl)) (hw _ (List.mem_of_getElem? (i := 16) rfl)) (by decide +kernel) (by repeat (first | exact Upd.here | apply Upd.there)) (by repeat (first | exact UpdF.here | apply UpdF.there)) ?_
  refine W.iloadN K 20 d9_19 1 rfl rfl ?_
  refine W.bipush K 22 d9_20 (16 : Int32) (by decide) ?_
  refine W.iushr K 23 d9_22 ?_
  refine W.istoreN K 24 d9_23 2 rfl rfl (by repeat (first | apply setLS | exact setL0)) ?_
  refine W.iloadN K 25 d9_24 2 rfl rfl ?_
  refine W.if_ne K 48 28 d9_25 (fun h25 => False.elim (absurd h25 (by decide))) (fun h25 => ?_)
  refine W.aloadN K 29 d9_28 0 rfl rfl rfl ?_
  refine W.iconst K 30 d9_29 (1 : Int32) (by decide) ?_
  refine W.anewarrayA 1 1 K 33 d9_30 (hw _ (List.mem_of_getElem? (i := 22) rfl)) (hw _ (List.mem_of_getElem? (i := 23) rfl)) (by decide) (by decide) (fun b30 => ?_)
  refine W.dup K 34 d9_33 ?_
  refine W.iconst K 35 d9_34 (0 : Int32) (by decide) ?_
  refine W.bipush K 37 d9_35 (16 : Int32) (by decide) ?_
  refine W.iloadN K 38 d9_37 1 rfl rfl ?_
  refine W.callSv2 K 41 d9_38 (hw _ (List.mem_of_getElem? (i := 72) rfl)) (hw _ (List.mem_of_getElem? (i := 73) rfl)) (hw _ (List.mem_of_getElem? (i := 74) rfl)) (hw _ (List.mem_of_getElem? (i := 75) rfl)) pd_10 (spec_10 l Z a0 hw _ _ _) (fun v os1 hq => ?_)
  obtain ⟨rfl, rfl⟩ := hq
  rw [show own_max 16 16 = 16 from rfl]
  refine W.newarrayX (ty := .int) (ad := "[I") 16 16 K 43 d9_41 (hw _ (List.mem_of_getElem? (i := 0) rfl)) (by decide) (by decide) (fun b41 => ?_)
  refine W.aastoreA 0 K 44 d9_43 (by repeat (first | exact Upd.here | apply Upd.there)) (by repeat (first | exact List.mem_cons_self | apply List.mem_cons_of_mem)) (by decide) rfl ?_
  refine WP.imp0 (fun c h => h.1) ?_
  rw [AF_repI]
  refine W.putF (ty := (.array (.array .int))) K 47 d9_44 (hw _ (List.mem_of_getElem? (i := 25) rfl)) (hw _ (List.mem_of_getElem? (i := 26) rfl)) (hw _ (List.mem_of_getElem? (i := 16) rfl)) (by decide +kernel) (by repeat (first | exact Upd.here | apply Upd.there)) (by repeat (first | exact UpdF.here | apply UpdF.there)) ?_
  refine WP.pick a (by repeat (first | exact pickHere | apply pickThere)) ?_
  refine WP.sub (List.Sublist.cons₂ _ (List.Sublist.cons₂ _ (List.Sublist.cons₂ _ (List.Sublist.cons _ (List.Sublist.cons _ (List.Sublist.refl _)))))) ?_
  exact W.return K d9_47 ⟨rfl, _, _, rfl⟩
theorem own_hi0 {iz : Int32} {i : Nat} (h : iz.toInt = (i : Int)) (hi : i < 16) : (iz.toUInt32 >>> ((16 : Int32) &&& 31).toUInt32).toInt32 = 0 := by
  apply Int32.toInt_inj.mp
  rw [c_iushr iz 16 16 (by decide) (by decide), h]
  have e : (0 : Int32).toInt = 0 := by decide
  rw [e]
  have p : ((2 ^ 16 : Nat) : Int) = 65536 := by decide
  rw [p]; omega
theorem own_lo16 {iz : Int32} {i : Nat} (h : iz.toInt = (i : Int)) (hi : i < 16) : (iz &&& 65535).toInt = (i : Int) := by
  rw [c_mask iz 65535 16 (by decide) (by decide), h]
  have p : ((2 ^ 16 : Nat) : Int) = 65536 := by decide
  rw [p]; omega
set_option maxRecDepth 65536 in
set_option maxHeartbeats 40000000 in
theorem spec_23 (l : Launch) (Z : State) (a0 : Array Value) (hw : ∀ d ∈ tables_1, d.before a0 Z = true) (ib b1 b2 : Addr) (iz : Int32) (i : Nat) (hi : iz.toInt = (i : Int)) (hi2 : i < 16) (F : Nat → Int32) (os : OS) (m1 : (ib, OBJ Z "com/example/pointfold/pointfold/datalog/IntBlocks" [("com/example/pointfold/pointfold/datalog/IntBlocks", "blocks", "[[I", .ref b1)]) ∈ os) (m2 : (b1, ARR Z (.array .int) [.ref b2]) ∈ os) (m3 : (b2, ARR Z .int (AF Value.int 16 F)) ∈ os) : OMeets l Z (⟨"com/example/pointfold/pointfold/datalog/IntBlocks", "get", "(I)I"⟩ : MethodName) prog_16_method_3_code 2 (some .int) ({ frames := 0, cells := 0, slots := 0, locals := 0 } : Room) [(.ref ib), (.int iz)] os (RetV fun v os' => v = .int (F i) ∧ os' = os) := by
  refine OMeets.of_body [.val (.ref ib), .val (.int iz)] pn_23 (laid_eq _ _ rfl) ?_
  intro X K
  refine W.aloadN K 1 d23_0 0 rfl rfl rfl ?_
  refine W.getF K 4 d23_1 (hw _ (List.mem_of_getElem? (i := 25) rfl)) m1 (by repeat (first | exact List.mem_cons_self | apply List.mem_cons_of_mem)) ?_
  refine W.iloadN K 5 d23_4 1 rfl rfl ?_
  refine W.bipush K 7 d23_5 (16 : Int32) (by decide) ?_
  refine W.iushr K 8 d23_7 ?_
  rw [own_hi0 hi hi2]
  refine W.aaload 0 K 9 d23_8 m2 (by decide) rfl rfl ?_
  refine W.iloadN K 10 d23_9 1 rfl rfl ?_
  refine W.ldcI K 12 d23_10 (hw _ (List.mem_of_getElem? (i := 163) rfl)) ?_
  refine W.iand K 13 d23_12 ?_
  refine W.iaload i K 14 d23_13 m3 (own_lo16 hi hi2) (AF_at hi2) ?_
  refine W.ireturn K d23_14 ⟨_, rfl, rfl, rfl⟩
set_option maxRecDepth 65536 in
set_option maxHeartbeats 40000000 in
theorem spec_24 (l : Launch) (Z : State) (a0 : Array Value) (hw : ∀ d ∈ tables_1, d.before a0 Z = true) (ib b1 b2 : Addr) (iz x : Int32) (i : Nat) (hi : iz.toInt = (i : Int)) (hi2 : i < 16) (F : Nat → Int32) (rest : OS) (m1 : (ib, OBJ Z "com/example/pointfold/pointfold/datalog/IntBlocks" [("com/example/pointfold/pointfold/datalog/IntBlocks", "blocks", "[[I", .ref b1)]) ∈ rest) (m2 : (b1, ARR Z (.array .int) [.ref b2]) ∈ rest) : OMeets l Z (⟨"com/example/pointfold/pointfold/datalog/IntBlocks", "set", "(II)V"⟩ : MethodName) prog_16_method_4_code 4 none ({ frames := 0, cells := 0, slots := 0, locals := 0 } : Room) [(.ref ib), (.int iz), (.int x)] ((b2, ARR Z .int (AF Value.int 16 F)) :: rest) (RetN fun os' => os' = (b2, ARR Z .int (AF Value.int 16 (updA F i x))) :: rest) := by
  have e16 : (16 : Int32).toInt = 16 := by decide
  refine OMeets.of_body [.val (.ref ib), .val (.int iz), .val (.int x), .unset] pn_24 (laid_eq _ _ rfl) ?_
  intro X K
  refine W.iloadN K 1 d24_0 1 rfl rfl ?_
  refine W.bipush K 3 d24_1 (16 : Int32) (by decide) ?_
  refine W.iushr K 4 d24_3 ?_
  rw [own_hi0 hi hi2]
  refine W.istoreN K 5 d24_4 3 rfl rfl (by repeat (first | apply setLS | exact setL0)) ?_
  refine W.iloadN K 6 d24_5 3 rfl rfl ?_
  refine W.if_ne K 58 9 d24_6 (fun h6 => False.elim (h6 rfl)) (fun h6 => ?_)
  refine W.iloadN K 10 d24_9 1 rfl rfl ?_
  refine W.aloadN K 11 d24_10 0 rfl rfl rfl ?_
  refine W.getF K 14 d24_11 (hw _ (List.mem_of_getElem? (i := 25) rfl)) (List.mem_cons_of_mem _ m1) (by repeat (first | exact List.mem_cons_self | apply List.mem_cons_of_mem)) ?_
  refine W.iconst K 15 d24_14 (0 : Int32) (by decide) ?_
  refine W.aaload 0 K 16 d24_15 (List.mem_cons_of_mem _ m2) (by decide) rfl rfl ?_
  refine W.arraylength (16 : Int32) K 17 d24_16 List.mem_cons_self (by rw [AF_len]; rfl) ?_
  refine W.icmp_lt K 142 20 d24_17 (fun h17 => ?_) (fun h17 => False.elim (by omega))
  refine W.aloadN K 143 d24_142 0 rfl rfl rfl ?_
  refine W.getF K 146 d24_143 (hw _ (List.mem_of_getElem? (i := 25) rfl)) (List.mem_cons_of_mem _ m1) (by repeat (first | exact List.mem_cons_self | apply List.mem_cons_of_mem)) ?_
  refine W.iloadN K 147 d24_146 3 rfl rfl ?_
  refine W.aaload 0 K 148 d24_147 (List.mem_cons_of_mem _ m2) (by decide) rfl rfl ?_
  refine W.iloadN K 149 d24_148 1 rfl rfl ?_
  refine W.ldcI K 151 d24_149 (hw _ (List.mem_of_getElem? (i := 163) rfl)) ?_
  refine W.iand K 152 d24_151 ?_
  refine W.iloadN K 153 d24_152 2 rfl rfl ?_
  refine W.iastore i K 154 d24_153 (by repeat (first | exact Upd.here | apply Upd.there)) (own_lo16 hi hi2) (AF_at hi2) ?_
  rw [AF_set]
  exact W.return K d24_154 ⟨rfl, rfl⟩
set_option maxRecDepth 65536 in
set_option maxHeartbeats 40000000 in
theorem spec_5 (l : Launch) (Z : State) (a0 : Array Value) (hw : ∀ d ∈ tables_1, d.before a0 Z = true) (a : Addr) (v0 : Value) (rest : OS) : OMeets l Z (⟨"java/util/HashMap", "<init>", "()V"⟩ : MethodName) jdk_69_method_7_code 1 none ({ frames := 2, cells := 0, slots := 0, locals := 24 } : Room) [(.ref a)] ((a, OBJ Z "java/util/HashMap" [("java/util/HashMap", "loadFactor", "F", v0), ("java/util/AbstractMap", "values", "Ljava/util/Collection;", .null), ("java/util/HashMap", "modCount", "I", .int 0), ("java/util/HashMap", "table", "[Ljava/util/HashMap$Node;", .null)]) :: rest) (RetN fun os' => os' = (a, OBJ Z "java/util/HashMap" [("java/util/HashMap", "loadFactor", "F", .float 1061158912), ("java/util/AbstractMap", "values", "Ljava/util/Collection;", .null), ("java/util/HashMap", "modCount", "I", .int 0), ("java/util/HashMap", "table", "[Ljava/util/HashMap$Node;", .null)]) :: rest) := by
  refine OMeets.of_body [.val (.ref a)] pn_5 (laid_eq _ _ rfl) ?_
  intro X K
  refine W.aloadN K 1 d5_0 0 rfl rfl rfl ?_
  refine W.callIn0 K 4 d5_1 (hw _ (List.mem_of_getElem? (i := 35) rfl)) (hw _ (List.mem_of_getElem? (i := 36) rfl)) (hw _ (List.mem_of_getElem? (i := 39) rfl)) (hw _ (List.mem_of_getElem? (i := 40) rfl)) pd_6 (spec_6 l Z a0 hw _ _) (fun os1 hq => ?_)
  obtain rfl := hq
  refine W.aloadN K 5 d5_4 0 rfl rfl rfl ?_
  refine W.ldcF K 7 d5_5 (hw _ (List.mem_of_getElem? (i := 42) rfl)) ?_
  refine W.putFf (ty := .float) K 10 d5_7 (hw _ (List.mem_of_getElem? (i := 43) rfl)) (hw _ (List.mem_of_getElem? (i := 44) rfl)) (hw _ (List.mem_of_getElem? (i := 30) rfl)) (by decide +kernel) (by repeat (first | exact Upd.here | apply Upd.there)) (by repeat (first | exact UpdF.here | apply UpdF.there)) ?_
  exact W.return K d5_10 ⟨rfl, rfl⟩
set_option maxRecDepth 65536 in
set_option maxHeartbeats 40000000 in
theorem spec_27 (l : Launch) (Z : State) (a0 : Array Value) (hw : ∀ d ∈ tables_1, d.before a0 Z = true) (a hm : Addr) (v0 : Value) (rest : OS) : OMeets l Z (⟨"java/util/HashMap$Values", "<init>", "(Ljava/util/HashMap;)V"⟩ : MethodName) jdk_2571_method_1_code 2 none ({ frames := 2, cells := 0, slots := 0, locals := 24 } : Room) [(.ref a), (.ref hm)] ((a, OBJ Z "java/util/HashMap$Values" [("java/util/HashMap$Values", "this$0", "Ljava/util/HashMap;", v0)]) :: rest) (RetN fun os' => os' = (a, OBJ Z "java/util/HashMap$Values" [("java/util/HashMap$Values", "this$0", "Ljava/util/HashMap;", .ref hm)]) :: rest) := by
  refine OMeets.of_body [.val (.ref a), .val (.ref hm)] pn_27 (laid_eq _ _ rfl) ?_
  intro X K
  refine W.aloadN K 1 d27_0 0 rfl rfl rfl ?_
  refine W.aloadN K 2 d27_1 1 rfl rfl rfl ?_
  refine W.putFf (ty := (.object "java/util/HashMap")) K 5 d27_2 (hw _ (List.mem_of_getElem? (i := 193) rfl)) (hw _ (List.mem_of_getElem? (i := 194) rfl)) (hw _ (List.mem_of_getElem? (i := 187) rfl)) (by decide +kernel) (by repeat (first | exact Upd.here | apply Upd.there)) (by repeat (first | exact UpdF.here | apply UpdF.there)) ?_
  refine W.aloadN K 6 d27_5 0 rfl rfl rfl ?_
  refine W.callIn0 K 9 d27_6 (hw _ (List.mem_of_getElem? (i := 195) rfl)) (hw _ (List.mem_of_getElem? (i := 196) rfl)) (hw _ (List.mem_of_getElem? (i := 199) rfl)) (hw _ (List.mem_of_getElem? (i := 200) rfl)) pd_28 (spec_28 l Z a0 hw _ _) (fun os1 hq => ?_)
  obtain rfl := hq
  exact W.return K d27_9 ⟨rfl, rfl⟩
set_option maxRecDepth 65536 in
set_option maxHeartbeats 40000000 in
theorem spec_26N (l : Launch) (Z : State) (a0 : Array Value) (hw : ∀ d ∈ tables_1, d.before a0 Z = true) (hm : Addr) (rest : OS) : OMeets l Z (⟨"java/util/HashMap", "values", "()Ljava/util/Collection;"⟩ : MethodName) jdk_69_method_28_code 2 (some (.object "java/util/Collection")) ({ frames := 3, cells := 1, slots := 1, locals := 38 } : Room) [(.ref hm)] ((hm, OBJ Z "java/util/HashMap" [("java/util/HashMap", "loadFactor", "F", .float 1061158912), ("java/util/AbstractMap", "values", "Ljava/util/Collection;", .null), ("java/util/HashMap", "modCount", "I", .int 0), ("java/util/HashMap", "table", "[Ljava/util/HashMap$Node;", .null)]) :: rest) (RetV fun v os' => ∃ vv : Addr, v = .ref vv ∧ os' = (hm, OBJ Z "java/util/HashMap" [("java/util/HashMap", "loadFactor", "F", .float 1061158912), ("java/util/AbstractMap", "values", "Ljava/util/Collection;", .ref vv), ("java/util/HashMap", "modCount", "I", .int 0), ("java/util/HashMap", "table", "[Ljava/util/HashMap$Node;", .null)]) :: (vv, OBJ Z "java/util/HashMap$Values" [("java/util/HashMap$Values", "this$0", "Ljava/util/HashMap;", .ref hm)]) :: rest) := by
  refine OMeets.of_body [.val (.ref hm), .unset] pn_26 (laid_eq _ _ rfl) ?_
  intro X K
  refine W.aloadN K 1 d26_0 0 rfl rfl rfl ?_
  refine W.getFV K 4 d26_1 (hw _ (List.mem_of_getElem? (i := 183) rfl)) (hw _ (List.mem_of_getElem? (i := 184) rfl)) List.mem_cons_self (by repeat (first | exact List.mem_cons_self | apply List.mem_cons_of_mem)) ?_
  refine W.astoreN K 5 d26_4 1 rfl rfl rfl (by repeat (first | apply setLS | exact setL0)) ?_
  refine W.aloadN K 6 d26_5 1 rfl rfl rfl ?_
  refine W.ifnonnullN K 9 d26_6 ?_
  refine W.new [("java/util/HashMap$Values", "this$0", "Ljava/util/HashMap;", .null)] K 12 d26_9 (hw _ (List.mem_of_getElem? (i := 186) rfl)) (hw _ (List.mem_of_getElem? (i := 187) rfl)) (hw _ (List.mem_of_getElem? (i := 188) rfl)) ⟨⟨Or.inr (hw _ (List.mem_of_getElem? (i := 194) rfl)), (.object "java/util/HashMap"), by decide +kernel, rfl⟩, trivial⟩ (fun b9 => ?_)
  refine W.dup K 13 d26_12 ?_
  refine W.aloadN K 14 d26_13 0 rfl rfl rfl ?_
  refine W.callIn1 K 17 d26_14 (hw _ (List.mem_of_getElem? (i := 189) rfl)) (hw _ (List.mem_of_getElem? (i := 190) rfl)) (hw _ (List.mem_of_getElem? (i := 188) rfl)) (hw _ (List.mem_of_getElem? (i := 192) rfl)) pd_27 (spec_27 l Z a0 hw _ _ _ _) (fun os1 hq => ?_)
  obtain rfl := hq
  refine W.astoreN K 18 d26_17 1 rfl rfl rfl (by repeat (first | apply setLS | exact setL0)) ?_
  refine W.aloadN K 19 d26_18 0 rfl rfl rfl ?_
  refine W.aloadN K 20 d26_19 1 rfl rfl rfl ?_
  refine W.putFV (ty := (.object "java/util/Collection")) K 23 d26_20 (hw _ (List.mem_of_getElem? (i := 183) rfl)) (hw _ (List.mem_of_getElem? (i := 184) rfl)) (hw _ (List.mem_of_getElem? (i := 185) rfl)) (hw _ (List.mem_of_getElem? (i := 30) rfl)) (by decide +kernel) (by repeat (first | exact Upd.here | apply Upd.there)) (by repeat (first | exact UpdF.here | apply UpdF.there)) ?_
  refine W.aloadN K 24 d26_23 1 rfl rfl rfl ?_
  refine WP.pick hm (by repeat (first | exact pickHere | apply pickThere)) ?_
  refine W.areturn K d26_24 ⟨_, rfl, b9, rfl, rfl⟩
set_option maxRecDepth 65536 in
set_option maxHeartbeats 40000000 in
theorem spec_26R (l : Launch) (Z : State) (a0 : Array Value) (hw : ∀ d ∈ tables_1, d.before a0 Z = true) (hm vv : Addr) (rest : OS) : OMeets l Z (⟨"java/util/HashMap", "values", "()Ljava/util/Collection;"⟩ : MethodName) jdk_69_method_28_code 2 (some (.object "java/util/Collection")) ({ frames := 3, cells := 1, slots := 1, locals := 38 } : Room) [(.ref hm)] ((hm, OBJ Z "java/util/HashMap" [("java/util/HashMap", "loadFactor", "F", .float 1061158912), ("java/util/AbstractMap", "values", "Ljava/util/Collection;", .ref vv), ("java/util/HashMap", "modCount", "I", .int 0), ("java/util/HashMap", "table", "[Ljava/util/HashMap$Node;", .null)]) :: rest) (RetV fun v os' => v = .ref vv ∧ os' = (hm, OBJ Z "java/util/HashMap" [("java/util/HashMap", "loadFactor", "F", .float 1061158912), ("java/util/AbstractMap", "values", "Ljava/util/Collection;", .ref vv), ("java/util/HashMap", "modCount", "I", .int 0), ("java/util/HashMap", "table", "[Ljava/util/HashMap$Node;", .null)]) :: rest) := by
  refine OMeets.of_body [.val (.ref hm), .unset] pn_26 (laid_eq _ _ rfl) ?_
  intro X K
  refine W.aloadN K 1 d26_0 0 rfl rfl rfl ?_
  refine W.getFV K 4 d26_1 (hw _ (List.mem_of_getElem? (i := 183) rfl)) (hw _ (List.mem_of_getElem? (i := 184) rfl)) List.mem_cons_self (by repeat (first | exact List.mem_cons_self | apply List.mem_cons_of_mem)) ?_
  refine W.astoreN K 5 d26_4 1 rfl rfl rfl (by repeat (first | apply setLS | exact setL0)) ?_
  refine W.aloadN K 6 d26_5 1 rfl rfl rfl ?_
  refine W.ifnonnullY K 23 d26_6 ?_
  refine W.aloadN K 24 d26_23 1 rfl rfl rfl ?_
  refine W.areturn K d26_24 ⟨_, rfl, rfl, rfl⟩
set_option maxRecDepth 65536 in
set_option maxHeartbeats 40000000 in
theorem spec_31 (l : Launch) (Z : State) (a0 : Array Value) (hw : ∀ d ∈ tables_1, d.before a0 Z = true) (a hm : Addr) (v0 v1 v2 v3 v4 w : Value) (rest : OS) (mh : (hm, OBJ Z "java/util/HashMap" [("java/util/HashMap", "loadFactor", "F", .float 1061158912), ("java/util/AbstractMap", "values", "Ljava/util/Collection;", w), ("java/util/HashMap", "modCount", "I", .int 0), ("java/util/HashMap", "table", "[Ljava/util/HashMap$Node;", .null)]) ∈ rest) : OMeets l Z (⟨"java/util/HashMap$HashIterator", "<init>", "(Ljava/util/HashMap;)V"⟩ : MethodName) jdk_99_method_1_code 3 none ({ frames := 1, cells := 0, slots := 0, locals := 12 } : Room) [(.ref a), (.ref hm)] ((a, OBJ Z "java/util/HashMap$ValueIterator" [("java/util/HashMap$HashIterator", "this$0", "Ljava/util/HashMap;", v0), ("java/util/HashMap$HashIterator", "expectedModCount", "I", v1), ("java/util/HashMap$HashIterator", "next", "Ljava/util/HashMap$Node;", v2), ("java/util/HashMap$HashIterator", "current", "Ljava/util/HashMap$Node;", v3), ("java/util/HashMap$HashIterator", "index", "I", v4)]) :: rest) (RetN fun os' => os' = (a, OBJ Z "java/util/HashMap$ValueIterator" [("java/util/HashMap$HashIterator", "this$0", "Ljava/util/HashMap;", .ref hm), ("java/util/HashMap$HashIterator", "expectedModCount", "I", .int 0), ("java/util/HashMap$HashIterator", "next", "Ljava/util/HashMap$Node;", .null), ("java/util/HashMap$HashIterator", "current", "Ljava/util/HashMap$Node;", .null), ("java/util/HashMap$HashIterator", "index", "I", .int 0)]) :: rest) := by
  refine OMeets.of_body [.val (.ref a), .val (.ref hm), .unset] pn_31 (laid_eq _ _ rfl) ?_
  intro X K
  refine W.aloadN K 1 d31_0 0 rfl rfl rfl ?_
  refine W.aloadN K 2 d31_1 1 rfl rfl rfl ?_
  refine W.putFf (ty := (.object "java/util/HashMap")) K 5 d31_2 (hw _ (List.mem_of_getElem? (i := 224) rfl)) (hw _ (List.mem_of_getElem? (i := 225) rfl)) (hw _ (List.mem_of_getElem? (i := 212) rfl)) (by decide +kernel) (by repeat (first | exact Upd.here | apply Upd.there)) (by repeat (first | exact UpdF.here | apply UpdF.there)) ?_
  refine W.aloadN K 6 d31_5 0 rfl rfl rfl ?_
  refine W.initO K 9 d31_6 (hw _ (List.mem_of_getElem? (i := 226) rfl)) (hw _ (List.mem_of_getElem? (i := 13) rfl)) (hw _ (List.mem_of_getElem? (i := 14) rfl)) ?_
  refine W.aloadN K 10 d31_9 0 rfl rfl rfl ?_
  refine W.aloadN K 11 d31_10 1 rfl rfl rfl ?_
  refine W.getF K 14 d31_11 (hw _ (List.mem_of_getElem? (i := 227) rfl)) (List.mem_cons_of_mem _ mh) (by repeat (first | exact List.mem_cons_self | apply List.mem_cons_of_mem)) ?_
  refine W.putF (ty := .int) K 17 d31_14 (hw _ (List.mem_of_getElem? (i := 229) rfl)) (hw _ (List.mem_of_getElem? (i := 230) rfl)) (hw _ (List.mem_of_getElem? (i := 212) rfl)) (by decide +kernel) (by repeat (first | exact Upd.here | apply Upd.there)) (by repeat (first | exact UpdF.here | apply UpdF.there)) ?_
  refine W.aloadN K 18 d31_17 1 rfl rfl rfl ?_
  refine W.getF K 21 d31_18 (hw _ (List.mem_of_getElem? (i := 231) rfl)) (List.mem_cons_of_mem _ mh) (by repeat (first | exact List.mem_cons_self | apply List.mem_cons_of_mem)) ?_
  refine W.astoreN K 22 d31_21 2 rfl rfl rfl (by repeat (first | apply setLS | exact setL0)) ?_
  refine W.aloadN K 23 d31_22 0 rfl rfl rfl ?_
  refine W.aloadN K 24 d31_23 0 rfl rfl rfl ?_
  refine W.aconst K 25 d31_24 ?_
  refine W.dupX1 K 26 d31_25 ?_
  refine W.putF (ty := (.object "java/util/HashMap$Node")) K 29 d31_26 (hw _ (List.mem_of_getElem? (i := 233) rfl)) (hw _ (List.mem_of_getElem? (i := 234) rfl)) (hw _ (List.mem_of_getElem? (i := 212) rfl)) (by decide +kernel) (by repeat (first | exact Upd.here | apply Upd.there)) (by repeat (first | exact UpdF.here | apply UpdF.there)) ?_
  refine W.putF (ty := (.object "java/util/HashMap$Node")) K 32 d31_29 (hw _ (List.mem_of_getElem? (i := 235) rfl)) (hw _ (List.mem_of_getElem? (i := 236) rfl)) (hw _ (List.mem_of_getElem? (i := 212) rfl)) (by decide +kernel) (by repeat (first | exact Upd.here | apply Upd.there)) (by repeat (first | exact UpdF.here | apply UpdF.there)) ?_
  refine W.aloadN K 33 d31_32 0 rfl rfl rfl ?_
  refine W.iconst K 34 d31_33 (0 : Int32) (by decide) ?_
  refine W.putF (ty := .int) K 37 d31_34 (hw _ (List.mem_of_getElem? (i := 237) rfl)) (hw _ (List.mem_of_getElem? (i := 238) rfl)) (hw _ (List.mem_of_getElem? (i := 212) rfl)) (by decide +kernel) (by repeat (first | exact Upd.here | apply Upd.there)) (by repeat (first | exact UpdF.here | apply UpdF.there)) ?_
  refine W.aloadN K 38 d31_37 2 rfl rfl rfl ?_
  refine W.ifnullY K 78 d31_38 ?_
  exact W.return K d31_78 ⟨rfl, rfl⟩
set_option maxRecDepth 65536 in
set_option maxHeartbeats 40000000 in
theorem spec_30 (l : Launch) (Z : State) (a0 : Array Value) (hw : ∀ d ∈ tables_1, d.before a0 Z = true) (a hm : Addr) (v0 v1 v2 v3 v4 w : Value) (rest : OS) (mh : (hm, OBJ Z "java/util/HashMap" [("java/util/HashMap", "loadFactor", "F", .float 1061158912), ("java/util/AbstractMap", "values", "Ljava/util/Collection;", w), ("java/util/HashMap", "modCount", "I", .int 0), ("java/util/HashMap", "table", "[Ljava/util/HashMap$Node;", .null)]) ∈ rest) : OMeets l Z (⟨"java/util/HashMap$ValueIterator", "<init>", "(Ljava/util/HashMap;)V"⟩ : MethodName) jdk_2569_method_1_code 2 none ({ frames := 2, cells := 0, slots := 0, locals := 26 } : Room) [(.ref a), (.ref hm)] ((a, OBJ Z "java/util/HashMap$ValueIterator" [("java/util/HashMap$HashIterator", "this$0", "Ljava/util/HashMap;", v0), ("java/util/HashMap$HashIterator", "expectedModCount", "I", v1), ("java/util/HashMap$HashIterator", "next", "Ljava/util/HashMap$Node;", v2), ("java/util/HashMap$HashIterator", "current", "Ljava/util/HashMap$Node;", v3), ("java/util/HashMap$HashIterator", "index", "I", v4)]) :: rest) (RetN fun os' => os' = (a, OBJ Z "java/util/HashMap$ValueIterator" [("java/util/HashMap$HashIterator", "this$0", "Ljava/util/HashMap;", .ref hm), ("java/util/HashMap$HashIterator", "expectedModCount", "I", .int 0), ("java/util/HashMap$HashIterator", "next", "Ljava/util/HashMap$Node;", .null), ("java/util/HashMap$HashIterator", "current", "Ljava/util/HashMap$Node;", .null), ("java/util/HashMap$HashIterator", "index", "I", .int 0)]) :: rest) := by
  refine OMeets.of_body [.val (.ref a), .val (.ref hm)] pn_30 (laid_eq _ _ rfl) ?_
  intro X K
  refine W.aloadN K 1 d30_0 0 rfl rfl rfl ?_
  refine W.aloadN K 2 d30_1 1 rfl rfl rfl ?_
  refine W.callIn1 K 5 d30_2 (hw _ (List.mem_of_getElem? (i := 218) rfl)) (hw _ (List.mem_of_getElem? (i := 219) rfl)) (hw _ (List.mem_of_getElem? (i := 222) rfl)) (hw _ (List.mem_of_getElem? (i := 223) rfl)) pd_31 (spec_31 l Z a0 hw _ _ _ _ _ _ _ _ _ mh) (fun os1 hq => ?_)
  obtain rfl := hq
  exact W.return K d30_5 ⟨rfl, rfl⟩
set_option maxRecDepth 65536 in
set_option maxHeartbeats 40000000 in
theorem spec_29 (l : Launch) (Z : State) (a0 : Array Value) (hw : ∀ d ∈ tables_1, d.before a0 Z = true) (vv hm : Addr) (w : Value) (os : OS) (mv : (vv, OBJ Z "java/util/HashMap$Values" [("java/util/HashMap$Values", "this$0", "Ljava/util/HashMap;", .ref hm)]) ∈ os) (mh : (hm, OBJ Z "java/util/HashMap" [("java/util/HashMap", "loadFactor", "F", .float 1061158912), ("java/util/AbstractMap", "values", "Ljava/util/Collection;", w), ("java/util/HashMap", "modCount", "I", .int 0), ("java/util/HashMap", "table", "[Ljava/util/HashMap$Node;", .null)]) ∈ os) : OMeets l Z (⟨"java/util/HashMap$Values", "iterator", "()Ljava/util/Iterator;"⟩ : MethodName) jdk_2571_method_4_code 1 (some (.object "java/util/Iterator")) ({ frames := 3, cells := 1, slots := 5, locals := 40 } : Room) [(.ref vv)] os (RetV fun v os' => ∃ i : Addr, v = .ref i ∧ os' = (i, OBJ Z "java/util/HashMap$ValueIterator" [("java/util/HashMap$HashIterator", "this$0", "Ljava/util/HashMap;", .ref hm), ("java/util/HashMap$HashIterator", "expectedModCount", "I", .int 0), ("java/util/HashMap$HashIterator", "next", "Ljava/util/HashMap$Node;", .null), ("java/util/HashMap$HashIterator", "current", "Ljava/util/HashMap$Node;", .null), ("java/util/HashMap$HashIterator", "index", "I", .int 0)]) :: os) := by
  refine OMeets.of_body [.val (.ref vv)] pn_29 (laid_eq _ _ rfl) ?_
  intro X K
  refine W.new [("java/util/HashMap$HashIterator", "this$0", "Ljava/util/HashMap;", .null), ("java/util/HashMap$HashIterator", "expectedModCount", "I", .int 0), ("java/util/HashMap$HashIterator", "next", "Ljava/util/HashMap$Node;", .null), ("java/util/HashMap$HashIterator", "current", "Ljava/util/HashMap$Node;", .null), ("java/util/HashMap$HashIterator", "index", "I", .int 0)] K 3 d29_0 (hw _ (List.mem_of_getElem? (i := 211) rfl)) (hw _ (List.mem_of_getElem? (i := 212) rfl)) (hw _ (List.mem_of_getElem? (i := 213) rfl)) ⟨⟨Or.inr (hw _ (List.mem_of_getElem? (i := 225) rfl)), (.object "java/util/HashMap"), by decide +kernel, rfl⟩, ⟨Or.inl (hw _ (List.mem_of_getElem? (i := 230) rfl)), .int, by decide +kernel, rfl⟩, ⟨Or.inl (hw _ (List.mem_of_getElem? (i := 234) rfl)), (.object "java/util/HashMap$Node"), by decide +kernel, rfl⟩, ⟨Or.inl (hw _ (List.mem_of_getElem? (i := 236) rfl)), (.object "java/util/HashMap$Node"), by decide +kernel, rfl⟩, ⟨Or.inl (hw _ (List.mem_of_getElem? (i := 238) rfl)), .int, by decide +kernel, rfl⟩, trivial⟩ (fun b0 => ?_)
  refine W.dup K 4 d29_3 ?_
  refine W.aloadN K 5 d29_4 0 rfl rfl rfl ?_
  refine W.getF K 8 d29_5 (hw _ (List.mem_of_getElem? (i := 193) rfl)) (List.mem_cons_of_mem _ mv) (by repeat (first | exact List.mem_cons_self | apply List.mem_cons_of_mem)) ?_
  refine W.callIn1 K 11 d29_8 (hw _ (List.mem_of_getElem? (i := 214) rfl)) (hw _ (List.mem_of_getElem? (i := 215) rfl)) (hw _ (List.mem_of_getElem? (i := 213) rfl)) (hw _ (List.mem_of_getElem? (i := 217) rfl)) pd_30 (spec_30 l Z a0 hw _ _ _ _ _ _ _ _ _ mh) (fun os1 hq => ?_)
  obtain rfl := hq
  refine W.areturn K d29_11 ⟨_, rfl, _, rfl, rfl⟩
set_option maxRecDepth 65536 in
set_option maxHeartbeats 40000000 in
theorem spec_32 (l : Launch) (Z : State) (a0 : Array Value) (hw : ∀ d ∈ tables_1, d.before a0 Z = true) (i hm : Addr) (os : OS) (m1 : (i, OBJ Z "java/util/HashMap$ValueIterator" [("java/util/HashMap$HashIterator", "this$0", "Ljava/util/HashMap;", .ref hm), ("java/util/HashMap$HashIterator", "expectedModCount", "I", .int 0), ("java/util/HashMap$HashIterator", "next", "Ljava/util/HashMap$Node;", .null), ("java/util/HashMap$HashIterator", "current", "Ljava/util/HashMap$Node;", .null), ("java/util/HashMap$HashIterator", "index", "I", .int 0)]) ∈ os) : OMeets l Z (⟨"java/util/HashMap$HashIterator", "hasNext", "()Z"⟩ : MethodName) jdk_99_method_2_code 1 (some .boolean) ({ frames := 0, cells := 0, slots := 0, locals := 0 } : Room) [(.ref i)] os (RetV fun v os' => v = .int 0 ∧ os' = os) := by
  refine OMeets.of_body [.val (.ref i)] pn_32 (laid_eq _ _ rfl) ?_
  intro X K
  refine W.aloadN K 1 d32_0 0 rfl rfl rfl ?_
  refine W.getF K 4 d32_1 (hw _ (List.mem_of_getElem? (i := 233) rfl)) m1 (by repeat (first | exact List.mem_cons_self | apply List.mem_cons_of_mem)) ?_
  refine W.ifnullY K 11 d32_4 ?_
  refine W.iconst K 12 d32_11 (0 : Int32) (by decide) ?_
  refine W.zreturn K d32_12 (Or.inl rfl) ⟨_, rfl, rfl, rfl⟩
set_option maxRecDepth 65536 in
set_option maxHeartbeats 40000000 in
theorem spec_11 (l : Launch) (Z : State) (a0 : Array Value) (hw : ∀ d ∈ tables_1, d.before a0 Z = true) (a : Addr) (v0 v1 : Value) (rest : OS) : OMeets l Z (⟨"com/example/pointfold/pointfold/datalog/HashFilter", "<init>", "(I)V"⟩ : MethodName) prog_14_method_1_code 2 none ({ frames := 1, cells := 1, slots := 2, locals := 12 } : Room) [(.ref a), (.int 16)] ((a, OBJ Z "com/example/pointfold/pointfold/datalog/HashFilter" [("com/example/pointfold/pointfold/datalog/HashFilter", "bits", "[J", v0), ("com/example/pointfold/pointfold/datalog/HashFilter", "mask", "J", v1)]) :: rest) (RetN fun os' => ∃ ba : Addr, os' = (a, OBJ Z "com/example/pointfold/pointfold/datalog/HashFilter" [("com/example/pointfold/pointfold/datalog/HashFilter", "bits", "[J", .ref ba), ("com/example/pointfold/pointfold/datalog/HashFilter", "mask", "J", .long 127)]) :: (ba, ARR Z .long (AF Value.long 2 (fun _ => 0))) :: rest) := by
  refine OMeets.of_body [.val (.ref a), .val (.int 16)] pn_11 (laid_eq _ _ rfl) ?_
  intro X K
  refine W.aloadN K 1 d11_0 0 rfl rfl rfl ?_
  refine W.initO K 4 d11_1 (hw _ (List.mem_of_getElem? (i := 84) rfl)) (hw _ (List.mem_of_getElem? (i := 13) rfl)) (hw _ (List.mem_of_getElem? (i := 14) rfl)) ?_
  refine W.aloadN K 5 d11_4 0 rfl rfl rfl ?_
  refine W.iloadN K 6 d11_5 1 rfl rfl ?_
  refine W.bipush K 8 d11_6 (8 : Int32) (by decide) ?_
  refine W.idiv K 9 d11_8 (by decide) ?_
  refine W.newarray (ty := .long) 2 2 K 11 d11_9 (hw _ (List.mem_of_getElem? (i := 85) rfl)) (by decide) (by decide) (fun b9 => ?_)
  rw [AF_repJ]
  refine W.putFf (ty := (.array .long)) K 14 d11_11 (hw _ (List.mem_of_getElem? (i := 86) rfl)) (hw _ (List.mem_of_getElem? (i := 87) rfl)) (hw _ (List.mem_of_getElem? (i := 79) rfl)) (by decide +kernel) (by repeat (first | exact Upd.here | apply Upd.there)) (by repeat (first | exact UpdF.here | apply UpdF.there)) ?_
  refine W.aloadN K 15 d11_14 0 rfl rfl rfl ?_
  refine W.ldc2 K 18 d11_15 (hw _ (List.mem_of_getElem? (i := 88) rfl)) ?_
  refine W.iloadN K 19 d11_18 1 rfl rfl ?_
  refine W.i2l K 20 d11_19 ?_
  refine W.lmul K 21 d11_20 ?_
  refine W.lconst K 22 d11_21 (1 : Int64) (by decide) ?_
  refine W.lsub K 23 d11_22 ?_
  rw [show (8 : Int64) * (16 : Int32).toInt64 - 1 = 127 by decide]
  refine W.putFf (ty := .long) K 26 d11_23 (hw _ (List.mem_of_getElem? (i := 89) rfl)) (hw _ (List.mem_of_getElem? (i := 90) rfl)) (hw _ (List.mem_of_getElem? (i := 79) rfl)) (by decide +kernel) (by repeat (first | exact Upd.here | apply Upd.there)) (by repeat (first | exact UpdF.here | apply UpdF.there)) ?_
  refine WP.pick a (by repeat (first | exact pickHere | apply pickThere)) ?_
  exact W.return K d11_26 ⟨rfl, _, rfl⟩
def own_comb (x z : Int32) : Int32 := ((x + z) * (-1640531527)) ^^^ ((((x + z) * (-1640531527)).toUInt32 >>> ((15 : Int32) &&& 31).toUInt32).toInt32)
def own_h (v : Int32) : Int32 := own_comb 1 v
def own_hb (v : Int32) : Nat := (own_h v &&& 15).toInt.toNat
theorem own_hb_eq (v : Int32) : (own_h v &&& 15).toInt = (own_hb v : Int) ∧ own_hb v < 16 := by
  have h := c_mask (own_h v) 15 4 (by decide) (by decide)
  have p : ((2 ^ 4 : Nat) : Int) = 16 := by decide
  rw [p] at h
  unfold own_hb
  omega
def own_fw (h : Int32) : Nat := ((h.toInt64 &&& 127).toInt / 64).toNat
def own_fb (h : Int32) : Int64 := 1 <<< ((h.toInt64 &&& 127).toInt32 &&& 0x3f).toInt64
theorem own_fw_eq (h : Int32) : (((h.toInt64 &&& 127).toUInt64 >>> ((6 : Int32) &&& 0x3f).toInt64.toUInt64).toInt64).toInt32.toInt = (own_fw h : Int) ∧ own_fw h < 2 := by
  have a1 := c_maskL h.toInt64 127 7 (by decide) (by decide)
  have p : ((2 ^ 7 : Nat) : Int) = 128 := by decide
  rw [p] at a1
  have a2 := c_lushr (h.toInt64 &&& 127) 6 6 (by decide) (by decide)
  have p2 : ((2 ^ 6 : Nat) : Int) = 64 := by decide
  rw [p2] at a2
  generalize (h.toInt64 &&& 127).toUInt64 >>> ((6 : Int32) &&& 0x3f).toInt64.toUInt64 = u at a2 ⊢
  have a3 := c_l2i u.toInt64
  have r := rng32 u.toInt64.toInt32
  unfold own_fw
  generalize h.toInt64 &&& 127 = g at a1 a2 ⊢
  omega
theorem own_fb_ne (h : Int32) : own_fb h ≠ 0 := fun e => by
  unfold own_fb at e
  generalize (h.toInt64 &&& 127).toInt32 = q at e
  have a := c_lshl 1 q (q.toBitVec.toNat % 64) rfl
  rw [e] at a
  have hk : q.toBitVec.toNat % 64 < 64 := Nat.mod_lt _ (by decide)
  generalize q.toBitVec.toNat % 64 = k at a hk
  have h1 : 2 ^ k < 2 ^ 64 := Nat.pow_lt_pow_right (by decide) hk
  have h0 : 0 < 2 ^ k := Nat.pow_pos (by decide)
  have z : (0 : Int64).toInt = 0 := by decide
  have o : (1 : Int64).toInt = 1 := by decide
  rw [z, o] at a
  have p : (2 : Nat) ^ 64 = 18446744073709551616 := by decide
  rw [p] at h1
  generalize 2 ^ k = P at a h0 h1
  omega
set_option maxRecDepth 65536 in
set_option maxHeartbeats 40000000 in
theorem spec_18 (l : Launch) (Z : State) (a0 : Array Value) (hw : ∀ d ∈ tables_1, d.before a0 Z = true) (x z : Int32) (os : OS) : OMeets l Z (⟨"com/example/pointfold/pointfold/datalog/Relation", "combine", "(II)I"⟩ : MethodName) prog_47_method_10_code 3 (some .int) ({ frames := 0, cells := 0, slots := 0, locals := 0 } : Room) [(.int x), (.int z)] os (RetV fun v os' => v = .int (own_comb x z) ∧ os' = os) := by
  refine OMeets.of_body [.val (.int x), .val (.int z), .unset] pn_18 (laid_eq _ _ rfl) ?_
  intro X K
  refine W.iloadN K 1 d18_0 0 rfl rfl ?_
  refine W.iloadN K 2 d18_1 1 rfl rfl ?_
  refine W.iadd K 3 d18_2 ?_
  refine W.ldcI K 5 d18_3 (hw _ (List.mem_of_getElem? (i := 136) rfl)) ?_
  refine W.imul K 6 d18_5 ?_
  refine W.istoreN K 7 d18_6 2 rfl rfl (by repeat (first | apply setLS | exact setL0)) ?_
  refine W.iloadN K 8 d18_7 2 rfl rfl ?_
  refine W.iloadN K 9 d18_8 2 rfl rfl ?_
  refine W.bipush K 11 d18_9 (15 : Int32) (by decide) ?_
  refine W.iushr K 12 d18_11 ?_
  refine W.ixor K 13 d18_12 ?_
  refine W.ireturn K d18_13 ⟨_, rfl, rfl, rfl⟩
set_option maxRecDepth 65536 in
set_option maxHeartbeats 40000000 in
theorem spec_17 (l : Launch) (Z : State) (a0 : Array Value) (hw : ∀ d ∈ tables_1, d.before a0 Z = true) (ka : Addr) (w : Int32) (os : OS) (m1 : (ka, ARR Z .int [.int w]) ∈ os) : OMeets l Z (⟨"com/example/pointfold/pointfold/datalog/TupleIndex", "hashKey", "([I)I"⟩ : MethodName) prog_55_method_8_code 6 (some .int) ({ frames := 1, cells := 0, slots := 0, locals := 14 } : Room) [(.ref ka)] os (RetV fun v os' => v = .int (own_h w) ∧ os' = os) := by
  refine OMeets.of_body [.val (.ref ka), .unset, .unset, .unset, .unset, .unset] pn_17 (laid_eq _ _ rfl) ?_
  intro X K
  refine W.iconst K 1 d17_0 (1 : Int32) (by decide) ?_
  refine W.istoreN K 2 d17_1 1 rfl rfl (by repeat (first | apply setLS | exact setL0)) ?_
  refine W.aloadN K 3 d17_2 0 rfl rfl rfl ?_
  refine W.astoreN K 4 d17_3 2 rfl rfl rfl (by repeat (first | apply setLS | exact setL0)) ?_
  refine W.aloadN K 5 d17_4 2 rfl rfl rfl ?_
  refine W.arraylength (1 : Int32) K 6 d17_5 m1 rfl ?_
  refine W.istoreN K 7 d17_6 3 rfl rfl (by repeat (first | apply setLS | exact setL0)) ?_
  refine W.iconst K 8 d17_7 (0 : Int32) (by decide) ?_
  refine W.istore K 10 d17_8 rfl (by repeat (first | apply setLS | exact setL0)) ?_
  refine W.iload K 12 d17_10 rfl ?_
  refine W.iloadN K 13 d17_12 3 rfl rfl ?_
  refine W.icmp_ge K 35 16 d17_13 (fun h13 => False.elim (absurd h13 (by decide))) (fun h13 => ?_)
  refine W.aloadN K 17 d17_16 2 rfl rfl rfl ?_
  refine W.iload K 19 d17_17 rfl ?_
  refine W.iaload 0 K 20 d17_19 m1 (by decide) rfl ?_
  refine W.istore K 22 d17_20 rfl (by repeat (first | apply setLS | exact setL0)) ?_
  refine W.iloadN K 23 d17_22 1 rfl rfl ?_
  refine W.iload K 25 d17_23 rfl ?_
  refine W.callSv2 K 28 d17_25 (hw _ (List.mem_of_getElem? (i := 133) rfl)) (hw _ (List.mem_of_getElem? (i := 134) rfl)) (hw _ (List.mem_of_getElem? (i := 10) rfl)) (hw _ (List.mem_of_getElem? (i := 135) rfl)) pd_18 (spec_18 l Z a0 hw _ _ _) (fun v os1 hq => ?_)
  obtain ⟨rfl, rfl⟩ := hq
  refine W.istoreN K 29 d17_28 1 rfl rfl (by repeat (first | apply setLS | exact setL0)) ?_
  refine W.iinc K 32 d17_29 (1 : Int32) (by decide) rfl (by repeat (first | apply setLS | exact setL0)) ?_
  refine W.goto K 10 d17_32 ?_
  refine W.iload K 12 d17_10 rfl ?_
  refine W.iloadN K 13 d17_12 3 rfl rfl ?_
  refine W.icmp_ge K 35 16 d17_13 (fun h13 => ?_) (fun h13 => False.elim (absurd h13 (by decide)))
  refine W.iloadN K 36 d17_35 1 rfl rfl ?_
  refine W.ireturn K d17_36 ⟨_, rfl, rfl, rfl⟩
set_option maxRecDepth 65536 in
set_option maxHeartbeats 40000000 in
theorem spec_19 (l : Launch) (Z : State) (a0 : Array Value) (hw : ∀ d ∈ tables_1, d.before a0 Z = true) (hf ba : Addr) (h : Int32) (Bf : Nat → Int64) (os : OS) (m1 : (hf, OBJ Z "com/example/pointfold/pointfold/datalog/HashFilter" [("com/example/pointfold/pointfold/datalog/HashFilter", "bits", "[J", .ref ba), ("com/example/pointfold/pointfold/datalog/HashFilter", "mask", "J", .long 127)]) ∈ os) (m2 : (ba, ARR Z .long (AF Value.long 2 Bf)) ∈ os) : OMeets l Z (⟨"com/example/pointfold/pointfold/datalog/HashFilter", "mayHold", "(I)Z"⟩ : MethodName) prog_14_method_3_code 4 (some .boolean) ({ frames := 0, cells := 0, slots := 0, locals := 0 } : Room) [(.ref hf), (.int h)] os (RetV fun v os' => ∃ w : Int32, v = .int w ∧ os' = os ∧ (w ≠ 0 ↔ Bf (own_fw h) &&& own_fb h ≠ 0)) := by
  have hq := own_fw_eq h
  refine OMeets.of_body [.val (.ref hf), .val (.int h), .unset, .unset] pn_19 (laid_eq _ _ rfl) ?_
  intro X K
  refine W.iloadN K 1 d19_0 1 rfl rfl ?_
  refine W.i2l K 2 d19_1 ?_
  refine W.aloadN K 3 d19_2 0 rfl rfl rfl ?_
  refine W.getF K 6 d19_3 (hw _ (List.mem_of_getElem? (i := 89) rfl)) m1 (by repeat (first | exact List.mem_cons_self | apply List.mem_cons_of_mem)) ?_
  refine W.land K 7 d19_6 ?_
  refine W.lstoreN K 8 d19_7 2 rfl (by repeat (first | apply setLS | exact setL0)) (by repeat (first | apply setLS | exact setL0)) ?_
  refine W.aloadN K 9 d19_8 0 rfl rfl rfl ?_
  refine W.getF K 12 d19_9 (hw _ (List.mem_of_getElem? (i := 86) rfl)) m1 (by repeat (first | exact List.mem_cons_self | apply List.mem_cons_of_mem)) ?_
  refine W.lloadN K 13 d19_12 2 rfl rfl ?_
  refine W.bipush K 15 d19_13 (6 : Int32) (by decide) ?_
  refine W.lushr K 16 d19_15 ?_
  refine W.l2i K 17 d19_16 ?_
  refine W.laload (own_fw h) K 18 d19_17 m2 hq.1 (AF_at hq.2) ?_
  refine W.lconst K 19 d19_18 (1 : Int64) (by decide) ?_
  refine W.lloadN K 20 d19_19 2 rfl rfl ?_
  refine W.l2i K 21 d19_20 ?_
  refine W.lshl K 22 d19_21 ?_
  refine W.land K 23 d19_22 ?_
  refine W.lconst K 24 d19_23 (0 : Int64) (by decide) ?_
  refine W.lcmp_eq K 25 32 28 d19_24 d19_25 (fun h25 => ?_) (fun h25 => ?_)
  · refine W.iconst K 33 d19_32 (0 : Int32) (by decide) ?_
    refine W.zreturn K d19_33 (Or.inl rfl) ⟨_, rfl, 0, rfl, rfl, fun q => absurd rfl q, fun q => absurd h25 q⟩
  · refine W.iconst K 29 d19_28 (1 : Int32) (by decide) ?_
    refine W.goto K 33 d19_29 ?_
    refine W.zreturn K d19_33 (Or.inr rfl) ⟨_, rfl, 1, rfl, rfl, fun _ => h25, fun _ => by decide⟩
set_option maxRecDepth 65536 in
set_option maxHeartbeats 40000000 in
theorem spec_25 (l : Launch) (Z : State) (a0 : Array Value) (hw : ∀ d ∈ tables_1, d.before a0 Z = true) (hf ba : Addr) (h : Int32) (Bf : Nat → Int64) (rest : OS) (m1 : (hf, OBJ Z "com/example/pointfold/pointfold/datalog/HashFilter" [("com/example/pointfold/pointfold/datalog/HashFilter", "bits", "[J", .ref ba), ("com/example/pointfold/pointfold/datalog/HashFilter", "mask", "J", .long 127)]) ∈ rest) : OMeets l Z (⟨"com/example/pointfold/pointfold/datalog/HashFilter", "add", "(I)V"⟩ : MethodName) prog_14_method_2_code 4 none ({ frames := 0, cells := 0, slots := 0, locals := 0 } : Room) [(.ref hf), (.int h)] ((ba, ARR Z .long (AF Value.long 2 Bf)) :: rest) (RetN fun os' => os' = (ba, ARR Z .long (AF Value.long 2 (updA Bf (own_fw h) (Bf (own_fw h) ||| own_fb h)))) :: rest) := by
  have hq := own_fw_eq h
  refine OMeets.of_body [.val (.ref hf), .val (.int h), .unset, .unset] pn_25 (laid_eq _ _ rfl) ?_
  intro X K
  refine W.iloadN K 1 d25_0 1 rfl rfl ?_
  refine W.i2l K 2 d25_1 ?_
  refine W.aloadN K 3 d25_2 0 rfl rfl rfl ?_
  refine W.getF K 6 d25_3 (hw _ (List.mem_of_getElem? (i := 89) rfl)) (List.mem_cons_of_mem _ m1) (by repeat (first | exact List.mem_cons_self | apply List.mem_cons_of_mem)) ?_
  refine W.land K 7 d25_6 ?_
  refine W.lstoreN K 8 d25_7 2 rfl (by repeat (first | apply setLS | exact setL0)) (by repeat (first | apply setLS | exact setL0)) ?_
  refine W.aloadN K 9 d25_8 0 rfl rfl rfl ?_
  refine W.getF K 12 d25_9 (hw _ (List.mem_of_getElem? (i := 86) rfl)) (List.mem_cons_of_mem _ m1) (by repeat (first | exact List.mem_cons_self | apply List.mem_cons_of_mem)) ?_
  refine W.lloadN K 13 d25_12 2 rfl rfl ?_
  refine W.bipush K 15 d25_13 (6 : Int32) (by decide) ?_
  refine W.lushr K 16 d25_15 ?_
  refine W.l2i K 17 d25_16 ?_
  refine W.dup2 K 18 d25_17 ?_
  refine W.laload (own_fw h) K 19 d25_18 (by repeat (first | exact List.mem_cons_self | apply List.mem_cons_of_mem)) hq.1 (AF_at hq.2) ?_
  refine W.lconst K 20 d25_19 (1 : Int64) (by decide) ?_
  refine W.lloadN K 21 d25_20 2 rfl rfl ?_
  refine W.l2i K 22 d25_21 ?_
  refine W.lshl K 23 d25_22 ?_
  refine W.lor K 24 d25_23 ?_
  refine W.lastore (own_fw h) K 25 d25_24 (by repeat (first | exact Upd.here | apply Upd.there)) hq.1 (AF_at hq.2) ?_
  rw [AF_set]
  exact W.return K d25_25 ⟨rfl, rfl⟩
set_option maxRecDepth 65536 in
set_option maxHeartbeats 40000000 in
theorem spec_8 (l : Launch) (Z : State) (a0 : Array Value) (hw : ∀ d ∈ tables_1, d.before a0 Z = true) (a fr ac : Addr) (v0 v1 v2 v3 v4 v5 v6 : Value) (rest : OS) : OMeets l Z (⟨"com/example/pointfold/pointfold/datalog/TupleIndex", "<init>", "(Lcom/example/pointfold/pointfold/datalog/FlatRelation;[I)V"⟩ : MethodName) prog_55_method_1_code 3 none ({ frames := 2, cells := 10, slots := 57, locals := 34 } : Room) [(.ref a), (.ref fr), (.ref ac)] ((a, OBJ Z "com/example/pointfold/pointfold/datalog/TupleIndex" [("com/example/pointfold/pointfold/datalog/TupleIndex", "capacity", "I", v0), ("com/example/pointfold/pointfold/datalog/TupleIndex", "buckets", "Lcom/example/pointfold/pointfold/datalog/IntBlocks;", v1), ("com/example/pointfold/pointfold/datalog/TupleIndex", "filter", "Lcom/example/pointfold/pointfold/datalog/HashFilter;", v2), ("com/example/pointfold/pointfold/datalog/TupleIndex", "next", "Lcom/example/pointfold/pointfold/datalog/IntBlocks;", v3), ("com/example/pointfold/pointfold/datalog/TupleIndex", "relation", "Lcom/example/pointfold/pointfold/datalog/FlatRelation;", v4), ("com/example/pointfold/pointfold/datalog/TupleIndex", "columns", "[I", v5), ("com/example/pointfold/pointfold/datalog/TupleIndex", "count", "I", v6)]) :: rest) (RetN fun os' => ∃ bk bk1 bk2 hf ba nx nx1 nx2 : Addr, os' = (a, OBJ Z "com/example/pointfold/pointfold/datalog/TupleIndex" [("com/example/pointfold/pointfold/datalog/TupleIndex", "capacity", "I", .int 16), ("com/example/pointfold/pointfold/datalog/TupleIndex", "buckets", "Lcom/example/pointfold/pointfold/datalog/IntBlocks;", .ref bk), ("com/example/pointfold/pointfold/datalog/TupleIndex", "filter", "Lcom/example/pointfold/pointfold/datalog/HashFilter;", .ref hf), ("com/example/pointfold/pointfold/datalog/TupleIndex", "next", "Lcom/example/pointfold/pointfold/datalog/IntBlocks;", .ref nx), ("com/example/pointfold/pointfold/datalog/TupleIndex", "relation", "Lcom/example/pointfold/pointfold/datalog/FlatRelation;", .ref fr), ("com/example/pointfold/pointfold/datalog/TupleIndex", "columns", "[I", .ref ac), ("com/example/pointfold/pointfold/datalog/TupleIndex", "count", "I", v6)]) :: (nx, OBJ Z "com/example/pointfold/pointfold/datalog/IntBlocks" [("com/example/pointfold/pointfold/datalog/IntBlocks", "blocks", "[[I", .ref nx1)]) :: (nx2, ARR Z .int (AF Value.int 16 (fun _ => 0))) :: (nx1, ARR Z (.array .int) [.ref nx2]) :: (bk, OBJ Z "com/example/pointfold/pointfold/datalog/IntBlocks" [("com/example/pointfold/pointfold/datalog/IntBlocks", "blocks", "[[I", .ref bk1)]) :: (bk2, ARR Z .int (AF Value.int 16 (fun _ => 0))) :: (bk1, ARR Z (.array .int) [.ref bk2]) :: (hf, OBJ Z "com/example/pointfold/pointfold/datalog/HashFilter" [("com/example/pointfold/pointfold/datalog/HashFilter", "bits", "[J", .ref ba), ("com/example/pointfold/pointfold/datalog/HashFilter", "mask", "J", .long 127)]) :: (ba, ARR Z .long (AF Value.long 2 (fun _ => 0))) :: rest) := by
  refine OMeets.of_body [.val (.ref a), .val (.ref fr), .val (.ref ac)] pn_8 (laid_eq _ _ rfl) ?_
  intro X K
  refine W.aloadN K 1 d8_0 0 rfl rfl rfl ?_
  refine W.initO K 4 d8_1 (hw _ (List.mem_of_getElem? (i := 65) rfl)) (hw _ (List.mem_of_getElem? (i := 13) rfl)) (hw _ (List.mem_of_getElem? (i := 14) rfl)) ?_
  refine W.aloadN K 5 d8_4 0 rfl rfl rfl ?_
  refine W.bipush K 7 d8_5 (16 : Int32) (by decide) ?_
  refine W.putF (ty := .int) K 10 d8_7 (hw _ (List.mem_of_getElem? (i := 66) rfl)) (hw _ (List.mem_of_getElem? (i := 67) rfl)) (hw _ (List.mem_of_getElem? (i := 60) rfl)) (by decide +kernel) (by repeat (first | exact Upd.here | apply Upd.there)) (by repeat (first | exact UpdF.here | apply UpdF.there)) ?_
  refine W.aloadN K 11 d8_10 0 rfl rfl rfl ?_
  refine W.new [("com/example/pointfold/pointfold/datalog/IntBlocks", "blocks", "[[I", .null)] K 14 d8_11 (hw _ (List.mem_of_getElem? (i := 68) rfl)) (hw _ (List.mem_of_getElem? (i := 16) rfl)) (hw _ (List.mem_of_getElem? (i := 17) rfl)) ⟨⟨Or.inl (hw _ (List.mem_of_getElem? (i := 26) rfl)), (.array (.array .int)), by decide +kernel, rfl⟩, trivial⟩ (fun b11 => ?_)
  refine W.dup K 15 d8_14 ?_
  refine W.aloadN K 16 d8_15 0 rfl rfl rfl ?_
  refine W.getF K 19 d8_16 (hw _ (List.mem_of_getElem? (i := 66) rfl)) (by repeat (first | exact List.mem_cons_self | apply List.mem_cons_of_mem)) (by repeat (first | exact List.mem_cons_self | apply List.mem_cons_of_mem)) ?_
  refine W.callIn1 K 22 d8_19 (hw _ (List.mem_of_getElem? (i := 69) rfl)) (hw _ (List.mem_of_getElem? (i := 70) rfl)) (hw _ (List.mem_of_getElem? (i := 17) rfl)) (hw _ (List.mem_of_getElem? (i := 71) rfl)) pd_9 (spec_9 l Z a0 hw _ _ _) (fun os1 hq => ?_)
  obtain ⟨bk1, bk2, rfl⟩ := hq
  refine W.putF (ty := (.object "com/example/pointfold/pointfold/datalog/IntBlocks")) K 25 d8_22 (hw _ (List.mem_of_getElem? (i := 76) rfl)) (hw _ (List.mem_of_getElem? (i := 77) rfl)) (hw _ (List.mem_of_getElem? (i := 60) rfl)) (by decide +kernel) (by repeat (first | exact Upd.here | apply Upd.there)) (by repeat (first | exact UpdF.here | apply UpdF.there)) ?_
  refine W.aloadN K 26 d8_25 0 rfl rfl rfl ?_
  refine W.new [("com/example/pointfold/pointfold/datalog/HashFilter", "bits", "[J", .null), ("com/example/pointfold/pointfold/datalog/HashFilter", "mask", "J", .long 0)] K 29 d8_26 (hw _ (List.mem_of_getElem? (i := 78) rfl)) (hw _ (List.mem_of_getElem? (i := 79) rfl)) (hw _ (List.mem_of_getElem? (i := 80) rfl)) ⟨⟨Or.inr (hw _ (List.mem_of_getElem? (i := 87) rfl)), (.array .long), by decide +kernel, rfl⟩, ⟨Or.inr (hw _ (List.mem_of_getElem? (i := 90) rfl)), .long, by decide +kernel, rfl⟩, trivial⟩ (fun b26 => ?_)
  refine W.dup K 30 d8_29 ?_
  refine W.aloadN K 31 d8_30 0 rfl rfl rfl ?_
  refine W.getF K 34 d8_31 (hw _ (List.mem_of_getElem? (i := 66) rfl)) (by repeat (first | exact List.mem_cons_self | apply List.mem_cons_of_mem)) (by repeat (first | exact List.mem_cons_self | apply List.mem_cons_of_mem)) ?_
  refine W.callIn1 K 37 d8_34 (hw _ (List.mem_of_getElem? (i := 81) rfl)) (hw _ (List.mem_of_getElem? (i := 82) rfl)) (hw _ (List.mem_of_getElem? (i := 80) rfl)) (hw _ (List.mem_of_getElem? (i := 83) rfl)) pd_11 (spec_11 l Z a0 hw _ _ _ _) (fun os1 hq => ?_)
  obtain ⟨ba, rfl⟩ := hq
  refine W.putF (ty := (.object "com/example/pointfold/pointfold/datalog/HashFilter")) K 40 d8_37 (hw _ (List.mem_of_getElem? (i := 91) rfl)) (hw _ (List.mem_of_getElem? (i := 92) rfl)) (hw _ (List.mem_of_getElem? (i := 60) rfl)) (by decide +kernel) (by repeat (first | exact Upd.here | apply Upd.there)) (by repeat (first | exact UpdF.here | apply UpdF.there)) ?_
  refine W.aloadN K 41 d8_40 0 rfl rfl rfl ?_
  refine W.new [("com/example/pointfold/pointfold/datalog/IntBlocks", "blocks", "[[I", .null)] K 44 d8_41 (hw _ (List.mem_of_getElem? (i := 68) rfl)) (hw _ (List.mem_of_getElem? (i := 16) rfl)) (hw _ (List.mem_of_getElem? (i := 17) rfl)) ⟨⟨Or.inl (hw _ (List.mem_of_getElem? (i := 26) rfl)), (.array (.array .int)), by decide +kernel, rfl⟩, trivial⟩ (fun b41 => ?_)
  refine W.dup K 45 d8_44 ?_
  refine W.callIn0 K 48 d8_45 (hw _ (List.mem_of_getElem? (i := 93) rfl)) (hw _ (List.mem_of_getElem? (i := 19) rfl)) (hw _ (List.mem_of_getElem? (i := 17) rfl)) (hw _ (List.mem_of_getElem? (i := 20) rfl)) pd_4 (spec_4 l Z a0 hw _ _ _) (fun os1 hq => ?_)
  obtain ⟨nx1, nx2, rfl⟩ := hq
  refine W.putFf (ty := (.object "com/example/pointfold/pointfold/datalog/IntBlocks")) K 51 d8_48 (hw _ (List.mem_of_getElem? (i := 94) rfl)) (hw _ (List.mem_of_getElem? (i := 95) rfl)) (hw _ (List.mem_of_getElem? (i := 60) rfl)) (by decide +kernel) (by repeat (first | exact Upd.here | apply Upd.there)) (by repeat (first | exact UpdF.here | apply UpdF.there)) ?_
  refine W.aloadN K 52 d8_51 0 rfl rfl rfl ?_
  refine W.aloadN K 53 d8_52 1 rfl rfl rfl ?_
  refine W.putFf (ty := (.object "com/example/pointfold/pointfold/datalog/FlatRelation")) K 56 d8_53 (hw _ (List.mem_of_getElem? (i := 96) rfl)) (hw _ (List.mem_of_getElem? (i := 97) rfl)) (hw _ (List.mem_of_getElem? (i := 60) rfl)) (by decide +kernel) (by repeat (first | exact Upd.here | apply Upd.there)) (by repeat (first | exact UpdF.here | apply UpdF.there)) ?_
  refine W.aloadN K 57 d8_56 0 rfl rfl rfl ?_
  refine W.aloadN K 58 d8_57 2 rfl rfl rfl ?_
  refine W.putFf (ty := (.array .int)) K 61 d8_58 (hw _ (List.mem_of_getElem? (i := 98) rfl)) (hw _ (List.mem_of_getElem? (i := 99) rfl)) (hw _ (List.mem_of_getElem? (i := 60) rfl)) (by decide +kernel) (by repeat (first | exact Upd.here | apply Upd.there)) (by repeat (first | exact UpdF.here | apply UpdF.there)) ?_
  refine WP.pick ba (by repeat (first | exact pickHere | apply pickThere)) ?_
  refine WP.pick b26 (by repeat (first | exact pickHere | apply pickThere)) ?_
  refine WP.pick bk1 (by repeat (first | exact pickHere | apply pickThere)) ?_
  refine WP.pick bk2 (by repeat (first | exact pickHere | apply pickThere)) ?_
  refine WP.pick b11 (by repeat (first | exact pickHere | apply pickThere)) ?_
  refine WP.pick nx1 (by repeat (first | exact pickHere | apply pickThere)) ?_
  refine WP.pick nx2 (by repeat (first | exact pickHere | apply pickThere)) ?_
  refine WP.pick b41 (by repeat (first | exact pickHere | apply pickThere)) ?_
  refine WP.pick a (by repeat (first | exact pickHere | apply pickThere)) ?_
  exact W.return K d8_61 ⟨rfl, _, _, _, _, _, _, _, _, rfl⟩
set_option maxRecDepth 65536 in
set_option maxHeartbeats 40000000 in
theorem spec_7 (l : Launch) (Z : State) (a0 : Array Value) (hw : ∀ d ∈ tables_1, d.before a0 Z = true) (a : Addr) (x y : Int32) (rest : OS) : OMeets l Z (⟨"java/util/Arrays", "fill", "([II)V"⟩ : MethodName) jdk_65_method_103_code 4 none ({ frames := 0, cells := 0, slots := 0, locals := 0 } : Room) [(.ref a), (.int x)] ((a, ARR Z .int [.int y]) :: rest) (RetN fun os' => os' = (a, ARR Z .int [.int x]) :: rest) := by
  refine OMeets.of_body [.val (.ref a), .val (.int x), .unset, .unset] pn_7 (laid_eq _ _ rfl) ?_
  intro X K
  refine W.iconst K 1 d7_0 (0 : Int32) (by decide) ?_
  refine W.istoreN K 2 d7_1 2 rfl rfl (by repeat (first | apply setLS | exact setL0)) ?_
  refine W.aloadN K 3 d7_2 0 rfl rfl rfl ?_
  refine W.arraylength (1 : Int32) K 4 d7_3 (by repeat (first | exact List.mem_cons_self | apply List.mem_cons_of_mem)) rfl ?_
  refine W.istoreN K 5 d7_4 3 rfl rfl (by repeat (first | apply setLS | exact setL0)) ?_
  refine W.iloadN K 6 d7_5 2 rfl rfl ?_
  refine W.iloadN K 7 d7_6 3 rfl rfl ?_
  refine W.icmp_ge K 20 10 d7_7 (fun h7 => False.elim (absurd h7 (by decide))) (fun h7 => ?_)
  refine W.aloadN K 11 d7_10 0 rfl rfl rfl ?_
  refine W.iloadN K 12 d7_11 2 rfl rfl ?_
  refine W.iloadN K 13 d7_12 1 rfl rfl ?_
  refine W.iastore 0 K 14 d7_13 (by repeat (first | exact Upd.here | apply Upd.there)) (by decide) rfl ?_
  refine W.iinc K 17 d7_14 (1 : Int32) (by decide) rfl (by repeat (first | apply setLS | exact setL0)) ?_
  refine W.goto K 5 d7_17 ?_
  refine W.iloadN K 6 d7_5 2 rfl rfl ?_
  refine W.iloadN K 7 d7_6 3 rfl rfl ?_
  refine W.icmp_ge K 20 10 d7_7 (fun h7 => ?_) (fun h7 => False.elim (absurd h7 (by decide)))
  exact W.return K d7_20 ⟨rfl, rfl⟩
set_option maxRecDepth 65536 in
set_option maxHeartbeats 40000000 in
theorem spec_1 (l : Launch) (Z : State) (a0 : Array Value) (hw : ∀ d ∈ tables_1, d.before a0 Z = true) (fr : Addr) (rest : OS) : OMeets l Z (⟨"com/example/pointfold/pointfold/datalog/FlatRelation", "<init>", "(I)V"⟩ : MethodName) prog_10_method_1_code 3 none ({ frames := 3, cells := 18, slots := 93, locals := 60 } : Room) [(.ref fr), (.int 1)] ((fr, OBJ Z "com/example/pointfold/pointfold/datalog/FlatRelation" [("com/example/pointfold/pointfold/datalog/FlatRelation", "values", "Lcom/example/pointfold/pointfold/datalog/IntBlocks;", .null), ("com/example/pointfold/pointfold/datalog/FlatRelation", "indexes", "Ljava/util/Map;", .null), ("com/example/pointfold/pointfold/datalog/FlatRelation", "arity", "I", .int 0), ("com/example/pointfold/pointfold/datalog/FlatRelation", "allColumns", "[I", .null), ("com/example/pointfold/pointfold/datalog/FlatRelation", "stored", "[I", .null), ("com/example/pointfold/pointfold/datalog/FlatRelation", "only", "[I", .null), ("com/example/pointfold/pointfold/datalog/FlatRelation", "unique", "Lcom/example/pointfold/pointfold/datalog/TupleIndex;", .null), ("com/example/pointfold/pointfold/datalog/FlatRelation", "size", "I", .int 0), ("com/example/pointfold/pointfold/datalog/FlatRelation", "roundStart", "I", .int 0), ("com/example/pointfold/pointfold/datalog/FlatRelation", "storedCount", "I", .int 0), ("com/example/pointfold/pointfold/datalog/FlatRelation", "deltaStart", "I", .int 0), ("com/example/pointfold/pointfold/datalog/FlatRelation", "deltaEnd", "I", .int 0)]) :: rest) (RetN fun os' => ∃ vb vb1 vb2 hm ac st on ti bk bk1 bk2 hf ba nx nx1 nx2 : Addr, os' = [(fr, OBJ Z "com/example/pointfold/pointfold/datalog/FlatRelation" [("com/example/pointfold/pointfold/datalog/FlatRelation", "values", "Lcom/example/pointfold/pointfold/datalog/IntBlocks;", .ref vb), ("com/example/pointfold/pointfold/datalog/FlatRelation", "indexes", "Ljava/util/Map;", .ref hm), ("com/example/pointfold/pointfold/datalog/FlatRelation", "arity", "I", .int 1), ("com/example/pointfold/pointfold/datalog/FlatRelation", "allColumns", "[I", .ref ac), ("com/example/pointfold/pointfold/datalog/FlatRelation", "stored", "[I", .ref st), ("com/example/pointfold/pointfold/datalog/FlatRelation", "only", "[I", .ref on), ("com/example/pointfold/pointfold/datalog/FlatRelation", "unique", "Lcom/example/pointfold/pointfold/datalog/TupleIndex;", .ref ti), ("com/example/pointfold/pointfold/datalog/FlatRelation", "size", "I", .int 0), ("com/example/pointfold/pointfold/datalog/FlatRelation", "roundStart", "I", .int 0), ("com/example/pointfold/pointfold/datalog/FlatRelation", "storedCount", "I", .int 0), ("com/example/pointfold/pointfold/datalog/FlatRelation", "deltaStart", "I", .int 0), ("com/example/pointfold/pointfold/datalog/FlatRelation", "deltaEnd", "I", .int 0)]), (st, ARR Z .int [.int (-1)]), (on, ARR Z .int [.int 0]), (vb2, ARR Z .int (AF Value.int 16 (fun _ => 0))), (ti, OBJ Z "com/example/pointfold/pointfold/datalog/TupleIndex" [("com/example/pointfold/pointfold/datalog/TupleIndex", "capacity", "I", .int 16), ("com/example/pointfold/pointfold/datalog/TupleIndex", "buckets", "Lcom/example/pointfold/pointfold/datalog/IntBlocks;", .ref bk), ("com/example/pointfold/pointfold/datalog/TupleIndex", "filter", "Lcom/example/pointfold/pointfold/datalog/HashFilter;", .ref hf), ("com/example/pointfold/pointfold/datalog/TupleIndex", "next", "Lcom/example/pointfold/pointfold/datalog/IntBlocks;", .ref nx), ("com/example/pointfold/pointfold/datalog/TupleIndex", "relation", "Lcom/example/pointfold/pointfold/datalog/FlatRelation;", .ref fr), ("com/example/pointfold/pointfold/datalog/TupleIndex", "columns", "[I", .ref ac), ("com/example/pointfold/pointfold/datalog/TupleIndex", "count", "I", .int 0)]), (nx2, ARR Z .int (AF Value.int 16 (fun _ => 0))), (bk2, ARR Z .int (AF Value.int 16 (fun _ => 0))), (ba, ARR Z .long (AF Value.long 2 (fun _ => 0))), (hm, OBJ Z "java/util/HashMap" [("java/util/HashMap", "loadFactor", "F", .float 1061158912), ("java/util/AbstractMap", "values", "Ljava/util/Collection;", .null), ("java/util/HashMap", "modCount", "I", .int 0), ("java/util/HashMap", "table", "[Ljava/util/HashMap$Node;", .null)]), (vb, OBJ Z "com/example/pointfold/pointfold/datalog/IntBlocks" [("com/example/pointfold/pointfold/datalog/IntBlocks", "blocks", "[[I", .ref vb1)]), (vb1, ARR Z (.array .int) [.ref vb2]), (ac, ARR Z .int [.int 0]), (bk, OBJ Z "com/example/pointfold/pointfold/datalog/IntBlocks" [("com/example/pointfold/pointfold/datalog/IntBlocks", "blocks", "[[I", .ref bk1)]), (bk1, ARR Z (.array .int) [.ref bk2]), (nx, OBJ Z "com/example/pointfold/pointfold/datalog/IntBlocks" [("com/example/pointfold/pointfold/datalog/IntBlocks", "blocks", "[[I", .ref nx1)]), (nx1, ARR Z (.array .int) [.ref nx2]), (hf, OBJ Z "com/example/pointfold/pointfold/datalog/HashFilter" [("com/example/pointfold/pointfold/datalog/HashFilter", "bits", "[J", .ref ba), ("com/example/pointfold/pointfold/datalog/HashFilter", "mask", "J", .long 127)])] ++ rest) := by
  refine OMeets.of_body [.val (.ref fr), .val (.int 1), .unset] pn_1 (laid_eq _ _ rfl) ?_
  intro X K
  refine W.aloadN K 1 d1_0 0 rfl rfl rfl ?_
  refine W.callIn0 K 4 d1_1 (hw _ (List.mem_of_getElem? (i := 7) rfl)) (hw _ (List.mem_of_getElem? (i := 8) rfl)) (hw _ (List.mem_of_getElem? (i := 10) rfl)) (hw _ (List.mem_of_getElem? (i := 11) rfl)) pd_2 (spec_2 l Z a0 hw _ _) (fun os1 hq => ?_)
  obtain rfl := hq
  refine W.aloadN K 5 d1_4 0 rfl rfl rfl ?_
  refine W.new [("com/example/pointfold/pointfold/datalog/IntBlocks", "blocks", "[[I", .null)] K 8 d1_5 (hw _ (List.mem_of_getElem? (i := 15) rfl)) (hw _ (List.mem_of_getElem? (i := 16) rfl)) (hw _ (List.mem_of_getElem? (i := 17) rfl)) ⟨⟨Or.inl (hw _ (List.mem_of_getElem? (i := 26) rfl)), (.array (.array .int)), by decide +kernel, rfl⟩, trivial⟩ (fun b5 => ?_)
  refine W.dup K 9 d1_8 ?_
  refine W.callIn0 K 12 d1_9 (hw _ (List.mem_of_getElem? (i := 18) rfl)) (hw _ (List.mem_of_getElem? (i := 19) rfl)) (hw _ (List.mem_of_getElem? (i := 17) rfl)) (hw _ (List.mem_of_getElem? (i := 20) rfl)) pd_4 (spec_4 l Z a0 hw _ _ _) (fun os1 hq => ?_)
  obtain ⟨vb1, vb2, rfl⟩ := hq
  refine W.putF (ty := (.object "com/example/pointfold/pointfold/datalog/IntBlocks")) K 15 d1_12 (hw _ (List.mem_of_getElem? (i := 27) rfl)) (hw _ (List.mem_of_getElem? (i := 28) rfl)) (hw _ (List.mem_of_getElem? (i := 2) rfl)) (by decide +kernel) (by repeat (first | exact Upd.here | apply Upd.there)) (by repeat (first | exact UpdF.here | apply UpdF.there)) ?_
  refine W.aloadN K 16 d1_15 0 rfl rfl rfl ?_
  refine W.new [("java/util/HashMap", "loadFactor", "F", .float 0), ("java/util/AbstractMap", "values", "Ljava/util/Collection;", .null), ("java/util/HashMap", "modCount", "I", .int 0), ("java/util/HashMap", "table", "[Ljava/util/HashMap$Node;", .null)] K 19 d1_16 (hw _ (List.mem_of_getElem? (i := 29) rfl)) (hw _ (List.mem_of_getElem? (i := 30) rfl)) (hw _ (List.mem_of_getElem? (i := 31) rfl)) ⟨⟨Or.inr (hw _ (List.mem_of_getElem? (i := 44) rfl)), .float, by decide +kernel, rfl⟩, ⟨Or.inl (hw _ (List.mem_of_getElem? (i := 185) rfl)), (.object "java/util/Collection"), by decide +kernel, rfl⟩, ⟨Or.inl (hw _ (List.mem_of_getElem? (i := 228) rfl)), .int, by decide +kernel, rfl⟩, ⟨Or.inl (hw _ (List.mem_of_getElem? (i := 232) rfl)), (.array (.object "java/util/HashMap$Node")), by decide +kernel, rfl⟩, trivial⟩ (fun b16 => ?_)
  refine W.dup K 20 d1_19 ?_
  refine W.callIn0 K 23 d1_20 (hw _ (List.mem_of_getElem? (i := 32) rfl)) (hw _ (List.mem_of_getElem? (i := 33) rfl)) (hw _ (List.mem_of_getElem? (i := 31) rfl)) (hw _ (List.mem_of_getElem? (i := 34) rfl)) pd_5 (spec_5 l Z a0 hw _ _ _) (fun os1 hq => ?_)
  obtain rfl := hq
  refine W.putFf (ty := (.object "java/util/Map")) K 26 d1_23 (hw _ (List.mem_of_getElem? (i := 45) rfl)) (hw _ (List.mem_of_getElem? (i := 46) rfl)) (hw _ (List.mem_of_getElem? (i := 2) rfl)) (by decide +kernel) (by repeat (first | exact Upd.here | apply Upd.there)) (by repeat (first | exact UpdF.here | apply UpdF.there)) ?_
  refine W.aloadN K 27 d1_26 0 rfl rfl rfl ?_
  refine W.iloadN K 28 d1_27 1 rfl rfl ?_
  refine W.putFf (ty := .int) K 31 d1_28 (hw _ (List.mem_of_getElem? (i := 47) rfl)) (hw _ (List.mem_of_getElem? (i := 48) rfl)) (hw _ (List.mem_of_getElem? (i := 2) rfl)) (by decide +kernel) (by repeat (first | exact Upd.here | apply Upd.there)) (by repeat (first | exact UpdF.here | apply UpdF.there)) ?_
  refine W.aloadN K 32 d1_31 0 rfl rfl rfl ?_
  refine W.iloadN K 33 d1_32 1 rfl rfl ?_
  refine W.newarray (ty := .int) 1 1 K 35 d1_33 (hw _ (List.mem_of_getElem? (i := 0) rfl)) (by decide) (by decide) (fun b33 => ?_)
  refine W.putFf (ty := (.array .int)) K 38 d1_35 (hw _ (List.mem_of_getElem? (i := 49) rfl)) (hw _ (List.mem_of_getElem? (i := 50) rfl)) (hw _ (List.mem_of_getElem? (i := 2) rfl)) (by decide +kernel) (by repeat (first | exact Upd.here | apply Upd.there)) (by repeat (first | exact UpdF.here | apply UpdF.there)) ?_
  refine W.iconst K 39 d1_38 (0 : Int32) (by decide) ?_
  refine W.istoreN K 40 d1_39 2 rfl rfl (by repeat (first | apply setLS | exact setL0)) ?_
  refine W.iloadN K 41 d1_40 2 rfl rfl ?_
  refine W.iloadN K 42 d1_41 1 rfl rfl ?_
  refine W.icmp_ge K 58 45 d1_42 (fun h42 => False.elim (absurd h42 (by decide))) (fun h42 => ?_)
  refine W.aloadN K 46 d1_45 0 rfl rfl rfl ?_
  refine W.getF K 49 d1_46 (hw _ (List.mem_of_getElem? (i := 49) rfl)) (by repeat (first | exact List.mem_cons_self | apply List.mem_cons_of_mem)) (by repeat (first | exact List.mem_cons_self | apply List.mem_cons_of_mem)) ?_
  refine W.iloadN K 50 d1_49 2 rfl rfl ?_
  refine W.iloadN K 51 d1_50 2 rfl rfl ?_
  refine W.iastore 0 K 52 d1_51 (by repeat (first | exact Upd.here | apply Upd.there)) (by decide) rfl ?_
  refine W.iinc K 55 d1_52 (1 : Int32) (by decide) rfl (by repeat (first | apply setLS | exact setL0)) ?_
  refine W.goto K 40 d1_55 ?_
  refine W.iloadN K 41 d1_40 2 rfl rfl ?_
  refine W.iloadN K 42 d1_41 1 rfl rfl ?_
  refine W.icmp_ge K 58 45 d1_42 (fun h42 => ?_) (fun h42 => False.elim (absurd h42 (by decide)))
  refine W.aloadN K 59 d1_58 0 rfl rfl rfl ?_
  refine W.iloadN K 60 d1_59 1 rfl rfl ?_
  refine W.newarray (ty := .int) 1 1 K 62 d1_60 (hw _ (List.mem_of_getElem? (i := 0) rfl)) (by decide) (by decide) (fun b60 => ?_)
  refine W.putFf (ty := (.array .int)) K 65 d1_62 (hw _ (List.mem_of_getElem? (i := 51) rfl)) (hw _ (List.mem_of_getElem? (i := 52) rfl)) (hw _ (List.mem_of_getElem? (i := 2) rfl)) (by decide +kernel) (by repeat (first | exact Upd.here | apply Upd.there)) (by repeat (first | exact UpdF.here | apply UpdF.there)) ?_
  refine W.aloadN K 66 d1_65 0 rfl rfl rfl ?_
  refine W.iloadN K 67 d1_66 1 rfl rfl ?_
  refine W.newarray (ty := .int) 1 1 K 69 d1_67 (hw _ (List.mem_of_getElem? (i := 0) rfl)) (by decide) (by decide) (fun b67 => ?_)
  refine W.putFf (ty := (.array .int)) K 72 d1_69 (hw _ (List.mem_of_getElem? (i := 53) rfl)) (hw _ (List.mem_of_getElem? (i := 54) rfl)) (hw _ (List.mem_of_getElem? (i := 2) rfl)) (by decide +kernel) (by repeat (first | exact Upd.here | apply Upd.there)) (by repeat (first | exact UpdF.here | apply UpdF.there)) ?_
  refine W.aloadN K 73 d1_72 0 rfl rfl rfl ?_
  refine W.getF K 76 d1_73 (hw _ (List.mem_of_getElem? (i := 51) rfl)) (by repeat (first | exact List.mem_cons_self | apply List.mem_cons_of_mem)) (by repeat (first | exact List.mem_cons_self | apply List.mem_cons_of_mem)) ?_
  refine W.iconst K 77 d1_76 (-1 : Int32) (by decide) ?_
  refine WP.pick b60 (by repeat (first | exact pickHere | apply pickThere)) ?_
  refine W.callSn2 K 80 d1_77 (hw _ (List.mem_of_getElem? (i := 55) rfl)) (hw _ (List.mem_of_getElem? (i := 56) rfl)) (hw _ (List.mem_of_getElem? (i := 57) rfl)) (hw _ (List.mem_of_getElem? (i := 58) rfl)) pd_7 (spec_7 l Z a0 hw _ _ _ _) (fun os1 hq => ?_)
  obtain rfl := hq
  refine W.aloadN K 81 d1_80 0 rfl rfl rfl ?_
  refine W.new [("com/example/pointfold/pointfold/datalog/TupleIndex", "capacity", "I", .int 0), ("com/example/pointfold/pointfold/datalog/TupleIndex", "buckets", "Lcom/example/pointfold/pointfold/datalog/IntBlocks;", .null), ("com/example/pointfold/pointfold/datalog/TupleIndex", "filter", "Lcom/example/pointfold/pointfold/datalog/HashFilter;", .null), ("com/example/pointfold/pointfold/datalog/TupleIndex", "next", "Lcom/example/pointfold/pointfold/datalog/IntBlocks;", .null), ("com/example/pointfold/pointfold/datalog/TupleIndex", "relation", "Lcom/example/pointfold/pointfold/datalog/FlatRelation;", .null), ("com/example/pointfold/pointfold/datalog/TupleIndex", "columns", "[I", .null), ("com/example/pointfold/pointfold/datalog/TupleIndex", "count", "I", .int 0)] K 84 d1_81 (hw _ (List.mem_of_getElem? (i := 59) rfl)) (hw _ (List.mem_of_getElem? (i := 60) rfl)) (hw _ (List.mem_of_getElem? (i := 61) rfl)) ⟨⟨Or.inl (hw _ (List.mem_of_getElem? (i := 67) rfl)), .int, by decide +kernel, rfl⟩, ⟨Or.inl (hw _ (List.mem_of_getElem? (i := 77) rfl)), (.object "com/example/pointfold/pointfold/datalog/IntBlocks"), by decide +kernel, rfl⟩, ⟨Or.inl (hw _ (List.mem_of_getElem? (i := 92) rfl)), (.object "com/example/pointfold/pointfold/datalog/HashFilter"), by decide +kernel, rfl⟩, ⟨Or.inr (hw _ (List.mem_of_getElem? (i := 95) rfl)), (.object "com/example/pointfold/pointfold/datalog/IntBlocks"), by decide +kernel, rfl⟩, ⟨Or.inr (hw _ (List.mem_of_getElem? (i := 97) rfl)), (.object "com/example/pointfold/pointfold/datalog/FlatRelation"), by decide +kernel, rfl⟩, ⟨Or.inr (hw _ (List.mem_of_getElem? (i := 99) rfl)), (.array .int), by decide +kernel, rfl⟩, ⟨Or.inl (hw _ (List.mem_of_getElem? (i := 148) rfl)), .int, by decide +kernel, rfl⟩, trivial⟩ (fun b81 => ?_)
  refine W.dup K 85 d1_84 ?_
  refine W.aloadN K 86 d1_85 0 rfl rfl rfl ?_
  refine W.aloadN K 87 d1_86 0 rfl rfl rfl ?_
  refine W.getF K 90 d1_87 (hw _ (List.mem_of_getElem? (i := 49) rfl)) (by repeat (first | exact List.mem_cons_self | apply List.mem_cons_of_mem)) (by repeat (first | exact List.mem_cons_self | apply List.mem_cons_of_mem)) ?_
  refine W.callIn2 K 93 d1_90 (hw _ (List.mem_of_getElem? (i := 62) rfl)) (hw _ (List.mem_of_getElem? (i := 63) rfl)) (hw _ (List.mem_of_getElem? (i := 61) rfl)) (hw _ (List.mem_of_getElem? (i := 64) rfl)) pd_8 (spec_8 l Z a0 hw _ _ _ _ _ _ _ _ _ _ _) (fun os1 hq => ?_)
  obtain ⟨bk, bk1, bk2, hf, ba, nx, nx1, nx2, rfl⟩ := hq
  refine W.putF (ty := (.object "com/example/pointfold/pointfold/datalog/TupleIndex")) K 96 d1_93 (hw _ (List.mem_of_getElem? (i := 100) rfl)) (hw _ (List.mem_of_getElem? (i := 101) rfl)) (hw _ (List.mem_of_getElem? (i := 2) rfl)) (by decide +kernel) (by repeat (first | exact Upd.here | apply Upd.there)) (by repeat (first | exact UpdF.here | apply UpdF.there)) ?_
  refine WP.pick hf (by repeat (first | exact pickHere | apply pickThere)) ?_
  refine WP.pick nx1 (by repeat (first | exact pickHere | apply pickThere)) ?_
  refine WP.pick nx (by repeat (first | exact pickHere | apply pickThere)) ?_
  refine WP.pick bk1 (by repeat (first | exact pickHere | apply pickThere)) ?_
  refine WP.pick bk (by repeat (first | exact pickHere | apply pickThere)) ?_
  refine WP.pick b33 (by repeat (first | exact pickHere | apply pickThere)) ?_
  refine WP.pick vb1 (by repeat (first | exact pickHere | apply pickThere)) ?_
  refine WP.pick b5 (by repeat (first | exact pickHere | apply pickThere)) ?_
  refine WP.pick b16 (by repeat (first | exact pickHere | apply pickThere)) ?_
  refine WP.pick ba (by repeat (first | exact pickHere | apply pickThere)) ?_
  refine WP.pick bk2 (by repeat (first | exact pickHere | apply pickThere)) ?_
  refine WP.pick nx2 (by repeat (first | exact pickHere | apply pickThere)) ?_
  refine WP.pick b81 (by repeat (first | exact pickHere | apply pickThere)) ?_
  refine WP.pick vb2 (by repeat (first | exact pickHere | apply pickThere)) ?_
  refine WP.pick b67 (by repeat (first | exact pickHere | apply pickThere)) ?_
  refine WP.pick b60 (by repeat (first | exact pickHere | apply pickThere)) ?_
  refine WP.pick fr (by repeat (first | exact pickHere | apply pickThere)) ?_
  exact W.return K d1_96 ⟨rfl, _, _, _, _, _, _, _, _, _, _, _, _, _, _, _, _, rfl⟩
def own_val (s cnt o : Int32) (Vl V : Nat → Int32) (sz : Nat) : Prop := (s = -1 ∧ ∀ t, t < sz → V t = o) ∨ (s = 0 ∧ cnt = 1 ∧ ∀ t, t < sz → Vl t = V t)
def own_RM (Z : State) (os : OS) (fr vb vb1 vb2 hm ac st on ti : Addr) (szz rs cnt ds de s o : Int32) (Vl : Nat → Int32) : Prop :=
  (fr, OBJ Z "com/example/pointfold/pointfold/datalog/FlatRelation" [("com/example/pointfold/pointfold/datalog/FlatRelation", "values", "Lcom/example/pointfold/pointfold/datalog/IntBlocks;", .ref vb), ("com/example/pointfold/pointfold/datalog/FlatRelation", "indexes", "Ljava/util/Map;", .ref hm), ("com/example/pointfold/pointfold/datalog/FlatRelation", "arity", "I", .int 1), ("com/example/pointfold/pointfold/datalog/FlatRelation", "allColumns", "[I", .ref ac), ("com/example/pointfold/pointfold/datalog/FlatRelation", "stored", "[I", .ref st), ("com/example/pointfold/pointfold/datalog/FlatRelation", "only", "[I", .ref on), ("com/example/pointfold/pointfold/datalog/FlatRelation", "unique", "Lcom/example/pointfold/pointfold/datalog/TupleIndex;", .ref ti), ("com/example/pointfold/pointfold/datalog/FlatRelation", "size", "I", .int szz), ("com/example/pointfold/pointfold/datalog/FlatRelation", "roundStart", "I", .int rs), ("com/example/pointfold/pointfold/datalog/FlatRelation", "storedCount", "I", .int cnt), ("com/example/pointfold/pointfold/datalog/FlatRelation", "deltaStart", "I", .int ds), ("com/example/pointfold/pointfold/datalog/FlatRelation", "deltaEnd", "I", .int de)]) ∈ os ∧ (vb, OBJ Z "com/example/pointfold/pointfold/datalog/IntBlocks" [("com/example/pointfold/pointfold/datalog/IntBlocks", "blocks", "[[I", .ref vb1)]) ∈ os ∧ (vb1, ARR Z (.array .int) [.ref vb2]) ∈ os ∧ (vb2, ARR Z .int (AF Value.int 16 Vl)) ∈ os ∧ (st, ARR Z .int [.int s]) ∈ os ∧ (on, ARR Z .int [.int o]) ∈ os ∧ (ac, ARR Z .int [.int 0]) ∈ os
theorem own_RM.mono {Z : State} {os os' : OS} {fr vb vb1 vb2 hm ac st on ti : Addr} {szz rs cnt ds de s o : Int32} {Vl : Nat → Int32} (h : own_RM Z os fr vb vb1 vb2 hm ac st on ti szz rs cnt ds de s o Vl) (q : ∀ x, x ∈ os → x ∈ os') : own_RM Z os' fr vb vb1 vb2 hm ac st on ti szz rs cnt ds de s o Vl :=
  ⟨q _ h.1, q _ h.2.1, q _ h.2.2.1, q _ h.2.2.2.1, q _ h.2.2.2.2.1, q _ h.2.2.2.2.2.1, q _ h.2.2.2.2.2.2⟩
set_option maxRecDepth 65536 in
set_option maxHeartbeats 40000000 in
theorem spec_22 (l : Launch) (Z : State) (a0 : Array Value) (hw : ∀ d ∈ tables_1, d.before a0 Z = true) (fr vb vb1 vb2 hm ac st on ti : Addr) (szz rs cnt ds de s o : Int32) (Vl V : Nat → Int32) (sz : Nat) (hval : own_val s cnt o Vl V sz) (os : OS) (R : own_RM Z os fr vb vb1 vb2 hm ac st on ti szz rs cnt ds de s o Vl) (tz : Int32) (t : Nat) (ht : tz.toInt = (t : Int)) (hts : t < sz) (ht16 : t < 16) : OMeets l Z (⟨"com/example/pointfold/pointfold/datalog/FlatRelation", "value", "(II)I"⟩ : MethodName) prog_10_method_4_code 4 (some .int) ({ frames := 1, cells := 0, slots := 0, locals := 13 } : Room) [(.ref fr), (.int tz), (.int 0)] os (RetV fun v os' => v = .int (V t) ∧ os' = os) := by
  obtain ⟨r1, r2, r3, r4, r5, r6, r7⟩ := R
  rcases hval with ⟨rfl, hv⟩ | ⟨rfl, rfl, hv⟩
  · refine OMeets.of_body [.val (.ref fr), .val (.int tz), .val (.int 0), .unset] pn_22 (laid_eq _ _ rfl) ?_
    intro X K
    refine W.aloadN K 1 d22_0 0 rfl rfl rfl ?_
    refine W.getF K 4 d22_1 (hw _ (List.mem_of_getElem? (i := 51) rfl)) r1 (by repeat (first | exact List.mem_cons_self | apply List.mem_cons_of_mem)) ?_
    refine W.iloadN K 5 d22_4 2 rfl rfl ?_
    refine W.iaload 0 K 6 d22_5 r5 (by decide) rfl ?_
    refine W.istoreN K 7 d22_6 3 rfl rfl (by repeat (first | apply setLS | exact setL0)) ?_
    refine W.iloadN K 8 d22_7 3 rfl rfl ?_
    refine W.if_ge K 20 11 d22_8 (fun h8 => False.elim (absurd h8 (by decide))) (fun h8 => ?_)
    refine W.aloadN K 12 d22_11 0 rfl rfl rfl ?_
    refine W.getF K 15 d22_12 (hw _ (List.mem_of_getElem? (i := 53) rfl)) r1 (by repeat (first | exact List.mem_cons_self | apply List.mem_cons_of_mem)) ?_
    refine W.iloadN K 16 d22_15 2 rfl rfl ?_
    refine W.iaload 0 K 17 d22_16 r6 (by decide) rfl ?_
    refine W.goto K 35 d22_17 ?_
    refine W.ireturn K d22_35 ⟨_, rfl, by rw [hv t hts], rfl⟩
  · refine OMeets.of_body [.val (.ref fr), .val (.int tz), .val (.int 0), .unset] pn_22 (laid_eq _ _ rfl) ?_
    intro X K
    refine W.aloadN K 1 d22_0 0 rfl rfl rfl ?_
    refine W.getF K 4 d22_1 (hw _ (List.mem_of_getElem? (i := 51) rfl)) r1 (by repeat (first | exact List.mem_cons_self | apply List.mem_cons_of_mem)) ?_
    refine W.iloadN K 5 d22_4 2 rfl rfl ?_
    refine W.iaload 0 K 6 d22_5 r5 (by decide) rfl ?_
    refine W.istoreN K 7 d22_6 3 rfl rfl (by repeat (first | apply setLS | exact setL0)) ?_
    refine W.iloadN K 8 d22_7 3 rfl rfl ?_
    refine W.if_ge K 20 11 d22_8 (fun h8 => ?_) (fun h8 => False.elim (absurd h8 (by decide)))
    refine W.aloadN K 21 d22_20 0 rfl rfl rfl ?_
    refine W.getF K 24 d22_21 (hw _ (List.mem_of_getElem? (i := 27) rfl)) r1 (by repeat (first | exact List.mem_cons_self | apply List.mem_cons_of_mem)) ?_
    refine W.iloadN K 25 d22_24 1 rfl rfl ?_
    refine W.aloadN K 26 d22_25 0 rfl rfl rfl ?_
    refine W.getF K 29 d22_26 (hw _ (List.mem_of_getElem? (i := 252) rfl)) r1 (by repeat (first | exact List.mem_cons_self | apply List.mem_cons_of_mem)) ?_
    refine W.imul K 30 d22_29 ?_
    refine W.iloadN K 31 d22_30 3 rfl rfl ?_
    refine W.iadd K 32 d22_31 ?_
    rw [Int32.mul_one, Int32.add_zero]
    refine W.callVv1 K 35 d22_32 (hw _ (List.mem_of_getElem? (i := 255) rfl)) (hw _ (List.mem_of_getElem? (i := 159) rfl)) (hw _ (List.mem_of_getElem? (i := 161) rfl)) (hw _ (List.mem_of_getElem? (i := 160) rfl)) (hw _ (List.mem_of_getElem? (i := 17) rfl)) (hw _ (List.mem_of_getElem? (i := 162) rfl)) pd_23 (Rc.new r2) (spec_23 l Z a0 hw vb vb1 vb2 tz t ht ht16 Vl _ r2 r3 r4) (fun v os1 hq => ?_)
    obtain ⟨rfl, rfl⟩ := hq
    refine W.ireturn K d22_35 ⟨_, rfl, by rw [hv t hts], rfl⟩
set_option maxRecDepth 65536 in
set_option maxHeartbeats 40000000 in
theorem spec_35 (l : Launch) (Z : State) (a0 : Array Value) (hw : ∀ d ∈ tables_1, d.before a0 Z = true) (fr vb vb1 vb2 hm ac st on ti : Addr) (szz rs cnt ds de s o : Int32) (Vl V : Nat → Int32) (sz : Nat) (hval : own_val s cnt o Vl V sz) (os : OS) (R : own_RM Z os fr vb vb1 vb2 hm ac st on ti szz rs cnt ds de s o Vl) (tz : Int32) (t : Nat) (ht : tz.toInt = (t : Int)) (hts : t < sz) (ht16 : t < 16) (ca ka : Addr) (w : Int32) (mc : (ca, ARR Z .int [.int 0]) ∈ os) (mk : (ka, ARR Z .int [.int w]) ∈ os) : OMeets l Z (⟨"com/example/pointfold/pointfold/datalog/FlatRelation", "holds", "(I[I[I)Z"⟩ : MethodName) prog_10_method_5_code 5 (some .boolean) ({ frames := 2, cells := 0, slots := 0, locals := 28 } : Room) [(.ref fr), (.int tz), (.ref ca), (.ref ka)] os (RetV fun v os' => ∃ u : Int32, v = .int u ∧ os' = os ∧ (u ≠ 0 ↔ V t = w)) := by
  refine OMeets.of_body [.val (.ref fr), .val (.int tz), .val (.ref ca), .val (.ref ka), .unset] pn_35 (laid_eq _ _ rfl) ?_
  intro X K
  refine W.iconst K 1 d35_0 (0 : Int32) (by decide) ?_
  refine W.istore K 3 d35_1 rfl (by repeat (first | apply setLS | exact setL0)) ?_
  refine W.iload K 5 d35_3 rfl ?_
  refine W.aloadN K 6 d35_5 2 rfl rfl rfl ?_
  refine W.arraylength (1 : Int32) K 7 d35_6 mc rfl ?_
  refine W.icmp_ge K 34 10 d35_7 (fun h7 => False.elim (absurd h7 (by decide))) (fun h7 => ?_)
  refine W.aloadN K 11 d35_10 0 rfl rfl rfl ?_
  refine W.iloadN K 12 d35_11 1 rfl rfl ?_
  refine W.aloadN K 13 d35_12 2 rfl rfl rfl ?_
  refine W.iload K 15 d35_13 rfl ?_
  refine W.iaload 0 K 16 d35_15 mc (by decide) rfl ?_
  refine W.callVv2 K 19 d35_16 (hw _ (List.mem_of_getElem? (i := 265) rfl)) (hw _ (List.mem_of_getElem? (i := 154) rfl)) (hw _ (List.mem_of_getElem? (i := 156) rfl)) (hw _ (List.mem_of_getElem? (i := 155) rfl)) (hw _ (List.mem_of_getElem? (i := 3) rfl)) (hw _ (List.mem_of_getElem? (i := 157) rfl)) pd_22 (Rc.new R.1) (spec_22 l Z a0 hw fr vb vb1 vb2 hm ac st on ti szz rs cnt ds de s o Vl V sz hval _ R tz t ht hts ht16) (fun v os1 hq => ?_)
  obtain ⟨rfl, rfl⟩ := hq
  refine W.aloadN K 20 d35_19 3 rfl rfl rfl ?_
  refine W.iload K 22 d35_20 rfl ?_
  refine W.iaload 0 K 23 d35_22 mk (by decide) rfl ?_
  refine W.icmp_eq K 28 26 d35_23 (fun h23 => ?_) (fun h23 => ?_)
  · refine W.iinc K 31 d35_28 (1 : Int32) (by decide) rfl (by repeat (first | apply setLS | exact setL0)) ?_
    refine W.goto K 3 d35_31 ?_
    refine W.iload K 5 d35_3 rfl ?_
    refine W.aloadN K 6 d35_5 2 rfl rfl rfl ?_
    refine W.arraylength (1 : Int32) K 7 d35_6 mc rfl ?_
    refine W.icmp_ge K 34 10 d35_7 (fun h7 => ?_) (fun h7 => False.elim (absurd h7 (by decide)))
    refine W.iconst K 35 d35_34 (1 : Int32) (by decide) ?_
    refine W.zreturn K d35_35 (Or.inr rfl) ⟨_, rfl, 1, rfl, rfl, fun _ => h23, fun _ => by decide⟩
  · refine W.iconst K 27 d35_26 (0 : Int32) (by decide) ?_
    refine W.zreturn K d35_27 (Or.inl rfl) ⟨_, rfl, 0, rfl, rfl, fun q => absurd rfl q, fun q => absurd q h23⟩
def own_TM (Z : State) (os : OS) (fr ac ti bk bk1 bk2 hf ba nx nx1 nx2 : Addr) (cz : Int32) (Bk Nx : Nat → Int32) (Bf : Nat → Int64) : Prop :=
  (ti, OBJ Z "com/example/pointfold/pointfold/datalog/TupleIndex" [("com/example/pointfold/pointfold/datalog/TupleIndex", "capacity", "I", .int 16), ("com/example/pointfold/pointfold/datalog/TupleIndex", "buckets", "Lcom/example/pointfold/pointfold/datalog/IntBlocks;", .ref bk), ("com/example/pointfold/pointfold/datalog/TupleIndex", "filter", "Lcom/example/pointfold/pointfold/datalog/HashFilter;", .ref hf), ("com/example/pointfold/pointfold/datalog/TupleIndex", "next", "Lcom/example/pointfold/pointfold/datalog/IntBlocks;", .ref nx), ("com/example/pointfold/pointfold/datalog/TupleIndex", "relation", "Lcom/example/pointfold/pointfold/datalog/FlatRelation;", .ref fr), ("com/example/pointfold/pointfold/datalog/TupleIndex", "columns", "[I", .ref ac), ("com/example/pointfold/pointfold/datalog/TupleIndex", "count", "I", .int cz)]) ∈ os ∧ (bk, OBJ Z "com/example/pointfold/pointfold/datalog/IntBlocks" [("com/example/pointfold/pointfold/datalog/IntBlocks", "blocks", "[[I", .ref bk1)]) ∈ os ∧ (bk1, ARR Z (.array .int) [.ref bk2]) ∈ os ∧ (bk2, ARR Z .int (AF Value.int 16 Bk)) ∈ os ∧ (nx, OBJ Z "com/example/pointfold/pointfold/datalog/IntBlocks" [("com/example/pointfold/pointfold/datalog/IntBlocks", "blocks", "[[I", .ref nx1)]) ∈ os ∧ (nx1, ARR Z (.array .int) [.ref nx2]) ∈ os ∧ (nx2, ARR Z .int (AF Value.int 16 Nx)) ∈ os ∧ (hf, OBJ Z "com/example/pointfold/pointfold/datalog/HashFilter" [("com/example/pointfold/pointfold/datalog/HashFilter", "bits", "[J", .ref ba), ("com/example/pointfold/pointfold/datalog/HashFilter", "mask", "J", .long 127)]) ∈ os ∧ (ba, ARR Z .long (AF Value.long 2 Bf)) ∈ os
set_option maxRecDepth 65536 in
set_option maxHeartbeats 40000000 in
theorem spec_34 (l : Launch) (Z : State) (a0 : Array Value) (hw : ∀ d ∈ tables_1, d.before a0 Z = true) (fr vb vb1 vb2 hm ac st on ti : Addr) (szz rs cnt ds de s o : Int32) (Vl V : Nat → Int32) (sz : Nat) (hval : own_val s cnt o Vl V sz) (os : OS) (R : own_RM Z os fr vb vb1 vb2 hm ac st on ti szz rs cnt ds de s o Vl) (bk bk1 bk2 hf ba nx nx1 nx2 : Addr) (cz : Int32) (Bk Nx : Nat → Int32) (Bf : Nat → Int64) (M : own_TM Z os fr ac ti bk bk1 bk2 hf ba nx nx1 nx2 cz Bk Nx Bf) (I : own_IX own_hb sz V Bk Nx) (hsz : sz ≤ 16) (ka : Addr) (w : Int32) (mk : (ka, ARR Z .int [.int w]) ∈ os) (m0 : Int32) (m : Nat) (hm0 : m0.toInt = (m : Int)) (hA : own_at own_hb sz V w m) : OMeets l Z (⟨"com/example/pointfold/pointfold/datalog/TupleIndex", "match", "(I[I)I"⟩ : MethodName) prog_55_method_5_code 4 (some .int) ({ frames := 3, cells := 0, slots := 0, locals := 44 } : Room) [(.ref ti), (.int m0), (.ref ka)] os (RetV fun v os' => ∃ r : Int32, v = .int r ∧ os' = os ∧ ((r.toInt < 0 ∧ ∀ t, t < sz → V t ≠ w) ∨ (0 ≤ r.toInt ∧ ∃ t, t < sz ∧ V t = w))) := by
  have e0 : (0 : Int32).toInt = 0 := by decide
  have e1 : (1 : Int32).toInt = 1 := by decide
  obtain ⟨t1, t2, t3, t4, t5, t6, t7, t8, t9⟩ := M
  refine OMeets.of_body [.val (.ref ti), .val (.int m0), .val (.ref ka), .unset] pn_34 (laid_eq _ _ rfl) ?_
  intro X K
  have L1 : ∀ (n m : Nat) (mz : Int32), m ≤ n → mz.toInt = (m : Int) → own_at own_hb sz V w m → WP X Z 0 0 (RetV fun v os' => ∃ r : Int32, v = .int r ∧ os' = os ∧ ((r.toInt < 0 ∧ ∀ t, t < sz → V t ≠ w) ∨ (0 ≤ r.toInt ∧ ∃ t, t < sz ∧ V t = w))) 2 [.val (.ref ti), .val (.int m0), .val (.ref ka), .val (.int mz)] [] os 0 0 := by
    intro n
    induction n with
    | zero =>
      intro m mz hmn hmz hA
      obtain rfl : m = 0 := by omega
      have q1 : (mz - 1).toInt = -1 := by rw [toInt_sub32 hmz e1 (by omega) (by omega)]; omega
      refine W.iloadN K 3 d34_2 3 rfl rfl ?_
      refine W.if_eq K 38 6 d34_3 (fun h3 => ?_) (fun h3 => False.elim (h3 (Int32.toInt_inj.mp (hmz.trans e0.symm))))
      refine W.iloadN K 39 d34_38 3 rfl rfl ?_
      refine W.iconst K 40 d34_39 (1 : Int32) (by decide) ?_
      refine W.isub K 41 d34_40 ?_
      refine W.ireturn K d34_41 ⟨_, rfl, _, rfl, rfl, Or.inl ⟨by omega, fun t ht => hA.2.2 t (by omega) ht⟩⟩
    | succ n ih =>
      intro m mz hmn hmz hA
      refine W.iloadN K 3 d34_2 3 rfl rfl ?_
      refine W.if_eq K 38 6 d34_3 (fun h3 => ?_) (fun h3 => ?_)
      · refine W.iloadN K 39 d34_38 3 rfl rfl ?_
        refine W.iconst K 40 d34_39 (1 : Int32) (by decide) ?_
        refine W.isub K 41 d34_40 ?_
        obtain rfl : m = 0 := by rw [h3, e0] at hmz; omega
        have q1 : (mz - 1).toInt = -1 := by rw [toInt_sub32 hmz e1 (by omega) (by omega)]; omega
        refine W.ireturn K d34_41 ⟨_, rfl, _, rfl, rfl, Or.inl ⟨by omega, fun t ht => hA.2.2 t (by omega) ht⟩⟩
      · obtain ⟨t, rfl⟩ : ∃ t, m = t + 1 := ⟨m - 1, by have : mz.toInt ≠ 0 := fun q => h3 (Int32.toInt_inj.mp (q.trans e0.symm)); omega⟩
        have hAm := hA.1
        have q1 : (mz - 1).toInt = (t : Int) := by rw [toInt_sub32 hmz e1 (by omega) (by omega)]; omega
        refine W.aloadN K 7 d34_6 0 rfl rfl rfl ?_
        refine W.getF K 10 d34_7 (hw _ (List.mem_of_getElem? (i := 96) rfl)) t1 (by repeat (first | exact List.mem_cons_self | apply List.mem_cons_of_mem)) ?_
        refine W.iloadN K 11 d34_10 3 rfl rfl ?_
        refine W.iconst K 12 d34_11 (1 : Int32) (by decide) ?_
        refine W.isub K 13 d34_12 ?_
        refine W.aloadN K 14 d34_13 0 rfl rfl rfl ?_
        refine W.getF K 17 d34_14 (hw _ (List.mem_of_getElem? (i := 98) rfl)) t1 (by repeat (first | exact List.mem_cons_self | apply List.mem_cons_of_mem)) ?_
        refine W.aloadN K 18 d34_17 2 rfl rfl rfl ?_
        refine W.callVv3 K 21 d34_18 (hw _ (List.mem_of_getElem? (i := 260) rfl)) (hw _ (List.mem_of_getElem? (i := 261) rfl)) (hw _ (List.mem_of_getElem? (i := 263) rfl)) (hw _ (List.mem_of_getElem? (i := 262) rfl)) (hw _ (List.mem_of_getElem? (i := 3) rfl)) (hw _ (List.mem_of_getElem? (i := 264) rfl)) pd_35 (Rc.new R.1) (spec_35 l Z a0 hw fr vb vb1 vb2 hm ac st on ti szz rs cnt ds de s o Vl V sz hval _ R _ t q1 (by have := hA.1; omega) (by have := hA.1; omega) ac ka w R.2.2.2.2.2.2 mk) (fun v os1 hq => ?_)
        obtain ⟨u, rfl, rfl, hu⟩ := hq
        refine W.if_ne K 38 24 d34_21 (fun h21 => ?_) (fun h21 => ?_)
        · refine W.iloadN K 39 d34_38 3 rfl rfl ?_
          refine W.iconst K 40 d34_39 (1 : Int32) (by decide) ?_
          refine W.isub K 41 d34_40 ?_
          refine W.ireturn K d34_41 ⟨_, rfl, _, rfl, rfl, Or.inr ⟨by omega, t, by have := hA.1; omega, hu.mp h21⟩⟩
        · obtain ⟨m2, g1, g2, g3⟩ := own_atS I hA (fun q => (hu.mpr q) h21)
          refine W.aloadN K 25 d34_24 0 rfl rfl rfl ?_
          refine W.getF K 28 d34_25 (hw _ (List.mem_of_getElem? (i := 94) rfl)) t1 (by repeat (first | exact List.mem_cons_self | apply List.mem_cons_of_mem)) ?_
          refine W.iloadN K 29 d34_28 3 rfl rfl ?_
          refine W.iconst K 30 d34_29 (1 : Int32) (by decide) ?_
          refine W.isub K 31 d34_30 ?_
          refine W.callVv1 K 34 d34_31 (hw _ (List.mem_of_getElem? (i := 158) rfl)) (hw _ (List.mem_of_getElem? (i := 159) rfl)) (hw _ (List.mem_of_getElem? (i := 161) rfl)) (hw _ (List.mem_of_getElem? (i := 160) rfl)) (hw _ (List.mem_of_getElem? (i := 17) rfl)) (hw _ (List.mem_of_getElem? (i := 162) rfl)) pd_23 (Rc.new t5) (spec_23 l Z a0 hw nx nx1 nx2 _ t q1 (by have := hA.1; omega) Nx _ t5 t6 t7) (fun v os1 hq => ?_)
          obtain ⟨rfl, rfl⟩ := hq
          refine W.istoreN K 35 d34_34 3 rfl rfl (by repeat (first | apply setLS | exact setL0)) ?_
          refine W.goto K 2 d34_35 ?_
          exact ih m2 _ (by omega) g1 g3
  refine W.iloadN K 1 d34_0 1 rfl rfl ?_
  refine W.istoreN K 2 d34_1 3 rfl rfl (by repeat (first | apply setLS | exact setL0)) ?_
  exact L1 m m m0 (Nat.le_refl _) hm0 hA
set_option maxRecDepth 65536 in
set_option maxHeartbeats 40000000 in
theorem spec_16 (l : Launch) (Z : State) (a0 : Array Value) (hw : ∀ d ∈ tables_1, d.before a0 Z = true) (fr vb vb1 vb2 hm ac st on ti : Addr) (szz rs cnt ds de s o : Int32) (Vl V : Nat → Int32) (sz : Nat) (hval : own_val s cnt o Vl V sz) (os : OS) (R : own_RM Z os fr vb vb1 vb2 hm ac st on ti szz rs cnt ds de s o Vl) (bk bk1 bk2 hf ba nx nx1 nx2 : Addr) (cz : Int32) (Bk Nx : Nat → Int32) (Bf : Nat → Int64) (M : own_TM Z os fr ac ti bk bk1 bk2 hf ba nx nx1 nx2 cz Bk Nx Bf) (I : own_IX own_hb sz V Bk Nx) (hsz : sz ≤ 16) (FI : own_FI (fun v => own_fw (own_h v)) (fun v => own_fb (own_h v)) sz V Bf) (ka : Addr) (w : Int32) (mk : (ka, ARR Z .int [.int w]) ∈ os) : OMeets l Z (⟨"com/example/pointfold/pointfold/datalog/TupleIndex", "find", "([I)I"⟩ : MethodName) prog_55_method_3_code 3 (some .int) ({ frames := 4, cells := 0, slots := 0, locals := 59 } : Room) [(.ref ti), (.ref ka)] os (RetV fun v os' => ∃ r : Int32, v = .int r ∧ os' = os ∧ ((r.toInt < 0 ∧ ∀ t, t < sz → V t ≠ w) ∨ (0 ≤ r.toInt ∧ ∃ t, t < sz ∧ V t = w))) := by
  have M0 := M
  obtain ⟨t1, t2, t3, t4, t5, t6, t7, t8, t9⟩ := M
  have hb := own_hb_eq w
  obtain ⟨m, hm1, hm2⟩ := own_at0 I w hb.2
  refine OMeets.of_body [.val (.ref ti), .val (.ref ka), .unset] pn_16 (laid_eq _ _ rfl) ?_
  intro X K
  refine W.aloadN K 1 d16_0 1 rfl rfl rfl ?_
  refine W.callSv1 K 4 d16_1 (hw _ (List.mem_of_getElem? (i := 130) rfl)) (hw _ (List.mem_of_getElem? (i := 131) rfl)) (hw _ (List.mem_of_getElem? (i := 61) rfl)) (hw _ (List.mem_of_getElem? (i := 132) rfl)) pd_17 (spec_17 l Z a0 hw ka w _ mk) (fun v os1 hq => ?_)
  obtain ⟨rfl, rfl⟩ := hq
  refine W.istoreN K 5 d16_4 2 rfl rfl (by repeat (first | apply setLS | exact setL0)) ?_
  refine W.aloadN K 6 d16_5 0 rfl rfl rfl ?_
  refine W.getF K 9 d16_6 (hw _ (List.mem_of_getElem? (i := 91) rfl)) t1 (by repeat (first | exact List.mem_cons_self | apply List.mem_cons_of_mem)) ?_
  refine W.iloadN K 10 d16_9 2 rfl rfl ?_
  refine W.callVv1 K 13 d16_10 (hw _ (List.mem_of_getElem? (i := 137) rfl)) (hw _ (List.mem_of_getElem? (i := 138) rfl)) (hw _ (List.mem_of_getElem? (i := 140) rfl)) (hw _ (List.mem_of_getElem? (i := 139) rfl)) (hw _ (List.mem_of_getElem? (i := 80) rfl)) (hw _ (List.mem_of_getElem? (i := 141) rfl)) pd_19 (Rc.new t8) (spec_19 l Z a0 hw hf ba _ Bf _ t8 t9) (fun v os1 hq => ?_)
  obtain ⟨u, rfl, rfl, hu⟩ := hq
  refine W.if_ne K 18 16 d16_13 (fun h13 => ?_) (fun h13 => ?_)
  · refine W.aloadN K 19 d16_18 0 rfl rfl rfl ?_
    refine W.aloadN K 20 d16_19 0 rfl rfl rfl ?_
    refine W.getF K 23 d16_20 (hw _ (List.mem_of_getElem? (i := 76) rfl)) t1 (by repeat (first | exact List.mem_cons_self | apply List.mem_cons_of_mem)) ?_
    refine W.iloadN K 24 d16_23 2 rfl rfl ?_
    refine W.aloadN K 25 d16_24 0 rfl rfl rfl ?_
    refine W.getF K 28 d16_25 (hw _ (List.mem_of_getElem? (i := 66) rfl)) t1 (by repeat (first | exact List.mem_cons_self | apply List.mem_cons_of_mem)) ?_
    refine W.iconst K 29 d16_28 (1 : Int32) (by decide) ?_
    refine W.isub K 30 d16_29 ?_
    refine W.iand K 31 d16_30 ?_
    rw [show (16 : Int32) - 1 = 15 by decide]
    refine W.callVv1 K 34 d16_31 (hw _ (List.mem_of_getElem? (i := 158) rfl)) (hw _ (List.mem_of_getElem? (i := 159) rfl)) (hw _ (List.mem_of_getElem? (i := 161) rfl)) (hw _ (List.mem_of_getElem? (i := 160) rfl)) (hw _ (List.mem_of_getElem? (i := 17) rfl)) (hw _ (List.mem_of_getElem? (i := 162) rfl)) pd_23 (Rc.new t2) (spec_23 l Z a0 hw bk bk1 bk2 _ (own_hb w) hb.1 hb.2 Bk _ t2 t3 t4) (fun v os1 hq => ?_)
    obtain ⟨rfl, rfl⟩ := hq
    refine W.aloadN K 35 d16_34 1 rfl rfl rfl ?_
    refine W.callPv (argsL := [.int (Bk (own_hb w)), .ref ka]) (S := []) K 38 d16_35 (hw _ (List.mem_of_getElem? (i := 256) rfl)) (hw _ (List.mem_of_getElem? (i := 257) rfl)) (hw _ (List.mem_of_getElem? (i := 258) rfl)) (hw _ (List.mem_of_getElem? (i := 60) rfl)) (hw _ (List.mem_of_getElem? (i := 61) rfl)) (hw _ (List.mem_of_getElem? (i := 259) rfl)) pd_34 (Rc.new t1) (spec_34 l Z a0 hw fr vb vb1 vb2 hm ac st on ti szz rs cnt ds de s o Vl V sz hval _ R bk bk1 bk2 hf ba nx nx1 nx2 cz Bk Nx Bf M0 I hsz ka w mk _ m hm1 hm2) (fun v os1 hq => ?_)
    obtain ⟨r, rfl, rfl, hr⟩ := hq
    refine W.ireturn K d16_38 ⟨_, rfl, r, rfl, rfl, hr⟩
  · refine W.iconst K 17 d16_16 (-1 : Int32) (by decide) ?_
    refine W.ireturn K d16_17 ⟨_, rfl, _, rfl, rfl, Or.inl ⟨by decide, fun t ht q => by have k := FI t ht; rw [q] at k; exact (hu.mpr k) h13⟩⟩
set_option maxRecDepth 65536 in
set_option maxHeartbeats 40000000 in
theorem spec_15 (l : Launch) (Z : State) (a0 : Array Value) (hw : ∀ d ∈ tables_1, d.before a0 Z = true) (fr vb vb1 vb2 hm ac st on ti : Addr) (szz rs cnt ds de s o : Int32) (Vl : Nat → Int32) (os : OS) (R : own_RM Z os fr vb vb1 vb2 hm ac st on ti szz rs cnt ds de s o Vl) : OMeets l Z (⟨"com/example/pointfold/pointfold/datalog/FlatRelation", "index", "([I)Lcom/example/pointfold/pointfold/datalog/TupleIndex;"⟩ : MethodName) prog_10_method_11_code 5 (some (.object "com/example/pointfold/pointfold/datalog/TupleIndex")) ({ frames := 0, cells := 0, slots := 0, locals := 0 } : Room) [(.ref fr), (.ref ac)] os (RetV fun v os' => v = .ref ti ∧ os' = os) := by
  refine OMeets.of_body [.val (.ref fr), .val (.ref ac), .unset, .unset, .unset] pn_15 (laid_eq _ _ rfl) ?_
  intro X K
  refine W.aloadN K 1 d15_0 1 rfl rfl rfl ?_
  refine W.arraylength (1 : Int32) K 2 d15_1 R.2.2.2.2.2.2 rfl ?_
  refine W.aloadN K 3 d15_2 0 rfl rfl rfl ?_
  refine W.getF K 6 d15_3 (hw _ (List.mem_of_getElem? (i := 47) rfl)) R.1 (by repeat (first | exact List.mem_cons_self | apply List.mem_cons_of_mem)) ?_
  refine W.icmp_ne K 61 9 d15_6 (fun h6 => False.elim (h6 rfl)) (fun h6 => ?_)
  refine W.aloadN K 10 d15_9 0 rfl rfl rfl ?_
  refine W.getF K 13 d15_10 (hw _ (List.mem_of_getElem? (i := 100) rfl)) R.1 (by repeat (first | exact List.mem_cons_self | apply List.mem_cons_of_mem)) ?_
  refine W.ifnonnullY K 56 d15_13 ?_
  refine W.aloadN K 57 d15_56 0 rfl rfl rfl ?_
  refine W.getF K 60 d15_57 (hw _ (List.mem_of_getElem? (i := 100) rfl)) R.1 (by repeat (first | exact List.mem_cons_self | apply List.mem_cons_of_mem)) ?_
  refine W.areturn K d15_60 ⟨_, rfl, rfl, rfl⟩
set_option maxRecDepth 65536 in
set_option maxHeartbeats 40000000 in
theorem spec_14 (l : Launch) (Z : State) (a0 : Array Value) (hw : ∀ d ∈ tables_1, d.before a0 Z = true) (fr vb vb1 vb2 hm ac st on ti : Addr) (szz rs cnt ds de s o : Int32) (Vl V : Nat → Int32) (sz : Nat) (hval : own_val s cnt o Vl V sz) (os : OS) (R : own_RM Z os fr vb vb1 vb2 hm ac st on ti szz rs cnt ds de s o Vl) (bk bk1 bk2 hf ba nx nx1 nx2 : Addr) (cz : Int32) (Bk Nx : Nat → Int32) (Bf : Nat → Int64) (M : own_TM Z os fr ac ti bk bk1 bk2 hf ba nx nx1 nx2 cz Bk Nx Bf) (I : own_IX own_hb sz V Bk Nx) (hsz : sz ≤ 16) (FI : own_FI (fun v => own_fw (own_h v)) (fun v => own_fb (own_h v)) sz V Bf) (ka : Addr) (w : Int32) (mk : (ka, ARR Z .int [.int w]) ∈ os) : OMeets l Z (⟨"com/example/pointfold/pointfold/datalog/FlatRelation", "contains", "([I)Z"⟩ : MethodName) prog_10_method_6_code 2 (some .boolean) ({ frames := 5, cells := 0, slots := 0, locals := 73 } : Room) [(.ref fr), (.ref ka)] os (RetV fun v os' => ∃ u : Int32, v = .int u ∧ os' = os ∧ (u ≠ 0 ↔ ∃ t, t < sz ∧ V t = w)) := by
  refine OMeets.of_body [.val (.ref fr), .val (.ref ka)] pn_14 (laid_eq _ _ rfl) ?_
  intro X K
  refine W.aloadN K 1 d14_0 0 rfl rfl rfl ?_
  refine W.aloadN K 2 d14_1 0 rfl rfl rfl ?_
  refine W.getF K 5 d14_2 (hw _ (List.mem_of_getElem? (i := 49) rfl)) R.1 (by repeat (first | exact List.mem_cons_self | apply List.mem_cons_of_mem)) ?_
  refine W.callPv (argsL := [.ref ac]) (S := []) K 8 d14_5 (hw _ (List.mem_of_getElem? (i := 121) rfl)) (hw _ (List.mem_of_getElem? (i := 122) rfl)) (hw _ (List.mem_of_getElem? (i := 123) rfl)) (hw _ (List.mem_of_getElem? (i := 2) rfl)) (hw _ (List.mem_of_getElem? (i := 3) rfl)) (hw _ (List.mem_of_getElem? (i := 124) rfl)) pd_15 (Rc.new R.1) (spec_15 l Z a0 hw fr vb vb1 vb2 hm ac st on ti szz rs cnt ds de s o Vl _ R) (fun v os1 hq => ?_)
  obtain ⟨rfl, rfl⟩ := hq
  refine W.aloadN K 9 d14_8 1 rfl rfl rfl ?_
  refine W.callVv1 K 12 d14_9 (hw _ (List.mem_of_getElem? (i := 125) rfl)) (hw _ (List.mem_of_getElem? (i := 126) rfl)) (hw _ (List.mem_of_getElem? (i := 128) rfl)) (hw _ (List.mem_of_getElem? (i := 127) rfl)) (hw _ (List.mem_of_getElem? (i := 61) rfl)) (hw _ (List.mem_of_getElem? (i := 129) rfl)) pd_16 (Rc.new M.1) (spec_16 l Z a0 hw fr vb vb1 vb2 hm ac st on ti szz rs cnt ds de s o Vl V sz hval _ R bk bk1 bk2 hf ba nx nx1 nx2 cz Bk Nx Bf M I hsz FI ka w mk) (fun v os1 hq => ?_)
  obtain ⟨r, rfl, rfl, hr⟩ := hq
  refine W.if_lt K 19 15 d14_12 (fun h12 => ?_) (fun h12 => ?_)
  · refine W.iconst K 20 d14_19 (0 : Int32) (by decide) ?_
    refine W.zreturn K d14_20 (Or.inl rfl) ⟨_, rfl, 0, rfl, rfl, fun q => absurd rfl q, fun ⟨t, ht, e⟩ => by rcases hr with hr | hr; exact absurd e (hr.2 t ht); omega⟩
  · refine W.iconst K 16 d14_15 (1 : Int32) (by decide) ?_
    refine W.goto K 20 d14_16 ?_
    refine W.zreturn K d14_20 (Or.inr rfl) ⟨_, rfl, 1, rfl, rfl, fun _ => by rcases hr with hr | hr; omega; exact hr.2, fun _ => by decide⟩
set_option maxRecDepth 65536 in
set_option maxHeartbeats 40000000 in
theorem spec_21 (l : Launch) (Z : State) (a0 : Array Value) (hw : ∀ d ∈ tables_1, d.before a0 Z = true) (fr vb vb1 vb2 hm ac st on ti : Addr) (szz rs cnt ds de s o : Int32) (Vl V : Nat → Int32) (sz : Nat) (hval : own_val s cnt o Vl V sz) (rest : OS) (R : own_RM Z rest fr vb vb1 vb2 hm ac st on ti szz rs cnt ds de s o Vl) (bk bk1 bk2 hf ba nx nx1 nx2 : Addr) (cz : Int32) (Bk Nx : Nat → Int32) (Bf : Nat → Int64) (tz : Int32) (t : Nat) (ht : tz.toInt = (t : Int)) (hts : t < sz) (ht16 : t < 16) (n1 : (ti, OBJ Z "com/example/pointfold/pointfold/datalog/TupleIndex" [("com/example/pointfold/pointfold/datalog/TupleIndex", "capacity", "I", .int 16), ("com/example/pointfold/pointfold/datalog/TupleIndex", "buckets", "Lcom/example/pointfold/pointfold/datalog/IntBlocks;", .ref bk), ("com/example/pointfold/pointfold/datalog/TupleIndex", "filter", "Lcom/example/pointfold/pointfold/datalog/HashFilter;", .ref hf), ("com/example/pointfold/pointfold/datalog/TupleIndex", "next", "Lcom/example/pointfold/pointfold/datalog/IntBlocks;", .ref nx), ("com/example/pointfold/pointfold/datalog/TupleIndex", "relation", "Lcom/example/pointfold/pointfold/datalog/FlatRelation;", .ref fr), ("com/example/pointfold/pointfold/datalog/TupleIndex", "columns", "[I", .ref ac), ("com/example/pointfold/pointfold/datalog/TupleIndex", "count", "I", .int cz)]) ∈ rest) (n2 : (bk, OBJ Z "com/example/pointfold/pointfold/datalog/IntBlocks" [("com/example/pointfold/pointfold/datalog/IntBlocks", "blocks", "[[I", .ref bk1)]) ∈ rest) (n3 : (bk1, ARR Z (.array .int) [.ref bk2]) ∈ rest) (n5 : (nx, OBJ Z "com/example/pointfold/pointfold/datalog/IntBlocks" [("com/example/pointfold/pointfold/datalog/IntBlocks", "blocks", "[[I", .ref nx1)]) ∈ rest) (n6 : (nx1, ARR Z (.array .int) [.ref nx2]) ∈ rest) (n8 : (hf, OBJ Z "com/example/pointfold/pointfold/datalog/HashFilter" [("com/example/pointfold/pointfold/datalog/HashFilter", "bits", "[J", .ref ba), ("com/example/pointfold/pointfold/datalog/HashFilter", "mask", "J", .long 127)]) ∈ rest) : OMeets l Z (⟨"com/example/pointfold/pointfold/datalog/TupleIndex", "link", "(I)V"⟩ : MethodName) prog_55_method_6_code 7 none ({ frames := 2, cells := 0, slots := 0, locals := 29 } : Room) [(.ref ti), (.int tz)] ((nx2, ARR Z .int (AF Value.int 16 Nx)) :: (bk2, ARR Z .int (AF Value.int 16 Bk)) :: (ba, ARR Z .long (AF Value.long 2 Bf)) :: rest) (RetN fun os' => os' = (nx2, ARR Z .int (AF Value.int 16 (updA Nx t (Bk (own_hb (V t)))))) :: (bk2, ARR Z .int (AF Value.int 16 (updA Bk (own_hb (V t)) (tz + 1)))) :: (ba, ARR Z .long (AF Value.long 2 (updA Bf (own_fw (own_h (V t))) (Bf (own_fw (own_h (V t))) ||| own_fb (own_h (V t)))))) :: rest) := by
  have hb := own_hb_eq (V t)
  refine OMeets.of_body [.val (.ref ti), .val (.int tz), .unset, .unset, .unset, .unset, .unset] pn_21 (laid_eq _ _ rfl) ?_
  intro X K
  refine W.iconst K 1 d21_0 (1 : Int32) (by decide) ?_
  refine W.istoreN K 2 d21_1 2 rfl rfl (by repeat (first | apply setLS | exact setL0)) ?_
  refine W.aloadN K 3 d21_2 0 rfl rfl rfl ?_
  refine W.getF K 6 d21_3 (hw _ (List.mem_of_getElem? (i := 98) rfl)) (by repeat (first | exact n1 | apply List.mem_cons_of_mem)) (by repeat (first | exact List.mem_cons_self | apply List.mem_cons_of_mem)) ?_
  refine W.astoreN K 7 d21_6 3 rfl rfl rfl (by repeat (first | apply setLS | exact setL0)) ?_
  refine W.aloadN K 8 d21_7 3 rfl rfl rfl ?_
  refine W.arraylength (1 : Int32) K 9 d21_8 (by repeat (first | exact R.2.2.2.2.2.2 | apply List.mem_cons_of_mem)) rfl ?_
  refine W.istore K 11 d21_9 rfl (by repeat (first | apply setLS | exact setL0)) ?_
  refine W.iconst K 12 d21_11 (0 : Int32) (by decide) ?_
  refine W.istore K 14 d21_12 rfl (by repeat (first | apply setLS | exact setL0)) ?_
  refine W.iload K 16 d21_14 rfl ?_
  refine W.iload K 18 d21_16 rfl ?_
  refine W.icmp_ge K 48 21 d21_18 (fun h18 => False.elim (absurd h18 (by decide))) (fun h18 => ?_)
  refine W.aloadN K 22 d21_21 3 rfl rfl rfl ?_
  refine W.iload K 24 d21_22 rfl ?_
  refine W.iaload 0 K 25 d21_24 (by repeat (first | exact R.2.2.2.2.2.2 | apply List.mem_cons_of_mem)) (by decide) rfl ?_
  refine W.istore K 27 d21_25 rfl (by repeat (first | apply setLS | exact setL0)) ?_
  refine W.iloadN K 28 d21_27 2 rfl rfl ?_
  refine W.aloadN K 29 d21_28 0 rfl rfl rfl ?_
  refine W.getF K 32 d21_29 (hw _ (List.mem_of_getElem? (i := 96) rfl)) (by repeat (first | exact n1 | apply List.mem_cons_of_mem)) (by repeat (first | exact List.mem_cons_self | apply List.mem_cons_of_mem)) ?_
  refine W.iloadN K 33 d21_32 1 rfl rfl ?_
  refine W.iload K 35 d21_33 rfl ?_
  refine W.callVv2 K 38 d21_35 (hw _ (List.mem_of_getElem? (i := 153) rfl)) (hw _ (List.mem_of_getElem? (i := 154) rfl)) (hw _ (List.mem_of_getElem? (i := 156) rfl)) (hw _ (List.mem_of_getElem? (i := 155) rfl)) (hw _ (List.mem_of_getElem? (i := 3) rfl)) (hw _ (List.mem_of_getElem? (i := 157) rfl)) pd_22 (Rc.new (by repeat (first | exact R.1 | apply List.mem_cons_of_mem))) (spec_22 l Z a0 hw fr vb vb1 vb2 hm ac st on ti szz rs cnt ds de s o Vl V sz hval _ (R.mono (fun x hx => by repeat (first | exact hx | apply List.mem_cons_of_mem))) tz t ht hts ht16) (fun v os1 hq => ?_)
  obtain ⟨rfl, rfl⟩ := hq
  refine W.callSv2 K 41 d21_38 (hw _ (List.mem_of_getElem? (i := 133) rfl)) (hw _ (List.mem_of_getElem? (i := 134) rfl)) (hw _ (List.mem_of_getElem? (i := 10) rfl)) (hw _ (List.mem_of_getElem? (i := 135) rfl)) pd_18 (spec_18 l Z a0 hw _ _ _) (fun v os1 hq => ?_)
  obtain ⟨rfl, rfl⟩ := hq
  refine W.istoreN K 42 d21_41 2 rfl rfl (by repeat (first | apply setLS | exact setL0)) ?_
  refine W.iinc K 45 d21_42 (1 : Int32) (by decide) rfl (by repeat (first | apply setLS | exact setL0)) ?_
  refine W.goto K 14 d21_45 ?_
  refine W.iload K 16 d21_14 rfl ?_
  refine W.iload K 18 d21_16 rfl ?_
  refine W.icmp_ge K 48 21 d21_18 (fun h18 => ?_) (fun h18 => False.elim (absurd h18 (by decide)))
  refine W.iloadN K 49 d21_48 2 rfl rfl ?_
  refine W.aloadN K 50 d21_49 0 rfl rfl rfl ?_
  refine W.getF K 53 d21_50 (hw _ (List.mem_of_getElem? (i := 66) rfl)) (by repeat (first | exact n1 | apply List.mem_cons_of_mem)) (by repeat (first | exact List.mem_cons_self | apply List.mem_cons_of_mem)) ?_
  refine W.iconst K 54 d21_53 (1 : Int32) (by decide) ?_
  refine W.isub K 55 d21_54 ?_
  refine W.iand K 56 d21_55 ?_
  rw [show (16 : Int32) - 1 = 15 by decide]
  change WP X Z _ _ _ _ _ [.int (own_h (V t) &&& 15)] _ _ _
  refine W.istoreN K 57 d21_56 3 rfl rfl (by repeat (first | apply setLS | exact setL0)) ?_
  refine W.aloadN K 58 d21_57 0 rfl rfl rfl ?_
  refine W.getF K 61 d21_58 (hw _ (List.mem_of_getElem? (i := 94) rfl)) (by repeat (first | exact n1 | apply List.mem_cons_of_mem)) (by repeat (first | exact List.mem_cons_self | apply List.mem_cons_of_mem)) ?_
  refine W.iloadN K 62 d21_61 1 rfl rfl ?_
  refine W.aloadN K 63 d21_62 0 rfl rfl rfl ?_
  refine W.getF K 66 d21_63 (hw _ (List.mem_of_getElem? (i := 76) rfl)) (by repeat (first | exact n1 | apply List.mem_cons_of_mem)) (by repeat (first | exact List.mem_cons_self | apply List.mem_cons_of_mem)) ?_
  refine W.iloadN K 67 d21_66 3 rfl rfl ?_
  refine W.callVv1 K 70 d21_67 (hw _ (List.mem_of_getElem? (i := 158) rfl)) (hw _ (List.mem_of_getElem? (i := 159) rfl)) (hw _ (List.mem_of_getElem? (i := 161) rfl)) (hw _ (List.mem_of_getElem? (i := 160) rfl)) (hw _ (List.mem_of_getElem? (i := 17) rfl)) (hw _ (List.mem_of_getElem? (i := 162) rfl)) pd_23 (Rc.new (by repeat (first | exact n2 | apply List.mem_cons_of_mem))) (spec_23 l Z a0 hw bk bk1 bk2 _ (own_hb (V t)) hb.1 hb.2 Bk _ (by repeat (first | exact n2 | apply List.mem_cons_of_mem)) (by repeat (first | exact n3 | apply List.mem_cons_of_mem)) (by repeat (first | exact List.mem_cons_self | apply List.mem_cons_of_mem))) (fun v os1 hq => ?_)
  obtain ⟨rfl, rfl⟩ := hq
  refine W.callVn2 K 73 d21_70 (hw _ (List.mem_of_getElem? (i := 164) rfl)) (hw _ (List.mem_of_getElem? (i := 165) rfl)) (hw _ (List.mem_of_getElem? (i := 167) rfl)) (hw _ (List.mem_of_getElem? (i := 166) rfl)) (hw _ (List.mem_of_getElem? (i := 17) rfl)) (hw _ (List.mem_of_getElem? (i := 168) rfl)) pd_24 (Rc.new (by repeat (first | exact n5 | apply List.mem_cons_of_mem))) (spec_24 l Z a0 hw nx nx1 nx2 _ _ t ht ht16 Nx _ (by repeat (first | exact n5 | apply List.mem_cons_of_mem)) (by repeat (first | exact n6 | apply List.mem_cons_of_mem))) (fun os1 hq => ?_)
  obtain rfl := hq
  refine W.aloadN K 74 d21_73 0 rfl rfl rfl ?_
  refine W.getF K 77 d21_74 (hw _ (List.mem_of_getElem? (i := 76) rfl)) (by repeat (first | exact n1 | apply List.mem_cons_of_mem)) (by repeat (first | exact List.mem_cons_self | apply List.mem_cons_of_mem)) ?_
  refine W.iloadN K 78 d21_77 3 rfl rfl ?_
  refine W.iloadN K 79 d21_78 1 rfl rfl ?_
  refine W.iconst K 80 d21_79 (1 : Int32) (by decide) ?_
  refine W.iadd K 81 d21_80 ?_
  refine WP.pick bk2 (by repeat (first | exact pickHere | apply pickThere)) ?_
  refine W.callVn2 K 84 d21_81 (hw _ (List.mem_of_getElem? (i := 164) rfl)) (hw _ (List.mem_of_getElem? (i := 165) rfl)) (hw _ (List.mem_of_getElem? (i := 167) rfl)) (hw _ (List.mem_of_getElem? (i := 166) rfl)) (hw _ (List.mem_of_getElem? (i := 17) rfl)) (hw _ (List.mem_of_getElem? (i := 168) rfl)) pd_24 (Rc.new (by repeat (first | exact n2 | apply List.mem_cons_of_mem))) (spec_24 l Z a0 hw bk bk1 bk2 _ _ (own_hb (V t)) hb.1 hb.2 Bk _ (by repeat (first | exact n2 | apply List.mem_cons_of_mem)) (by repeat (first | exact n3 | apply List.mem_cons_of_mem))) (fun os1 hq => ?_)
  obtain rfl := hq
  refine W.aloadN K 85 d21_84 0 rfl rfl rfl ?_
  refine W.getF K 88 d21_85 (hw _ (List.mem_of_getElem? (i := 91) rfl)) (by repeat (first | exact n1 | apply List.mem_cons_of_mem)) (by repeat (first | exact List.mem_cons_self | apply List.mem_cons_of_mem)) ?_
  refine W.iloadN K 89 d21_88 2 rfl rfl ?_
  refine WP.pick ba (by repeat (first | exact pickHere | apply pickThere)) ?_
  refine W.callVn1 K 92 d21_89 (hw _ (List.mem_of_getElem? (i := 169) rfl)) (hw _ (List.mem_of_getElem? (i := 170) rfl)) (hw _ (List.mem_of_getElem? (i := 172) rfl)) (hw _ (List.mem_of_getElem? (i := 171) rfl)) (hw _ (List.mem_of_getElem? (i := 80) rfl)) (hw _ (List.mem_of_getElem? (i := 173) rfl)) pd_25 (Rc.new (by repeat (first | exact n8 | apply List.mem_cons_of_mem))) (spec_25 l Z a0 hw hf ba _ Bf _ (by repeat (first | exact n8 | apply List.mem_cons_of_mem))) (fun os1 hq => ?_)
  obtain rfl := hq
  refine WP.pick ba (by repeat (first | exact pickHere | apply pickThere)) ?_
  refine WP.pick bk2 (by repeat (first | exact pickHere | apply pickThere)) ?_
  refine WP.pick nx2 (by repeat (first | exact pickHere | apply pickThere)) ?_
  exact W.return K d21_92 ⟨rfl, rfl⟩
set_option maxRecDepth 65536 in
set_option maxHeartbeats 40000000 in
theorem spec_20 (l : Launch) (Z : State) (a0 : Array Value) (hw : ∀ d ∈ tables_1, d.before a0 Z = true) (fr vb vb1 vb2 hm ac st on ti : Addr) (szz rs cnt ds de s o : Int32) (Vl V : Nat → Int32) (sz : Nat) (hval : own_val s cnt o Vl V sz) (rest : OS) (R : own_RM Z rest fr vb vb1 vb2 hm ac st on ti szz rs cnt ds de s o Vl) (bk bk1 bk2 hf ba nx nx1 nx2 : Addr) (cz : Int32) (Bk Nx : Nat → Int32) (Bf : Nat → Int64) (tz : Int32) (t : Nat) (ht : tz.toInt = (t : Int)) (hts : t < sz) (ht16 : t < 16) (c : Nat) (hc : cz.toInt = (c : Int)) (hc16 : c < 16) (n2 : (bk, OBJ Z "com/example/pointfold/pointfold/datalog/IntBlocks" [("com/example/pointfold/pointfold/datalog/IntBlocks", "blocks", "[[I", .ref bk1)]) ∈ rest) (n3 : (bk1, ARR Z (.array .int) [.ref bk2]) ∈ rest) (n5 : (nx, OBJ Z "com/example/pointfold/pointfold/datalog/IntBlocks" [("com/example/pointfold/pointfold/datalog/IntBlocks", "blocks", "[[I", .ref nx1)]) ∈ rest) (n6 : (nx1, ARR Z (.array .int) [.ref nx2]) ∈ rest) (n8 : (hf, OBJ Z "com/example/pointfold/pointfold/datalog/HashFilter" [("com/example/pointfold/pointfold/datalog/HashFilter", "bits", "[J", .ref ba), ("com/example/pointfold/pointfold/datalog/HashFilter", "mask", "J", .long 127)]) ∈ rest) : OMeets l Z (⟨"com/example/pointfold/pointfold/datalog/TupleIndex", "add", "(I)V"⟩ : MethodName) prog_55_method_2_code 2 none ({ frames := 3, cells := 0, slots := 0, locals := 47 } : Room) [(.ref ti), (.int tz)] ((ti, OBJ Z "com/example/pointfold/pointfold/datalog/TupleIndex" [("com/example/pointfold/pointfold/datalog/TupleIndex", "capacity", "I", .int 16), ("com/example/pointfold/pointfold/datalog/TupleIndex", "buckets", "Lcom/example/pointfold/pointfold/datalog/IntBlocks;", .ref bk), ("com/example/pointfold/pointfold/datalog/TupleIndex", "filter", "Lcom/example/pointfold/pointfold/datalog/HashFilter;", .ref hf), ("com/example/pointfold/pointfold/datalog/TupleIndex", "next", "Lcom/example/pointfold/pointfold/datalog/IntBlocks;", .ref nx), ("com/example/pointfold/pointfold/datalog/TupleIndex", "relation", "Lcom/example/pointfold/pointfold/datalog/FlatRelation;", .ref fr), ("com/example/pointfold/pointfold/datalog/TupleIndex", "columns", "[I", .ref ac), ("com/example/pointfold/pointfold/datalog/TupleIndex", "count", "I", .int cz)]) :: (nx2, ARR Z .int (AF Value.int 16 Nx)) :: (bk2, ARR Z .int (AF Value.int 16 Bk)) :: (ba, ARR Z .long (AF Value.long 2 Bf)) :: rest) (RetN fun os' => os' = (ti, OBJ Z "com/example/pointfold/pointfold/datalog/TupleIndex" [("com/example/pointfold/pointfold/datalog/TupleIndex", "capacity", "I", .int 16), ("com/example/pointfold/pointfold/datalog/TupleIndex", "buckets", "Lcom/example/pointfold/pointfold/datalog/IntBlocks;", .ref bk), ("com/example/pointfold/pointfold/datalog/TupleIndex", "filter", "Lcom/example/pointfold/pointfold/datalog/HashFilter;", .ref hf), ("com/example/pointfold/pointfold/datalog/TupleIndex", "next", "Lcom/example/pointfold/pointfold/datalog/IntBlocks;", .ref nx), ("com/example/pointfold/pointfold/datalog/TupleIndex", "relation", "Lcom/example/pointfold/pointfold/datalog/FlatRelation;", .ref fr), ("com/example/pointfold/pointfold/datalog/TupleIndex", "columns", "[I", .ref ac), ("com/example/pointfold/pointfold/datalog/TupleIndex", "count", "I", .int (cz + 1))]) :: (nx2, ARR Z .int (AF Value.int 16 (updA Nx t (Bk (own_hb (V t)))))) :: (bk2, ARR Z .int (AF Value.int 16 (updA Bk (own_hb (V t)) (tz + 1)))) :: (ba, ARR Z .long (AF Value.long 2 (updA Bf (own_fw (own_h (V t))) (Bf (own_fw (own_h (V t))) ||| own_fb (own_h (V t)))))) :: rest) := by
  have e16 : (16 : Int32).toInt = 16 := by decide
  refine OMeets.of_body [.val (.ref ti), .val (.int tz)] pn_20 (laid_eq _ _ rfl) ?_
  intro X K
  refine W.aloadN K 1 d20_0 0 rfl rfl rfl ?_
  refine W.getF K 4 d20_1 (hw _ (List.mem_of_getElem? (i := 147) rfl)) (by repeat (first | exact List.mem_cons_self | apply List.mem_cons_of_mem)) (by repeat (first | exact List.mem_cons_self | apply List.mem_cons_of_mem)) ?_
  refine W.aloadN K 5 d20_4 0 rfl rfl rfl ?_
  refine W.getF K 8 d20_5 (hw _ (List.mem_of_getElem? (i := 66) rfl)) (by repeat (first | exact List.mem_cons_self | apply List.mem_cons_of_mem)) (by repeat (first | exact List.mem_cons_self | apply List.mem_cons_of_mem)) ?_
  refine W.icmp_ne K 21 11 d20_8 (fun h8 => ?_) (fun h8 => False.elim (by rw [h8] at hc; omega))
  refine W.aloadN K 22 d20_21 0 rfl rfl rfl ?_
  refine W.iloadN K 23 d20_22 1 rfl rfl ?_
  refine WP.pick ba (by repeat (first | exact pickHere | apply pickThere)) ?_
  refine WP.pick bk2 (by repeat (first | exact pickHere | apply pickThere)) ?_
  refine WP.pick nx2 (by repeat (first | exact pickHere | apply pickThere)) ?_
  refine W.callPn (argsL := [.int tz]) (S := []) K 26 d20_23 (hw _ (List.mem_of_getElem? (i := 149) rfl)) (hw _ (List.mem_of_getElem? (i := 150) rfl)) (hw _ (List.mem_of_getElem? (i := 151) rfl)) (hw _ (List.mem_of_getElem? (i := 60) rfl)) (hw _ (List.mem_of_getElem? (i := 61) rfl)) (hw _ (List.mem_of_getElem? (i := 152) rfl)) pd_21 (Rc.new (by repeat (first | exact List.mem_cons_self | apply List.mem_cons_of_mem))) (spec_21 l Z a0 hw fr vb vb1 vb2 hm ac st on ti szz rs cnt ds de s o Vl V sz hval _ (R.mono (fun x hx => List.mem_cons_of_mem _ hx)) bk bk1 bk2 hf ba nx nx1 nx2 cz Bk Nx Bf tz t ht hts ht16 List.mem_cons_self (List.mem_cons_of_mem _ n2) (List.mem_cons_of_mem _ n3) (List.mem_cons_of_mem _ n5) (List.mem_cons_of_mem _ n6) (List.mem_cons_of_mem _ n8)) (fun os1 hq => ?_)
  obtain rfl := hq
  refine W.aloadN K 27 d20_26 0 rfl rfl rfl ?_
  refine W.dup K 28 d20_27 ?_
  refine W.getF K 31 d20_28 (hw _ (List.mem_of_getElem? (i := 147) rfl)) (by repeat (first | exact List.mem_cons_self | apply List.mem_cons_of_mem)) (by repeat (first | exact List.mem_cons_self | apply List.mem_cons_of_mem)) ?_
  refine W.iconst K 32 d20_31 (1 : Int32) (by decide) ?_
  refine W.iadd K 33 d20_32 ?_
  refine W.putF (ty := .int) K 36 d20_33 (hw _ (List.mem_of_getElem? (i := 147) rfl)) (hw _ (List.mem_of_getElem? (i := 148) rfl)) (hw _ (List.mem_of_getElem? (i := 60) rfl)) (by decide +kernel) (by repeat (first | exact Upd.here | apply Upd.there)) (by repeat (first | exact UpdF.here | apply UpdF.there)) ?_
  refine WP.pick ti (by repeat (first | exact pickHere | apply pickThere)) ?_
  exact W.return K d20_36 ⟨rfl, rfl⟩
set_option maxRecDepth 65536 in
set_option maxHeartbeats 40000000 in
theorem spec_33 (l : Launch) (Z : State) (a0 : Array Value) (hw : ∀ d ∈ tables_1, d.before a0 Z = true) (fr vb vb1 vb2 hm ac st on ti : Addr) (rs ds de o : Int32) (rest : OS) (mo : (on, ARR Z .int [.int o]) ∈ rest) : OMeets l Z (⟨"com/example/pointfold/pointfold/datalog/FlatRelation", "store", "(I)V"⟩ : MethodName) prog_10_method_9_code 6 none ({ frames := 2, cells := 3, slots := 18, locals := 30 } : Room) [(.ref fr), (.int 0)] ((fr, OBJ Z "com/example/pointfold/pointfold/datalog/FlatRelation" [("com/example/pointfold/pointfold/datalog/FlatRelation", "values", "Lcom/example/pointfold/pointfold/datalog/IntBlocks;", .ref vb), ("com/example/pointfold/pointfold/datalog/FlatRelation", "indexes", "Ljava/util/Map;", .ref hm), ("com/example/pointfold/pointfold/datalog/FlatRelation", "arity", "I", .int 1), ("com/example/pointfold/pointfold/datalog/FlatRelation", "allColumns", "[I", .ref ac), ("com/example/pointfold/pointfold/datalog/FlatRelation", "stored", "[I", .ref st), ("com/example/pointfold/pointfold/datalog/FlatRelation", "only", "[I", .ref on), ("com/example/pointfold/pointfold/datalog/FlatRelation", "unique", "Lcom/example/pointfold/pointfold/datalog/TupleIndex;", .ref ti), ("com/example/pointfold/pointfold/datalog/FlatRelation", "size", "I", .int 1), ("com/example/pointfold/pointfold/datalog/FlatRelation", "roundStart", "I", .int rs), ("com/example/pointfold/pointfold/datalog/FlatRelation", "storedCount", "I", .int 0), ("com/example/pointfold/pointfold/datalog/FlatRelation", "deltaStart", "I", .int ds), ("com/example/pointfold/pointfold/datalog/FlatRelation", "deltaEnd", "I", .int de)]) :: (st, ARR Z .int [.int (-1)]) :: rest) (RetN fun os' => ∃ nb n1 n2 : Addr, os' = (fr, OBJ Z "com/example/pointfold/pointfold/datalog/FlatRelation" [("com/example/pointfold/pointfold/datalog/FlatRelation", "values", "Lcom/example/pointfold/pointfold/datalog/IntBlocks;", .ref nb), ("com/example/pointfold/pointfold/datalog/FlatRelation", "indexes", "Ljava/util/Map;", .ref hm), ("com/example/pointfold/pointfold/datalog/FlatRelation", "arity", "I", .int 1), ("com/example/pointfold/pointfold/datalog/FlatRelation", "allColumns", "[I", .ref ac), ("com/example/pointfold/pointfold/datalog/FlatRelation", "stored", "[I", .ref st), ("com/example/pointfold/pointfold/datalog/FlatRelation", "only", "[I", .ref on), ("com/example/pointfold/pointfold/datalog/FlatRelation", "unique", "Lcom/example/pointfold/pointfold/datalog/TupleIndex;", .ref ti), ("com/example/pointfold/pointfold/datalog/FlatRelation", "size", "I", .int 1), ("com/example/pointfold/pointfold/datalog/FlatRelation", "roundStart", "I", .int rs), ("com/example/pointfold/pointfold/datalog/FlatRelation", "storedCount", "I", .int 1), ("com/example/pointfold/pointfold/datalog/FlatRelation", "deltaStart", "I", .int ds), ("com/example/pointfold/pointfold/datalog/FlatRelation", "deltaEnd", "I", .int de)]) :: (st, ARR Z .int [.int 0]) :: (n2, ARR Z .int (AF Value.int 16 (updA (fun _ => 0) 0 o))) :: (nb, OBJ Z "com/example/pointfold/pointfold/datalog/IntBlocks" [("com/example/pointfold/pointfold/datalog/IntBlocks", "blocks", "[[I", .ref n1)]) :: (n1, ARR Z (.array .int) [.ref n2]) :: rest) := by
  refine OMeets.of_body [.val (.ref fr), .val (.int 0), .unset, .unset, .unset, .unset] pn_33 (laid_eq _ _ rfl) ?_
  intro X K
  refine W.new [("com/example/pointfold/pointfold/datalog/IntBlocks", "blocks", "[[I", .null)] K 3 d33_0 (hw _ (List.mem_of_getElem? (i := 15) rfl)) (hw _ (List.mem_of_getElem? (i := 16) rfl)) (hw _ (List.mem_of_getElem? (i := 17) rfl)) ⟨⟨Or.inl (hw _ (List.mem_of_getElem? (i := 26) rfl)), (.array (.array .int)), by decide +kernel, rfl⟩, trivial⟩ (fun b0 => ?_)
  refine W.dup K 4 d33_3 ?_
  refine W.callIn0 K 7 d33_4 (hw _ (List.mem_of_getElem? (i := 18) rfl)) (hw _ (List.mem_of_getElem? (i := 19) rfl)) (hw _ (List.mem_of_getElem? (i := 17) rfl)) (hw _ (List.mem_of_getElem? (i := 20) rfl)) pd_4 (spec_4 l Z a0 hw _ _ _) (fun os1 hq => ?_)
  obtain ⟨n1, n2, rfl⟩ := hq
  refine W.astoreN K 8 d33_7 2 rfl rfl rfl (by repeat (first | apply setLS | exact setL0)) ?_
  refine W.aloadN K 9 d33_8 0 rfl rfl rfl ?_
  refine W.getF K 12 d33_9 (hw _ (List.mem_of_getElem? (i := 252) rfl)) (by repeat (first | exact List.mem_cons_self | apply List.mem_cons_of_mem)) (by repeat (first | exact List.mem_cons_self | apply List.mem_cons_of_mem)) ?_
  refine W.iconst K 13 d33_12 (1 : Int32) (by decide) ?_
  refine W.iadd K 14 d33_13 ?_
  refine W.istoreN K 15 d33_14 3 rfl rfl (by repeat (first | apply setLS | exact setL0)) ?_
  refine W.iconst K 16 d33_15 (0 : Int32) (by decide) ?_
  refine W.istore K 18 d33_16 rfl (by repeat (first | apply setLS | exact setL0)) ?_
  refine W.iload K 20 d33_18 rfl ?_
  refine W.aloadN K 21 d33_20 0 rfl rfl rfl ?_
  refine W.getF K 24 d33_21 (hw _ (List.mem_of_getElem? (i := 107) rfl)) (by repeat (first | exact List.mem_cons_self | apply List.mem_cons_of_mem)) (by repeat (first | exact List.mem_cons_self | apply List.mem_cons_of_mem)) ?_
  refine W.icmp_ge K 104 27 d33_24 (fun h24 => False.elim (absurd h24 (by decide))) (fun h24 => ?_)
  refine W.iconst K 28 d33_27 (0 : Int32) (by decide) ?_
  refine W.istore K 30 d33_28 rfl (by repeat (first | apply setLS | exact setL0)) ?_
  refine W.iload K 32 d33_30 rfl ?_
  refine W.aloadN K 33 d33_32 0 rfl rfl rfl ?_
  refine W.getF K 36 d33_33 (hw _ (List.mem_of_getElem? (i := 47) rfl)) (by repeat (first | exact List.mem_cons_self | apply List.mem_cons_of_mem)) (by repeat (first | exact List.mem_cons_self | apply List.mem_cons_of_mem)) ?_
  refine W.icmp_ge K 79 39 d33_36 (fun h36 => False.elim (absurd h36 (by decide))) (fun h36 => ?_)
  refine W.aloadN K 40 d33_39 0 rfl rfl rfl ?_
  refine W.getF K 43 d33_40 (hw _ (List.mem_of_getElem? (i := 51) rfl)) (by repeat (first | exact List.mem_cons_self | apply List.mem_cons_of_mem)) (by repeat (first | exact List.mem_cons_self | apply List.mem_cons_of_mem)) ?_
  refine W.iload K 45 d33_43 rfl ?_
  refine W.iaload 0 K 46 d33_45 (by repeat (first | exact List.mem_cons_self | apply List.mem_cons_of_mem)) (by decide) rfl ?_
  refine W.if_lt K 73 49 d33_46 (fun h46 => ?_) (fun h46 => False.elim (absurd h46 (by decide)))
  refine W.iinc K 76 d33_73 (1 : Int32) (by decide) rfl (by repeat (first | apply setLS | exact setL0)) ?_
  refine W.goto K 30 d33_76 ?_
  refine W.iload K 32 d33_30 rfl ?_
  refine W.aloadN K 33 d33_32 0 rfl rfl rfl ?_
  refine W.getF K 36 d33_33 (hw _ (List.mem_of_getElem? (i := 47) rfl)) (by repeat (first | exact List.mem_cons_self | apply List.mem_cons_of_mem)) (by repeat (first | exact List.mem_cons_self | apply List.mem_cons_of_mem)) ?_
  refine W.icmp_ge K 79 39 d33_36 (fun h36 => ?_) (fun h36 => False.elim (absurd h36 (by decide)))
  refine W.aloadN K 80 d33_79 2 rfl rfl rfl ?_
  refine W.iload K 82 d33_80 rfl ?_
  refine W.iloadN K 83 d33_82 3 rfl rfl ?_
  refine W.imul K 84 d33_83 ?_
  refine W.aloadN K 85 d33_84 0 rfl rfl rfl ?_
  refine W.getF K 88 d33_85 (hw _ (List.mem_of_getElem? (i := 252) rfl)) (by repeat (first | exact List.mem_cons_self | apply List.mem_cons_of_mem)) (by repeat (first | exact List.mem_cons_self | apply List.mem_cons_of_mem)) ?_
  refine W.iadd K 89 d33_88 ?_
  refine W.aloadN K 90 d33_89 0 rfl rfl rfl ?_
  refine W.getF K 93 d33_90 (hw _ (List.mem_of_getElem? (i := 53) rfl)) (by repeat (first | exact List.mem_cons_self | apply List.mem_cons_of_mem)) (by repeat (first | exact List.mem_cons_self | apply List.mem_cons_of_mem)) ?_
  refine W.iloadN K 94 d33_93 1 rfl rfl ?_
  refine W.iaload 0 K 95 d33_94 (by repeat (first | exact mo | apply List.mem_cons_of_mem)) (by decide) rfl ?_
  refine WP.pick n2 (by repeat (first | exact pickHere | apply pickThere)) ?_
  refine W.callVn2 K 98 d33_95 (hw _ (List.mem_of_getElem? (i := 254) rfl)) (hw _ (List.mem_of_getElem? (i := 165) rfl)) (hw _ (List.mem_of_getElem? (i := 167) rfl)) (hw _ (List.mem_of_getElem? (i := 166) rfl)) (hw _ (List.mem_of_getElem? (i := 17) rfl)) (hw _ (List.mem_of_getElem? (i := 168) rfl)) pd_24 (Rc.new (by repeat (first | exact List.mem_cons_self | apply List.mem_cons_of_mem))) (spec_24 l Z a0 hw b0 n1 n2 _ _ 0 (by decide) (by omega) (fun _ => 0) _ (by repeat (first | exact List.mem_cons_self | apply List.mem_cons_of_mem)) (by repeat (first | exact List.mem_cons_self | apply List.mem_cons_of_mem))) (fun os1 hq => ?_)
  obtain rfl := hq
  refine W.iinc K 101 d33_98 (1 : Int32) (by decide) rfl (by repeat (first | apply setLS | exact setL0)) ?_
  refine W.goto K 18 d33_101 ?_
  refine W.iload K 20 d33_18 rfl ?_
  refine W.aloadN K 21 d33_20 0 rfl rfl rfl ?_
  refine W.getF K 24 d33_21 (hw _ (List.mem_of_getElem? (i := 107) rfl)) (by repeat (first | exact List.mem_cons_self | apply List.mem_cons_of_mem)) (by repeat (first | exact List.mem_cons_self | apply List.mem_cons_of_mem)) ?_
  refine W.icmp_ge K 104 27 d33_24 (fun h24 => ?_) (fun h24 => False.elim (absurd h24 (by decide)))
  refine W.aloadN K 105 d33_104 0 rfl rfl rfl ?_
  refine W.aloadN K 106 d33_105 2 rfl rfl rfl ?_
  refine W.putF (ty := (.object "com/example/pointfold/pointfold/datalog/IntBlocks")) K 109 d33_106 (hw _ (List.mem_of_getElem? (i := 27) rfl)) (hw _ (List.mem_of_getElem? (i := 28) rfl)) (hw _ (List.mem_of_getElem? (i := 2) rfl)) (by decide +kernel) (by repeat (first | exact Upd.here | apply Upd.there)) (by repeat (first | exact UpdF.here | apply UpdF.there)) ?_
  refine W.aloadN K 110 d33_109 0 rfl rfl rfl ?_
  refine W.getF K 113 d33_110 (hw _ (List.mem_of_getElem? (i := 51) rfl)) (by repeat (first | exact List.mem_cons_self | apply List.mem_cons_of_mem)) (by repeat (first | exact List.mem_cons_self | apply List.mem_cons_of_mem)) ?_
  refine W.iloadN K 114 d33_113 1 rfl rfl ?_
  refine W.aloadN K 115 d33_114 0 rfl rfl rfl ?_
  refine W.getF K 118 d33_115 (hw _ (List.mem_of_getElem? (i := 252) rfl)) (by repeat (first | exact List.mem_cons_self | apply List.mem_cons_of_mem)) (by repeat (first | exact List.mem_cons_self | apply List.mem_cons_of_mem)) ?_
  refine W.iastore 0 K 119 d33_118 (by repeat (first | exact Upd.here | apply Upd.there)) (by decide) rfl ?_
  refine W.aloadN K 120 d33_119 0 rfl rfl rfl ?_
  refine W.iloadN K 121 d33_120 3 rfl rfl ?_
  refine W.putF (ty := .int) K 124 d33_121 (hw _ (List.mem_of_getElem? (i := 252) rfl)) (hw _ (List.mem_of_getElem? (i := 253) rfl)) (hw _ (List.mem_of_getElem? (i := 2) rfl)) (by decide +kernel) (by repeat (first | exact Upd.here | apply Upd.there)) (by repeat (first | exact UpdF.here | apply UpdF.there)) ?_
  refine WP.pick n1 (by repeat (first | exact pickHere | apply pickThere)) ?_
  refine WP.pick b0 (by repeat (first | exact pickHere | apply pickThere)) ?_
  refine WP.pick n2 (by repeat (first | exact pickHere | apply pickThere)) ?_
  refine WP.pick st (by repeat (first | exact pickHere | apply pickThere)) ?_
  refine WP.pick fr (by repeat (first | exact pickHere | apply pickThere)) ?_
  exact W.return K d33_124 ⟨rfl, b0, n1, n2, rfl⟩
theorem own_two {V : Nat → Int32} {o x : Int32} (h : V 0 = o) {t : Nat} (ht : t < 2) : updA (updA (fun _ => 0) 0 o) 1 x t = updA V 1 x t := by
  by_cases e : t = 1
  · subst e; rw [updA_same, updA_same]
  · obtain rfl : t = 0 := by omega
    rw [updA_ne _ _ e, updA_ne _ _ e, updA_same, h]
theorem own_three {V Vl : Nat → Int32} {x : Int32} (h : ∀ t, t < 2 → Vl t = V t) {t : Nat} (ht : t < 3) : updA Vl 2 x t = updA V 2 x t := by
  by_cases e : t = 2
  · subst e; rw [updA_same, updA_same]
  · rw [updA_ne _ _ e, updA_ne _ _ e, h t (by omega)]
theorem own_cz {cz : Int32} {n : Nat} (h : cz.toInt = (n : Int)) (hn : n < 100 := by omega) : (cz + 1).toInt = ((n + 1 : Nat) : Int) := by
  rw [toInt_add32 h (by decide : (1 : Int32).toInt = 1) (by omega) (by omega)]; omega
def own_REL (Z : State) (fr : Addr) (sz : Nat) (V : Nat → Int32) (rs ds de : Int32) (rest os : OS) : Prop :=
  ∃ (vb vb1 vb2 hm ac st on ti bk bk1 bk2 hf ba nx nx1 nx2 : Addr) (szz cnt s o cz : Int32) (Vl Bk Nx : Nat → Int32) (Bf : Nat → Int64) (w : Value) (rest' : OS), os = [(fr, OBJ Z "com/example/pointfold/pointfold/datalog/FlatRelation" [("com/example/pointfold/pointfold/datalog/FlatRelation", "values", "Lcom/example/pointfold/pointfold/datalog/IntBlocks;", .ref vb), ("com/example/pointfold/pointfold/datalog/FlatRelation", "indexes", "Ljava/util/Map;", .ref hm), ("com/example/pointfold/pointfold/datalog/FlatRelation", "arity", "I", .int 1), ("com/example/pointfold/pointfold/datalog/FlatRelation", "allColumns", "[I", .ref ac), ("com/example/pointfold/pointfold/datalog/FlatRelation", "stored", "[I", .ref st), ("com/example/pointfold/pointfold/datalog/FlatRelation", "only", "[I", .ref on), ("com/example/pointfold/pointfold/datalog/FlatRelation", "unique", "Lcom/example/pointfold/pointfold/datalog/TupleIndex;", .ref ti), ("com/example/pointfold/pointfold/datalog/FlatRelation", "size", "I", .int szz), ("com/example/pointfold/pointfold/datalog/FlatRelation", "roundStart", "I", .int rs), ("com/example/pointfold/pointfold/datalog/FlatRelation", "storedCount", "I", .int cnt), ("com/example/pointfold/pointfold/datalog/FlatRelation", "deltaStart", "I", .int ds), ("com/example/pointfold/pointfold/datalog/FlatRelation", "deltaEnd", "I", .int de)]), (st, ARR Z .int [.int s]), (on, ARR Z .int [.int o]), (vb2, ARR Z .int (AF Value.int 16 Vl)), (ti, OBJ Z "com/example/pointfold/pointfold/datalog/TupleIndex" [("com/example/pointfold/pointfold/datalog/TupleIndex", "capacity", "I", .int 16), ("com/example/pointfold/pointfold/datalog/TupleIndex", "buckets", "Lcom/example/pointfold/pointfold/datalog/IntBlocks;", .ref bk), ("com/example/pointfold/pointfold/datalog/TupleIndex", "filter", "Lcom/example/pointfold/pointfold/datalog/HashFilter;", .ref hf), ("com/example/pointfold/pointfold/datalog/TupleIndex", "next", "Lcom/example/pointfold/pointfold/datalog/IntBlocks;", .ref nx), ("com/example/pointfold/pointfold/datalog/TupleIndex", "relation", "Lcom/example/pointfold/pointfold/datalog/FlatRelation;", .ref fr), ("com/example/pointfold/pointfold/datalog/TupleIndex", "columns", "[I", .ref ac), ("com/example/pointfold/pointfold/datalog/TupleIndex", "count", "I", .int cz)]), (nx2, ARR Z .int (AF Value.int 16 Nx)), (bk2, ARR Z .int (AF Value.int 16 Bk)), (ba, ARR Z .long (AF Value.long 2 Bf)), (hm, OBJ Z "java/util/HashMap" [("java/util/HashMap", "loadFactor", "F", .float 1061158912), ("java/util/AbstractMap", "values", "Ljava/util/Collection;", w), ("java/util/HashMap", "modCount", "I", .int 0), ("java/util/HashMap", "table", "[Ljava/util/HashMap$Node;", .null)]), (vb, OBJ Z "com/example/pointfold/pointfold/datalog/IntBlocks" [("com/example/pointfold/pointfold/datalog/IntBlocks", "blocks", "[[I", .ref vb1)]), (vb1, ARR Z (.array .int) [.ref vb2]), (ac, ARR Z .int [.int 0]), (bk, OBJ Z "com/example/pointfold/pointfold/datalog/IntBlocks" [("com/example/pointfold/pointfold/datalog/IntBlocks", "blocks", "[[I", .ref bk1)]), (bk1, ARR Z (.array .int) [.ref bk2]), (nx, OBJ Z "com/example/pointfold/pointfold/datalog/IntBlocks" [("com/example/pointfold/pointfold/datalog/IntBlocks", "blocks", "[[I", .ref nx1)]), (nx1, ARR Z (.array .int) [.ref nx2]), (hf, OBJ Z "com/example/pointfold/pointfold/datalog/HashFilter" [("com/example/pointfold/pointfold/datalog/HashFilter", "bits", "[J", .ref ba), ("com/example/pointfold/pointfold/datalog/HashFilter", "mask", "J", .long 127)])] ++ rest' ∧ szz.toInt = (sz : Int) ∧ cz.toInt = (sz : Int) ∧ own_val s cnt o Vl V sz ∧ (sz < 2 → s = -1 ∧ cnt = 0) ∧ (2 ≤ sz → s = 0 ∧ cnt = 1) ∧ own_IX own_hb sz V Bk Nx ∧ own_FI (fun v => own_fw (own_h v)) (fun v => own_fb (own_h v)) sz V Bf ∧
    (w = .null ∨ ∃ vv, w = .ref vv ∧ (vv, OBJ Z "java/util/HashMap$Values" [("java/util/HashMap$Values", "this$0", "Ljava/util/HashMap;", .ref hm)]) ∈ rest') ∧ ∀ x, x ∈ rest → x ∈ rest'
set_option maxRecDepth 65536 in
set_option maxHeartbeats 40000000 in
theorem spec_130N (l : Launch) (Z : State) (a0 : Array Value) (hw : ∀ d ∈ tables_1, d.before a0 Z = true) (fr vb vb1 vb2 hm ac st on ti bk bk1 bk2 hf ba nx nx1 nx2 ka : Addr) (rs ds de o cz x : Int32) (V Vl Bk Nx : Nat → Int32) (Bf : Nat → Int64) (rest : OS) (hcz : cz.toInt = ((0 : Nat) : Int)) (hval : own_val (-1) 0 o Vl V 0) (I : own_IX own_hb 0 V Bk Nx) (FI : own_FI (fun v => own_fw (own_h v)) (fun v => own_fb (own_h v)) 0 V Bf) (mk : (ka, ARR Z .int [.int x]) ∈ rest) : OMeets l Z (⟨"com/example/pointfold/pointfold/datalog/FlatRelation", "add", "([I)Z"⟩ : MethodName) prog_10_method_8_code 5 (some .boolean) ({ frames := 6, cells := 5, slots := 24, locals := 86 } : Room) [(.ref fr), (.ref ka)] ([(fr, OBJ Z "com/example/pointfold/pointfold/datalog/FlatRelation" [("com/example/pointfold/pointfold/datalog/FlatRelation", "values", "Lcom/example/pointfold/pointfold/datalog/IntBlocks;", .ref vb), ("com/example/pointfold/pointfold/datalog/FlatRelation", "indexes", "Ljava/util/Map;", .ref hm), ("com/example/pointfold/pointfold/datalog/FlatRelation", "arity", "I", .int 1), ("com/example/pointfold/pointfold/datalog/FlatRelation", "allColumns", "[I", .ref ac), ("com/example/pointfold/pointfold/datalog/FlatRelation", "stored", "[I", .ref st), ("com/example/pointfold/pointfold/datalog/FlatRelation", "only", "[I", .ref on), ("com/example/pointfold/pointfold/datalog/FlatRelation", "unique", "Lcom/example/pointfold/pointfold/datalog/TupleIndex;", .ref ti), ("com/example/pointfold/pointfold/datalog/FlatRelation", "size", "I", .int 0), ("com/example/pointfold/pointfold/datalog/FlatRelation", "roundStart", "I", .int rs), ("com/example/pointfold/pointfold/datalog/FlatRelation", "storedCount", "I", .int 0), ("com/example/pointfold/pointfold/datalog/FlatRelation", "deltaStart", "I", .int ds), ("com/example/pointfold/pointfold/datalog/FlatRelation", "deltaEnd", "I", .int de)]), (st, ARR Z .int [.int (-1)]), (on, ARR Z .int [.int o]), (vb2, ARR Z .int (AF Value.int 16 Vl)), (ti, OBJ Z "com/example/pointfold/pointfold/datalog/TupleIndex" [("com/example/pointfold/pointfold/datalog/TupleIndex", "capacity", "I", .int 16), ("com/example/pointfold/pointfold/datalog/TupleIndex", "buckets", "Lcom/example/pointfold/pointfold/datalog/IntBlocks;", .ref bk), ("com/example/pointfold/pointfold/datalog/TupleIndex", "filter", "Lcom/example/pointfold/pointfold/datalog/HashFilter;", .ref hf), ("com/example/pointfold/pointfold/datalog/TupleIndex", "next", "Lcom/example/pointfold/pointfold/datalog/IntBlocks;", .ref nx), ("com/example/pointfold/pointfold/datalog/TupleIndex", "relation", "Lcom/example/pointfold/pointfold/datalog/FlatRelation;", .ref fr), ("com/example/pointfold/pointfold/datalog/TupleIndex", "columns", "[I", .ref ac), ("com/example/pointfold/pointfold/datalog/TupleIndex", "count", "I", .int cz)]), (nx2, ARR Z .int (AF Value.int 16 Nx)), (bk2, ARR Z .int (AF Value.int 16 Bk)), (ba, ARR Z .long (AF Value.long 2 Bf)), (hm, OBJ Z "java/util/HashMap" [("java/util/HashMap", "loadFactor", "F", .float 1061158912), ("java/util/AbstractMap", "values", "Ljava/util/Collection;", .null), ("java/util/HashMap", "modCount", "I", .int 0), ("java/util/HashMap", "table", "[Ljava/util/HashMap$Node;", .null)]), (vb, OBJ Z "com/example/pointfold/pointfold/datalog/IntBlocks" [("com/example/pointfold/pointfold/datalog/IntBlocks", "blocks", "[[I", .ref vb1)]), (vb1, ARR Z (.array .int) [.ref vb2]), (ac, ARR Z .int [.int 0]), (bk, OBJ Z "com/example/pointfold/pointfold/datalog/IntBlocks" [("com/example/pointfold/pointfold/datalog/IntBlocks", "blocks", "[[I", .ref bk1)]), (bk1, ARR Z (.array .int) [.ref bk2]), (nx, OBJ Z "com/example/pointfold/pointfold/datalog/IntBlocks" [("com/example/pointfold/pointfold/datalog/IntBlocks", "blocks", "[[I", .ref nx1)]), (nx1, ARR Z (.array .int) [.ref nx2]), (hf, OBJ Z "com/example/pointfold/pointfold/datalog/HashFilter" [("com/example/pointfold/pointfold/datalog/HashFilter", "bits", "[J", .ref ba), ("com/example/pointfold/pointfold/datalog/HashFilter", "mask", "J", .long 127)])] ++ rest) (RetV fun v os' => (∃ u : Int32, v = .int u) ∧ (((∃ t, t < 0 ∧ V t = x) ∧ own_REL Z fr 0 V rs ds de rest os') ∨ ((∀ t, t < 0 → V t ≠ x) ∧ own_REL Z fr (0 + 1) (updA V 0 x) rs ds de rest os'))) := by
  have e0 : (0 : Int32).toInt = 0 := by decide
  have esz : (0 : Int32).toInt = ((0 : Nat) : Int) := by decide
  refine OMeets.of_body [.val (.ref fr), .val (.ref ka), .unset, .unset, .unset] pn_13 (laid_eq _ _ rfl) ?_
  intro X K
  change WP X Z _ _ _ _ _ _ ((fr, OBJ Z "com/example/pointfold/pointfold/datalog/FlatRelation" [("com/example/pointfold/pointfold/datalog/FlatRelation", "values", "Lcom/example/pointfold/pointfold/datalog/IntBlocks;", .ref vb), ("com/example/pointfold/pointfold/datalog/FlatRelation", "indexes", "Ljava/util/Map;", .ref hm), ("com/example/pointfold/pointfold/datalog/FlatRelation", "arity", "I", .int 1), ("com/example/pointfold/pointfold/datalog/FlatRelation", "allColumns", "[I", .ref ac), ("com/example/pointfold/pointfold/datalog/FlatRelation", "stored", "[I", .ref st), ("com/example/pointfold/pointfold/datalog/FlatRelation", "only", "[I", .ref on), ("com/example/pointfold/pointfold/datalog/FlatRelation", "unique", "Lcom/example/pointfold/pointfold/datalog/TupleIndex;", .ref ti), ("com/example/pointfold/pointfold/datalog/FlatRelation", "size", "I", .int 0), ("com/example/pointfold/pointfold/datalog/FlatRelation", "roundStart", "I", .int rs), ("com/example/pointfold/pointfold/datalog/FlatRelation", "storedCount", "I", .int 0), ("com/example/pointfold/pointfold/datalog/FlatRelation", "deltaStart", "I", .int ds), ("com/example/pointfold/pointfold/datalog/FlatRelation", "deltaEnd", "I", .int de)]) :: (st, ARR Z .int [.int (-1)]) :: (on, ARR Z .int [.int o]) :: (vb2, ARR Z .int (AF Value.int 16 Vl)) :: (ti, OBJ Z "com/example/pointfold/pointfold/datalog/TupleIndex" [("com/example/pointfold/pointfold/datalog/TupleIndex", "capacity", "I", .int 16), ("com/example/pointfold/pointfold/datalog/TupleIndex", "buckets", "Lcom/example/pointfold/pointfold/datalog/IntBlocks;", .ref bk), ("com/example/pointfold/pointfold/datalog/TupleIndex", "filter", "Lcom/example/pointfold/pointfold/datalog/HashFilter;", .ref hf), ("com/example/pointfold/pointfold/datalog/TupleIndex", "next", "Lcom/example/pointfold/pointfold/datalog/IntBlocks;", .ref nx), ("com/example/pointfold/pointfold/datalog/TupleIndex", "relation", "Lcom/example/pointfold/pointfold/datalog/FlatRelation;", .ref fr), ("com/example/pointfold/pointfold/datalog/TupleIndex", "columns", "[I", .ref ac), ("com/example/pointfold/pointfold/datalog/TupleIndex", "count", "I", .int cz)]) :: (nx2, ARR Z .int (AF Value.int 16 Nx)) :: (bk2, ARR Z .int (AF Value.int 16 Bk)) :: (ba, ARR Z .long (AF Value.long 2 Bf)) :: (hm, OBJ Z "java/util/HashMap" [("java/util/HashMap", "loadFactor", "F", .float 1061158912), ("java/util/AbstractMap", "values", "Ljava/util/Collection;", .null), ("java/util/HashMap", "modCount", "I", .int 0), ("java/util/HashMap", "table", "[Ljava/util/HashMap$Node;", .null)]) :: (vb, OBJ Z "com/example/pointfold/pointfold/datalog/IntBlocks" [("com/example/pointfold/pointfold/datalog/IntBlocks", "blocks", "[[I", .ref vb1)]) :: (vb1, ARR Z (.array .int) [.ref vb2]) :: (ac, ARR Z .int [.int 0]) :: (bk, OBJ Z "com/example/pointfold/pointfold/datalog/IntBlocks" [("com/example/pointfold/pointfold/datalog/IntBlocks", "blocks", "[[I", .ref bk1)]) :: (bk1, ARR Z (.array .int) [.ref bk2]) :: (nx, OBJ Z "com/example/pointfold/pointfold/datalog/IntBlocks" [("com/example/pointfold/pointfold/datalog/IntBlocks", "blocks", "[[I", .ref nx1)]) :: (nx1, ARR Z (.array .int) [.ref nx2]) :: (hf, OBJ Z "com/example/pointfold/pointfold/datalog/HashFilter" [("com/example/pointfold/pointfold/datalog/HashFilter", "bits", "[J", .ref ba), ("com/example/pointfold/pointfold/datalog/HashFilter", "mask", "J", .long 127)]) :: rest) _ _
  refine W.aloadN K 1 d13_0 0 rfl rfl rfl ?_
  refine W.aloadN K 2 d13_1 1 rfl rfl rfl ?_
  refine W.callVv1 K 5 d13_2 (hw _ (List.mem_of_getElem? (i := 116) rfl)) (hw _ (List.mem_of_getElem? (i := 117) rfl)) (hw _ (List.mem_of_getElem? (i := 119) rfl)) (hw _ (List.mem_of_getElem? (i := 118) rfl)) (hw _ (List.mem_of_getElem? (i := 3) rfl)) (hw _ (List.mem_of_getElem? (i := 120) rfl)) pd_14 (Rc.new (by repeat (first | exact List.mem_cons_self | apply List.mem_cons_of_mem))) (spec_14 l Z a0 hw fr vb vb1 vb2 hm ac st on ti 0 rs 0 ds de (-1) o Vl V 0 hval _ ⟨(by repeat (first | exact List.mem_cons_self | apply List.mem_cons_of_mem)), (by repeat (first | exact List.mem_cons_self | apply List.mem_cons_of_mem)), (by repeat (first | exact List.mem_cons_self | apply List.mem_cons_of_mem)), (by repeat (first | exact List.mem_cons_self | apply List.mem_cons_of_mem)), (by repeat (first | exact List.mem_cons_self | apply List.mem_cons_of_mem)), (by repeat (first | exact List.mem_cons_self | apply List.mem_cons_of_mem)), (by repeat (first | exact List.mem_cons_self | apply List.mem_cons_of_mem))⟩ bk bk1 bk2 hf ba nx nx1 nx2 cz Bk Nx Bf ⟨(by repeat (first | exact List.mem_cons_self | apply List.mem_cons_of_mem)), (by repeat (first | exact List.mem_cons_self | apply List.mem_cons_of_mem)), (by repeat (first | exact List.mem_cons_self | apply List.mem_cons_of_mem)), (by repeat (first | exact List.mem_cons_self | apply List.mem_cons_of_mem)), (by repeat (first | exact List.mem_cons_self | apply List.mem_cons_of_mem)), (by repeat (first | exact List.mem_cons_self | apply List.mem_cons_of_mem)), (by repeat (first | exact List.mem_cons_self | apply List.mem_cons_of_mem)), (by repeat (first | exact List.mem_cons_self | apply List.mem_cons_of_mem)), (by repeat (first | exact List.mem_cons_self | apply List.mem_cons_of_mem))⟩ I (by omega) FI ka x (by repeat (first | exact mk | apply List.mem_cons_of_mem))) (fun v os1 hq => ?_)
  obtain ⟨u, rfl, rfl, hu⟩ := hq
  refine W.if_eq K 10 8 d13_5 (fun h5 => ?_) (fun h5 => ?_)
  · have hno : ∀ t, t < 0 → V t ≠ x := fun t ht e => (hu.mpr ⟨t, ht, e⟩) h5
    refine W.iconst K 11 d13_10 (0 : Int32) (by decide) ?_
    refine W.istoreN K 12 d13_11 2 rfl rfl (by repeat (first | apply setLS | exact setL0)) ?_
    refine W.iloadN K 13 d13_12 2 rfl rfl ?_
    refine W.aloadN K 14 d13_13 0 rfl rfl rfl ?_
    refine W.getF K 17 d13_14 (hw _ (List.mem_of_getElem? (i := 47) rfl)) (by repeat (first | exact List.mem_cons_self | apply List.mem_cons_of_mem)) (by repeat (first | exact List.mem_cons_self | apply List.mem_cons_of_mem)) ?_
    refine W.icmp_ge K 71 20 d13_17 (fun h17 => False.elim (absurd h17 (by decide))) (fun h17 => ?_)
    refine W.aloadN K 21 d13_20 0 rfl rfl rfl ?_
    refine W.getF K 24 d13_21 (hw _ (List.mem_of_getElem? (i := 107) rfl)) (by repeat (first | exact List.mem_cons_self | apply List.mem_cons_of_mem)) (by repeat (first | exact List.mem_cons_self | apply List.mem_cons_of_mem)) ?_
    refine W.if_ne K 39 27 d13_24 (fun h24 => False.elim (absurd h24 (by decide))) (fun h24 => ?_)
    refine W.aloadN K 28 d13_27 0 rfl rfl rfl ?_
    refine W.getF K 31 d13_28 (hw _ (List.mem_of_getElem? (i := 53) rfl)) (by repeat (first | exact List.mem_cons_self | apply List.mem_cons_of_mem)) (by repeat (first | exact List.mem_cons_self | apply List.mem_cons_of_mem)) ?_
    refine W.iloadN K 32 d13_31 2 rfl rfl ?_
    refine W.aloadN K 33 d13_32 1 rfl rfl rfl ?_
    refine W.iloadN K 34 d13_33 2 rfl rfl ?_
    refine W.iaload 0 K 35 d13_34 (by repeat (first | exact mk | apply List.mem_cons_of_mem)) (by decide) rfl ?_
    refine W.iastore 0 K 36 d13_35 (by repeat (first | exact Upd.here | apply Upd.there)) (by decide) rfl ?_
    refine W.goto K 65 d13_36 ?_
    refine W.iinc K 68 d13_65 (1 : Int32) (by decide) rfl (by repeat (first | apply setLS | exact setL0)) ?_
    refine W.goto K 12 d13_68 ?_
    refine W.iloadN K 13 d13_12 2 rfl rfl ?_
    refine W.aloadN K 14 d13_13 0 rfl rfl rfl ?_
    refine W.getF K 17 d13_14 (hw _ (List.mem_of_getElem? (i := 47) rfl)) (by repeat (first | exact List.mem_cons_self | apply List.mem_cons_of_mem)) (by repeat (first | exact List.mem_cons_self | apply List.mem_cons_of_mem)) ?_
    refine W.icmp_ge K 71 20 d13_17 (fun h17 => ?_) (fun h17 => False.elim (absurd h17 (by decide)))
    refine W.iconst K 72 d13_71 (0 : Int32) (by decide) ?_
    refine W.istoreN K 73 d13_72 2 rfl rfl (by repeat (first | apply setLS | exact setL0)) ?_
    refine W.iloadN K 74 d13_73 2 rfl rfl ?_
    refine W.aloadN K 75 d13_74 0 rfl rfl rfl ?_
    refine W.getF K 78 d13_75 (hw _ (List.mem_of_getElem? (i := 47) rfl)) (by repeat (first | exact List.mem_cons_self | apply List.mem_cons_of_mem)) (by repeat (first | exact List.mem_cons_self | apply List.mem_cons_of_mem)) ?_
    refine W.icmp_ge K 122 81 d13_78 (fun h78 => False.elim (absurd h78 (by decide))) (fun h78 => ?_)
    refine W.aloadN K 82 d13_81 0 rfl rfl rfl ?_
    refine W.getF K 85 d13_82 (hw _ (List.mem_of_getElem? (i := 51) rfl)) (by repeat (first | exact List.mem_cons_self | apply List.mem_cons_of_mem)) (by repeat (first | exact List.mem_cons_self | apply List.mem_cons_of_mem)) ?_
    refine W.iloadN K 86 d13_85 2 rfl rfl ?_
    refine W.iaload 0 K 87 d13_86 (by repeat (first | exact List.mem_cons_self | apply List.mem_cons_of_mem)) (by decide) rfl ?_
    refine W.if_lt K 116 90 d13_87 (fun h87 => ?_) (fun h87 => False.elim (absurd h87 (by decide)))
    refine W.iinc K 119 d13_116 (1 : Int32) (by decide) rfl (by repeat (first | apply setLS | exact setL0)) ?_
    refine W.goto K 73 d13_119 ?_
    refine W.iloadN K 74 d13_73 2 rfl rfl ?_
    refine W.aloadN K 75 d13_74 0 rfl rfl rfl ?_
    refine W.getF K 78 d13_75 (hw _ (List.mem_of_getElem? (i := 47) rfl)) (by repeat (first | exact List.mem_cons_self | apply List.mem_cons_of_mem)) (by repeat (first | exact List.mem_cons_self | apply List.mem_cons_of_mem)) ?_
    refine W.icmp_ge K 122 81 d13_78 (fun h78 => ?_) (fun h78 => False.elim (absurd h78 (by decide)))
    refine W.aloadN K 123 d13_122 0 rfl rfl rfl ?_
    refine W.dup K 124 d13_123 ?_
    refine W.getF K 127 d13_124 (hw _ (List.mem_of_getElem? (i := 107) rfl)) (by repeat (first | exact List.mem_cons_self | apply List.mem_cons_of_mem)) (by repeat (first | exact List.mem_cons_self | apply List.mem_cons_of_mem)) ?_
    refine W.dupX1 K 128 d13_127 ?_
    refine W.iconst K 129 d13_128 (1 : Int32) (by decide) ?_
    refine W.iadd K 130 d13_129 ?_
    refine W.putF (ty := .int) K 133 d13_130 (hw _ (List.mem_of_getElem? (i := 107) rfl)) (hw _ (List.mem_of_getElem? (i := 108) rfl)) (hw _ (List.mem_of_getElem? (i := 2) rfl)) (by decide +kernel) (by repeat (first | exact Upd.here | apply Upd.there)) (by repeat (first | exact UpdF.here | apply UpdF.there)) ?_
    refine W.istoreN K 134 d13_133 2 rfl rfl (by repeat (first | apply setLS | exact setL0)) ?_
    refine W.aloadN K 135 d13_134 0 rfl rfl rfl ?_
    refine W.getF K 138 d13_135 (hw _ (List.mem_of_getElem? (i := 100) rfl)) (by repeat (first | exact List.mem_cons_self | apply List.mem_cons_of_mem)) (by repeat (first | exact List.mem_cons_self | apply List.mem_cons_of_mem)) ?_
    refine W.iloadN K 139 d13_138 2 rfl rfl ?_
    have hval2 : own_val (-1) 0 x Vl (updA V 0 x) 1 := Or.inl ⟨rfl, fun t ht => by obtain rfl : t = 0 := (by omega); exact updA_same _ _ _⟩
    refine WP.pick ba (by repeat (first | exact pickHere | apply pickThere)) ?_
    refine WP.pick bk2 (by repeat (first | exact pickHere | apply pickThere)) ?_
    refine WP.pick nx2 (by repeat (first | exact pickHere | apply pickThere)) ?_
    refine WP.pick ti (by repeat (first | exact pickHere | apply pickThere)) ?_
    refine W.callVn1 K 142 d13_139 (hw _ (List.mem_of_getElem? (i := 142) rfl)) (hw _ (List.mem_of_getElem? (i := 143) rfl)) (hw _ (List.mem_of_getElem? (i := 145) rfl)) (hw _ (List.mem_of_getElem? (i := 144) rfl)) (hw _ (List.mem_of_getElem? (i := 61) rfl)) (hw _ (List.mem_of_getElem? (i := 146) rfl)) pd_20 (Rc.new (by repeat (first | exact List.mem_cons_self | apply List.mem_cons_of_mem))) (spec_20 l Z a0 hw fr vb vb1 vb2 hm ac st on ti (0 + 1) rs 0 ds de (-1) x Vl (updA V 0 x) (0 + 1) hval2 _ ⟨(by repeat (first | exact List.mem_cons_self | apply List.mem_cons_of_mem)), (by repeat (first | exact List.mem_cons_self | apply List.mem_cons_of_mem)), (by repeat (first | exact List.mem_cons_self | apply List.mem_cons_of_mem)), (by repeat (first | exact List.mem_cons_self | apply List.mem_cons_of_mem)), (by repeat (first | exact List.mem_cons_self | apply List.mem_cons_of_mem)), (by repeat (first | exact List.mem_cons_self | apply List.mem_cons_of_mem)), (by repeat (first | exact List.mem_cons_self | apply List.mem_cons_of_mem))⟩ bk bk1 bk2 hf ba nx nx1 nx2 cz Bk Nx Bf 0 0 esz (by omega) (by omega) 0 hcz (by omega) (by repeat (first | exact List.mem_cons_self | apply List.mem_cons_of_mem)) (by repeat (first | exact List.mem_cons_self | apply List.mem_cons_of_mem)) (by repeat (first | exact List.mem_cons_self | apply List.mem_cons_of_mem)) (by repeat (first | exact List.mem_cons_self | apply List.mem_cons_of_mem)) (by repeat (first | exact List.mem_cons_self | apply List.mem_cons_of_mem))) (fun os1 hq => ?_)
    obtain rfl := hq
    refine W.aloadN K 143 d13_142 0 rfl rfl rfl ?_
    refine W.getF K 146 d13_143 (hw _ (List.mem_of_getElem? (i := 45) rfl)) (by repeat (first | exact List.mem_cons_self | apply List.mem_cons_of_mem)) (by repeat (first | exact List.mem_cons_self | apply List.mem_cons_of_mem)) ?_
    refine WP.pick hm (by repeat (first | exact pickHere | apply pickThere)) ?_
    refine W.callF (C := "java/util/HashMap") (argsL := []) (S := []) K 151 d13_146 (hw _ (List.mem_of_getElem? (i := 174) rfl)) (hw _ (List.mem_of_getElem? (i := 175) rfl)) (hw _ (List.mem_of_getElem? (i := 176) rfl)) (hw _ (List.mem_of_getElem? (i := 177) rfl)) (hw _ (List.mem_of_getElem? (i := 178) rfl)) (hw _ (List.mem_of_getElem? (i := 179) rfl)) (hw _ (List.mem_of_getElem? (i := 180) rfl)) (hw _ (List.mem_of_getElem? (i := 181) rfl)) (hw _ (List.mem_of_getElem? (i := 31) rfl)) (hw _ (List.mem_of_getElem? (i := 182) rfl)) (show parseMethodDescriptor "()Ljava/util/Collection;" = some ⟨[], some (.object "java/util/Collection")⟩ by decide +kernel) (Rc.new List.mem_cons_self) (spec_26N l Z a0 hw hm _) (fun v os1 hq => ?_)
    obtain ⟨vv2, rfl, rfl⟩ := hq
    refine W.callF (C := "java/util/HashMap$Values") (argsL := []) (S := []) K 156 d13_151 (hw _ (List.mem_of_getElem? (i := 202) rfl)) (hw _ (List.mem_of_getElem? (i := 203) rfl)) (hw _ (List.mem_of_getElem? (i := 204) rfl)) (hw _ (List.mem_of_getElem? (i := 205) rfl)) (hw _ (List.mem_of_getElem? (i := 206) rfl)) (hw _ (List.mem_of_getElem? (i := 207) rfl)) (hw _ (List.mem_of_getElem? (i := 208) rfl)) (hw _ (List.mem_of_getElem? (i := 209) rfl)) (hw _ (List.mem_of_getElem? (i := 188) rfl)) (hw _ (List.mem_of_getElem? (i := 210) rfl)) (show parseMethodDescriptor "()Ljava/util/Iterator;" = some ⟨[], some (.object "java/util/Iterator")⟩ by decide +kernel) (Rc.new (by repeat (first | exact List.mem_cons_self | apply List.mem_cons_of_mem))) (spec_29 l Z a0 hw vv2 hm _ _ (by repeat (first | exact List.mem_cons_self | apply List.mem_cons_of_mem)) List.mem_cons_self) (fun v os1 hq => ?_)
    obtain ⟨i151, rfl, rfl⟩ := hq
    refine W.astoreN K 157 d13_156 3 rfl rfl rfl (by repeat (first | apply setLS | exact setL0)) ?_
    refine W.aloadN K 158 d13_157 3 rfl rfl rfl ?_
    refine W.callF (C := "java/util/HashMap$ValueIterator") (argsL := []) (S := []) K 163 d13_158 (hw _ (List.mem_of_getElem? (i := 239) rfl)) (hw _ (List.mem_of_getElem? (i := 240) rfl)) (hw _ (List.mem_of_getElem? (i := 241) rfl)) (hw _ (List.mem_of_getElem? (i := 242) rfl)) (hw _ (List.mem_of_getElem? (i := 243) rfl)) (hw _ (List.mem_of_getElem? (i := 244) rfl)) (hw _ (List.mem_of_getElem? (i := 245) rfl)) (hw _ (List.mem_of_getElem? (i := 246) rfl)) (hw _ (List.mem_of_getElem? (i := 222) rfl)) (hw _ (List.mem_of_getElem? (i := 247) rfl)) (show parseMethodDescriptor "()Z" = some ⟨[], some .boolean⟩ by decide +kernel) (Rc.new List.mem_cons_self) (spec_32 l Z a0 hw i151 hm _ List.mem_cons_self) (fun v os1 hq => ?_)
    obtain ⟨rfl, rfl⟩ := hq
    refine W.if_eq K 186 166 d13_163 (fun h163 => ?_) (fun h163 => False.elim (absurd h163 (by decide)))
    refine W.iconst K 187 d13_186 (1 : Int32) (by decide) ?_
    refine WP.pick hf (by repeat (first | exact pickHere | apply pickThere)) ?_
    refine WP.pick nx1 (by repeat (first | exact pickHere | apply pickThere)) ?_
    refine WP.pick nx (by repeat (first | exact pickHere | apply pickThere)) ?_
    refine WP.pick bk1 (by repeat (first | exact pickHere | apply pickThere)) ?_
    refine WP.pick bk (by repeat (first | exact pickHere | apply pickThere)) ?_
    refine WP.pick ac (by repeat (first | exact pickHere | apply pickThere)) ?_
    refine WP.pick vb1 (by repeat (first | exact pickHere | apply pickThere)) ?_
    refine WP.pick vb (by repeat (first | exact pickHere | apply pickThere)) ?_
    refine WP.pick hm (by repeat (first | exact pickHere | apply pickThere)) ?_
    refine WP.pick ba (by repeat (first | exact pickHere | apply pickThere)) ?_
    refine WP.pick bk2 (by repeat (first | exact pickHere | apply pickThere)) ?_
    refine WP.pick nx2 (by repeat (first | exact pickHere | apply pickThere)) ?_
    refine WP.pick ti (by repeat (first | exact pickHere | apply pickThere)) ?_
    refine WP.pick vb2 (by repeat (first | exact pickHere | apply pickThere)) ?_
    refine WP.pick on (by repeat (first | exact pickHere | apply pickThere)) ?_
    refine WP.pick st (by repeat (first | exact pickHere | apply pickThere)) ?_
    refine WP.pick fr (by repeat (first | exact pickHere | apply pickThere)) ?_
    have hI2 := own_IX_link I (v := x) (s1 := 0 + 1) rfl (own_hb_eq x).2 (by decide)
    have hF2 := own_FI_add (fun v => own_fb_ne (own_h v)) FI x
    have ev : updA V 0 x 0 = x := updA_same _ _ _
    refine W.zreturn K d13_187 (Or.inr rfl) ⟨_, rfl, ⟨_, rfl⟩, Or.inr ⟨hno, vb, vb1, vb2, hm, ac, st, on, ti, bk, bk1, bk2, hf, ba, nx, nx1, nx2, (0 + 1), 0, (-1), x, cz + 1, Vl, _, _, _, _, _, rfl, by decide, own_cz hcz, hval2, fun h => ⟨rfl, rfl⟩, fun h => by omega, by rw [ev]; exact hI2, by rw [ev]; exact hF2, Or.inr ⟨_, rfl, (by repeat (first | exact List.mem_cons_self | apply List.mem_cons_of_mem))⟩, fun x hx => by repeat (first | exact hx | apply List.mem_cons_of_mem)⟩⟩
  · refine W.iconst K 9 d13_8 (0 : Int32) (by decide) ?_
    refine W.zreturn K d13_9 (Or.inl rfl) ⟨_, rfl, ⟨_, rfl⟩, Or.inl ⟨hu.mp h5, vb, vb1, vb2, hm, ac, st, on, ti, bk, bk1, bk2, hf, ba, nx, nx1, nx2, 0, 0, (-1), o, cz, Vl, Bk, Nx, Bf, _, rest, rfl, esz, hcz, hval, fun h => ⟨rfl, rfl⟩, fun h => by omega, I, FI, Or.inl rfl, fun x hx => hx⟩⟩
set_option maxRecDepth 65536 in
set_option maxHeartbeats 40000000 in
theorem spec_130R (l : Launch) (Z : State) (a0 : Array Value) (hw : ∀ d ∈ tables_1, d.before a0 Z = true) (fr vb vb1 vb2 hm ac st on ti bk bk1 bk2 hf ba nx nx1 nx2 ka : Addr) (rs ds de o cz x : Int32) (V Vl Bk Nx : Nat → Int32) (Bf : Nat → Int64) (rest : OS) (hcz : cz.toInt = ((0 : Nat) : Int)) (hval : own_val (-1) 0 o Vl V 0) (I : own_IX own_hb 0 V Bk Nx) (FI : own_FI (fun v => own_fw (own_h v)) (fun v => own_fb (own_h v)) 0 V Bf) (mk : (ka, ARR Z .int [.int x]) ∈ rest) (vv : Addr) (hvv : (vv, OBJ Z "java/util/HashMap$Values" [("java/util/HashMap$Values", "this$0", "Ljava/util/HashMap;", .ref hm)]) ∈ rest) : OMeets l Z (⟨"com/example/pointfold/pointfold/datalog/FlatRelation", "add", "([I)Z"⟩ : MethodName) prog_10_method_8_code 5 (some .boolean) ({ frames := 6, cells := 5, slots := 24, locals := 86 } : Room) [(.ref fr), (.ref ka)] ([(fr, OBJ Z "com/example/pointfold/pointfold/datalog/FlatRelation" [("com/example/pointfold/pointfold/datalog/FlatRelation", "values", "Lcom/example/pointfold/pointfold/datalog/IntBlocks;", .ref vb), ("com/example/pointfold/pointfold/datalog/FlatRelation", "indexes", "Ljava/util/Map;", .ref hm), ("com/example/pointfold/pointfold/datalog/FlatRelation", "arity", "I", .int 1), ("com/example/pointfold/pointfold/datalog/FlatRelation", "allColumns", "[I", .ref ac), ("com/example/pointfold/pointfold/datalog/FlatRelation", "stored", "[I", .ref st), ("com/example/pointfold/pointfold/datalog/FlatRelation", "only", "[I", .ref on), ("com/example/pointfold/pointfold/datalog/FlatRelation", "unique", "Lcom/example/pointfold/pointfold/datalog/TupleIndex;", .ref ti), ("com/example/pointfold/pointfold/datalog/FlatRelation", "size", "I", .int 0), ("com/example/pointfold/pointfold/datalog/FlatRelation", "roundStart", "I", .int rs), ("com/example/pointfold/pointfold/datalog/FlatRelation", "storedCount", "I", .int 0), ("com/example/pointfold/pointfold/datalog/FlatRelation", "deltaStart", "I", .int ds), ("com/example/pointfold/pointfold/datalog/FlatRelation", "deltaEnd", "I", .int de)]), (st, ARR Z .int [.int (-1)]), (on, ARR Z .int [.int o]), (vb2, ARR Z .int (AF Value.int 16 Vl)), (ti, OBJ Z "com/example/pointfold/pointfold/datalog/TupleIndex" [("com/example/pointfold/pointfold/datalog/TupleIndex", "capacity", "I", .int 16), ("com/example/pointfold/pointfold/datalog/TupleIndex", "buckets", "Lcom/example/pointfold/pointfold/datalog/IntBlocks;", .ref bk), ("com/example/pointfold/pointfold/datalog/TupleIndex", "filter", "Lcom/example/pointfold/pointfold/datalog/HashFilter;", .ref hf), ("com/example/pointfold/pointfold/datalog/TupleIndex", "next", "Lcom/example/pointfold/pointfold/datalog/IntBlocks;", .ref nx), ("com/example/pointfold/pointfold/datalog/TupleIndex", "relation", "Lcom/example/pointfold/pointfold/datalog/FlatRelation;", .ref fr), ("com/example/pointfold/pointfold/datalog/TupleIndex", "columns", "[I", .ref ac), ("com/example/pointfold/pointfold/datalog/TupleIndex", "count", "I", .int cz)]), (nx2, ARR Z .int (AF Value.int 16 Nx)), (bk2, ARR Z .int (AF Value.int 16 Bk)), (ba, ARR Z .long (AF Value.long 2 Bf)), (hm, OBJ Z "java/util/HashMap" [("java/util/HashMap", "loadFactor", "F", .float 1061158912), ("java/util/AbstractMap", "values", "Ljava/util/Collection;", .ref vv), ("java/util/HashMap", "modCount", "I", .int 0), ("java/util/HashMap", "table", "[Ljava/util/HashMap$Node;", .null)]), (vb, OBJ Z "com/example/pointfold/pointfold/datalog/IntBlocks" [("com/example/pointfold/pointfold/datalog/IntBlocks", "blocks", "[[I", .ref vb1)]), (vb1, ARR Z (.array .int) [.ref vb2]), (ac, ARR Z .int [.int 0]), (bk, OBJ Z "com/example/pointfold/pointfold/datalog/IntBlocks" [("com/example/pointfold/pointfold/datalog/IntBlocks", "blocks", "[[I", .ref bk1)]), (bk1, ARR Z (.array .int) [.ref bk2]), (nx, OBJ Z "com/example/pointfold/pointfold/datalog/IntBlocks" [("com/example/pointfold/pointfold/datalog/IntBlocks", "blocks", "[[I", .ref nx1)]), (nx1, ARR Z (.array .int) [.ref nx2]), (hf, OBJ Z "com/example/pointfold/pointfold/datalog/HashFilter" [("com/example/pointfold/pointfold/datalog/HashFilter", "bits", "[J", .ref ba), ("com/example/pointfold/pointfold/datalog/HashFilter", "mask", "J", .long 127)])] ++ rest) (RetV fun v os' => (∃ u : Int32, v = .int u) ∧ (((∃ t, t < 0 ∧ V t = x) ∧ own_REL Z fr 0 V rs ds de rest os') ∨ ((∀ t, t < 0 → V t ≠ x) ∧ own_REL Z fr (0 + 1) (updA V 0 x) rs ds de rest os'))) := by
  have e0 : (0 : Int32).toInt = 0 := by decide
  have esz : (0 : Int32).toInt = ((0 : Nat) : Int) := by decide
  refine OMeets.of_body [.val (.ref fr), .val (.ref ka), .unset, .unset, .unset] pn_13 (laid_eq _ _ rfl) ?_
  intro X K
  change WP X Z _ _ _ _ _ _ ((fr, OBJ Z "com/example/pointfold/pointfold/datalog/FlatRelation" [("com/example/pointfold/pointfold/datalog/FlatRelation", "values", "Lcom/example/pointfold/pointfold/datalog/IntBlocks;", .ref vb), ("com/example/pointfold/pointfold/datalog/FlatRelation", "indexes", "Ljava/util/Map;", .ref hm), ("com/example/pointfold/pointfold/datalog/FlatRelation", "arity", "I", .int 1), ("com/example/pointfold/pointfold/datalog/FlatRelation", "allColumns", "[I", .ref ac), ("com/example/pointfold/pointfold/datalog/FlatRelation", "stored", "[I", .ref st), ("com/example/pointfold/pointfold/datalog/FlatRelation", "only", "[I", .ref on), ("com/example/pointfold/pointfold/datalog/FlatRelation", "unique", "Lcom/example/pointfold/pointfold/datalog/TupleIndex;", .ref ti), ("com/example/pointfold/pointfold/datalog/FlatRelation", "size", "I", .int 0), ("com/example/pointfold/pointfold/datalog/FlatRelation", "roundStart", "I", .int rs), ("com/example/pointfold/pointfold/datalog/FlatRelation", "storedCount", "I", .int 0), ("com/example/pointfold/pointfold/datalog/FlatRelation", "deltaStart", "I", .int ds), ("com/example/pointfold/pointfold/datalog/FlatRelation", "deltaEnd", "I", .int de)]) :: (st, ARR Z .int [.int (-1)]) :: (on, ARR Z .int [.int o]) :: (vb2, ARR Z .int (AF Value.int 16 Vl)) :: (ti, OBJ Z "com/example/pointfold/pointfold/datalog/TupleIndex" [("com/example/pointfold/pointfold/datalog/TupleIndex", "capacity", "I", .int 16), ("com/example/pointfold/pointfold/datalog/TupleIndex", "buckets", "Lcom/example/pointfold/pointfold/datalog/IntBlocks;", .ref bk), ("com/example/pointfold/pointfold/datalog/TupleIndex", "filter", "Lcom/example/pointfold/pointfold/datalog/HashFilter;", .ref hf), ("com/example/pointfold/pointfold/datalog/TupleIndex", "next", "Lcom/example/pointfold/pointfold/datalog/IntBlocks;", .ref nx), ("com/example/pointfold/pointfold/datalog/TupleIndex", "relation", "Lcom/example/pointfold/pointfold/datalog/FlatRelation;", .ref fr), ("com/example/pointfold/pointfold/datalog/TupleIndex", "columns", "[I", .ref ac), ("com/example/pointfold/pointfold/datalog/TupleIndex", "count", "I", .int cz)]) :: (nx2, ARR Z .int (AF Value.int 16 Nx)) :: (bk2, ARR Z .int (AF Value.int 16 Bk)) :: (ba, ARR Z .long (AF Value.long 2 Bf)) :: (hm, OBJ Z "java/util/HashMap" [("java/util/HashMap", "loadFactor", "F", .float 1061158912), ("java/util/AbstractMap", "values", "Ljava/util/Collection;", .ref vv), ("java/util/HashMap", "modCount", "I", .int 0), ("java/util/HashMap", "table", "[Ljava/util/HashMap$Node;", .null)]) :: (vb, OBJ Z "com/example/pointfold/pointfold/datalog/IntBlocks" [("com/example/pointfold/pointfold/datalog/IntBlocks", "blocks", "[[I", .ref vb1)]) :: (vb1, ARR Z (.array .int) [.ref vb2]) :: (ac, ARR Z .int [.int 0]) :: (bk, OBJ Z "com/example/pointfold/pointfold/datalog/IntBlocks" [("com/example/pointfold/pointfold/datalog/IntBlocks", "blocks", "[[I", .ref bk1)]) :: (bk1, ARR Z (.array .int) [.ref bk2]) :: (nx, OBJ Z "com/example/pointfold/pointfold/datalog/IntBlocks" [("com/example/pointfold/pointfold/datalog/IntBlocks", "blocks", "[[I", .ref nx1)]) :: (nx1, ARR Z (.array .int) [.ref nx2]) :: (hf, OBJ Z "com/example/pointfold/pointfold/datalog/HashFilter" [("com/example/pointfold/pointfold/datalog/HashFilter", "bits", "[J", .ref ba), ("com/example/pointfold/pointfold/datalog/HashFilter", "mask", "J", .long 127)]) :: rest) _ _
  refine W.aloadN K 1 d13_0 0 rfl rfl rfl ?_
  refine W.aloadN K 2 d13_1 1 rfl rfl rfl ?_
  refine W.callVv1 K 5 d13_2 (hw _ (List.mem_of_getElem? (i := 116) rfl)) (hw _ (List.mem_of_getElem? (i := 117) rfl)) (hw _ (List.mem_of_getElem? (i := 119) rfl)) (hw _ (List.mem_of_getElem? (i := 118) rfl)) (hw _ (List.mem_of_getElem? (i := 3) rfl)) (hw _ (List.mem_of_getElem? (i := 120) rfl)) pd_14 (Rc.new (by repeat (first | exact List.mem_cons_self | apply List.mem_cons_of_mem))) (spec_14 l Z a0 hw fr vb vb1 vb2 hm ac st on ti 0 rs 0 ds de (-1) o Vl V 0 hval _ ⟨(by repeat (first | exact List.mem_cons_self | apply List.mem_cons_of_mem)), (by repeat (first | exact List.mem_cons_self | apply List.mem_cons_of_mem)), (by repeat (first | exact List.mem_cons_self | apply List.mem_cons_of_mem)), (by repeat (first | exact List.mem_cons_self | apply List.mem_cons_of_mem)), (by repeat (first | exact List.mem_cons_self | apply List.mem_cons_of_mem)), (by repeat (first | exact List.mem_cons_self | apply List.mem_cons_of_mem)), (by repeat (first | exact List.mem_cons_self | apply List.mem_cons_of_mem))⟩ bk bk1 bk2 hf ba nx nx1 nx2 cz Bk Nx Bf ⟨(by repeat (first | exact List.mem_cons_self | apply List.mem_cons_of_mem)), (by repeat (first | exact List.mem_cons_self | apply List.mem_cons_of_mem)), (by repeat (first | exact List.mem_cons_self | apply List.mem_cons_of_mem)), (by repeat (first | exact List.mem_cons_self | apply List.mem_cons_of_mem)), (by repeat (first | exact List.mem_cons_self | apply List.mem_cons_of_mem)), (by repeat (first | exact List.mem_cons_self | apply List.mem_cons_of_mem)), (by repeat (first | exact List.mem_cons_self | apply List.mem_cons_of_mem)), (by repeat (first | exact List.mem_cons_self | apply List.mem_cons_of_mem)), (by repeat (first | exact List.mem_cons_self | apply List.mem_cons_of_mem))⟩ I (by omega) FI ka x (by repeat (first | exact mk | apply List.mem_cons_of_mem))) (fun v os1 hq => ?_)
  obtain ⟨u, rfl, rfl, hu⟩ := hq
  refine W.if_eq K 10 8 d13_5 (fun h5 => ?_) (fun h5 => ?_)
  · have hno : ∀ t, t < 0 → V t ≠ x := fun t ht e => (hu.mpr ⟨t, ht, e⟩) h5
    refine W.iconst K 11 d13_10 (0 : Int32) (by decide) ?_
    refine W.istoreN K 12 d13_11 2 rfl rfl (by repeat (first | apply setLS | exact setL0)) ?_
    refine W.iloadN K 13 d13_12 2 rfl rfl ?_
    refine W.aloadN K 14 d13_13 0 rfl rfl rfl ?_
    refine W.getF K 17 d13_14 (hw _ (List.mem_of_getElem? (i := 47) rfl)) (by repeat (first | exact List.mem_cons_self | apply List.mem_cons_of_mem)) (by repeat (first | exact List.mem_cons_self | apply List.mem_cons_of_mem)) ?_
    refine W.icmp_ge K 71 20 d13_17 (fun h17 => False.elim (absurd h17 (by decide))) (fun h17 => ?_)
    refine W.aloadN K 21 d13_20 0 rfl rfl rfl ?_
    refine W.getF K 24 d13_21 (hw _ (List.mem_of_getElem? (i := 107) rfl)) (by repeat (first | exact List.mem_cons_self | apply List.mem_cons_of_mem)) (by repeat (first | exact List.mem_cons_self | apply List.mem_cons_of_mem)) ?_
    refine W.if_ne K 39 27 d13_24 (fun h24 => False.elim (absurd h24 (by decide))) (fun h24 => ?_)
    refine W.aloadN K 28 d13_27 0 rfl rfl rfl ?_
    refine W.getF K 31 d13_28 (hw _ (List.mem_of_getElem? (i := 53) rfl)) (by repeat (first | exact List.mem_cons_self | apply List.mem_cons_of_mem)) (by repeat (first | exact List.mem_cons_self | apply List.mem_cons_of_mem)) ?_
    refine W.iloadN K 32 d13_31 2 rfl rfl ?_
    refine W.aloadN K 33 d13_32 1 rfl rfl rfl ?_
    refine W.iloadN K 34 d13_33 2 rfl rfl ?_
    refine W.iaload 0 K 35 d13_34 (by repeat (first | exact mk | apply List.mem_cons_of_mem)) (by decide) rfl ?_
    refine W.iastore 0 K 36 d13_35 (by repeat (first | exact Upd.here | apply Upd.there)) (by decide) rfl ?_
    refine W.goto K 65 d13_36 ?_
    refine W.iinc K 68 d13_65 (1 : Int32) (by decide) rfl (by repeat (first | apply setLS | exact setL0)) ?_
    refine W.goto K 12 d13_68 ?_
    refine W.iloadN K 13 d13_12 2 rfl rfl ?_
    refine W.aloadN K 14 d13_13 0 rfl rfl rfl ?_
    refine W.getF K 17 d13_14 (hw _ (List.mem_of_getElem? (i := 47) rfl)) (by repeat (first | exact List.mem_cons_self | apply List.mem_cons_of_mem)) (by repeat (first | exact List.mem_cons_self | apply List.mem_cons_of_mem)) ?_
    refine W.icmp_ge K 71 20 d13_17 (fun h17 => ?_) (fun h17 => False.elim (absurd h17 (by decide)))
    refine W.iconst K 72 d13_71 (0 : Int32) (by decide) ?_
    refine W.istoreN K 73 d13_72 2 rfl rfl (by repeat (first | apply setLS | exact setL0)) ?_
    refine W.iloadN K 74 d13_73 2 rfl rfl ?_
    refine W.aloadN K 75 d13_74 0 rfl rfl rfl ?_
    refine W.getF K 78 d13_75 (hw _ (List.mem_of_getElem? (i := 47) rfl)) (by repeat (first | exact List.mem_cons_self | apply List.mem_cons_of_mem)) (by repeat (first | exact List.mem_cons_self | apply List.mem_cons_of_mem)) ?_
    refine W.icmp_ge K 122 81 d13_78 (fun h78 => False.elim (absurd h78 (by decide))) (fun h78 => ?_)
    refine W.aloadN K 82 d13_81 0 rfl rfl rfl ?_
    refine W.getF K 85 d13_82 (hw _ (List.mem_of_getElem? (i := 51) rfl)) (by repeat (first | exact List.mem_cons_self | apply List.mem_cons_of_mem)) (by repeat (first | exact List.mem_cons_self | apply List.mem_cons_of_mem)) ?_
    refine W.iloadN K 86 d13_85 2 rfl rfl ?_
    refine W.iaload 0 K 87 d13_86 (by repeat (first | exact List.mem_cons_self | apply List.mem_cons_of_mem)) (by decide) rfl ?_
    refine W.if_lt K 116 90 d13_87 (fun h87 => ?_) (fun h87 => False.elim (absurd h87 (by decide)))
    refine W.iinc K 119 d13_116 (1 : Int32) (by decide) rfl (by repeat (first | apply setLS | exact setL0)) ?_
    refine W.goto K 73 d13_119 ?_
    refine W.iloadN K 74 d13_73 2 rfl rfl ?_
    refine W.aloadN K 75 d13_74 0 rfl rfl rfl ?_
    refine W.getF K 78 d13_75 (hw _ (List.mem_of_getElem? (i := 47) rfl)) (by repeat (first | exact List.mem_cons_self | apply List.mem_cons_of_mem)) (by repeat (first | exact List.mem_cons_self | apply List.mem_cons_of_mem)) ?_
    refine W.icmp_ge K 122 81 d13_78 (fun h78 => ?_) (fun h78 => False.elim (absurd h78 (by decide)))
    refine W.aloadN K 123 d13_122 0 rfl rfl rfl ?_
    refine W.dup K 124 d13_123 ?_
    refine W.getF K 127 d13_124 (hw _ (List.mem_of_getElem? (i := 107) rfl)) (by repeat (first | exact List.mem_cons_self | apply List.mem_cons_of_mem)) (by repeat (first | exact List.mem_cons_self | apply List.mem_cons_of_mem)) ?_
    refine W.dupX1 K 128 d13_127 ?_
    refine W.iconst K 129 d13_128 (1 : Int32) (by decide) ?_
    refine W.iadd K 130 d13_129 ?_
    refine W.putF (ty := .int) K 133 d13_130 (hw _ (List.mem_of_getElem? (i := 107) rfl)) (hw _ (List.mem_of_getElem? (i := 108) rfl)) (hw _ (List.mem_of_getElem? (i := 2) rfl)) (by decide +kernel) (by repeat (first | exact Upd.here | apply Upd.there)) (by repeat (first | exact UpdF.here | apply UpdF.there)) ?_
    refine W.istoreN K 134 d13_133 2 rfl rfl (by repeat (first | apply setLS | exact setL0)) ?_
    refine W.aloadN K 135 d13_134 0 rfl rfl rfl ?_
    refine W.getF K 138 d13_135 (hw _ (List.mem_of_getElem? (i := 100) rfl)) (by repeat (first | exact List.mem_cons_self | apply List.mem_cons_of_mem)) (by repeat (first | exact List.mem_cons_self | apply List.mem_cons_of_mem)) ?_
    refine W.iloadN K 139 d13_138 2 rfl rfl ?_
    have hval2 : own_val (-1) 0 x Vl (updA V 0 x) 1 := Or.inl ⟨rfl, fun t ht => by obtain rfl : t = 0 := (by omega); exact updA_same _ _ _⟩
    refine WP.pick ba (by repeat (first | exact pickHere | apply pickThere)) ?_
    refine WP.pick bk2 (by repeat (first | exact pickHere | apply pickThere)) ?_
    refine WP.pick nx2 (by repeat (first | exact pickHere | apply pickThere)) ?_
    refine WP.pick ti (by repeat (first | exact pickHere | apply pickThere)) ?_
    refine W.callVn1 K 142 d13_139 (hw _ (List.mem_of_getElem? (i := 142) rfl)) (hw _ (List.mem_of_getElem? (i := 143) rfl)) (hw _ (List.mem_of_getElem? (i := 145) rfl)) (hw _ (List.mem_of_getElem? (i := 144) rfl)) (hw _ (List.mem_of_getElem? (i := 61) rfl)) (hw _ (List.mem_of_getElem? (i := 146) rfl)) pd_20 (Rc.new (by repeat (first | exact List.mem_cons_self | apply List.mem_cons_of_mem))) (spec_20 l Z a0 hw fr vb vb1 vb2 hm ac st on ti (0 + 1) rs 0 ds de (-1) x Vl (updA V 0 x) (0 + 1) hval2 _ ⟨(by repeat (first | exact List.mem_cons_self | apply List.mem_cons_of_mem)), (by repeat (first | exact List.mem_cons_self | apply List.mem_cons_of_mem)), (by repeat (first | exact List.mem_cons_self | apply List.mem_cons_of_mem)), (by repeat (first | exact List.mem_cons_self | apply List.mem_cons_of_mem)), (by repeat (first | exact List.mem_cons_self | apply List.mem_cons_of_mem)), (by repeat (first | exact List.mem_cons_self | apply List.mem_cons_of_mem)), (by repeat (first | exact List.mem_cons_self | apply List.mem_cons_of_mem))⟩ bk bk1 bk2 hf ba nx nx1 nx2 cz Bk Nx Bf 0 0 esz (by omega) (by omega) 0 hcz (by omega) (by repeat (first | exact List.mem_cons_self | apply List.mem_cons_of_mem)) (by repeat (first | exact List.mem_cons_self | apply List.mem_cons_of_mem)) (by repeat (first | exact List.mem_cons_self | apply List.mem_cons_of_mem)) (by repeat (first | exact List.mem_cons_self | apply List.mem_cons_of_mem)) (by repeat (first | exact List.mem_cons_self | apply List.mem_cons_of_mem))) (fun os1 hq => ?_)
    obtain rfl := hq
    refine W.aloadN K 143 d13_142 0 rfl rfl rfl ?_
    refine W.getF K 146 d13_143 (hw _ (List.mem_of_getElem? (i := 45) rfl)) (by repeat (first | exact List.mem_cons_self | apply List.mem_cons_of_mem)) (by repeat (first | exact List.mem_cons_self | apply List.mem_cons_of_mem)) ?_
    refine WP.pick hm (by repeat (first | exact pickHere | apply pickThere)) ?_
    refine W.callF (C := "java/util/HashMap") (argsL := []) (S := []) K 151 d13_146 (hw _ (List.mem_of_getElem? (i := 174) rfl)) (hw _ (List.mem_of_getElem? (i := 175) rfl)) (hw _ (List.mem_of_getElem? (i := 176) rfl)) (hw _ (List.mem_of_getElem? (i := 177) rfl)) (hw _ (List.mem_of_getElem? (i := 178) rfl)) (hw _ (List.mem_of_getElem? (i := 179) rfl)) (hw _ (List.mem_of_getElem? (i := 180) rfl)) (hw _ (List.mem_of_getElem? (i := 181) rfl)) (hw _ (List.mem_of_getElem? (i := 31) rfl)) (hw _ (List.mem_of_getElem? (i := 182) rfl)) (show parseMethodDescriptor "()Ljava/util/Collection;" = some ⟨[], some (.object "java/util/Collection")⟩ by decide +kernel) (Rc.new List.mem_cons_self) (spec_26R l Z a0 hw hm vv _) (fun v os1 hq => ?_)
    obtain ⟨rfl, rfl⟩ := hq
    refine W.callF (C := "java/util/HashMap$Values") (argsL := []) (S := []) K 156 d13_151 (hw _ (List.mem_of_getElem? (i := 202) rfl)) (hw _ (List.mem_of_getElem? (i := 203) rfl)) (hw _ (List.mem_of_getElem? (i := 204) rfl)) (hw _ (List.mem_of_getElem? (i := 205) rfl)) (hw _ (List.mem_of_getElem? (i := 206) rfl)) (hw _ (List.mem_of_getElem? (i := 207) rfl)) (hw _ (List.mem_of_getElem? (i := 208) rfl)) (hw _ (List.mem_of_getElem? (i := 209) rfl)) (hw _ (List.mem_of_getElem? (i := 188) rfl)) (hw _ (List.mem_of_getElem? (i := 210) rfl)) (show parseMethodDescriptor "()Ljava/util/Iterator;" = some ⟨[], some (.object "java/util/Iterator")⟩ by decide +kernel) (Rc.new (by repeat (first | exact hvv | apply List.mem_cons_of_mem))) (spec_29 l Z a0 hw vv hm _ _ (by repeat (first | exact hvv | apply List.mem_cons_of_mem)) List.mem_cons_self) (fun v os1 hq => ?_)
    obtain ⟨i151, rfl, rfl⟩ := hq
    refine W.astoreN K 157 d13_156 3 rfl rfl rfl (by repeat (first | apply setLS | exact setL0)) ?_
    refine W.aloadN K 158 d13_157 3 rfl rfl rfl ?_
    refine W.callF (C := "java/util/HashMap$ValueIterator") (argsL := []) (S := []) K 163 d13_158 (hw _ (List.mem_of_getElem? (i := 239) rfl)) (hw _ (List.mem_of_getElem? (i := 240) rfl)) (hw _ (List.mem_of_getElem? (i := 241) rfl)) (hw _ (List.mem_of_getElem? (i := 242) rfl)) (hw _ (List.mem_of_getElem? (i := 243) rfl)) (hw _ (List.mem_of_getElem? (i := 244) rfl)) (hw _ (List.mem_of_getElem? (i := 245) rfl)) (hw _ (List.mem_of_getElem? (i := 246) rfl)) (hw _ (List.mem_of_getElem? (i := 222) rfl)) (hw _ (List.mem_of_getElem? (i := 247) rfl)) (show parseMethodDescriptor "()Z" = some ⟨[], some .boolean⟩ by decide +kernel) (Rc.new List.mem_cons_self) (spec_32 l Z a0 hw i151 hm _ List.mem_cons_self) (fun v os1 hq => ?_)
    obtain ⟨rfl, rfl⟩ := hq
    refine W.if_eq K 186 166 d13_163 (fun h163 => ?_) (fun h163 => False.elim (absurd h163 (by decide)))
    refine W.iconst K 187 d13_186 (1 : Int32) (by decide) ?_
    refine WP.pick hf (by repeat (first | exact pickHere | apply pickThere)) ?_
    refine WP.pick nx1 (by repeat (first | exact pickHere | apply pickThere)) ?_
    refine WP.pick nx (by repeat (first | exact pickHere | apply pickThere)) ?_
    refine WP.pick bk1 (by repeat (first | exact pickHere | apply pickThere)) ?_
    refine WP.pick bk (by repeat (first | exact pickHere | apply pickThere)) ?_
    refine WP.pick ac (by repeat (first | exact pickHere | apply pickThere)) ?_
    refine WP.pick vb1 (by repeat (first | exact pickHere | apply pickThere)) ?_
    refine WP.pick vb (by repeat (first | exact pickHere | apply pickThere)) ?_
    refine WP.pick hm (by repeat (first | exact pickHere | apply pickThere)) ?_
    refine WP.pick ba (by repeat (first | exact pickHere | apply pickThere)) ?_
    refine WP.pick bk2 (by repeat (first | exact pickHere | apply pickThere)) ?_
    refine WP.pick nx2 (by repeat (first | exact pickHere | apply pickThere)) ?_
    refine WP.pick ti (by repeat (first | exact pickHere | apply pickThere)) ?_
    refine WP.pick vb2 (by repeat (first | exact pickHere | apply pickThere)) ?_
    refine WP.pick on (by repeat (first | exact pickHere | apply pickThere)) ?_
    refine WP.pick st (by repeat (first | exact pickHere | apply pickThere)) ?_
    refine WP.pick fr (by repeat (first | exact pickHere | apply pickThere)) ?_
    have hI2 := own_IX_link I (v := x) (s1 := 0 + 1) rfl (own_hb_eq x).2 (by decide)
    have hF2 := own_FI_add (fun v => own_fb_ne (own_h v)) FI x
    have ev : updA V 0 x 0 = x := updA_same _ _ _
    refine W.zreturn K d13_187 (Or.inr rfl) ⟨_, rfl, ⟨_, rfl⟩, Or.inr ⟨hno, vb, vb1, vb2, hm, ac, st, on, ti, bk, bk1, bk2, hf, ba, nx, nx1, nx2, (0 + 1), 0, (-1), x, cz + 1, Vl, _, _, _, _, _, rfl, by decide, own_cz hcz, hval2, fun h => ⟨rfl, rfl⟩, fun h => by omega, by rw [ev]; exact hI2, by rw [ev]; exact hF2, Or.inr ⟨_, rfl, (by repeat (first | exact hvv | apply List.mem_cons_of_mem))⟩, fun x hx => by repeat (first | exact hx | apply List.mem_cons_of_mem)⟩⟩
  · refine W.iconst K 9 d13_8 (0 : Int32) (by decide) ?_
    refine W.zreturn K d13_9 (Or.inl rfl) ⟨_, rfl, ⟨_, rfl⟩, Or.inl ⟨hu.mp h5, vb, vb1, vb2, hm, ac, st, on, ti, bk, bk1, bk2, hf, ba, nx, nx1, nx2, 0, 0, (-1), o, cz, Vl, Bk, Nx, Bf, _, rest, rfl, esz, hcz, hval, fun h => ⟨rfl, rfl⟩, fun h => by omega, I, FI, Or.inr ⟨vv, rfl, hvv⟩, fun x hx => hx⟩⟩
set_option maxRecDepth 65536 in
set_option maxHeartbeats 40000000 in
theorem spec_131N (l : Launch) (Z : State) (a0 : Array Value) (hw : ∀ d ∈ tables_1, d.before a0 Z = true) (fr vb vb1 vb2 hm ac st on ti bk bk1 bk2 hf ba nx nx1 nx2 ka : Addr) (rs ds de o cz x : Int32) (V Vl Bk Nx : Nat → Int32) (Bf : Nat → Int64) (rest : OS) (hcz : cz.toInt = ((1 : Nat) : Int)) (hval : own_val (-1) 0 o Vl V 1) (I : own_IX own_hb 1 V Bk Nx) (FI : own_FI (fun v => own_fw (own_h v)) (fun v => own_fb (own_h v)) 1 V Bf) (mk : (ka, ARR Z .int [.int x]) ∈ rest) : OMeets l Z (⟨"com/example/pointfold/pointfold/datalog/FlatRelation", "add", "([I)Z"⟩ : MethodName) prog_10_method_8_code 5 (some .boolean) ({ frames := 6, cells := 5, slots := 24, locals := 86 } : Room) [(.ref fr), (.ref ka)] ([(fr, OBJ Z "com/example/pointfold/pointfold/datalog/FlatRelation" [("com/example/pointfold/pointfold/datalog/FlatRelation", "values", "Lcom/example/pointfold/pointfold/datalog/IntBlocks;", .ref vb), ("com/example/pointfold/pointfold/datalog/FlatRelation", "indexes", "Ljava/util/Map;", .ref hm), ("com/example/pointfold/pointfold/datalog/FlatRelation", "arity", "I", .int 1), ("com/example/pointfold/pointfold/datalog/FlatRelation", "allColumns", "[I", .ref ac), ("com/example/pointfold/pointfold/datalog/FlatRelation", "stored", "[I", .ref st), ("com/example/pointfold/pointfold/datalog/FlatRelation", "only", "[I", .ref on), ("com/example/pointfold/pointfold/datalog/FlatRelation", "unique", "Lcom/example/pointfold/pointfold/datalog/TupleIndex;", .ref ti), ("com/example/pointfold/pointfold/datalog/FlatRelation", "size", "I", .int 1), ("com/example/pointfold/pointfold/datalog/FlatRelation", "roundStart", "I", .int rs), ("com/example/pointfold/pointfold/datalog/FlatRelation", "storedCount", "I", .int 0), ("com/example/pointfold/pointfold/datalog/FlatRelation", "deltaStart", "I", .int ds), ("com/example/pointfold/pointfold/datalog/FlatRelation", "deltaEnd", "I", .int de)]), (st, ARR Z .int [.int (-1)]), (on, ARR Z .int [.int o]), (vb2, ARR Z .int (AF Value.int 16 Vl)), (ti, OBJ Z "com/example/pointfold/pointfold/datalog/TupleIndex" [("com/example/pointfold/pointfold/datalog/TupleIndex", "capacity", "I", .int 16), ("com/example/pointfold/pointfold/datalog/TupleIndex", "buckets", "Lcom/example/pointfold/pointfold/datalog/IntBlocks;", .ref bk), ("com/example/pointfold/pointfold/datalog/TupleIndex", "filter", "Lcom/example/pointfold/pointfold/datalog/HashFilter;", .ref hf), ("com/example/pointfold/pointfold/datalog/TupleIndex", "next", "Lcom/example/pointfold/pointfold/datalog/IntBlocks;", .ref nx), ("com/example/pointfold/pointfold/datalog/TupleIndex", "relation", "Lcom/example/pointfold/pointfold/datalog/FlatRelation;", .ref fr), ("com/example/pointfold/pointfold/datalog/TupleIndex", "columns", "[I", .ref ac), ("com/example/pointfold/pointfold/datalog/TupleIndex", "count", "I", .int cz)]), (nx2, ARR Z .int (AF Value.int 16 Nx)), (bk2, ARR Z .int (AF Value.int 16 Bk)), (ba, ARR Z .long (AF Value.long 2 Bf)), (hm, OBJ Z "java/util/HashMap" [("java/util/HashMap", "loadFactor", "F", .float 1061158912), ("java/util/AbstractMap", "values", "Ljava/util/Collection;", .null), ("java/util/HashMap", "modCount", "I", .int 0), ("java/util/HashMap", "table", "[Ljava/util/HashMap$Node;", .null)]), (vb, OBJ Z "com/example/pointfold/pointfold/datalog/IntBlocks" [("com/example/pointfold/pointfold/datalog/IntBlocks", "blocks", "[[I", .ref vb1)]), (vb1, ARR Z (.array .int) [.ref vb2]), (ac, ARR Z .int [.int 0]), (bk, OBJ Z "com/example/pointfold/pointfold/datalog/IntBlocks" [("com/example/pointfold/pointfold/datalog/IntBlocks", "blocks", "[[I", .ref bk1)]), (bk1, ARR Z (.array .int) [.ref bk2]), (nx, OBJ Z "com/example/pointfold/pointfold/datalog/IntBlocks" [("com/example/pointfold/pointfold/datalog/IntBlocks", "blocks", "[[I", .ref nx1)]), (nx1, ARR Z (.array .int) [.ref nx2]), (hf, OBJ Z "com/example/pointfold/pointfold/datalog/HashFilter" [("com/example/pointfold/pointfold/datalog/HashFilter", "bits", "[J", .ref ba), ("com/example/pointfold/pointfold/datalog/HashFilter", "mask", "J", .long 127)])] ++ rest) (RetV fun v os' => (∃ u : Int32, v = .int u) ∧ (((∃ t, t < 1 ∧ V t = x) ∧ own_REL Z fr 1 V rs ds de rest os') ∨ ((∀ t, t < 1 → V t ≠ x) ∧ own_REL Z fr (1 + 1) (updA V 1 x) rs ds de rest os'))) := by
  have e0 : (0 : Int32).toInt = 0 := by decide
  have esz : (1 : Int32).toInt = ((1 : Nat) : Int) := by decide
  refine OMeets.of_body [.val (.ref fr), .val (.ref ka), .unset, .unset, .unset] pn_13 (laid_eq _ _ rfl) ?_
  intro X K
  change WP X Z _ _ _ _ _ _ ((fr, OBJ Z "com/example/pointfold/pointfold/datalog/FlatRelation" [("com/example/pointfold/pointfold/datalog/FlatRelation", "values", "Lcom/example/pointfold/pointfold/datalog/IntBlocks;", .ref vb), ("com/example/pointfold/pointfold/datalog/FlatRelation", "indexes", "Ljava/util/Map;", .ref hm), ("com/example/pointfold/pointfold/datalog/FlatRelation", "arity", "I", .int 1), ("com/example/pointfold/pointfold/datalog/FlatRelation", "allColumns", "[I", .ref ac), ("com/example/pointfold/pointfold/datalog/FlatRelation", "stored", "[I", .ref st), ("com/example/pointfold/pointfold/datalog/FlatRelation", "only", "[I", .ref on), ("com/example/pointfold/pointfold/datalog/FlatRelation", "unique", "Lcom/example/pointfold/pointfold/datalog/TupleIndex;", .ref ti), ("com/example/pointfold/pointfold/datalog/FlatRelation", "size", "I", .int 1), ("com/example/pointfold/pointfold/datalog/FlatRelation", "roundStart", "I", .int rs), ("com/example/pointfold/pointfold/datalog/FlatRelation", "storedCount", "I", .int 0), ("com/example/pointfold/pointfold/datalog/FlatRelation", "deltaStart", "I", .int ds), ("com/example/pointfold/pointfold/datalog/FlatRelation", "deltaEnd", "I", .int de)]) :: (st, ARR Z .int [.int (-1)]) :: (on, ARR Z .int [.int o]) :: (vb2, ARR Z .int (AF Value.int 16 Vl)) :: (ti, OBJ Z "com/example/pointfold/pointfold/datalog/TupleIndex" [("com/example/pointfold/pointfold/datalog/TupleIndex", "capacity", "I", .int 16), ("com/example/pointfold/pointfold/datalog/TupleIndex", "buckets", "Lcom/example/pointfold/pointfold/datalog/IntBlocks;", .ref bk), ("com/example/pointfold/pointfold/datalog/TupleIndex", "filter", "Lcom/example/pointfold/pointfold/datalog/HashFilter;", .ref hf), ("com/example/pointfold/pointfold/datalog/TupleIndex", "next", "Lcom/example/pointfold/pointfold/datalog/IntBlocks;", .ref nx), ("com/example/pointfold/pointfold/datalog/TupleIndex", "relation", "Lcom/example/pointfold/pointfold/datalog/FlatRelation;", .ref fr), ("com/example/pointfold/pointfold/datalog/TupleIndex", "columns", "[I", .ref ac), ("com/example/pointfold/pointfold/datalog/TupleIndex", "count", "I", .int cz)]) :: (nx2, ARR Z .int (AF Value.int 16 Nx)) :: (bk2, ARR Z .int (AF Value.int 16 Bk)) :: (ba, ARR Z .long (AF Value.long 2 Bf)) :: (hm, OBJ Z "java/util/HashMap" [("java/util/HashMap", "loadFactor", "F", .float 1061158912), ("java/util/AbstractMap", "values", "Ljava/util/Collection;", .null), ("java/util/HashMap", "modCount", "I", .int 0), ("java/util/HashMap", "table", "[Ljava/util/HashMap$Node;", .null)]) :: (vb, OBJ Z "com/example/pointfold/pointfold/datalog/IntBlocks" [("com/example/pointfold/pointfold/datalog/IntBlocks", "blocks", "[[I", .ref vb1)]) :: (vb1, ARR Z (.array .int) [.ref vb2]) :: (ac, ARR Z .int [.int 0]) :: (bk, OBJ Z "com/example/pointfold/pointfold/datalog/IntBlocks" [("com/example/pointfold/pointfold/datalog/IntBlocks", "blocks", "[[I", .ref bk1)]) :: (bk1, ARR Z (.array .int) [.ref bk2]) :: (nx, OBJ Z "com/example/pointfold/pointfold/datalog/IntBlocks" [("com/example/pointfold/pointfold/datalog/IntBlocks", "blocks", "[[I", .ref nx1)]) :: (nx1, ARR Z (.array .int) [.ref nx2]) :: (hf, OBJ Z "com/example/pointfold/pointfold/datalog/HashFilter" [("com/example/pointfold/pointfold/datalog/HashFilter", "bits", "[J", .ref ba), ("com/example/pointfold/pointfold/datalog/HashFilter", "mask", "J", .long 127)]) :: rest) _ _
  refine W.aloadN K 1 d13_0 0 rfl rfl rfl ?_
  refine W.aloadN K 2 d13_1 1 rfl rfl rfl ?_
  refine W.callVv1 K 5 d13_2 (hw _ (List.mem_of_getElem? (i := 116) rfl)) (hw _ (List.mem_of_getElem? (i := 117) rfl)) (hw _ (List.mem_of_getElem? (i := 119) rfl)) (hw _ (List.mem_of_getElem? (i := 118) rfl)) (hw _ (List.mem_of_getElem? (i := 3) rfl)) (hw _ (List.mem_of_getElem? (i := 120) rfl)) pd_14 (Rc.new (by repeat (first | exact List.mem_cons_self | apply List.mem_cons_of_mem))) (spec_14 l Z a0 hw fr vb vb1 vb2 hm ac st on ti 1 rs 0 ds de (-1) o Vl V 1 hval _ ⟨(by repeat (first | exact List.mem_cons_self | apply List.mem_cons_of_mem)), (by repeat (first | exact List.mem_cons_self | apply List.mem_cons_of_mem)), (by repeat (first | exact List.mem_cons_self | apply List.mem_cons_of_mem)), (by repeat (first | exact List.mem_cons_self | apply List.mem_cons_of_mem)), (by repeat (first | exact List.mem_cons_self | apply List.mem_cons_of_mem)), (by repeat (first | exact List.mem_cons_self | apply List.mem_cons_of_mem)), (by repeat (first | exact List.mem_cons_self | apply List.mem_cons_of_mem))⟩ bk bk1 bk2 hf ba nx nx1 nx2 cz Bk Nx Bf ⟨(by repeat (first | exact List.mem_cons_self | apply List.mem_cons_of_mem)), (by repeat (first | exact List.mem_cons_self | apply List.mem_cons_of_mem)), (by repeat (first | exact List.mem_cons_self | apply List.mem_cons_of_mem)), (by repeat (first | exact List.mem_cons_self | apply List.mem_cons_of_mem)), (by repeat (first | exact List.mem_cons_self | apply List.mem_cons_of_mem)), (by repeat (first | exact List.mem_cons_self | apply List.mem_cons_of_mem)), (by repeat (first | exact List.mem_cons_self | apply List.mem_cons_of_mem)), (by repeat (first | exact List.mem_cons_self | apply List.mem_cons_of_mem)), (by repeat (first | exact List.mem_cons_self | apply List.mem_cons_of_mem))⟩ I (by omega) FI ka x (by repeat (first | exact mk | apply List.mem_cons_of_mem))) (fun v os1 hq => ?_)
  obtain ⟨u, rfl, rfl, hu⟩ := hq
  refine W.if_eq K 10 8 d13_5 (fun h5 => ?_) (fun h5 => ?_)
  · have hno : ∀ t, t < 1 → V t ≠ x := fun t ht e => (hu.mpr ⟨t, ht, e⟩) h5
    refine W.iconst K 11 d13_10 (0 : Int32) (by decide) ?_
    refine W.istoreN K 12 d13_11 2 rfl rfl (by repeat (first | apply setLS | exact setL0)) ?_
    refine W.iloadN K 13 d13_12 2 rfl rfl ?_
    refine W.aloadN K 14 d13_13 0 rfl rfl rfl ?_
    refine W.getF K 17 d13_14 (hw _ (List.mem_of_getElem? (i := 47) rfl)) (by repeat (first | exact List.mem_cons_self | apply List.mem_cons_of_mem)) (by repeat (first | exact List.mem_cons_self | apply List.mem_cons_of_mem)) ?_
    refine W.icmp_ge K 71 20 d13_17 (fun h17 => False.elim (absurd h17 (by decide))) (fun h17 => ?_)
    refine W.aloadN K 21 d13_20 0 rfl rfl rfl ?_
    refine W.getF K 24 d13_21 (hw _ (List.mem_of_getElem? (i := 107) rfl)) (by repeat (first | exact List.mem_cons_self | apply List.mem_cons_of_mem)) (by repeat (first | exact List.mem_cons_self | apply List.mem_cons_of_mem)) ?_
    refine W.if_ne K 39 27 d13_24 (fun h24 => ?_) (fun h24 => False.elim (absurd h24 (by decide)))
    refine W.aloadN K 40 d13_39 0 rfl rfl rfl ?_
    refine W.getF K 43 d13_40 (hw _ (List.mem_of_getElem? (i := 51) rfl)) (by repeat (first | exact List.mem_cons_self | apply List.mem_cons_of_mem)) (by repeat (first | exact List.mem_cons_self | apply List.mem_cons_of_mem)) ?_
    refine W.iloadN K 44 d13_43 2 rfl rfl ?_
    refine W.iaload 0 K 45 d13_44 (by repeat (first | exact List.mem_cons_self | apply List.mem_cons_of_mem)) (by decide) rfl ?_
    refine W.if_ge K 65 48 d13_45 (fun h45 => False.elim (absurd h45 (by decide))) (fun h45 => ?_)
    refine W.aloadN K 49 d13_48 0 rfl rfl rfl ?_
    refine W.getF K 52 d13_49 (hw _ (List.mem_of_getElem? (i := 53) rfl)) (by repeat (first | exact List.mem_cons_self | apply List.mem_cons_of_mem)) (by repeat (first | exact List.mem_cons_self | apply List.mem_cons_of_mem)) ?_
    refine W.iloadN K 53 d13_52 2 rfl rfl ?_
    refine W.iaload 0 K 54 d13_53 (by repeat (first | exact List.mem_cons_self | apply List.mem_cons_of_mem)) (by decide) rfl ?_
    refine W.aloadN K 55 d13_54 1 rfl rfl rfl ?_
    refine W.iloadN K 56 d13_55 2 rfl rfl ?_
    refine W.iaload 0 K 57 d13_56 (by repeat (first | exact mk | apply List.mem_cons_of_mem)) (by decide) rfl ?_
    refine W.icmp_eq K 65 60 d13_57 (fun h57 => False.elim (by rcases hval with ⟨-, hv⟩ | ⟨q, -⟩; exact hno 0 (by omega) ((hv 0 (by omega)).trans h57); exact absurd q (by decide))) (fun h57 => ?_)
    refine W.aloadN K 61 d13_60 0 rfl rfl rfl ?_
    refine W.iloadN K 62 d13_61 2 rfl rfl ?_
    refine W.callPn (argsL := [.int 0]) (S := []) K 65 d13_62 (hw _ (List.mem_of_getElem? (i := 248) rfl)) (hw _ (List.mem_of_getElem? (i := 249) rfl)) (hw _ (List.mem_of_getElem? (i := 250) rfl)) (hw _ (List.mem_of_getElem? (i := 2) rfl)) (hw _ (List.mem_of_getElem? (i := 3) rfl)) (hw _ (List.mem_of_getElem? (i := 251) rfl)) pd_33 (Rc.new (by repeat (first | exact List.mem_cons_self | apply List.mem_cons_of_mem))) (spec_33 l Z a0 hw fr vb vb1 vb2 hm ac st on ti rs ds de o _ (by repeat (first | exact List.mem_cons_self | apply List.mem_cons_of_mem))) (fun os1 hq => ?_)
    obtain ⟨nb, n1, n2, rfl⟩ := hq
    refine W.iinc K 68 d13_65 (1 : Int32) (by decide) rfl (by repeat (first | apply setLS | exact setL0)) ?_
    refine W.goto K 12 d13_68 ?_
    refine W.iloadN K 13 d13_12 2 rfl rfl ?_
    refine W.aloadN K 14 d13_13 0 rfl rfl rfl ?_
    refine W.getF K 17 d13_14 (hw _ (List.mem_of_getElem? (i := 47) rfl)) (by repeat (first | exact List.mem_cons_self | apply List.mem_cons_of_mem)) (by repeat (first | exact List.mem_cons_self | apply List.mem_cons_of_mem)) ?_
    refine W.icmp_ge K 71 20 d13_17 (fun h17 => ?_) (fun h17 => False.elim (absurd h17 (by decide)))
    refine W.iconst K 72 d13_71 (0 : Int32) (by decide) ?_
    refine W.istoreN K 73 d13_72 2 rfl rfl (by repeat (first | apply setLS | exact setL0)) ?_
    refine W.iloadN K 74 d13_73 2 rfl rfl ?_
    refine W.aloadN K 75 d13_74 0 rfl rfl rfl ?_
    refine W.getF K 78 d13_75 (hw _ (List.mem_of_getElem? (i := 47) rfl)) (by repeat (first | exact List.mem_cons_self | apply List.mem_cons_of_mem)) (by repeat (first | exact List.mem_cons_self | apply List.mem_cons_of_mem)) ?_
    refine W.icmp_ge K 122 81 d13_78 (fun h78 => False.elim (absurd h78 (by decide))) (fun h78 => ?_)
    refine W.aloadN K 82 d13_81 0 rfl rfl rfl ?_
    refine W.getF K 85 d13_82 (hw _ (List.mem_of_getElem? (i := 51) rfl)) (by repeat (first | exact List.mem_cons_self | apply List.mem_cons_of_mem)) (by repeat (first | exact List.mem_cons_self | apply List.mem_cons_of_mem)) ?_
    refine W.iloadN K 86 d13_85 2 rfl rfl ?_
    refine W.iaload 0 K 87 d13_86 (by repeat (first | exact List.mem_cons_self | apply List.mem_cons_of_mem)) (by decide) rfl ?_
    refine W.if_lt K 116 90 d13_87 (fun h87 => False.elim (absurd h87 (by decide))) (fun h87 => ?_)
    refine W.aloadN K 91 d13_90 0 rfl rfl rfl ?_
    refine W.getF K 94 d13_91 (hw _ (List.mem_of_getElem? (i := 27) rfl)) (by repeat (first | exact List.mem_cons_self | apply List.mem_cons_of_mem)) (by repeat (first | exact List.mem_cons_self | apply List.mem_cons_of_mem)) ?_
    refine W.aloadN K 95 d13_94 0 rfl rfl rfl ?_
    refine W.getF K 98 d13_95 (hw _ (List.mem_of_getElem? (i := 107) rfl)) (by repeat (first | exact List.mem_cons_self | apply List.mem_cons_of_mem)) (by repeat (first | exact List.mem_cons_self | apply List.mem_cons_of_mem)) ?_
    refine W.aloadN K 99 d13_98 0 rfl rfl rfl ?_
    refine W.getF K 102 d13_99 (hw _ (List.mem_of_getElem? (i := 252) rfl)) (by repeat (first | exact List.mem_cons_self | apply List.mem_cons_of_mem)) (by repeat (first | exact List.mem_cons_self | apply List.mem_cons_of_mem)) ?_
    refine W.imul K 103 d13_102 ?_
    refine W.aloadN K 104 d13_103 0 rfl rfl rfl ?_
    refine W.getF K 107 d13_104 (hw _ (List.mem_of_getElem? (i := 51) rfl)) (by repeat (first | exact List.mem_cons_self | apply List.mem_cons_of_mem)) (by repeat (first | exact List.mem_cons_self | apply List.mem_cons_of_mem)) ?_
    refine W.iloadN K 108 d13_107 2 rfl rfl ?_
    refine W.iaload 0 K 109 d13_108 (by repeat (first | exact List.mem_cons_self | apply List.mem_cons_of_mem)) (by decide) rfl ?_
    refine W.iadd K 110 d13_109 ?_
    refine W.aloadN K 111 d13_110 1 rfl rfl rfl ?_
    refine W.iloadN K 112 d13_111 2 rfl rfl ?_
    refine W.iaload 0 K 113 d13_112 (by repeat (first | exact mk | apply List.mem_cons_of_mem)) (by decide) rfl ?_
    refine WP.pick n2 (by repeat (first | exact pickHere | apply pickThere)) ?_
    refine W.callVn2 K 116 d13_113 (hw _ (List.mem_of_getElem? (i := 254) rfl)) (hw _ (List.mem_of_getElem? (i := 165) rfl)) (hw _ (List.mem_of_getElem? (i := 167) rfl)) (hw _ (List.mem_of_getElem? (i := 166) rfl)) (hw _ (List.mem_of_getElem? (i := 17) rfl)) (hw _ (List.mem_of_getElem? (i := 168) rfl)) pd_24 (Rc.new (by repeat (first | exact List.mem_cons_self | apply List.mem_cons_of_mem))) (spec_24 l Z a0 hw nb n1 n2 _ _ 1 (by decide) (by omega) _ _ (by repeat (first | exact List.mem_cons_self | apply List.mem_cons_of_mem)) (by repeat (first | exact List.mem_cons_self | apply List.mem_cons_of_mem))) (fun os1 hq => ?_)
    obtain rfl := hq
    refine W.iinc K 119 d13_116 (1 : Int32) (by decide) rfl (by repeat (first | apply setLS | exact setL0)) ?_
    refine W.goto K 73 d13_119 ?_
    refine W.iloadN K 74 d13_73 2 rfl rfl ?_
    refine W.aloadN K 75 d13_74 0 rfl rfl rfl ?_
    refine W.getF K 78 d13_75 (hw _ (List.mem_of_getElem? (i := 47) rfl)) (by repeat (first | exact List.mem_cons_self | apply List.mem_cons_of_mem)) (by repeat (first | exact List.mem_cons_self | apply List.mem_cons_of_mem)) ?_
    refine W.icmp_ge K 122 81 d13_78 (fun h78 => ?_) (fun h78 => False.elim (absurd h78 (by decide)))
    refine W.aloadN K 123 d13_122 0 rfl rfl rfl ?_
    refine W.dup K 124 d13_123 ?_
    refine W.getF K 127 d13_124 (hw _ (List.mem_of_getElem? (i := 107) rfl)) (by repeat (first | exact List.mem_cons_self | apply List.mem_cons_of_mem)) (by repeat (first | exact List.mem_cons_self | apply List.mem_cons_of_mem)) ?_
    refine W.dupX1 K 128 d13_127 ?_
    refine W.iconst K 129 d13_128 (1 : Int32) (by decide) ?_
    refine W.iadd K 130 d13_129 ?_
    refine W.putF (ty := .int) K 133 d13_130 (hw _ (List.mem_of_getElem? (i := 107) rfl)) (hw _ (List.mem_of_getElem? (i := 108) rfl)) (hw _ (List.mem_of_getElem? (i := 2) rfl)) (by decide +kernel) (by repeat (first | exact Upd.here | apply Upd.there)) (by repeat (first | exact UpdF.here | apply UpdF.there)) ?_
    refine W.istoreN K 134 d13_133 2 rfl rfl (by repeat (first | apply setLS | exact setL0)) ?_
    refine W.aloadN K 135 d13_134 0 rfl rfl rfl ?_
    refine W.getF K 138 d13_135 (hw _ (List.mem_of_getElem? (i := 100) rfl)) (by repeat (first | exact List.mem_cons_self | apply List.mem_cons_of_mem)) (by repeat (first | exact List.mem_cons_self | apply List.mem_cons_of_mem)) ?_
    refine W.iloadN K 139 d13_138 2 rfl rfl ?_
    have hval2 : own_val 0 1 o (updA (updA (fun _ => 0) 0 o) 1 x) (updA V 1 x) 2 := Or.inr ⟨rfl, rfl, fun t ht => by rcases hval with ⟨-, hv⟩ | ⟨q, -⟩; exact own_two (hv 0 (by omega)) ht; exact absurd q (by decide)⟩
    refine WP.pick ba (by repeat (first | exact pickHere | apply pickThere)) ?_
    refine WP.pick bk2 (by repeat (first | exact pickHere | apply pickThere)) ?_
    refine WP.pick nx2 (by repeat (first | exact pickHere | apply pickThere)) ?_
    refine WP.pick ti (by repeat (first | exact pickHere | apply pickThere)) ?_
    refine W.callVn1 K 142 d13_139 (hw _ (List.mem_of_getElem? (i := 142) rfl)) (hw _ (List.mem_of_getElem? (i := 143) rfl)) (hw _ (List.mem_of_getElem? (i := 145) rfl)) (hw _ (List.mem_of_getElem? (i := 144) rfl)) (hw _ (List.mem_of_getElem? (i := 61) rfl)) (hw _ (List.mem_of_getElem? (i := 146) rfl)) pd_20 (Rc.new (by repeat (first | exact List.mem_cons_self | apply List.mem_cons_of_mem))) (spec_20 l Z a0 hw fr nb n1 n2 hm ac st on ti (1 + 1) rs 1 ds de 0 o (updA (updA (fun _ => 0) 0 o) 1 x) (updA V 1 x) (1 + 1) hval2 _ ⟨(by repeat (first | exact List.mem_cons_self | apply List.mem_cons_of_mem)), (by repeat (first | exact List.mem_cons_self | apply List.mem_cons_of_mem)), (by repeat (first | exact List.mem_cons_self | apply List.mem_cons_of_mem)), (by repeat (first | exact List.mem_cons_self | apply List.mem_cons_of_mem)), (by repeat (first | exact List.mem_cons_self | apply List.mem_cons_of_mem)), (by repeat (first | exact List.mem_cons_self | apply List.mem_cons_of_mem)), (by repeat (first | exact List.mem_cons_self | apply List.mem_cons_of_mem))⟩ bk bk1 bk2 hf ba nx nx1 nx2 cz Bk Nx Bf 1 1 esz (by omega) (by omega) 1 hcz (by omega) (by repeat (first | exact List.mem_cons_self | apply List.mem_cons_of_mem)) (by repeat (first | exact List.mem_cons_self | apply List.mem_cons_of_mem)) (by repeat (first | exact List.mem_cons_self | apply List.mem_cons_of_mem)) (by repeat (first | exact List.mem_cons_self | apply List.mem_cons_of_mem)) (by repeat (first | exact List.mem_cons_self | apply List.mem_cons_of_mem))) (fun os1 hq => ?_)
    obtain rfl := hq
    refine W.aloadN K 143 d13_142 0 rfl rfl rfl ?_
    refine W.getF K 146 d13_143 (hw _ (List.mem_of_getElem? (i := 45) rfl)) (by repeat (first | exact List.mem_cons_self | apply List.mem_cons_of_mem)) (by repeat (first | exact List.mem_cons_self | apply List.mem_cons_of_mem)) ?_
    refine WP.pick hm (by repeat (first | exact pickHere | apply pickThere)) ?_
    refine W.callF (C := "java/util/HashMap") (argsL := []) (S := []) K 151 d13_146 (hw _ (List.mem_of_getElem? (i := 174) rfl)) (hw _ (List.mem_of_getElem? (i := 175) rfl)) (hw _ (List.mem_of_getElem? (i := 176) rfl)) (hw _ (List.mem_of_getElem? (i := 177) rfl)) (hw _ (List.mem_of_getElem? (i := 178) rfl)) (hw _ (List.mem_of_getElem? (i := 179) rfl)) (hw _ (List.mem_of_getElem? (i := 180) rfl)) (hw _ (List.mem_of_getElem? (i := 181) rfl)) (hw _ (List.mem_of_getElem? (i := 31) rfl)) (hw _ (List.mem_of_getElem? (i := 182) rfl)) (show parseMethodDescriptor "()Ljava/util/Collection;" = some ⟨[], some (.object "java/util/Collection")⟩ by decide +kernel) (Rc.new List.mem_cons_self) (spec_26N l Z a0 hw hm _) (fun v os1 hq => ?_)
    obtain ⟨vv2, rfl, rfl⟩ := hq
    refine W.callF (C := "java/util/HashMap$Values") (argsL := []) (S := []) K 156 d13_151 (hw _ (List.mem_of_getElem? (i := 202) rfl)) (hw _ (List.mem_of_getElem? (i := 203) rfl)) (hw _ (List.mem_of_getElem? (i := 204) rfl)) (hw _ (List.mem_of_getElem? (i := 205) rfl)) (hw _ (List.mem_of_getElem? (i := 206) rfl)) (hw _ (List.mem_of_getElem? (i := 207) rfl)) (hw _ (List.mem_of_getElem? (i := 208) rfl)) (hw _ (List.mem_of_getElem? (i := 209) rfl)) (hw _ (List.mem_of_getElem? (i := 188) rfl)) (hw _ (List.mem_of_getElem? (i := 210) rfl)) (show parseMethodDescriptor "()Ljava/util/Iterator;" = some ⟨[], some (.object "java/util/Iterator")⟩ by decide +kernel) (Rc.new (by repeat (first | exact List.mem_cons_self | apply List.mem_cons_of_mem))) (spec_29 l Z a0 hw vv2 hm _ _ (by repeat (first | exact List.mem_cons_self | apply List.mem_cons_of_mem)) List.mem_cons_self) (fun v os1 hq => ?_)
    obtain ⟨i151, rfl, rfl⟩ := hq
    refine W.astoreN K 157 d13_156 3 rfl rfl rfl (by repeat (first | apply setLS | exact setL0)) ?_
    refine W.aloadN K 158 d13_157 3 rfl rfl rfl ?_
    refine W.callF (C := "java/util/HashMap$ValueIterator") (argsL := []) (S := []) K 163 d13_158 (hw _ (List.mem_of_getElem? (i := 239) rfl)) (hw _ (List.mem_of_getElem? (i := 240) rfl)) (hw _ (List.mem_of_getElem? (i := 241) rfl)) (hw _ (List.mem_of_getElem? (i := 242) rfl)) (hw _ (List.mem_of_getElem? (i := 243) rfl)) (hw _ (List.mem_of_getElem? (i := 244) rfl)) (hw _ (List.mem_of_getElem? (i := 245) rfl)) (hw _ (List.mem_of_getElem? (i := 246) rfl)) (hw _ (List.mem_of_getElem? (i := 222) rfl)) (hw _ (List.mem_of_getElem? (i := 247) rfl)) (show parseMethodDescriptor "()Z" = some ⟨[], some .boolean⟩ by decide +kernel) (Rc.new List.mem_cons_self) (spec_32 l Z a0 hw i151 hm _ List.mem_cons_self) (fun v os1 hq => ?_)
    obtain ⟨rfl, rfl⟩ := hq
    refine W.if_eq K 186 166 d13_163 (fun h163 => ?_) (fun h163 => False.elim (absurd h163 (by decide)))
    refine W.iconst K 187 d13_186 (1 : Int32) (by decide) ?_
    refine WP.pick hf (by repeat (first | exact pickHere | apply pickThere)) ?_
    refine WP.pick nx1 (by repeat (first | exact pickHere | apply pickThere)) ?_
    refine WP.pick nx (by repeat (first | exact pickHere | apply pickThere)) ?_
    refine WP.pick bk1 (by repeat (first | exact pickHere | apply pickThere)) ?_
    refine WP.pick bk (by repeat (first | exact pickHere | apply pickThere)) ?_
    refine WP.pick ac (by repeat (first | exact pickHere | apply pickThere)) ?_
    refine WP.pick n1 (by repeat (first | exact pickHere | apply pickThere)) ?_
    refine WP.pick nb (by repeat (first | exact pickHere | apply pickThere)) ?_
    refine WP.pick hm (by repeat (first | exact pickHere | apply pickThere)) ?_
    refine WP.pick ba (by repeat (first | exact pickHere | apply pickThere)) ?_
    refine WP.pick bk2 (by repeat (first | exact pickHere | apply pickThere)) ?_
    refine WP.pick nx2 (by repeat (first | exact pickHere | apply pickThere)) ?_
    refine WP.pick ti (by repeat (first | exact pickHere | apply pickThere)) ?_
    refine WP.pick n2 (by repeat (first | exact pickHere | apply pickThere)) ?_
    refine WP.pick on (by repeat (first | exact pickHere | apply pickThere)) ?_
    refine WP.pick st (by repeat (first | exact pickHere | apply pickThere)) ?_
    refine WP.pick fr (by repeat (first | exact pickHere | apply pickThere)) ?_
    have hI2 := own_IX_link I (v := x) (s1 := 1 + 1) rfl (own_hb_eq x).2 (by decide)
    have hF2 := own_FI_add (fun v => own_fb_ne (own_h v)) FI x
    have ev : updA V 1 x 1 = x := updA_same _ _ _
    refine W.zreturn K d13_187 (Or.inr rfl) ⟨_, rfl, ⟨_, rfl⟩, Or.inr ⟨hno, nb, n1, n2, hm, ac, st, on, ti, bk, bk1, bk2, hf, ba, nx, nx1, nx2, (1 + 1), 1, 0, o, cz + 1, (updA (updA (fun _ => 0) 0 o) 1 x), _, _, _, _, _, rfl, by decide, own_cz hcz, hval2, fun h => by omega, fun h => ⟨rfl, rfl⟩, by rw [ev]; exact hI2, by rw [ev]; exact hF2, Or.inr ⟨_, rfl, (by repeat (first | exact List.mem_cons_self | apply List.mem_cons_of_mem))⟩, fun x hx => by repeat (first | exact hx | apply List.mem_cons_of_mem)⟩⟩
  · refine W.iconst K 9 d13_8 (0 : Int32) (by decide) ?_
    refine W.zreturn K d13_9 (Or.inl rfl) ⟨_, rfl, ⟨_, rfl⟩, Or.inl ⟨hu.mp h5, vb, vb1, vb2, hm, ac, st, on, ti, bk, bk1, bk2, hf, ba, nx, nx1, nx2, 1, 0, (-1), o, cz, Vl, Bk, Nx, Bf, _, rest, rfl, esz, hcz, hval, fun h => ⟨rfl, rfl⟩, fun h => by omega, I, FI, Or.inl rfl, fun x hx => hx⟩⟩
set_option maxRecDepth 65536 in
set_option maxHeartbeats 40000000 in
theorem spec_131R (l : Launch) (Z : State) (a0 : Array Value) (hw : ∀ d ∈ tables_1, d.before a0 Z = true) (fr vb vb1 vb2 hm ac st on ti bk bk1 bk2 hf ba nx nx1 nx2 ka : Addr) (rs ds de o cz x : Int32) (V Vl Bk Nx : Nat → Int32) (Bf : Nat → Int64) (rest : OS) (hcz : cz.toInt = ((1 : Nat) : Int)) (hval : own_val (-1) 0 o Vl V 1) (I : own_IX own_hb 1 V Bk Nx) (FI : own_FI (fun v => own_fw (own_h v)) (fun v => own_fb (own_h v)) 1 V Bf) (mk : (ka, ARR Z .int [.int x]) ∈ rest) (vv : Addr) (hvv : (vv, OBJ Z "java/util/HashMap$Values" [("java/util/HashMap$Values", "this$0", "Ljava/util/HashMap;", .ref hm)]) ∈ rest) : OMeets l Z (⟨"com/example/pointfold/pointfold/datalog/FlatRelation", "add", "([I)Z"⟩ : MethodName) prog_10_method_8_code 5 (some .boolean) ({ frames := 6, cells := 5, slots := 24, locals := 86 } : Room) [(.ref fr), (.ref ka)] ([(fr, OBJ Z "com/example/pointfold/pointfold/datalog/FlatRelation" [("com/example/pointfold/pointfold/datalog/FlatRelation", "values", "Lcom/example/pointfold/pointfold/datalog/IntBlocks;", .ref vb), ("com/example/pointfold/pointfold/datalog/FlatRelation", "indexes", "Ljava/util/Map;", .ref hm), ("com/example/pointfold/pointfold/datalog/FlatRelation", "arity", "I", .int 1), ("com/example/pointfold/pointfold/datalog/FlatRelation", "allColumns", "[I", .ref ac), ("com/example/pointfold/pointfold/datalog/FlatRelation", "stored", "[I", .ref st), ("com/example/pointfold/pointfold/datalog/FlatRelation", "only", "[I", .ref on), ("com/example/pointfold/pointfold/datalog/FlatRelation", "unique", "Lcom/example/pointfold/pointfold/datalog/TupleIndex;", .ref ti), ("com/example/pointfold/pointfold/datalog/FlatRelation", "size", "I", .int 1), ("com/example/pointfold/pointfold/datalog/FlatRelation", "roundStart", "I", .int rs), ("com/example/pointfold/pointfold/datalog/FlatRelation", "storedCount", "I", .int 0), ("com/example/pointfold/pointfold/datalog/FlatRelation", "deltaStart", "I", .int ds), ("com/example/pointfold/pointfold/datalog/FlatRelation", "deltaEnd", "I", .int de)]), (st, ARR Z .int [.int (-1)]), (on, ARR Z .int [.int o]), (vb2, ARR Z .int (AF Value.int 16 Vl)), (ti, OBJ Z "com/example/pointfold/pointfold/datalog/TupleIndex" [("com/example/pointfold/pointfold/datalog/TupleIndex", "capacity", "I", .int 16), ("com/example/pointfold/pointfold/datalog/TupleIndex", "buckets", "Lcom/example/pointfold/pointfold/datalog/IntBlocks;", .ref bk), ("com/example/pointfold/pointfold/datalog/TupleIndex", "filter", "Lcom/example/pointfold/pointfold/datalog/HashFilter;", .ref hf), ("com/example/pointfold/pointfold/datalog/TupleIndex", "next", "Lcom/example/pointfold/pointfold/datalog/IntBlocks;", .ref nx), ("com/example/pointfold/pointfold/datalog/TupleIndex", "relation", "Lcom/example/pointfold/pointfold/datalog/FlatRelation;", .ref fr), ("com/example/pointfold/pointfold/datalog/TupleIndex", "columns", "[I", .ref ac), ("com/example/pointfold/pointfold/datalog/TupleIndex", "count", "I", .int cz)]), (nx2, ARR Z .int (AF Value.int 16 Nx)), (bk2, ARR Z .int (AF Value.int 16 Bk)), (ba, ARR Z .long (AF Value.long 2 Bf)), (hm, OBJ Z "java/util/HashMap" [("java/util/HashMap", "loadFactor", "F", .float 1061158912), ("java/util/AbstractMap", "values", "Ljava/util/Collection;", .ref vv), ("java/util/HashMap", "modCount", "I", .int 0), ("java/util/HashMap", "table", "[Ljava/util/HashMap$Node;", .null)]), (vb, OBJ Z "com/example/pointfold/pointfold/datalog/IntBlocks" [("com/example/pointfold/pointfold/datalog/IntBlocks", "blocks", "[[I", .ref vb1)]), (vb1, ARR Z (.array .int) [.ref vb2]), (ac, ARR Z .int [.int 0]), (bk, OBJ Z "com/example/pointfold/pointfold/datalog/IntBlocks" [("com/example/pointfold/pointfold/datalog/IntBlocks", "blocks", "[[I", .ref bk1)]), (bk1, ARR Z (.array .int) [.ref bk2]), (nx, OBJ Z "com/example/pointfold/pointfold/datalog/IntBlocks" [("com/example/pointfold/pointfold/datalog/IntBlocks", "blocks", "[[I", .ref nx1)]), (nx1, ARR Z (.array .int) [.ref nx2]), (hf, OBJ Z "com/example/pointfold/pointfold/datalog/HashFilter" [("com/example/pointfold/pointfold/datalog/HashFilter", "bits", "[J", .ref ba), ("com/example/pointfold/pointfold/datalog/HashFilter", "mask", "J", .long 127)])] ++ rest) (RetV fun v os' => (∃ u : Int32, v = .int u) ∧ (((∃ t, t < 1 ∧ V t = x) ∧ own_REL Z fr 1 V rs ds de rest os') ∨ ((∀ t, t < 1 → V t ≠ x) ∧ own_REL Z fr (1 + 1) (updA V 1 x) rs ds de rest os'))) := by
  have e0 : (0 : Int32).toInt = 0 := by decide
  have esz : (1 : Int32).toInt = ((1 : Nat) : Int) := by decide
  refine OMeets.of_body [.val (.ref fr), .val (.ref ka), .unset, .unset, .unset] pn_13 (laid_eq _ _ rfl) ?_
  intro X K
  change WP X Z _ _ _ _ _ _ ((fr, OBJ Z "com/example/pointfold/pointfold/datalog/FlatRelation" [("com/example/pointfold/pointfold/datalog/FlatRelation", "values", "Lcom/example/pointfold/pointfold/datalog/IntBlocks;", .ref vb), ("com/example/pointfold/pointfold/datalog/FlatRelation", "indexes", "Ljava/util/Map;", .ref hm), ("com/example/pointfold/pointfold/datalog/FlatRelation", "arity", "I", .int 1), ("com/example/pointfold/pointfold/datalog/FlatRelation", "allColumns", "[I", .ref ac), ("com/example/pointfold/pointfold/datalog/FlatRelation", "stored", "[I", .ref st), ("com/example/pointfold/pointfold/datalog/FlatRelation", "only", "[I", .ref on), ("com/example/pointfold/pointfold/datalog/FlatRelation", "unique", "Lcom/example/pointfold/pointfold/datalog/TupleIndex;", .ref ti), ("com/example/pointfold/pointfold/datalog/FlatRelation", "size", "I", .int 1), ("com/example/pointfold/pointfold/datalog/FlatRelation", "roundStart", "I", .int rs), ("com/example/pointfold/pointfold/datalog/FlatRelation", "storedCount", "I", .int 0), ("com/example/pointfold/pointfold/datalog/FlatRelation", "deltaStart", "I", .int ds), ("com/example/pointfold/pointfold/datalog/FlatRelation", "deltaEnd", "I", .int de)]) :: (st, ARR Z .int [.int (-1)]) :: (on, ARR Z .int [.int o]) :: (vb2, ARR Z .int (AF Value.int 16 Vl)) :: (ti, OBJ Z "com/example/pointfold/pointfold/datalog/TupleIndex" [("com/example/pointfold/pointfold/datalog/TupleIndex", "capacity", "I", .int 16), ("com/example/pointfold/pointfold/datalog/TupleIndex", "buckets", "Lcom/example/pointfold/pointfold/datalog/IntBlocks;", .ref bk), ("com/example/pointfold/pointfold/datalog/TupleIndex", "filter", "Lcom/example/pointfold/pointfold/datalog/HashFilter;", .ref hf), ("com/example/pointfold/pointfold/datalog/TupleIndex", "next", "Lcom/example/pointfold/pointfold/datalog/IntBlocks;", .ref nx), ("com/example/pointfold/pointfold/datalog/TupleIndex", "relation", "Lcom/example/pointfold/pointfold/datalog/FlatRelation;", .ref fr), ("com/example/pointfold/pointfold/datalog/TupleIndex", "columns", "[I", .ref ac), ("com/example/pointfold/pointfold/datalog/TupleIndex", "count", "I", .int cz)]) :: (nx2, ARR Z .int (AF Value.int 16 Nx)) :: (bk2, ARR Z .int (AF Value.int 16 Bk)) :: (ba, ARR Z .long (AF Value.long 2 Bf)) :: (hm, OBJ Z "java/util/HashMap" [("java/util/HashMap", "loadFactor", "F", .float 1061158912), ("java/util/AbstractMap", "values", "Ljava/util/Collection;", .ref vv), ("java/util/HashMap", "modCount", "I", .int 0), ("java/util/HashMap", "table", "[Ljava/util/HashMap$Node;", .null)]) :: (vb, OBJ Z "com/example/pointfold/pointfold/datalog/IntBlocks" [("com/example/pointfold/pointfold/datalog/IntBlocks", "blocks", "[[I", .ref vb1)]) :: (vb1, ARR Z (.array .int) [.ref vb2]) :: (ac, ARR Z .int [.int 0]) :: (bk, OBJ Z "com/example/pointfold/pointfold/datalog/IntBlocks" [("com/example/pointfold/pointfold/datalog/IntBlocks", "blocks", "[[I", .ref bk1)]) :: (bk1, ARR Z (.array .int) [.ref bk2]) :: (nx, OBJ Z "com/example/pointfold/pointfold/datalog/IntBlocks" [("com/example/pointfold/pointfold/datalog/IntBlocks", "blocks", "[[I", .ref nx1)]) :: (nx1, ARR Z (.array .int) [.ref nx2]) :: (hf, OBJ Z "com/example/pointfold/pointfold/datalog/HashFilter" [("com/example/pointfold/pointfold/datalog/HashFilter", "bits", "[J", .ref ba), ("com/example/pointfold/pointfold/datalog/HashFilter", "mask", "J", .long 127)]) :: rest) _ _
  refine W.aloadN K 1 d13_0 0 rfl rfl rfl ?_
  refine W.aloadN K 2 d13_1 1 rfl rfl rfl ?_
  refine W.callVv1 K 5 d13_2 (hw _ (List.mem_of_getElem? (i := 116) rfl)) (hw _ (List.mem_of_getElem? (i := 117) rfl)) (hw _ (List.mem_of_getElem? (i := 119) rfl)) (hw _ (List.mem_of_getElem? (i := 118) rfl)) (hw _ (List.mem_of_getElem? (i := 3) rfl)) (hw _ (List.mem_of_getElem? (i := 120) rfl)) pd_14 (Rc.new (by repeat (first | exact List.mem_cons_self | apply List.mem_cons_of_mem))) (spec_14 l Z a0 hw fr vb vb1 vb2 hm ac st on ti 1 rs 0 ds de (-1) o Vl V 1 hval _ ⟨(by repeat (first | exact List.mem_cons_self | apply List.mem_cons_of_mem)), (by repeat (first | exact List.mem_cons_self | apply List.mem_cons_of_mem)), (by repeat (first | exact List.mem_cons_self | apply List.mem_cons_of_mem)), (by repeat (first | exact List.mem_cons_self | apply List.mem_cons_of_mem)), (by repeat (first | exact List.mem_cons_self | apply List.mem_cons_of_mem)), (by repeat (first | exact List.mem_cons_self | apply List.mem_cons_of_mem)), (by repeat (first | exact List.mem_cons_self | apply List.mem_cons_of_mem))⟩ bk bk1 bk2 hf ba nx nx1 nx2 cz Bk Nx Bf ⟨(by repeat (first | exact List.mem_cons_self | apply List.mem_cons_of_mem)), (by repeat (first | exact List.mem_cons_self | apply List.mem_cons_of_mem)), (by repeat (first | exact List.mem_cons_self | apply List.mem_cons_of_mem)), (by repeat (first | exact List.mem_cons_self | apply List.mem_cons_of_mem)), (by repeat (first | exact List.mem_cons_self | apply List.mem_cons_of_mem)), (by repeat (first | exact List.mem_cons_self | apply List.mem_cons_of_mem)), (by repeat (first | exact List.mem_cons_self | apply List.mem_cons_of_mem)), (by repeat (first | exact List.mem_cons_self | apply List.mem_cons_of_mem)), (by repeat (first | exact List.mem_cons_self | apply List.mem_cons_of_mem))⟩ I (by omega) FI ka x (by repeat (first | exact mk | apply List.mem_cons_of_mem))) (fun v os1 hq => ?_)
  obtain ⟨u, rfl, rfl, hu⟩ := hq
  refine W.if_eq K 10 8 d13_5 (fun h5 => ?_) (fun h5 => ?_)
  · have hno : ∀ t, t < 1 → V t ≠ x := fun t ht e => (hu.mpr ⟨t, ht, e⟩) h5
    refine W.iconst K 11 d13_10 (0 : Int32) (by decide) ?_
    refine W.istoreN K 12 d13_11 2 rfl rfl (by repeat (first | apply setLS | exact setL0)) ?_
    refine W.iloadN K 13 d13_12 2 rfl rfl ?_
    refine W.aloadN K 14 d13_13 0 rfl rfl rfl ?_
    refine W.getF K 17 d13_14 (hw _ (List.mem_of_getElem? (i := 47) rfl)) (by repeat (first | exact List.mem_cons_self | apply List.mem_cons_of_mem)) (by repeat (first | exact List.mem_cons_self | apply List.mem_cons_of_mem)) ?_
    refine W.icmp_ge K 71 20 d13_17 (fun h17 => False.elim (absurd h17 (by decide))) (fun h17 => ?_)
    refine W.aloadN K 21 d13_20 0 rfl rfl rfl ?_
    refine W.getF K 24 d13_21 (hw _ (List.mem_of_getElem? (i := 107) rfl)) (by repeat (first | exact List.mem_cons_self | apply List.mem_cons_of_mem)) (by repeat (first | exact List.mem_cons_self | apply List.mem_cons_of_mem)) ?_
    refine W.if_ne K 39 27 d13_24 (fun h24 => ?_) (fun h24 => False.elim (absurd h24 (by decide)))
    refine W.aloadN K 40 d13_39 0 rfl rfl rfl ?_
    refine W.getF K 43 d13_40 (hw _ (List.mem_of_getElem? (i := 51) rfl)) (by repeat (first | exact List.mem_cons_self | apply List.mem_cons_of_mem)) (by repeat (first | exact List.mem_cons_self | apply List.mem_cons_of_mem)) ?_
    refine W.iloadN K 44 d13_43 2 rfl rfl ?_
    refine W.iaload 0 K 45 d13_44 (by repeat (first | exact List.mem_cons_self | apply List.mem_cons_of_mem)) (by decide) rfl ?_
    refine W.if_ge K 65 48 d13_45 (fun h45 => False.elim (absurd h45 (by decide))) (fun h45 => ?_)
    refine W.aloadN K 49 d13_48 0 rfl rfl rfl ?_
    refine W.getF K 52 d13_49 (hw _ (List.mem_of_getElem? (i := 53) rfl)) (by repeat (first | exact List.mem_cons_self | apply List.mem_cons_of_mem)) (by repeat (first | exact List.mem_cons_self | apply List.mem_cons_of_mem)) ?_
    refine W.iloadN K 53 d13_52 2 rfl rfl ?_
    refine W.iaload 0 K 54 d13_53 (by repeat (first | exact List.mem_cons_self | apply List.mem_cons_of_mem)) (by decide) rfl ?_
    refine W.aloadN K 55 d13_54 1 rfl rfl rfl ?_
    refine W.iloadN K 56 d13_55 2 rfl rfl ?_
    refine W.iaload 0 K 57 d13_56 (by repeat (first | exact mk | apply List.mem_cons_of_mem)) (by decide) rfl ?_
    refine W.icmp_eq K 65 60 d13_57 (fun h57 => False.elim (by rcases hval with ⟨-, hv⟩ | ⟨q, -⟩; exact hno 0 (by omega) ((hv 0 (by omega)).trans h57); exact absurd q (by decide))) (fun h57 => ?_)
    refine W.aloadN K 61 d13_60 0 rfl rfl rfl ?_
    refine W.iloadN K 62 d13_61 2 rfl rfl ?_
    refine W.callPn (argsL := [.int 0]) (S := []) K 65 d13_62 (hw _ (List.mem_of_getElem? (i := 248) rfl)) (hw _ (List.mem_of_getElem? (i := 249) rfl)) (hw _ (List.mem_of_getElem? (i := 250) rfl)) (hw _ (List.mem_of_getElem? (i := 2) rfl)) (hw _ (List.mem_of_getElem? (i := 3) rfl)) (hw _ (List.mem_of_getElem? (i := 251) rfl)) pd_33 (Rc.new (by repeat (first | exact List.mem_cons_self | apply List.mem_cons_of_mem))) (spec_33 l Z a0 hw fr vb vb1 vb2 hm ac st on ti rs ds de o _ (by repeat (first | exact List.mem_cons_self | apply List.mem_cons_of_mem))) (fun os1 hq => ?_)
    obtain ⟨nb, n1, n2, rfl⟩ := hq
    refine W.iinc K 68 d13_65 (1 : Int32) (by decide) rfl (by repeat (first | apply setLS | exact setL0)) ?_
    refine W.goto K 12 d13_68 ?_
    refine W.iloadN K 13 d13_12 2 rfl rfl ?_
    refine W.aloadN K 14 d13_13 0 rfl rfl rfl ?_
    refine W.getF K 17 d13_14 (hw _ (List.mem_of_getElem? (i := 47) rfl)) (by repeat (first | exact List.mem_cons_self | apply List.mem_cons_of_mem)) (by repeat (first | exact List.mem_cons_self | apply List.mem_cons_of_mem)) ?_
    refine W.icmp_ge K 71 20 d13_17 (fun h17 => ?_) (fun h17 => False.elim (absurd h17 (by decide)))
    refine W.iconst K 72 d13_71 (0 : Int32) (by decide) ?_
    refine W.istoreN K 73 d13_72 2 rfl rfl (by repeat (first | apply setLS | exact setL0)) ?_
    refine W.iloadN K 74 d13_73 2 rfl rfl ?_
    refine W.aloadN K 75 d13_74 0 rfl rfl rfl ?_
    refine W.getF K 78 d13_75 (hw _ (List.mem_of_getElem? (i := 47) rfl)) (by repeat (first | exact List.mem_cons_self | apply List.mem_cons_of_mem)) (by repeat (first | exact List.mem_cons_self | apply List.mem_cons_of_mem)) ?_
    refine W.icmp_ge K 122 81 d13_78 (fun h78 => False.elim (absurd h78 (by decide))) (fun h78 => ?_)
    refine W.aloadN K 82 d13_81 0 rfl rfl rfl ?_
    refine W.getF K 85 d13_82 (hw _ (List.mem_of_getElem? (i := 51) rfl)) (by repeat (first | exact List.mem_cons_self | apply List.mem_cons_of_mem)) (by repeat (first | exact List.mem_cons_self | apply List.mem_cons_of_mem)) ?_
    refine W.iloadN K 86 d13_85 2 rfl rfl ?_
    refine W.iaload 0 K 87 d13_86 (by repeat (first | exact List.mem_cons_self | apply List.mem_cons_of_mem)) (by decide) rfl ?_
    refine W.if_lt K 116 90 d13_87 (fun h87 => False.elim (absurd h87 (by decide))) (fun h87 => ?_)
    refine W.aloadN K 91 d13_90 0 rfl rfl rfl ?_
    refine W.getF K 94 d13_91 (hw _ (List.mem_of_getElem? (i := 27) rfl)) (by repeat (first | exact List.mem_cons_self | apply List.mem_cons_of_mem)) (by repeat (first | exact List.mem_cons_self | apply List.mem_cons_of_mem)) ?_
    refine W.aloadN K 95 d13_94 0 rfl rfl rfl ?_
    refine W.getF K 98 d13_95 (hw _ (List.mem_of_getElem? (i := 107) rfl)) (by repeat (first | exact List.mem_cons_self | apply List.mem_cons_of_mem)) (by repeat (first | exact List.mem_cons_self | apply List.mem_cons_of_mem)) ?_
    refine W.aloadN K 99 d13_98 0 rfl rfl rfl ?_
    refine W.getF K 102 d13_99 (hw _ (List.mem_of_getElem? (i := 252) rfl)) (by repeat (first | exact List.mem_cons_self | apply List.mem_cons_of_mem)) (by repeat (first | exact List.mem_cons_self | apply List.mem_cons_of_mem)) ?_
    refine W.imul K 103 d13_102 ?_
    refine W.aloadN K 104 d13_103 0 rfl rfl rfl ?_
    refine W.getF K 107 d13_104 (hw _ (List.mem_of_getElem? (i := 51) rfl)) (by repeat (first | exact List.mem_cons_self | apply List.mem_cons_of_mem)) (by repeat (first | exact List.mem_cons_self | apply List.mem_cons_of_mem)) ?_
    refine W.iloadN K 108 d13_107 2 rfl rfl ?_
    refine W.iaload 0 K 109 d13_108 (by repeat (first | exact List.mem_cons_self | apply List.mem_cons_of_mem)) (by decide) rfl ?_
    refine W.iadd K 110 d13_109 ?_
    refine W.aloadN K 111 d13_110 1 rfl rfl rfl ?_
    refine W.iloadN K 112 d13_111 2 rfl rfl ?_
    refine W.iaload 0 K 113 d13_112 (by repeat (first | exact mk | apply List.mem_cons_of_mem)) (by decide) rfl ?_
    refine WP.pick n2 (by repeat (first | exact pickHere | apply pickThere)) ?_
    refine W.callVn2 K 116 d13_113 (hw _ (List.mem_of_getElem? (i := 254) rfl)) (hw _ (List.mem_of_getElem? (i := 165) rfl)) (hw _ (List.mem_of_getElem? (i := 167) rfl)) (hw _ (List.mem_of_getElem? (i := 166) rfl)) (hw _ (List.mem_of_getElem? (i := 17) rfl)) (hw _ (List.mem_of_getElem? (i := 168) rfl)) pd_24 (Rc.new (by repeat (first | exact List.mem_cons_self | apply List.mem_cons_of_mem))) (spec_24 l Z a0 hw nb n1 n2 _ _ 1 (by decide) (by omega) _ _ (by repeat (first | exact List.mem_cons_self | apply List.mem_cons_of_mem)) (by repeat (first | exact List.mem_cons_self | apply List.mem_cons_of_mem))) (fun os1 hq => ?_)
    obtain rfl := hq
    refine W.iinc K 119 d13_116 (1 : Int32) (by decide) rfl (by repeat (first | apply setLS | exact setL0)) ?_
    refine W.goto K 73 d13_119 ?_
    refine W.iloadN K 74 d13_73 2 rfl rfl ?_
    refine W.aloadN K 75 d13_74 0 rfl rfl rfl ?_
    refine W.getF K 78 d13_75 (hw _ (List.mem_of_getElem? (i := 47) rfl)) (by repeat (first | exact List.mem_cons_self | apply List.mem_cons_of_mem)) (by repeat (first | exact List.mem_cons_self | apply List.mem_cons_of_mem)) ?_
    refine W.icmp_ge K 122 81 d13_78 (fun h78 => ?_) (fun h78 => False.elim (absurd h78 (by decide)))
    refine W.aloadN K 123 d13_122 0 rfl rfl rfl ?_
    refine W.dup K 124 d13_123 ?_
    refine W.getF K 127 d13_124 (hw _ (List.mem_of_getElem? (i := 107) rfl)) (by repeat (first | exact List.mem_cons_self | apply List.mem_cons_of_mem)) (by repeat (first | exact List.mem_cons_self | apply List.mem_cons_of_mem)) ?_
    refine W.dupX1 K 128 d13_127 ?_
    refine W.iconst K 129 d13_128 (1 : Int32) (by decide) ?_
    refine W.iadd K 130 d13_129 ?_
    refine W.putF (ty := .int) K 133 d13_130 (hw _ (List.mem_of_getElem? (i := 107) rfl)) (hw _ (List.mem_of_getElem? (i := 108) rfl)) (hw _ (List.mem_of_getElem? (i := 2) rfl)) (by decide +kernel) (by repeat (first | exact Upd.here | apply Upd.there)) (by repeat (first | exact UpdF.here | apply UpdF.there)) ?_
    refine W.istoreN K 134 d13_133 2 rfl rfl (by repeat (first | apply setLS | exact setL0)) ?_
    refine W.aloadN K 135 d13_134 0 rfl rfl rfl ?_
    refine W.getF K 138 d13_135 (hw _ (List.mem_of_getElem? (i := 100) rfl)) (by repeat (first | exact List.mem_cons_self | apply List.mem_cons_of_mem)) (by repeat (first | exact List.mem_cons_self | apply List.mem_cons_of_mem)) ?_
    refine W.iloadN K 139 d13_138 2 rfl rfl ?_
    have hval2 : own_val 0 1 o (updA (updA (fun _ => 0) 0 o) 1 x) (updA V 1 x) 2 := Or.inr ⟨rfl, rfl, fun t ht => by rcases hval with ⟨-, hv⟩ | ⟨q, -⟩; exact own_two (hv 0 (by omega)) ht; exact absurd q (by decide)⟩
    refine WP.pick ba (by repeat (first | exact pickHere | apply pickThere)) ?_
    refine WP.pick bk2 (by repeat (first | exact pickHere | apply pickThere)) ?_
    refine WP.pick nx2 (by repeat (first | exact pickHere | apply pickThere)) ?_
    refine WP.pick ti (by repeat (first | exact pickHere | apply pickThere)) ?_
    refine W.callVn1 K 142 d13_139 (hw _ (List.mem_of_getElem? (i := 142) rfl)) (hw _ (List.mem_of_getElem? (i := 143) rfl)) (hw _ (List.mem_of_getElem? (i := 145) rfl)) (hw _ (List.mem_of_getElem? (i := 144) rfl)) (hw _ (List.mem_of_getElem? (i := 61) rfl)) (hw _ (List.mem_of_getElem? (i := 146) rfl)) pd_20 (Rc.new (by repeat (first | exact List.mem_cons_self | apply List.mem_cons_of_mem))) (spec_20 l Z a0 hw fr nb n1 n2 hm ac st on ti (1 + 1) rs 1 ds de 0 o (updA (updA (fun _ => 0) 0 o) 1 x) (updA V 1 x) (1 + 1) hval2 _ ⟨(by repeat (first | exact List.mem_cons_self | apply List.mem_cons_of_mem)), (by repeat (first | exact List.mem_cons_self | apply List.mem_cons_of_mem)), (by repeat (first | exact List.mem_cons_self | apply List.mem_cons_of_mem)), (by repeat (first | exact List.mem_cons_self | apply List.mem_cons_of_mem)), (by repeat (first | exact List.mem_cons_self | apply List.mem_cons_of_mem)), (by repeat (first | exact List.mem_cons_self | apply List.mem_cons_of_mem)), (by repeat (first | exact List.mem_cons_self | apply List.mem_cons_of_mem))⟩ bk bk1 bk2 hf ba nx nx1 nx2 cz Bk Nx Bf 1 1 esz (by omega) (by omega) 1 hcz (by omega) (by repeat (first | exact List.mem_cons_self | apply List.mem_cons_of_mem)) (by repeat (first | exact List.mem_cons_self | apply List.mem_cons_of_mem)) (by repeat (first | exact List.mem_cons_self | apply List.mem_cons_of_mem)) (by repeat (first | exact List.mem_cons_self | apply List.mem_cons_of_mem)) (by repeat (first | exact List.mem_cons_self | apply List.mem_cons_of_mem))) (fun os1 hq => ?_)
    obtain rfl := hq
    refine W.aloadN K 143 d13_142 0 rfl rfl rfl ?_
    refine W.getF K 146 d13_143 (hw _ (List.mem_of_getElem? (i := 45) rfl)) (by repeat (first | exact List.mem_cons_self | apply List.mem_cons_of_mem)) (by repeat (first | exact List.mem_cons_self | apply List.mem_cons_of_mem)) ?_
    refine WP.pick hm (by repeat (first | exact pickHere | apply pickThere)) ?_
    refine W.callF (C := "java/util/HashMap") (argsL := []) (S := []) K 151 d13_146 (hw _ (List.mem_of_getElem? (i := 174) rfl)) (hw _ (List.mem_of_getElem? (i := 175) rfl)) (hw _ (List.mem_of_getElem? (i := 176) rfl)) (hw _ (List.mem_of_getElem? (i := 177) rfl)) (hw _ (List.mem_of_getElem? (i := 178) rfl)) (hw _ (List.mem_of_getElem? (i := 179) rfl)) (hw _ (List.mem_of_getElem? (i := 180) rfl)) (hw _ (List.mem_of_getElem? (i := 181) rfl)) (hw _ (List.mem_of_getElem? (i := 31) rfl)) (hw _ (List.mem_of_getElem? (i := 182) rfl)) (show parseMethodDescriptor "()Ljava/util/Collection;" = some ⟨[], some (.object "java/util/Collection")⟩ by decide +kernel) (Rc.new List.mem_cons_self) (spec_26R l Z a0 hw hm vv _) (fun v os1 hq => ?_)
    obtain ⟨rfl, rfl⟩ := hq
    refine W.callF (C := "java/util/HashMap$Values") (argsL := []) (S := []) K 156 d13_151 (hw _ (List.mem_of_getElem? (i := 202) rfl)) (hw _ (List.mem_of_getElem? (i := 203) rfl)) (hw _ (List.mem_of_getElem? (i := 204) rfl)) (hw _ (List.mem_of_getElem? (i := 205) rfl)) (hw _ (List.mem_of_getElem? (i := 206) rfl)) (hw _ (List.mem_of_getElem? (i := 207) rfl)) (hw _ (List.mem_of_getElem? (i := 208) rfl)) (hw _ (List.mem_of_getElem? (i := 209) rfl)) (hw _ (List.mem_of_getElem? (i := 188) rfl)) (hw _ (List.mem_of_getElem? (i := 210) rfl)) (show parseMethodDescriptor "()Ljava/util/Iterator;" = some ⟨[], some (.object "java/util/Iterator")⟩ by decide +kernel) (Rc.new (by repeat (first | exact hvv | apply List.mem_cons_of_mem))) (spec_29 l Z a0 hw vv hm _ _ (by repeat (first | exact hvv | apply List.mem_cons_of_mem)) List.mem_cons_self) (fun v os1 hq => ?_)
    obtain ⟨i151, rfl, rfl⟩ := hq
    refine W.astoreN K 157 d13_156 3 rfl rfl rfl (by repeat (first | apply setLS | exact setL0)) ?_
    refine W.aloadN K 158 d13_157 3 rfl rfl rfl ?_
    refine W.callF (C := "java/util/HashMap$ValueIterator") (argsL := []) (S := []) K 163 d13_158 (hw _ (List.mem_of_getElem? (i := 239) rfl)) (hw _ (List.mem_of_getElem? (i := 240) rfl)) (hw _ (List.mem_of_getElem? (i := 241) rfl)) (hw _ (List.mem_of_getElem? (i := 242) rfl)) (hw _ (List.mem_of_getElem? (i := 243) rfl)) (hw _ (List.mem_of_getElem? (i := 244) rfl)) (hw _ (List.mem_of_getElem? (i := 245) rfl)) (hw _ (List.mem_of_getElem? (i := 246) rfl)) (hw _ (List.mem_of_getElem? (i := 222) rfl)) (hw _ (List.mem_of_getElem? (i := 247) rfl)) (show parseMethodDescriptor "()Z" = some ⟨[], some .boolean⟩ by decide +kernel) (Rc.new List.mem_cons_self) (spec_32 l Z a0 hw i151 hm _ List.mem_cons_self) (fun v os1 hq => ?_)
    obtain ⟨rfl, rfl⟩ := hq
    refine W.if_eq K 186 166 d13_163 (fun h163 => ?_) (fun h163 => False.elim (absurd h163 (by decide)))
    refine W.iconst K 187 d13_186 (1 : Int32) (by decide) ?_
    refine WP.pick hf (by repeat (first | exact pickHere | apply pickThere)) ?_
    refine WP.pick nx1 (by repeat (first | exact pickHere | apply pickThere)) ?_
    refine WP.pick nx (by repeat (first | exact pickHere | apply pickThere)) ?_
    refine WP.pick bk1 (by repeat (first | exact pickHere | apply pickThere)) ?_
    refine WP.pick bk (by repeat (first | exact pickHere | apply pickThere)) ?_
    refine WP.pick ac (by repeat (first | exact pickHere | apply pickThere)) ?_
    refine WP.pick n1 (by repeat (first | exact pickHere | apply pickThere)) ?_
    refine WP.pick nb (by repeat (first | exact pickHere | apply pickThere)) ?_
    refine WP.pick hm (by repeat (first | exact pickHere | apply pickThere)) ?_
    refine WP.pick ba (by repeat (first | exact pickHere | apply pickThere)) ?_
    refine WP.pick bk2 (by repeat (first | exact pickHere | apply pickThere)) ?_
    refine WP.pick nx2 (by repeat (first | exact pickHere | apply pickThere)) ?_
    refine WP.pick ti (by repeat (first | exact pickHere | apply pickThere)) ?_
    refine WP.pick n2 (by repeat (first | exact pickHere | apply pickThere)) ?_
    refine WP.pick on (by repeat (first | exact pickHere | apply pickThere)) ?_
    refine WP.pick st (by repeat (first | exact pickHere | apply pickThere)) ?_
    refine WP.pick fr (by repeat (first | exact pickHere | apply pickThere)) ?_
    have hI2 := own_IX_link I (v := x) (s1 := 1 + 1) rfl (own_hb_eq x).2 (by decide)
    have hF2 := own_FI_add (fun v => own_fb_ne (own_h v)) FI x
    have ev : updA V 1 x 1 = x := updA_same _ _ _
    refine W.zreturn K d13_187 (Or.inr rfl) ⟨_, rfl, ⟨_, rfl⟩, Or.inr ⟨hno, nb, n1, n2, hm, ac, st, on, ti, bk, bk1, bk2, hf, ba, nx, nx1, nx2, (1 + 1), 1, 0, o, cz + 1, (updA (updA (fun _ => 0) 0 o) 1 x), _, _, _, _, _, rfl, by decide, own_cz hcz, hval2, fun h => by omega, fun h => ⟨rfl, rfl⟩, by rw [ev]; exact hI2, by rw [ev]; exact hF2, Or.inr ⟨_, rfl, (by repeat (first | exact hvv | apply List.mem_cons_of_mem))⟩, fun x hx => by repeat (first | exact hx | apply List.mem_cons_of_mem)⟩⟩
  · refine W.iconst K 9 d13_8 (0 : Int32) (by decide) ?_
    refine W.zreturn K d13_9 (Or.inl rfl) ⟨_, rfl, ⟨_, rfl⟩, Or.inl ⟨hu.mp h5, vb, vb1, vb2, hm, ac, st, on, ti, bk, bk1, bk2, hf, ba, nx, nx1, nx2, 1, 0, (-1), o, cz, Vl, Bk, Nx, Bf, _, rest, rfl, esz, hcz, hval, fun h => ⟨rfl, rfl⟩, fun h => by omega, I, FI, Or.inr ⟨vv, rfl, hvv⟩, fun x hx => hx⟩⟩
set_option maxRecDepth 65536 in
set_option maxHeartbeats 40000000 in
theorem spec_132N (l : Launch) (Z : State) (a0 : Array Value) (hw : ∀ d ∈ tables_1, d.before a0 Z = true) (fr vb vb1 vb2 hm ac st on ti bk bk1 bk2 hf ba nx nx1 nx2 ka : Addr) (rs ds de o cz x : Int32) (V Vl Bk Nx : Nat → Int32) (Bf : Nat → Int64) (rest : OS) (hcz : cz.toInt = ((2 : Nat) : Int)) (hval : own_val 0 1 o Vl V 2) (I : own_IX own_hb 2 V Bk Nx) (FI : own_FI (fun v => own_fw (own_h v)) (fun v => own_fb (own_h v)) 2 V Bf) (mk : (ka, ARR Z .int [.int x]) ∈ rest) : OMeets l Z (⟨"com/example/pointfold/pointfold/datalog/FlatRelation", "add", "([I)Z"⟩ : MethodName) prog_10_method_8_code 5 (some .boolean) ({ frames := 6, cells := 5, slots := 24, locals := 86 } : Room) [(.ref fr), (.ref ka)] ([(fr, OBJ Z "com/example/pointfold/pointfold/datalog/FlatRelation" [("com/example/pointfold/pointfold/datalog/FlatRelation", "values", "Lcom/example/pointfold/pointfold/datalog/IntBlocks;", .ref vb), ("com/example/pointfold/pointfold/datalog/FlatRelation", "indexes", "Ljava/util/Map;", .ref hm), ("com/example/pointfold/pointfold/datalog/FlatRelation", "arity", "I", .int 1), ("com/example/pointfold/pointfold/datalog/FlatRelation", "allColumns", "[I", .ref ac), ("com/example/pointfold/pointfold/datalog/FlatRelation", "stored", "[I", .ref st), ("com/example/pointfold/pointfold/datalog/FlatRelation", "only", "[I", .ref on), ("com/example/pointfold/pointfold/datalog/FlatRelation", "unique", "Lcom/example/pointfold/pointfold/datalog/TupleIndex;", .ref ti), ("com/example/pointfold/pointfold/datalog/FlatRelation", "size", "I", .int 2), ("com/example/pointfold/pointfold/datalog/FlatRelation", "roundStart", "I", .int rs), ("com/example/pointfold/pointfold/datalog/FlatRelation", "storedCount", "I", .int 1), ("com/example/pointfold/pointfold/datalog/FlatRelation", "deltaStart", "I", .int ds), ("com/example/pointfold/pointfold/datalog/FlatRelation", "deltaEnd", "I", .int de)]), (st, ARR Z .int [.int 0]), (on, ARR Z .int [.int o]), (vb2, ARR Z .int (AF Value.int 16 Vl)), (ti, OBJ Z "com/example/pointfold/pointfold/datalog/TupleIndex" [("com/example/pointfold/pointfold/datalog/TupleIndex", "capacity", "I", .int 16), ("com/example/pointfold/pointfold/datalog/TupleIndex", "buckets", "Lcom/example/pointfold/pointfold/datalog/IntBlocks;", .ref bk), ("com/example/pointfold/pointfold/datalog/TupleIndex", "filter", "Lcom/example/pointfold/pointfold/datalog/HashFilter;", .ref hf), ("com/example/pointfold/pointfold/datalog/TupleIndex", "next", "Lcom/example/pointfold/pointfold/datalog/IntBlocks;", .ref nx), ("com/example/pointfold/pointfold/datalog/TupleIndex", "relation", "Lcom/example/pointfold/pointfold/datalog/FlatRelation;", .ref fr), ("com/example/pointfold/pointfold/datalog/TupleIndex", "columns", "[I", .ref ac), ("com/example/pointfold/pointfold/datalog/TupleIndex", "count", "I", .int cz)]), (nx2, ARR Z .int (AF Value.int 16 Nx)), (bk2, ARR Z .int (AF Value.int 16 Bk)), (ba, ARR Z .long (AF Value.long 2 Bf)), (hm, OBJ Z "java/util/HashMap" [("java/util/HashMap", "loadFactor", "F", .float 1061158912), ("java/util/AbstractMap", "values", "Ljava/util/Collection;", .null), ("java/util/HashMap", "modCount", "I", .int 0), ("java/util/HashMap", "table", "[Ljava/util/HashMap$Node;", .null)]), (vb, OBJ Z "com/example/pointfold/pointfold/datalog/IntBlocks" [("com/example/pointfold/pointfold/datalog/IntBlocks", "blocks", "[[I", .ref vb1)]), (vb1, ARR Z (.array .int) [.ref vb2]), (ac, ARR Z .int [.int 0]), (bk, OBJ Z "com/example/pointfold/pointfold/datalog/IntBlocks" [("com/example/pointfold/pointfold/datalog/IntBlocks", "blocks", "[[I", .ref bk1)]), (bk1, ARR Z (.array .int) [.ref bk2]), (nx, OBJ Z "com/example/pointfold/pointfold/datalog/IntBlocks" [("com/example/pointfold/pointfold/datalog/IntBlocks", "blocks", "[[I", .ref nx1)]), (nx1, ARR Z (.array .int) [.ref nx2]), (hf, OBJ Z "com/example/pointfold/pointfold/datalog/HashFilter" [("com/example/pointfold/pointfold/datalog/HashFilter", "bits", "[J", .ref ba), ("com/example/pointfold/pointfold/datalog/HashFilter", "mask", "J", .long 127)])] ++ rest) (RetV fun v os' => (∃ u : Int32, v = .int u) ∧ (((∃ t, t < 2 ∧ V t = x) ∧ own_REL Z fr 2 V rs ds de rest os') ∨ ((∀ t, t < 2 → V t ≠ x) ∧ own_REL Z fr (2 + 1) (updA V 2 x) rs ds de rest os'))) := by
  have e0 : (0 : Int32).toInt = 0 := by decide
  have esz : (2 : Int32).toInt = ((2 : Nat) : Int) := by decide
  refine OMeets.of_body [.val (.ref fr), .val (.ref ka), .unset, .unset, .unset] pn_13 (laid_eq _ _ rfl) ?_
  intro X K
  change WP X Z _ _ _ _ _ _ ((fr, OBJ Z "com/example/pointfold/pointfold/datalog/FlatRelation" [("com/example/pointfold/pointfold/datalog/FlatRelation", "values", "Lcom/example/pointfold/pointfold/datalog/IntBlocks;", .ref vb), ("com/example/pointfold/pointfold/datalog/FlatRelation", "indexes", "Ljava/util/Map;", .ref hm), ("com/example/pointfold/pointfold/datalog/FlatRelation", "arity", "I", .int 1), ("com/example/pointfold/pointfold/datalog/FlatRelation", "allColumns", "[I", .ref ac), ("com/example/pointfold/pointfold/datalog/FlatRelation", "stored", "[I", .ref st), ("com/example/pointfold/pointfold/datalog/FlatRelation", "only", "[I", .ref on), ("com/example/pointfold/pointfold/datalog/FlatRelation", "unique", "Lcom/example/pointfold/pointfold/datalog/TupleIndex;", .ref ti), ("com/example/pointfold/pointfold/datalog/FlatRelation", "size", "I", .int 2), ("com/example/pointfold/pointfold/datalog/FlatRelation", "roundStart", "I", .int rs), ("com/example/pointfold/pointfold/datalog/FlatRelation", "storedCount", "I", .int 1), ("com/example/pointfold/pointfold/datalog/FlatRelation", "deltaStart", "I", .int ds), ("com/example/pointfold/pointfold/datalog/FlatRelation", "deltaEnd", "I", .int de)]) :: (st, ARR Z .int [.int 0]) :: (on, ARR Z .int [.int o]) :: (vb2, ARR Z .int (AF Value.int 16 Vl)) :: (ti, OBJ Z "com/example/pointfold/pointfold/datalog/TupleIndex" [("com/example/pointfold/pointfold/datalog/TupleIndex", "capacity", "I", .int 16), ("com/example/pointfold/pointfold/datalog/TupleIndex", "buckets", "Lcom/example/pointfold/pointfold/datalog/IntBlocks;", .ref bk), ("com/example/pointfold/pointfold/datalog/TupleIndex", "filter", "Lcom/example/pointfold/pointfold/datalog/HashFilter;", .ref hf), ("com/example/pointfold/pointfold/datalog/TupleIndex", "next", "Lcom/example/pointfold/pointfold/datalog/IntBlocks;", .ref nx), ("com/example/pointfold/pointfold/datalog/TupleIndex", "relation", "Lcom/example/pointfold/pointfold/datalog/FlatRelation;", .ref fr), ("com/example/pointfold/pointfold/datalog/TupleIndex", "columns", "[I", .ref ac), ("com/example/pointfold/pointfold/datalog/TupleIndex", "count", "I", .int cz)]) :: (nx2, ARR Z .int (AF Value.int 16 Nx)) :: (bk2, ARR Z .int (AF Value.int 16 Bk)) :: (ba, ARR Z .long (AF Value.long 2 Bf)) :: (hm, OBJ Z "java/util/HashMap" [("java/util/HashMap", "loadFactor", "F", .float 1061158912), ("java/util/AbstractMap", "values", "Ljava/util/Collection;", .null), ("java/util/HashMap", "modCount", "I", .int 0), ("java/util/HashMap", "table", "[Ljava/util/HashMap$Node;", .null)]) :: (vb, OBJ Z "com/example/pointfold/pointfold/datalog/IntBlocks" [("com/example/pointfold/pointfold/datalog/IntBlocks", "blocks", "[[I", .ref vb1)]) :: (vb1, ARR Z (.array .int) [.ref vb2]) :: (ac, ARR Z .int [.int 0]) :: (bk, OBJ Z "com/example/pointfold/pointfold/datalog/IntBlocks" [("com/example/pointfold/pointfold/datalog/IntBlocks", "blocks", "[[I", .ref bk1)]) :: (bk1, ARR Z (.array .int) [.ref bk2]) :: (nx, OBJ Z "com/example/pointfold/pointfold/datalog/IntBlocks" [("com/example/pointfold/pointfold/datalog/IntBlocks", "blocks", "[[I", .ref nx1)]) :: (nx1, ARR Z (.array .int) [.ref nx2]) :: (hf, OBJ Z "com/example/pointfold/pointfold/datalog/HashFilter" [("com/example/pointfold/pointfold/datalog/HashFilter", "bits", "[J", .ref ba), ("com/example/pointfold/pointfold/datalog/HashFilter", "mask", "J", .long 127)]) :: rest) _ _
  refine W.aloadN K 1 d13_0 0 rfl rfl rfl ?_
  refine W.aloadN K 2 d13_1 1 rfl rfl rfl ?_
  refine W.callVv1 K 5 d13_2 (hw _ (List.mem_of_getElem? (i := 116) rfl)) (hw _ (List.mem_of_getElem? (i := 117) rfl)) (hw _ (List.mem_of_getElem? (i := 119) rfl)) (hw _ (List.mem_of_getElem? (i := 118) rfl)) (hw _ (List.mem_of_getElem? (i := 3) rfl)) (hw _ (List.mem_of_getElem? (i := 120) rfl)) pd_14 (Rc.new (by repeat (first | exact List.mem_cons_self | apply List.mem_cons_of_mem))) (spec_14 l Z a0 hw fr vb vb1 vb2 hm ac st on ti 2 rs 1 ds de 0 o Vl V 2 hval _ ⟨(by repeat (first | exact List.mem_cons_self | apply List.mem_cons_of_mem)), (by repeat (first | exact List.mem_cons_self | apply List.mem_cons_of_mem)), (by repeat (first | exact List.mem_cons_self | apply List.mem_cons_of_mem)), (by repeat (first | exact List.mem_cons_self | apply List.mem_cons_of_mem)), (by repeat (first | exact List.mem_cons_self | apply List.mem_cons_of_mem)), (by repeat (first | exact List.mem_cons_self | apply List.mem_cons_of_mem)), (by repeat (first | exact List.mem_cons_self | apply List.mem_cons_of_mem))⟩ bk bk1 bk2 hf ba nx nx1 nx2 cz Bk Nx Bf ⟨(by repeat (first | exact List.mem_cons_self | apply List.mem_cons_of_mem)), (by repeat (first | exact List.mem_cons_self | apply List.mem_cons_of_mem)), (by repeat (first | exact List.mem_cons_self | apply List.mem_cons_of_mem)), (by repeat (first | exact List.mem_cons_self | apply List.mem_cons_of_mem)), (by repeat (first | exact List.mem_cons_self | apply List.mem_cons_of_mem)), (by repeat (first | exact List.mem_cons_self | apply List.mem_cons_of_mem)), (by repeat (first | exact List.mem_cons_self | apply List.mem_cons_of_mem)), (by repeat (first | exact List.mem_cons_self | apply List.mem_cons_of_mem)), (by repeat (first | exact List.mem_cons_self | apply List.mem_cons_of_mem))⟩ I (by omega) FI ka x (by repeat (first | exact mk | apply List.mem_cons_of_mem))) (fun v os1 hq => ?_)
  obtain ⟨u, rfl, rfl, hu⟩ := hq
  refine W.if_eq K 10 8 d13_5 (fun h5 => ?_) (fun h5 => ?_)
  · have hno : ∀ t, t < 2 → V t ≠ x := fun t ht e => (hu.mpr ⟨t, ht, e⟩) h5
    refine W.iconst K 11 d13_10 (0 : Int32) (by decide) ?_
    refine W.istoreN K 12 d13_11 2 rfl rfl (by repeat (first | apply setLS | exact setL0)) ?_
    refine W.iloadN K 13 d13_12 2 rfl rfl ?_
    refine W.aloadN K 14 d13_13 0 rfl rfl rfl ?_
    refine W.getF K 17 d13_14 (hw _ (List.mem_of_getElem? (i := 47) rfl)) (by repeat (first | exact List.mem_cons_self | apply List.mem_cons_of_mem)) (by repeat (first | exact List.mem_cons_self | apply List.mem_cons_of_mem)) ?_
    refine W.icmp_ge K 71 20 d13_17 (fun h17 => False.elim (absurd h17 (by decide))) (fun h17 => ?_)
    refine W.aloadN K 21 d13_20 0 rfl rfl rfl ?_
    refine W.getF K 24 d13_21 (hw _ (List.mem_of_getElem? (i := 107) rfl)) (by repeat (first | exact List.mem_cons_self | apply List.mem_cons_of_mem)) (by repeat (first | exact List.mem_cons_self | apply List.mem_cons_of_mem)) ?_
    refine W.if_ne K 39 27 d13_24 (fun h24 => ?_) (fun h24 => False.elim (absurd h24 (by decide)))
    refine W.aloadN K 40 d13_39 0 rfl rfl rfl ?_
    refine W.getF K 43 d13_40 (hw _ (List.mem_of_getElem? (i := 51) rfl)) (by repeat (first | exact List.mem_cons_self | apply List.mem_cons_of_mem)) (by repeat (first | exact List.mem_cons_self | apply List.mem_cons_of_mem)) ?_
    refine W.iloadN K 44 d13_43 2 rfl rfl ?_
    refine W.iaload 0 K 45 d13_44 (by repeat (first | exact List.mem_cons_self | apply List.mem_cons_of_mem)) (by decide) rfl ?_
    refine W.if_ge K 65 48 d13_45 (fun h45 => ?_) (fun h45 => False.elim (absurd h45 (by decide)))
    refine W.iinc K 68 d13_65 (1 : Int32) (by decide) rfl (by repeat (first | apply setLS | exact setL0)) ?_
    refine W.goto K 12 d13_68 ?_
    refine W.iloadN K 13 d13_12 2 rfl rfl ?_
    refine W.aloadN K 14 d13_13 0 rfl rfl rfl ?_
    refine W.getF K 17 d13_14 (hw _ (List.mem_of_getElem? (i := 47) rfl)) (by repeat (first | exact List.mem_cons_self | apply List.mem_cons_of_mem)) (by repeat (first | exact List.mem_cons_self | apply List.mem_cons_of_mem)) ?_
    refine W.icmp_ge K 71 20 d13_17 (fun h17 => ?_) (fun h17 => False.elim (absurd h17 (by decide)))
    refine W.iconst K 72 d13_71 (0 : Int32) (by decide) ?_
    refine W.istoreN K 73 d13_72 2 rfl rfl (by repeat (first | apply setLS | exact setL0)) ?_
    refine W.iloadN K 74 d13_73 2 rfl rfl ?_
    refine W.aloadN K 75 d13_74 0 rfl rfl rfl ?_
    refine W.getF K 78 d13_75 (hw _ (List.mem_of_getElem? (i := 47) rfl)) (by repeat (first | exact List.mem_cons_self | apply List.mem_cons_of_mem)) (by repeat (first | exact List.mem_cons_self | apply List.mem_cons_of_mem)) ?_
    refine W.icmp_ge K 122 81 d13_78 (fun h78 => False.elim (absurd h78 (by decide))) (fun h78 => ?_)
    refine W.aloadN K 82 d13_81 0 rfl rfl rfl ?_
    refine W.getF K 85 d13_82 (hw _ (List.mem_of_getElem? (i := 51) rfl)) (by repeat (first | exact List.mem_cons_self | apply List.mem_cons_of_mem)) (by repeat (first | exact List.mem_cons_self | apply List.mem_cons_of_mem)) ?_
    refine W.iloadN K 86 d13_85 2 rfl rfl ?_
    refine W.iaload 0 K 87 d13_86 (by repeat (first | exact List.mem_cons_self | apply List.mem_cons_of_mem)) (by decide) rfl ?_
    refine W.if_lt K 116 90 d13_87 (fun h87 => False.elim (absurd h87 (by decide))) (fun h87 => ?_)
    refine W.aloadN K 91 d13_90 0 rfl rfl rfl ?_
    refine W.getF K 94 d13_91 (hw _ (List.mem_of_getElem? (i := 27) rfl)) (by repeat (first | exact List.mem_cons_self | apply List.mem_cons_of_mem)) (by repeat (first | exact List.mem_cons_self | apply List.mem_cons_of_mem)) ?_
    refine W.aloadN K 95 d13_94 0 rfl rfl rfl ?_
    refine W.getF K 98 d13_95 (hw _ (List.mem_of_getElem? (i := 107) rfl)) (by repeat (first | exact List.mem_cons_self | apply List.mem_cons_of_mem)) (by repeat (first | exact List.mem_cons_self | apply List.mem_cons_of_mem)) ?_
    refine W.aloadN K 99 d13_98 0 rfl rfl rfl ?_
    refine W.getF K 102 d13_99 (hw _ (List.mem_of_getElem? (i := 252) rfl)) (by repeat (first | exact List.mem_cons_self | apply List.mem_cons_of_mem)) (by repeat (first | exact List.mem_cons_self | apply List.mem_cons_of_mem)) ?_
    refine W.imul K 103 d13_102 ?_
    refine W.aloadN K 104 d13_103 0 rfl rfl rfl ?_
    refine W.getF K 107 d13_104 (hw _ (List.mem_of_getElem? (i := 51) rfl)) (by repeat (first | exact List.mem_cons_self | apply List.mem_cons_of_mem)) (by repeat (first | exact List.mem_cons_self | apply List.mem_cons_of_mem)) ?_
    refine W.iloadN K 108 d13_107 2 rfl rfl ?_
    refine W.iaload 0 K 109 d13_108 (by repeat (first | exact List.mem_cons_self | apply List.mem_cons_of_mem)) (by decide) rfl ?_
    refine W.iadd K 110 d13_109 ?_
    refine W.aloadN K 111 d13_110 1 rfl rfl rfl ?_
    refine W.iloadN K 112 d13_111 2 rfl rfl ?_
    refine W.iaload 0 K 113 d13_112 (by repeat (first | exact mk | apply List.mem_cons_of_mem)) (by decide) rfl ?_
    refine WP.pick vb2 (by repeat (first | exact pickHere | apply pickThere)) ?_
    refine W.callVn2 K 116 d13_113 (hw _ (List.mem_of_getElem? (i := 254) rfl)) (hw _ (List.mem_of_getElem? (i := 165) rfl)) (hw _ (List.mem_of_getElem? (i := 167) rfl)) (hw _ (List.mem_of_getElem? (i := 166) rfl)) (hw _ (List.mem_of_getElem? (i := 17) rfl)) (hw _ (List.mem_of_getElem? (i := 168) rfl)) pd_24 (Rc.new (by repeat (first | exact List.mem_cons_self | apply List.mem_cons_of_mem))) (spec_24 l Z a0 hw vb vb1 vb2 _ _ 2 (by decide) (by omega) _ _ (by repeat (first | exact List.mem_cons_self | apply List.mem_cons_of_mem)) (by repeat (first | exact List.mem_cons_self | apply List.mem_cons_of_mem))) (fun os1 hq => ?_)
    obtain rfl := hq
    refine W.iinc K 119 d13_116 (1 : Int32) (by decide) rfl (by repeat (first | apply setLS | exact setL0)) ?_
    refine W.goto K 73 d13_119 ?_
    refine W.iloadN K 74 d13_73 2 rfl rfl ?_
    refine W.aloadN K 75 d13_74 0 rfl rfl rfl ?_
    refine W.getF K 78 d13_75 (hw _ (List.mem_of_getElem? (i := 47) rfl)) (by repeat (first | exact List.mem_cons_self | apply List.mem_cons_of_mem)) (by repeat (first | exact List.mem_cons_self | apply List.mem_cons_of_mem)) ?_
    refine W.icmp_ge K 122 81 d13_78 (fun h78 => ?_) (fun h78 => False.elim (absurd h78 (by decide)))
    refine W.aloadN K 123 d13_122 0 rfl rfl rfl ?_
    refine W.dup K 124 d13_123 ?_
    refine W.getF K 127 d13_124 (hw _ (List.mem_of_getElem? (i := 107) rfl)) (by repeat (first | exact List.mem_cons_self | apply List.mem_cons_of_mem)) (by repeat (first | exact List.mem_cons_self | apply List.mem_cons_of_mem)) ?_
    refine W.dupX1 K 128 d13_127 ?_
    refine W.iconst K 129 d13_128 (1 : Int32) (by decide) ?_
    refine W.iadd K 130 d13_129 ?_
    refine W.putF (ty := .int) K 133 d13_130 (hw _ (List.mem_of_getElem? (i := 107) rfl)) (hw _ (List.mem_of_getElem? (i := 108) rfl)) (hw _ (List.mem_of_getElem? (i := 2) rfl)) (by decide +kernel) (by repeat (first | exact Upd.here | apply Upd.there)) (by repeat (first | exact UpdF.here | apply UpdF.there)) ?_
    refine W.istoreN K 134 d13_133 2 rfl rfl (by repeat (first | apply setLS | exact setL0)) ?_
    refine W.aloadN K 135 d13_134 0 rfl rfl rfl ?_
    refine W.getF K 138 d13_135 (hw _ (List.mem_of_getElem? (i := 100) rfl)) (by repeat (first | exact List.mem_cons_self | apply List.mem_cons_of_mem)) (by repeat (first | exact List.mem_cons_self | apply List.mem_cons_of_mem)) ?_
    refine W.iloadN K 139 d13_138 2 rfl rfl ?_
    have hval2 : own_val 0 1 o (updA Vl 2 x) (updA V 2 x) 3 := Or.inr ⟨rfl, rfl, fun t ht => by rcases hval with ⟨q, -⟩ | ⟨-, -, hv⟩; exact absurd q (by decide); exact own_three (fun t ht => hv t ht) ht⟩
    refine WP.pick ba (by repeat (first | exact pickHere | apply pickThere)) ?_
    refine WP.pick bk2 (by repeat (first | exact pickHere | apply pickThere)) ?_
    refine WP.pick nx2 (by repeat (first | exact pickHere | apply pickThere)) ?_
    refine WP.pick ti (by repeat (first | exact pickHere | apply pickThere)) ?_
    refine W.callVn1 K 142 d13_139 (hw _ (List.mem_of_getElem? (i := 142) rfl)) (hw _ (List.mem_of_getElem? (i := 143) rfl)) (hw _ (List.mem_of_getElem? (i := 145) rfl)) (hw _ (List.mem_of_getElem? (i := 144) rfl)) (hw _ (List.mem_of_getElem? (i := 61) rfl)) (hw _ (List.mem_of_getElem? (i := 146) rfl)) pd_20 (Rc.new (by repeat (first | exact List.mem_cons_self | apply List.mem_cons_of_mem))) (spec_20 l Z a0 hw fr vb vb1 vb2 hm ac st on ti (2 + 1) rs 1 ds de 0 o (updA Vl 2 x) (updA V 2 x) (2 + 1) hval2 _ ⟨(by repeat (first | exact List.mem_cons_self | apply List.mem_cons_of_mem)), (by repeat (first | exact List.mem_cons_self | apply List.mem_cons_of_mem)), (by repeat (first | exact List.mem_cons_self | apply List.mem_cons_of_mem)), (by repeat (first | exact List.mem_cons_self | apply List.mem_cons_of_mem)), (by repeat (first | exact List.mem_cons_self | apply List.mem_cons_of_mem)), (by repeat (first | exact List.mem_cons_self | apply List.mem_cons_of_mem)), (by repeat (first | exact List.mem_cons_self | apply List.mem_cons_of_mem))⟩ bk bk1 bk2 hf ba nx nx1 nx2 cz Bk Nx Bf 2 2 esz (by omega) (by omega) 2 hcz (by omega) (by repeat (first | exact List.mem_cons_self | apply List.mem_cons_of_mem)) (by repeat (first | exact List.mem_cons_self | apply List.mem_cons_of_mem)) (by repeat (first | exact List.mem_cons_self | apply List.mem_cons_of_mem)) (by repeat (first | exact List.mem_cons_self | apply List.mem_cons_of_mem)) (by repeat (first | exact List.mem_cons_self | apply List.mem_cons_of_mem))) (fun os1 hq => ?_)
    obtain rfl := hq
    refine W.aloadN K 143 d13_142 0 rfl rfl rfl ?_
    refine W.getF K 146 d13_143 (hw _ (List.mem_of_getElem? (i := 45) rfl)) (by repeat (first | exact List.mem_cons_self | apply List.mem_cons_of_mem)) (by repeat (first | exact List.mem_cons_self | apply List.mem_cons_of_mem)) ?_
    refine WP.pick hm (by repeat (first | exact pickHere | apply pickThere)) ?_
    refine W.callF (C := "java/util/HashMap") (argsL := []) (S := []) K 151 d13_146 (hw _ (List.mem_of_getElem? (i := 174) rfl)) (hw _ (List.mem_of_getElem? (i := 175) rfl)) (hw _ (List.mem_of_getElem? (i := 176) rfl)) (hw _ (List.mem_of_getElem? (i := 177) rfl)) (hw _ (List.mem_of_getElem? (i := 178) rfl)) (hw _ (List.mem_of_getElem? (i := 179) rfl)) (hw _ (List.mem_of_getElem? (i := 180) rfl)) (hw _ (List.mem_of_getElem? (i := 181) rfl)) (hw _ (List.mem_of_getElem? (i := 31) rfl)) (hw _ (List.mem_of_getElem? (i := 182) rfl)) (show parseMethodDescriptor "()Ljava/util/Collection;" = some ⟨[], some (.object "java/util/Collection")⟩ by decide +kernel) (Rc.new List.mem_cons_self) (spec_26N l Z a0 hw hm _) (fun v os1 hq => ?_)
    obtain ⟨vv2, rfl, rfl⟩ := hq
    refine W.callF (C := "java/util/HashMap$Values") (argsL := []) (S := []) K 156 d13_151 (hw _ (List.mem_of_getElem? (i := 202) rfl)) (hw _ (List.mem_of_getElem? (i := 203) rfl)) (hw _ (List.mem_of_getElem? (i := 204) rfl)) (hw _ (List.mem_of_getElem? (i := 205) rfl)) (hw _ (List.mem_of_getElem? (i := 206) rfl)) (hw _ (List.mem_of_getElem? (i := 207) rfl)) (hw _ (List.mem_of_getElem? (i := 208) rfl)) (hw _ (List.mem_of_getElem? (i := 209) rfl)) (hw _ (List.mem_of_getElem? (i := 188) rfl)) (hw _ (List.mem_of_getElem? (i := 210) rfl)) (show parseMethodDescriptor "()Ljava/util/Iterator;" = some ⟨[], some (.object "java/util/Iterator")⟩ by decide +kernel) (Rc.new (by repeat (first | exact List.mem_cons_self | apply List.mem_cons_of_mem))) (spec_29 l Z a0 hw vv2 hm _ _ (by repeat (first | exact List.mem_cons_self | apply List.mem_cons_of_mem)) List.mem_cons_self) (fun v os1 hq => ?_)
    obtain ⟨i151, rfl, rfl⟩ := hq
    refine W.astoreN K 157 d13_156 3 rfl rfl rfl (by repeat (first | apply setLS | exact setL0)) ?_
    refine W.aloadN K 158 d13_157 3 rfl rfl rfl ?_
    refine W.callF (C := "java/util/HashMap$ValueIterator") (argsL := []) (S := []) K 163 d13_158 (hw _ (List.mem_of_getElem? (i := 239) rfl)) (hw _ (List.mem_of_getElem? (i := 240) rfl)) (hw _ (List.mem_of_getElem? (i := 241) rfl)) (hw _ (List.mem_of_getElem? (i := 242) rfl)) (hw _ (List.mem_of_getElem? (i := 243) rfl)) (hw _ (List.mem_of_getElem? (i := 244) rfl)) (hw _ (List.mem_of_getElem? (i := 245) rfl)) (hw _ (List.mem_of_getElem? (i := 246) rfl)) (hw _ (List.mem_of_getElem? (i := 222) rfl)) (hw _ (List.mem_of_getElem? (i := 247) rfl)) (show parseMethodDescriptor "()Z" = some ⟨[], some .boolean⟩ by decide +kernel) (Rc.new List.mem_cons_self) (spec_32 l Z a0 hw i151 hm _ List.mem_cons_self) (fun v os1 hq => ?_)
    obtain ⟨rfl, rfl⟩ := hq
    refine W.if_eq K 186 166 d13_163 (fun h163 => ?_) (fun h163 => False.elim (absurd h163 (by decide)))
    refine W.iconst K 187 d13_186 (1 : Int32) (by decide) ?_
    refine WP.pick hf (by repeat (first | exact pickHere | apply pickThere)) ?_
    refine WP.pick nx1 (by repeat (first | exact pickHere | apply pickThere)) ?_
    refine WP.pick nx (by repeat (first | exact pickHere | apply pickThere)) ?_
    refine WP.pick bk1 (by repeat (first | exact pickHere | apply pickThere)) ?_
    refine WP.pick bk (by repeat (first | exact pickHere | apply pickThere)) ?_
    refine WP.pick ac (by repeat (first | exact pickHere | apply pickThere)) ?_
    refine WP.pick vb1 (by repeat (first | exact pickHere | apply pickThere)) ?_
    refine WP.pick vb (by repeat (first | exact pickHere | apply pickThere)) ?_
    refine WP.pick hm (by repeat (first | exact pickHere | apply pickThere)) ?_
    refine WP.pick ba (by repeat (first | exact pickHere | apply pickThere)) ?_
    refine WP.pick bk2 (by repeat (first | exact pickHere | apply pickThere)) ?_
    refine WP.pick nx2 (by repeat (first | exact pickHere | apply pickThere)) ?_
    refine WP.pick ti (by repeat (first | exact pickHere | apply pickThere)) ?_
    refine WP.pick vb2 (by repeat (first | exact pickHere | apply pickThere)) ?_
    refine WP.pick on (by repeat (first | exact pickHere | apply pickThere)) ?_
    refine WP.pick st (by repeat (first | exact pickHere | apply pickThere)) ?_
    refine WP.pick fr (by repeat (first | exact pickHere | apply pickThere)) ?_
    have hI2 := own_IX_link I (v := x) (s1 := 2 + 1) rfl (own_hb_eq x).2 (by decide)
    have hF2 := own_FI_add (fun v => own_fb_ne (own_h v)) FI x
    have ev : updA V 2 x 2 = x := updA_same _ _ _
    refine W.zreturn K d13_187 (Or.inr rfl) ⟨_, rfl, ⟨_, rfl⟩, Or.inr ⟨hno, vb, vb1, vb2, hm, ac, st, on, ti, bk, bk1, bk2, hf, ba, nx, nx1, nx2, (2 + 1), 1, 0, o, cz + 1, (updA Vl 2 x), _, _, _, _, _, rfl, by decide, own_cz hcz, hval2, fun h => by omega, fun h => ⟨rfl, rfl⟩, by rw [ev]; exact hI2, by rw [ev]; exact hF2, Or.inr ⟨_, rfl, (by repeat (first | exact List.mem_cons_self | apply List.mem_cons_of_mem))⟩, fun x hx => by repeat (first | exact hx | apply List.mem_cons_of_mem)⟩⟩
  · refine W.iconst K 9 d13_8 (0 : Int32) (by decide) ?_
    refine W.zreturn K d13_9 (Or.inl rfl) ⟨_, rfl, ⟨_, rfl⟩, Or.inl ⟨hu.mp h5, vb, vb1, vb2, hm, ac, st, on, ti, bk, bk1, bk2, hf, ba, nx, nx1, nx2, 2, 1, 0, o, cz, Vl, Bk, Nx, Bf, _, rest, rfl, esz, hcz, hval, fun h => by omega, fun h => ⟨rfl, rfl⟩, I, FI, Or.inl rfl, fun x hx => hx⟩⟩
set_option maxRecDepth 65536 in
set_option maxHeartbeats 40000000 in
theorem spec_132R (l : Launch) (Z : State) (a0 : Array Value) (hw : ∀ d ∈ tables_1, d.before a0 Z = true) (fr vb vb1 vb2 hm ac st on ti bk bk1 bk2 hf ba nx nx1 nx2 ka : Addr) (rs ds de o cz x : Int32) (V Vl Bk Nx : Nat → Int32) (Bf : Nat → Int64) (rest : OS) (hcz : cz.toInt = ((2 : Nat) : Int)) (hval : own_val 0 1 o Vl V 2) (I : own_IX own_hb 2 V Bk Nx) (FI : own_FI (fun v => own_fw (own_h v)) (fun v => own_fb (own_h v)) 2 V Bf) (mk : (ka, ARR Z .int [.int x]) ∈ rest) (vv : Addr) (hvv : (vv, OBJ Z "java/util/HashMap$Values" [("java/util/HashMap$Values", "this$0", "Ljava/util/HashMap;", .ref hm)]) ∈ rest) : OMeets l Z (⟨"com/example/pointfold/pointfold/datalog/FlatRelation", "add", "([I)Z"⟩ : MethodName) prog_10_method_8_code 5 (some .boolean) ({ frames := 6, cells := 5, slots := 24, locals := 86 } : Room) [(.ref fr), (.ref ka)] ([(fr, OBJ Z "com/example/pointfold/pointfold/datalog/FlatRelation" [("com/example/pointfold/pointfold/datalog/FlatRelation", "values", "Lcom/example/pointfold/pointfold/datalog/IntBlocks;", .ref vb), ("com/example/pointfold/pointfold/datalog/FlatRelation", "indexes", "Ljava/util/Map;", .ref hm), ("com/example/pointfold/pointfold/datalog/FlatRelation", "arity", "I", .int 1), ("com/example/pointfold/pointfold/datalog/FlatRelation", "allColumns", "[I", .ref ac), ("com/example/pointfold/pointfold/datalog/FlatRelation", "stored", "[I", .ref st), ("com/example/pointfold/pointfold/datalog/FlatRelation", "only", "[I", .ref on), ("com/example/pointfold/pointfold/datalog/FlatRelation", "unique", "Lcom/example/pointfold/pointfold/datalog/TupleIndex;", .ref ti), ("com/example/pointfold/pointfold/datalog/FlatRelation", "size", "I", .int 2), ("com/example/pointfold/pointfold/datalog/FlatRelation", "roundStart", "I", .int rs), ("com/example/pointfold/pointfold/datalog/FlatRelation", "storedCount", "I", .int 1), ("com/example/pointfold/pointfold/datalog/FlatRelation", "deltaStart", "I", .int ds), ("com/example/pointfold/pointfold/datalog/FlatRelation", "deltaEnd", "I", .int de)]), (st, ARR Z .int [.int 0]), (on, ARR Z .int [.int o]), (vb2, ARR Z .int (AF Value.int 16 Vl)), (ti, OBJ Z "com/example/pointfold/pointfold/datalog/TupleIndex" [("com/example/pointfold/pointfold/datalog/TupleIndex", "capacity", "I", .int 16), ("com/example/pointfold/pointfold/datalog/TupleIndex", "buckets", "Lcom/example/pointfold/pointfold/datalog/IntBlocks;", .ref bk), ("com/example/pointfold/pointfold/datalog/TupleIndex", "filter", "Lcom/example/pointfold/pointfold/datalog/HashFilter;", .ref hf), ("com/example/pointfold/pointfold/datalog/TupleIndex", "next", "Lcom/example/pointfold/pointfold/datalog/IntBlocks;", .ref nx), ("com/example/pointfold/pointfold/datalog/TupleIndex", "relation", "Lcom/example/pointfold/pointfold/datalog/FlatRelation;", .ref fr), ("com/example/pointfold/pointfold/datalog/TupleIndex", "columns", "[I", .ref ac), ("com/example/pointfold/pointfold/datalog/TupleIndex", "count", "I", .int cz)]), (nx2, ARR Z .int (AF Value.int 16 Nx)), (bk2, ARR Z .int (AF Value.int 16 Bk)), (ba, ARR Z .long (AF Value.long 2 Bf)), (hm, OBJ Z "java/util/HashMap" [("java/util/HashMap", "loadFactor", "F", .float 1061158912), ("java/util/AbstractMap", "values", "Ljava/util/Collection;", .ref vv), ("java/util/HashMap", "modCount", "I", .int 0), ("java/util/HashMap", "table", "[Ljava/util/HashMap$Node;", .null)]), (vb, OBJ Z "com/example/pointfold/pointfold/datalog/IntBlocks" [("com/example/pointfold/pointfold/datalog/IntBlocks", "blocks", "[[I", .ref vb1)]), (vb1, ARR Z (.array .int) [.ref vb2]), (ac, ARR Z .int [.int 0]), (bk, OBJ Z "com/example/pointfold/pointfold/datalog/IntBlocks" [("com/example/pointfold/pointfold/datalog/IntBlocks", "blocks", "[[I", .ref bk1)]), (bk1, ARR Z (.array .int) [.ref bk2]), (nx, OBJ Z "com/example/pointfold/pointfold/datalog/IntBlocks" [("com/example/pointfold/pointfold/datalog/IntBlocks", "blocks", "[[I", .ref nx1)]), (nx1, ARR Z (.array .int) [.ref nx2]), (hf, OBJ Z "com/example/pointfold/pointfold/datalog/HashFilter" [("com/example/pointfold/pointfold/datalog/HashFilter", "bits", "[J", .ref ba), ("com/example/pointfold/pointfold/datalog/HashFilter", "mask", "J", .long 127)])] ++ rest) (RetV fun v os' => (∃ u : Int32, v = .int u) ∧ (((∃ t, t < 2 ∧ V t = x) ∧ own_REL Z fr 2 V rs ds de rest os') ∨ ((∀ t, t < 2 → V t ≠ x) ∧ own_REL Z fr (2 + 1) (updA V 2 x) rs ds de rest os'))) := by
  have e0 : (0 : Int32).toInt = 0 := by decide
  have esz : (2 : Int32).toInt = ((2 : Nat) : Int) := by decide
  refine OMeets.of_body [.val (.ref fr), .val (.ref ka), .unset, .unset, .unset] pn_13 (laid_eq _ _ rfl) ?_
  intro X K
  change WP X Z _ _ _ _ _ _ ((fr, OBJ Z "com/example/pointfold/pointfold/datalog/FlatRelation" [("com/example/pointfold/pointfold/datalog/FlatRelation", "values", "Lcom/example/pointfold/pointfold/datalog/IntBlocks;", .ref vb), ("com/example/pointfold/pointfold/datalog/FlatRelation", "indexes", "Ljava/util/Map;", .ref hm), ("com/example/pointfold/pointfold/datalog/FlatRelation", "arity", "I", .int 1), ("com/example/pointfold/pointfold/datalog/FlatRelation", "allColumns", "[I", .ref ac), ("com/example/pointfold/pointfold/datalog/FlatRelation", "stored", "[I", .ref st), ("com/example/pointfold/pointfold/datalog/FlatRelation", "only", "[I", .ref on), ("com/example/pointfold/pointfold/datalog/FlatRelation", "unique", "Lcom/example/pointfold/pointfold/datalog/TupleIndex;", .ref ti), ("com/example/pointfold/pointfold/datalog/FlatRelation", "size", "I", .int 2), ("com/example/pointfold/pointfold/datalog/FlatRelation", "roundStart", "I", .int rs), ("com/example/pointfold/pointfold/datalog/FlatRelation", "storedCount", "I", .int 1), ("com/example/pointfold/pointfold/datalog/FlatRelation", "deltaStart", "I", .int ds), ("com/example/pointfold/pointfold/datalog/FlatRelation", "deltaEnd", "I", .int de)]) :: (st, ARR Z .int [.int 0]) :: (on, ARR Z .int [.int o]) :: (vb2, ARR Z .int (AF Value.int 16 Vl)) :: (ti, OBJ Z "com/example/pointfold/pointfold/datalog/TupleIndex" [("com/example/pointfold/pointfold/datalog/TupleIndex", "capacity", "I", .int 16), ("com/example/pointfold/pointfold/datalog/TupleIndex", "buckets", "Lcom/example/pointfold/pointfold/datalog/IntBlocks;", .ref bk), ("com/example/pointfold/pointfold/datalog/TupleIndex", "filter", "Lcom/example/pointfold/pointfold/datalog/HashFilter;", .ref hf), ("com/example/pointfold/pointfold/datalog/TupleIndex", "next", "Lcom/example/pointfold/pointfold/datalog/IntBlocks;", .ref nx), ("com/example/pointfold/pointfold/datalog/TupleIndex", "relation", "Lcom/example/pointfold/pointfold/datalog/FlatRelation;", .ref fr), ("com/example/pointfold/pointfold/datalog/TupleIndex", "columns", "[I", .ref ac), ("com/example/pointfold/pointfold/datalog/TupleIndex", "count", "I", .int cz)]) :: (nx2, ARR Z .int (AF Value.int 16 Nx)) :: (bk2, ARR Z .int (AF Value.int 16 Bk)) :: (ba, ARR Z .long (AF Value.long 2 Bf)) :: (hm, OBJ Z "java/util/HashMap" [("java/util/HashMap", "loadFactor", "F", .float 1061158912), ("java/util/AbstractMap", "values", "Ljava/util/Collection;", .ref vv), ("java/util/HashMap", "modCount", "I", .int 0), ("java/util/HashMap", "table", "[Ljava/util/HashMap$Node;", .null)]) :: (vb, OBJ Z "com/example/pointfold/pointfold/datalog/IntBlocks" [("com/example/pointfold/pointfold/datalog/IntBlocks", "blocks", "[[I", .ref vb1)]) :: (vb1, ARR Z (.array .int) [.ref vb2]) :: (ac, ARR Z .int [.int 0]) :: (bk, OBJ Z "com/example/pointfold/pointfold/datalog/IntBlocks" [("com/example/pointfold/pointfold/datalog/IntBlocks", "blocks", "[[I", .ref bk1)]) :: (bk1, ARR Z (.array .int) [.ref bk2]) :: (nx, OBJ Z "com/example/pointfold/pointfold/datalog/IntBlocks" [("com/example/pointfold/pointfold/datalog/IntBlocks", "blocks", "[[I", .ref nx1)]) :: (nx1, ARR Z (.array .int) [.ref nx2]) :: (hf, OBJ Z "com/example/pointfold/pointfold/datalog/HashFilter" [("com/example/pointfold/pointfold/datalog/HashFilter", "bits", "[J", .ref ba), ("com/example/pointfold/pointfold/datalog/HashFilter", "mask", "J", .long 127)]) :: rest) _ _
  refine W.aloadN K 1 d13_0 0 rfl rfl rfl ?_
  refine W.aloadN K 2 d13_1 1 rfl rfl rfl ?_
  refine W.callVv1 K 5 d13_2 (hw _ (List.mem_of_getElem? (i := 116) rfl)) (hw _ (List.mem_of_getElem? (i := 117) rfl)) (hw _ (List.mem_of_getElem? (i := 119) rfl)) (hw _ (List.mem_of_getElem? (i := 118) rfl)) (hw _ (List.mem_of_getElem? (i := 3) rfl)) (hw _ (List.mem_of_getElem? (i := 120) rfl)) pd_14 (Rc.new (by repeat (first | exact List.mem_cons_self | apply List.mem_cons_of_mem))) (spec_14 l Z a0 hw fr vb vb1 vb2 hm ac st on ti 2 rs 1 ds de 0 o Vl V 2 hval _ ⟨(by repeat (first | exact List.mem_cons_self | apply List.mem_cons_of_mem)), (by repeat (first | exact List.mem_cons_self | apply List.mem_cons_of_mem)), (by repeat (first | exact List.mem_cons_self | apply List.mem_cons_of_mem)), (by repeat (first | exact List.mem_cons_self | apply List.mem_cons_of_mem)), (by repeat (first | exact List.mem_cons_self | apply List.mem_cons_of_mem)), (by repeat (first | exact List.mem_cons_self | apply List.mem_cons_of_mem)), (by repeat (first | exact List.mem_cons_self | apply List.mem_cons_of_mem))⟩ bk bk1 bk2 hf ba nx nx1 nx2 cz Bk Nx Bf ⟨(by repeat (first | exact List.mem_cons_self | apply List.mem_cons_of_mem)), (by repeat (first | exact List.mem_cons_self | apply List.mem_cons_of_mem)), (by repeat (first | exact List.mem_cons_self | apply List.mem_cons_of_mem)), (by repeat (first | exact List.mem_cons_self | apply List.mem_cons_of_mem)), (by repeat (first | exact List.mem_cons_self | apply List.mem_cons_of_mem)), (by repeat (first | exact List.mem_cons_self | apply List.mem_cons_of_mem)), (by repeat (first | exact List.mem_cons_self | apply List.mem_cons_of_mem)), (by repeat (first | exact List.mem_cons_self | apply List.mem_cons_of_mem)), (by repeat (first | exact List.mem_cons_self | apply List.mem_cons_of_mem))⟩ I (by omega) FI ka x (by repeat (first | exact mk | apply List.mem_cons_of_mem))) (fun v os1 hq => ?_)
  obtain ⟨u, rfl, rfl, hu⟩ := hq
  refine W.if_eq K 10 8 d13_5 (fun h5 => ?_) (fun h5 => ?_)
  · have hno : ∀ t, t < 2 → V t ≠ x := fun t ht e => (hu.mpr ⟨t, ht, e⟩) h5
    refine W.iconst K 11 d13_10 (0 : Int32) (by decide) ?_
    refine W.istoreN K 12 d13_11 2 rfl rfl (by repeat (first | apply setLS | exact setL0)) ?_
    refine W.iloadN K 13 d13_12 2 rfl rfl ?_
    refine W.aloadN K 14 d13_13 0 rfl rfl rfl ?_
    refine W.getF K 17 d13_14 (hw _ (List.mem_of_getElem? (i := 47) rfl)) (by repeat (first | exact List.mem_cons_self | apply List.mem_cons_of_mem)) (by repeat (first | exact List.mem_cons_self | apply List.mem_cons_of_mem)) ?_
    refine W.icmp_ge K 71 20 d13_17 (fun h17 => False.elim (absurd h17 (by decide))) (fun h17 => ?_)
    refine W.aloadN K 21 d13_20 0 rfl rfl rfl ?_
    refine W.getF K 24 d13_21 (hw _ (List.mem_of_getElem? (i := 107) rfl)) (by repeat (first | exact List.mem_cons_self | apply List.mem_cons_of_mem)) (by repeat (first | exact List.mem_cons_self | apply List.mem_cons_of_mem)) ?_
    refine W.if_ne K 39 27 d13_24 (fun h24 => ?_) (fun h24 => False.elim (absurd h24 (by decide)))
    refine W.aloadN K 40 d13_39 0 rfl rfl rfl ?_
    refine W.getF K 43 d13_40 (hw _ (List.mem_of_getElem? (i := 51) rfl)) (by repeat (first | exact List.mem_cons_self | apply List.mem_cons_of_mem)) (by repeat (first | exact List.mem_cons_self | apply List.mem_cons_of_mem)) ?_
    refine W.iloadN K 44 d13_43 2 rfl rfl ?_
    refine W.iaload 0 K 45 d13_44 (by repeat (first | exact List.mem_cons_self | apply List.mem_cons_of_mem)) (by decide) rfl ?_
    refine W.if_ge K 65 48 d13_45 (fun h45 => ?_) (fun h45 => False.elim (absurd h45 (by decide)))
    refine W.iinc K 68 d13_65 (1 : Int32) (by decide) rfl (by repeat (first | apply setLS | exact setL0)) ?_
    refine W.goto K 12 d13_68 ?_
    refine W.iloadN K 13 d13_12 2 rfl rfl ?_
    refine W.aloadN K 14 d13_13 0 rfl rfl rfl ?_
    refine W.getF K 17 d13_14 (hw _ (List.mem_of_getElem? (i := 47) rfl)) (by repeat (first | exact List.mem_cons_self | apply List.mem_cons_of_mem)) (by repeat (first | exact List.mem_cons_self | apply List.mem_cons_of_mem)) ?_
    refine W.icmp_ge K 71 20 d13_17 (fun h17 => ?_) (fun h17 => False.elim (absurd h17 (by decide)))
    refine W.iconst K 72 d13_71 (0 : Int32) (by decide) ?_
    refine W.istoreN K 73 d13_72 2 rfl rfl (by repeat (first | apply setLS | exact setL0)) ?_
    refine W.iloadN K 74 d13_73 2 rfl rfl ?_
    refine W.aloadN K 75 d13_74 0 rfl rfl rfl ?_
    refine W.getF K 78 d13_75 (hw _ (List.mem_of_getElem? (i := 47) rfl)) (by repeat (first | exact List.mem_cons_self | apply List.mem_cons_of_mem)) (by repeat (first | exact List.mem_cons_self | apply List.mem_cons_of_mem)) ?_
    refine W.icmp_ge K 122 81 d13_78 (fun h78 => False.elim (absurd h78 (by decide))) (fun h78 => ?_)
    refine W.aloadN K 82 d13_81 0 rfl rfl rfl ?_
    refine W.getF K 85 d13_82 (hw _ (List.mem_of_getElem? (i := 51) rfl)) (by repeat (first | exact List.mem_cons_self | apply List.mem_cons_of_mem)) (by repeat (first | exact List.mem_cons_self | apply List.mem_cons_of_mem)) ?_
    refine W.iloadN K 86 d13_85 2 rfl rfl ?_
    refine W.iaload 0 K 87 d13_86 (by repeat (first | exact List.mem_cons_self | apply List.mem_cons_of_mem)) (by decide) rfl ?_
    refine W.if_lt K 116 90 d13_87 (fun h87 => False.elim (absurd h87 (by decide))) (fun h87 => ?_)
    refine W.aloadN K 91 d13_90 0 rfl rfl rfl ?_
    refine W.getF K 94 d13_91 (hw _ (List.mem_of_getElem? (i := 27) rfl)) (by repeat (first | exact List.mem_cons_self | apply List.mem_cons_of_mem)) (by repeat (first | exact List.mem_cons_self | apply List.mem_cons_of_mem)) ?_
    refine W.aloadN K 95 d13_94 0 rfl rfl rfl ?_
    refine W.getF K 98 d13_95 (hw _ (List.mem_of_getElem? (i := 107) rfl)) (by repeat (first | exact List.mem_cons_self | apply List.mem_cons_of_mem)) (by repeat (first | exact List.mem_cons_self | apply List.mem_cons_of_mem)) ?_
    refine W.aloadN K 99 d13_98 0 rfl rfl rfl ?_
    refine W.getF K 102 d13_99 (hw _ (List.mem_of_getElem? (i := 252) rfl)) (by repeat (first | exact List.mem_cons_self | apply List.mem_cons_of_mem)) (by repeat (first | exact List.mem_cons_self | apply List.mem_cons_of_mem)) ?_
    refine W.imul K 103 d13_102 ?_
    refine W.aloadN K 104 d13_103 0 rfl rfl rfl ?_
    refine W.getF K 107 d13_104 (hw _ (List.mem_of_getElem? (i := 51) rfl)) (by repeat (first | exact List.mem_cons_self | apply List.mem_cons_of_mem)) (by repeat (first | exact List.mem_cons_self | apply List.mem_cons_of_mem)) ?_
    refine W.iloadN K 108 d13_107 2 rfl rfl ?_
    refine W.iaload 0 K 109 d13_108 (by repeat (first | exact List.mem_cons_self | apply List.mem_cons_of_mem)) (by decide) rfl ?_
    refine W.iadd K 110 d13_109 ?_
    refine W.aloadN K 111 d13_110 1 rfl rfl rfl ?_
    refine W.iloadN K 112 d13_111 2 rfl rfl ?_
    refine W.iaload 0 K 113 d13_112 (by repeat (first | exact mk | apply List.mem_cons_of_mem)) (by decide) rfl ?_
    refine WP.pick vb2 (by repeat (first | exact pickHere | apply pickThere)) ?_
    refine W.callVn2 K 116 d13_113 (hw _ (List.mem_of_getElem? (i := 254) rfl)) (hw _ (List.mem_of_getElem? (i := 165) rfl)) (hw _ (List.mem_of_getElem? (i := 167) rfl)) (hw _ (List.mem_of_getElem? (i := 166) rfl)) (hw _ (List.mem_of_getElem? (i := 17) rfl)) (hw _ (List.mem_of_getElem? (i := 168) rfl)) pd_24 (Rc.new (by repeat (first | exact List.mem_cons_self | apply List.mem_cons_of_mem))) (spec_24 l Z a0 hw vb vb1 vb2 _ _ 2 (by decide) (by omega) _ _ (by repeat (first | exact List.mem_cons_self | apply List.mem_cons_of_mem)) (by repeat (first | exact List.mem_cons_self | apply List.mem_cons_of_mem))) (fun os1 hq => ?_)
    obtain rfl := hq
    refine W.iinc K 119 d13_116 (1 : Int32) (by decide) rfl (by repeat (first | apply setLS | exact setL0)) ?_
    refine W.goto K 73 d13_119 ?_
    refine W.iloadN K 74 d13_73 2 rfl rfl ?_
    refine W.aloadN K 75 d13_74 0 rfl rfl rfl ?_
    refine W.getF K 78 d13_75 (hw _ (List.mem_of_getElem? (i := 47) rfl)) (by repeat (first | exact List.mem_cons_self | apply List.mem_cons_of_mem)) (by repeat (first | exact List.mem_cons_self | apply List.mem_cons_of_mem)) ?_
    refine W.icmp_ge K 122 81 d13_78 (fun h78 => ?_) (fun h78 => False.elim (absurd h78 (by decide)))
    refine W.aloadN K 123 d13_122 0 rfl rfl rfl ?_
    refine W.dup K 124 d13_123 ?_
    refine W.getF K 127 d13_124 (hw _ (List.mem_of_getElem? (i := 107) rfl)) (by repeat (first | exact List.mem_cons_self | apply List.mem_cons_of_mem)) (by repeat (first | exact List.mem_cons_self | apply List.mem_cons_of_mem)) ?_
    refine W.dupX1 K 128 d13_127 ?_
    refine W.iconst K 129 d13_128 (1 : Int32) (by decide) ?_
    refine W.iadd K 130 d13_129 ?_
    refine W.putF (ty := .int) K 133 d13_130 (hw _ (List.mem_of_getElem? (i := 107) rfl)) (hw _ (List.mem_of_getElem? (i := 108) rfl)) (hw _ (List.mem_of_getElem? (i := 2) rfl)) (by decide +kernel) (by repeat (first | exact Upd.here | apply Upd.there)) (by repeat (first | exact UpdF.here | apply UpdF.there)) ?_
    refine W.istoreN K 134 d13_133 2 rfl rfl (by repeat (first | apply setLS | exact setL0)) ?_
    refine W.aloadN K 135 d13_134 0 rfl rfl rfl ?_
    refine W.getF K 138 d13_135 (hw _ (List.mem_of_getElem? (i := 100) rfl)) (by repeat (first | exact List.mem_cons_self | apply List.mem_cons_of_mem)) (by repeat (first | exact List.mem_cons_self | apply List.mem_cons_of_mem)) ?_
    refine W.iloadN K 139 d13_138 2 rfl rfl ?_
    have hval2 : own_val 0 1 o (updA Vl 2 x) (updA V 2 x) 3 := Or.inr ⟨rfl, rfl, fun t ht => by rcases hval with ⟨q, -⟩ | ⟨-, -, hv⟩; exact absurd q (by decide); exact own_three (fun t ht => hv t ht) ht⟩
    refine WP.pick ba (by repeat (first | exact pickHere | apply pickThere)) ?_
    refine WP.pick bk2 (by repeat (first | exact pickHere | apply pickThere)) ?_
    refine WP.pick nx2 (by repeat (first | exact pickHere | apply pickThere)) ?_
    refine WP.pick ti (by repeat (first | exact pickHere | apply pickThere)) ?_
    refine W.callVn1 K 142 d13_139 (hw _ (List.mem_of_getElem? (i := 142) rfl)) (hw _ (List.mem_of_getElem? (i := 143) rfl)) (hw _ (List.mem_of_getElem? (i := 145) rfl)) (hw _ (List.mem_of_getElem? (i := 144) rfl)) (hw _ (List.mem_of_getElem? (i := 61) rfl)) (hw _ (List.mem_of_getElem? (i := 146) rfl)) pd_20 (Rc.new (by repeat (first | exact List.mem_cons_self | apply List.mem_cons_of_mem))) (spec_20 l Z a0 hw fr vb vb1 vb2 hm ac st on ti (2 + 1) rs 1 ds de 0 o (updA Vl 2 x) (updA V 2 x) (2 + 1) hval2 _ ⟨(by repeat (first | exact List.mem_cons_self | apply List.mem_cons_of_mem)), (by repeat (first | exact List.mem_cons_self | apply List.mem_cons_of_mem)), (by repeat (first | exact List.mem_cons_self | apply List.mem_cons_of_mem)), (by repeat (first | exact List.mem_cons_self | apply List.mem_cons_of_mem)), (by repeat (first | exact List.mem_cons_self | apply List.mem_cons_of_mem)), (by repeat (first | exact List.mem_cons_self | apply List.mem_cons_of_mem)), (by repeat (first | exact List.mem_cons_self | apply List.mem_cons_of_mem))⟩ bk bk1 bk2 hf ba nx nx1 nx2 cz Bk Nx Bf 2 2 esz (by omega) (by omega) 2 hcz (by omega) (by repeat (first | exact List.mem_cons_self | apply List.mem_cons_of_mem)) (by repeat (first | exact List.mem_cons_self | apply List.mem_cons_of_mem)) (by repeat (first | exact List.mem_cons_self | apply List.mem_cons_of_mem)) (by repeat (first | exact List.mem_cons_self | apply List.mem_cons_of_mem)) (by repeat (first | exact List.mem_cons_self | apply List.mem_cons_of_mem))) (fun os1 hq => ?_)
    obtain rfl := hq
    refine W.aloadN K 143 d13_142 0 rfl rfl rfl ?_
    refine W.getF K 146 d13_143 (hw _ (List.mem_of_getElem? (i := 45) rfl)) (by repeat (first | exact List.mem_cons_self | apply List.mem_cons_of_mem)) (by repeat (first | exact List.mem_cons_self | apply List.mem_cons_of_mem)) ?_
    refine WP.pick hm (by repeat (first | exact pickHere | apply pickThere)) ?_
    refine W.callF (C := "java/util/HashMap") (argsL := []) (S := []) K 151 d13_146 (hw _ (List.mem_of_getElem? (i := 174) rfl)) (hw _ (List.mem_of_getElem? (i := 175) rfl)) (hw _ (List.mem_of_getElem? (i := 176) rfl)) (hw _ (List.mem_of_getElem? (i := 177) rfl)) (hw _ (List.mem_of_getElem? (i := 178) rfl)) (hw _ (List.mem_of_getElem? (i := 179) rfl)) (hw _ (List.mem_of_getElem? (i := 180) rfl)) (hw _ (List.mem_of_getElem? (i := 181) rfl)) (hw _ (List.mem_of_getElem? (i := 31) rfl)) (hw _ (List.mem_of_getElem? (i := 182) rfl)) (show parseMethodDescriptor "()Ljava/util/Collection;" = some ⟨[], some (.object "java/util/Collection")⟩ by decide +kernel) (Rc.new List.mem_cons_self) (spec_26R l Z a0 hw hm vv _) (fun v os1 hq => ?_)
    obtain ⟨rfl, rfl⟩ := hq
    refine W.callF (C := "java/util/HashMap$Values") (argsL := []) (S := []) K 156 d13_151 (hw _ (List.mem_of_getElem? (i := 202) rfl)) (hw _ (List.mem_of_getElem? (i := 203) rfl)) (hw _ (List.mem_of_getElem? (i := 204) rfl)) (hw _ (List.mem_of_getElem? (i := 205) rfl)) (hw _ (List.mem_of_getElem? (i := 206) rfl)) (hw _ (List.mem_of_getElem? (i := 207) rfl)) (hw _ (List.mem_of_getElem? (i := 208) rfl)) (hw _ (List.mem_of_getElem? (i := 209) rfl)) (hw _ (List.mem_of_getElem? (i := 188) rfl)) (hw _ (List.mem_of_getElem? (i := 210) rfl)) (show parseMethodDescriptor "()Ljava/util/Iterator;" = some ⟨[], some (.object "java/util/Iterator")⟩ by decide +kernel) (Rc.new (by repeat (first | exact hvv | apply List.mem_cons_of_mem))) (spec_29 l Z a0 hw vv hm _ _ (by repeat (first | exact hvv | apply List.mem_cons_of_mem)) List.mem_cons_self) (fun v os1 hq => ?_)
    obtain ⟨i151, rfl, rfl⟩ := hq
    refine W.astoreN K 157 d13_156 3 rfl rfl rfl (by repeat (first | apply setLS | exact setL0)) ?_
    refine W.aloadN K 158 d13_157 3 rfl rfl rfl ?_
    refine W.callF (C := "java/util/HashMap$ValueIterator") (argsL := []) (S := []) K 163 d13_158 (hw _ (List.mem_of_getElem? (i := 239) rfl)) (hw _ (List.mem_of_getElem? (i := 240) rfl)) (hw _ (List.mem_of_getElem? (i := 241) rfl)) (hw _ (List.mem_of_getElem? (i := 242) rfl)) (hw _ (List.mem_of_getElem? (i := 243) rfl)) (hw _ (List.mem_of_getElem? (i := 244) rfl)) (hw _ (List.mem_of_getElem? (i := 245) rfl)) (hw _ (List.mem_of_getElem? (i := 246) rfl)) (hw _ (List.mem_of_getElem? (i := 222) rfl)) (hw _ (List.mem_of_getElem? (i := 247) rfl)) (show parseMethodDescriptor "()Z" = some ⟨[], some .boolean⟩ by decide +kernel) (Rc.new List.mem_cons_self) (spec_32 l Z a0 hw i151 hm _ List.mem_cons_self) (fun v os1 hq => ?_)
    obtain ⟨rfl, rfl⟩ := hq
    refine W.if_eq K 186 166 d13_163 (fun h163 => ?_) (fun h163 => False.elim (absurd h163 (by decide)))
    refine W.iconst K 187 d13_186 (1 : Int32) (by decide) ?_
    refine WP.pick hf (by repeat (first | exact pickHere | apply pickThere)) ?_
    refine WP.pick nx1 (by repeat (first | exact pickHere | apply pickThere)) ?_
    refine WP.pick nx (by repeat (first | exact pickHere | apply pickThere)) ?_
    refine WP.pick bk1 (by repeat (first | exact pickHere | apply pickThere)) ?_
    refine WP.pick bk (by repeat (first | exact pickHere | apply pickThere)) ?_
    refine WP.pick ac (by repeat (first | exact pickHere | apply pickThere)) ?_
    refine WP.pick vb1 (by repeat (first | exact pickHere | apply pickThere)) ?_
    refine WP.pick vb (by repeat (first | exact pickHere | apply pickThere)) ?_
    refine WP.pick hm (by repeat (first | exact pickHere | apply pickThere)) ?_
    refine WP.pick ba (by repeat (first | exact pickHere | apply pickThere)) ?_
    refine WP.pick bk2 (by repeat (first | exact pickHere | apply pickThere)) ?_
    refine WP.pick nx2 (by repeat (first | exact pickHere | apply pickThere)) ?_
    refine WP.pick ti (by repeat (first | exact pickHere | apply pickThere)) ?_
    refine WP.pick vb2 (by repeat (first | exact pickHere | apply pickThere)) ?_
    refine WP.pick on (by repeat (first | exact pickHere | apply pickThere)) ?_
    refine WP.pick st (by repeat (first | exact pickHere | apply pickThere)) ?_
    refine WP.pick fr (by repeat (first | exact pickHere | apply pickThere)) ?_
    have hI2 := own_IX_link I (v := x) (s1 := 2 + 1) rfl (own_hb_eq x).2 (by decide)
    have hF2 := own_FI_add (fun v => own_fb_ne (own_h v)) FI x
    have ev : updA V 2 x 2 = x := updA_same _ _ _
    refine W.zreturn K d13_187 (Or.inr rfl) ⟨_, rfl, ⟨_, rfl⟩, Or.inr ⟨hno, vb, vb1, vb2, hm, ac, st, on, ti, bk, bk1, bk2, hf, ba, nx, nx1, nx2, (2 + 1), 1, 0, o, cz + 1, (updA Vl 2 x), _, _, _, _, _, rfl, by decide, own_cz hcz, hval2, fun h => by omega, fun h => ⟨rfl, rfl⟩, by rw [ev]; exact hI2, by rw [ev]; exact hF2, Or.inr ⟨_, rfl, (by repeat (first | exact hvv | apply List.mem_cons_of_mem))⟩, fun x hx => by repeat (first | exact hx | apply List.mem_cons_of_mem)⟩⟩
  · refine W.iconst K 9 d13_8 (0 : Int32) (by decide) ?_
    refine W.zreturn K d13_9 (Or.inl rfl) ⟨_, rfl, ⟨_, rfl⟩, Or.inl ⟨hu.mp h5, vb, vb1, vb2, hm, ac, st, on, ti, bk, bk1, bk2, hf, ba, nx, nx1, nx2, 2, 1, 0, o, cz, Vl, Bk, Nx, Bf, _, rest, rfl, esz, hcz, hval, fun h => by omega, fun h => ⟨rfl, rfl⟩, I, FI, Or.inr ⟨vv, rfl, hvv⟩, fun x hx => hx⟩⟩
theorem own_REL.exa {Z : State} {fr : Addr} {sz : Nat} {V : Nat → Int32} {rs ds de : Int32} {rest os : OS} (H : own_REL Z fr sz V rs ds de rest os) : ∀ h, Hp Z h os → Exa Z h fr "com/example/pointfold/pointfold/datalog/FlatRelation" := by
  obtain ⟨vb, vb1, vb2, hm, ac, st, on, ti, bk, bk1, bk2, hf, ba, nx, nx1, nx2, szz, cnt, s, o, cz, Vl, Bk, Nx, Bf, w, rest2, rfl, hszz, hcz, hval, hs1, hs2, I, FI, hw2, hsub⟩ := H
  exact Rc.new List.mem_cons_self
theorem own_REL.mono {Z : State} {fr : Addr} {sz : Nat} {V : Nat → Int32} {rs ds de : Int32} {rest rest1 os : OS} (H : own_REL Z fr sz V rs ds de rest1 os) (q : ∀ x, x ∈ rest → x ∈ rest1) : own_REL Z fr sz V rs ds de rest os := by
  obtain ⟨vb, vb1, vb2, hm, ac, st, on, ti, bk, bk1, bk2, hf, ba, nx, nx1, nx2, szz, cnt, s, o, cz, Vl, Bk, Nx, Bf, w, rest2, rfl, hszz, hcz, hval, hs1, hs2, I, FI, hw2, hsub⟩ := H
  exact ⟨vb, vb1, vb2, hm, ac, st, on, ti, bk, bk1, bk2, hf, ba, nx, nx1, nx2, szz, cnt, s, o, cz, Vl, Bk, Nx, Bf, w, rest2, rfl, hszz, hcz, hval, hs1, hs2, I, FI, hw2, fun x hx => hsub x (q x hx)⟩
theorem own_REL.rm {Z : State} {fr : Addr} {sz : Nat} {V : Nat → Int32} {rs ds de : Int32} {rest os : OS} (H : own_REL Z fr sz V rs ds de rest os) : (∃ (vb vb1 vb2 hm ac st on ti : Addr) (szz cnt s o : Int32) (Vl : Nat → Int32), szz.toInt = (sz : Int) ∧ own_val s cnt o Vl V sz ∧ own_RM Z os fr vb vb1 vb2 hm ac st on ti szz rs cnt ds de s o Vl) ∧ ∀ x, x ∈ rest → x ∈ os := by
  obtain ⟨vb, vb1, vb2, hm, ac, st, on, ti, bk, bk1, bk2, hf, ba, nx, nx1, nx2, szz, cnt, s, o, cz, Vl, Bk, Nx, Bf, w, rest2, rfl, hszz, hcz, hval, hs1, hs2, I, FI, hw2, hsub⟩ := H
  exact ⟨⟨vb, vb1, vb2, hm, ac, st, on, ti, szz, cnt, s, o, Vl, hszz, hval, ⟨(by repeat (first | exact List.mem_cons_self | apply List.mem_cons_of_mem)), (by repeat (first | exact List.mem_cons_self | apply List.mem_cons_of_mem)), (by repeat (first | exact List.mem_cons_self | apply List.mem_cons_of_mem)), (by repeat (first | exact List.mem_cons_self | apply List.mem_cons_of_mem)), (by repeat (first | exact List.mem_cons_self | apply List.mem_cons_of_mem)), (by repeat (first | exact List.mem_cons_self | apply List.mem_cons_of_mem)), (by repeat (first | exact List.mem_cons_self | apply List.mem_cons_of_mem))⟩⟩, fun x hx => List.mem_append_right _ (hsub x hx)⟩
set_option maxRecDepth 65536 in
set_option maxHeartbeats 40000000 in
theorem add_REL (l : Launch) (Z : State) (a0 : Array Value) (hw : ∀ d ∈ tables_1, d.before a0 Z = true) (fr ka : Addr) (x rs ds de : Int32) (sz : Nat) (V : Nat → Int32) (hsz : sz ≤ 2) (rest os : OS) (H : own_REL Z fr sz V rs ds de rest os) (mk : (ka, ARR Z .int [.int x]) ∈ rest) : OMeets l Z (⟨"com/example/pointfold/pointfold/datalog/FlatRelation", "add", "([I)Z"⟩ : MethodName) prog_10_method_8_code 5 (some .boolean) ({ frames := 6, cells := 5, slots := 24, locals := 86 } : Room) [(.ref fr), (.ref ka)] os (RetV fun v os' => (∃ u : Int32, v = .int u) ∧ (((∃ t, t < sz ∧ V t = x) ∧ own_REL Z fr sz V rs ds de rest os') ∨ ((∀ t, t < sz → V t ≠ x) ∧ own_REL Z fr (sz + 1) (updA V sz x) rs ds de rest os'))) := by
  obtain ⟨vb, vb1, vb2, hm, ac, st, on, ti, bk, bk1, bk2, hf, ba, nx, nx1, nx2, szz, cnt, s, o, cz, Vl, Bk, Nx, Bf, w, rest2, rfl, hszz, hcz, hval, hs1, hs2, I, FI, hw2, hsub⟩ := H
  have hq : sz = 0 ∨ sz = 1 ∨ sz = 2 := by omega
  have mk2 := hsub _ mk
  have wk : ∀ {n : Nat} {v : Option Value} {os1 : OS}, RetV (fun v os1 => (∃ u : Int32, v = .int u) ∧ (((∃ t, t < n ∧ V t = x) ∧ own_REL Z fr n V rs ds de rest2 os1) ∨ ((∀ t, t < n → V t ≠ x) ∧ own_REL Z fr (n + 1) (updA V n x) rs ds de rest2 os1))) v os1 → RetV (fun v os1 => (∃ u : Int32, v = .int u) ∧ (((∃ t, t < n ∧ V t = x) ∧ own_REL Z fr n V rs ds de rest os1) ∨ ((∀ t, t < n → V t ≠ x) ∧ own_REL Z fr (n + 1) (updA V n x) rs ds de rest os1))) v os1 := fun ⟨v1, e, hu, hh⟩ => ⟨v1, e, hu, hh.imp (fun k => ⟨k.1, k.2.mono hsub⟩) (fun k => ⟨k.1, k.2.mono hsub⟩)⟩
  rcases hq with rfl | rfl | rfl
  · obtain rfl : szz = 0 := Int32.toInt_inj.mp (hszz.trans (by decide))
    obtain ⟨rfl, rfl⟩ := hs1 (by omega)
    rcases hw2 with rfl | ⟨vv, rfl, hvv⟩
    · exact OMeets.weaken (spec_130N l Z a0 hw fr vb vb1 vb2 hm ac st on ti bk bk1 bk2 hf ba nx nx1 nx2 ka rs ds de o cz x V Vl Bk Nx Bf rest2 hcz hval I FI mk2) (fun _ _ h => wk h)
    · exact OMeets.weaken (spec_130R l Z a0 hw fr vb vb1 vb2 hm ac st on ti bk bk1 bk2 hf ba nx nx1 nx2 ka rs ds de o cz x V Vl Bk Nx Bf rest2 hcz hval I FI mk2 vv hvv) (fun _ _ h => wk h)
  · obtain rfl : szz = 1 := Int32.toInt_inj.mp (hszz.trans (by decide))
    obtain ⟨rfl, rfl⟩ := hs1 (by omega)
    rcases hw2 with rfl | ⟨vv, rfl, hvv⟩
    · exact OMeets.weaken (spec_131N l Z a0 hw fr vb vb1 vb2 hm ac st on ti bk bk1 bk2 hf ba nx nx1 nx2 ka rs ds de o cz x V Vl Bk Nx Bf rest2 hcz hval I FI mk2) (fun _ _ h => wk h)
    · exact OMeets.weaken (spec_131R l Z a0 hw fr vb vb1 vb2 hm ac st on ti bk bk1 bk2 hf ba nx nx1 nx2 ka rs ds de o cz x V Vl Bk Nx Bf rest2 hcz hval I FI mk2 vv hvv) (fun _ _ h => wk h)
  · obtain rfl : szz = 2 := Int32.toInt_inj.mp (hszz.trans (by decide))
    obtain ⟨rfl, rfl⟩ := hs2 (by omega)
    rcases hw2 with rfl | ⟨vv, rfl, hvv⟩
    · exact OMeets.weaken (spec_132N l Z a0 hw fr vb vb1 vb2 hm ac st on ti bk bk1 bk2 hf ba nx nx1 nx2 ka rs ds de o cz x V Vl Bk Nx Bf rest2 hcz hval I FI mk2) (fun _ _ h => wk h)
    · exact OMeets.weaken (spec_132R l Z a0 hw fr vb vb1 vb2 hm ac st on ti bk bk1 bk2 hf ba nx nx1 nx2 ka rs ds de o cz x V Vl Bk Nx Bf rest2 hcz hval I FI mk2 vv hvv) (fun _ _ h => wk h)
set_option maxRecDepth 65536 in
set_option maxHeartbeats 40000000 in
theorem begin_REL (l : Launch) (Z : State) (a0 : Array Value) (hw : ∀ d ∈ tables_1, d.before a0 Z = true) (fr : Addr) (rs ds de : Int32) (sz : Nat) (V : Nat → Int32) (rest os : OS) (H : own_REL Z fr sz V rs ds de rest os) : OMeets l Z (⟨"com/example/pointfold/pointfold/datalog/FlatRelation", "beginRound", "()V"⟩ : MethodName) prog_10_method_13_code 1 none ({ frames := 0, cells := 0, slots := 0, locals := 0 } : Room) [(.ref fr)] os (RetN fun os' => ∃ r : Int32, r.toInt = (sz : Int) ∧ own_REL Z fr sz V r ds de rest os') := by
  obtain ⟨vb, vb1, vb2, hm, ac, st, on, ti, bk, bk1, bk2, hf, ba, nx, nx1, nx2, szz, cnt, s, o, cz, Vl, Bk, Nx, Bf, w, rest2, rfl, hszz, hcz, hval, hs1, hs2, I, FI, hw2, hsub⟩ := H
  refine OMeets.of_body [.val (.ref fr)] pn_12 (laid_eq _ _ rfl) ?_
  intro X K
  change WP X Z _ _ _ _ _ _ ((fr, OBJ Z "com/example/pointfold/pointfold/datalog/FlatRelation" [("com/example/pointfold/pointfold/datalog/FlatRelation", "values", "Lcom/example/pointfold/pointfold/datalog/IntBlocks;", .ref vb), ("com/example/pointfold/pointfold/datalog/FlatRelation", "indexes", "Ljava/util/Map;", .ref hm), ("com/example/pointfold/pointfold/datalog/FlatRelation", "arity", "I", .int 1), ("com/example/pointfold/pointfold/datalog/FlatRelation", "allColumns", "[I", .ref ac), ("com/example/pointfold/pointfold/datalog/FlatRelation", "stored", "[I", .ref st), ("com/example/pointfold/pointfold/datalog/FlatRelation", "only", "[I", .ref on), ("com/example/pointfold/pointfold/datalog/FlatRelation", "unique", "Lcom/example/pointfold/pointfold/datalog/TupleIndex;", .ref ti), ("com/example/pointfold/pointfold/datalog/FlatRelation", "size", "I", .int szz), ("com/example/pointfold/pointfold/datalog/FlatRelation", "roundStart", "I", .int rs), ("com/example/pointfold/pointfold/datalog/FlatRelation", "storedCount", "I", .int cnt), ("com/example/pointfold/pointfold/datalog/FlatRelation", "deltaStart", "I", .int ds), ("com/example/pointfold/pointfold/datalog/FlatRelation", "deltaEnd", "I", .int de)]) :: (st, ARR Z .int [.int s]) :: (on, ARR Z .int [.int o]) :: (vb2, ARR Z .int (AF Value.int 16 Vl)) :: (ti, OBJ Z "com/example/pointfold/pointfold/datalog/TupleIndex" [("com/example/pointfold/pointfold/datalog/TupleIndex", "capacity", "I", .int 16), ("com/example/pointfold/pointfold/datalog/TupleIndex", "buckets", "Lcom/example/pointfold/pointfold/datalog/IntBlocks;", .ref bk), ("com/example/pointfold/pointfold/datalog/TupleIndex", "filter", "Lcom/example/pointfold/pointfold/datalog/HashFilter;", .ref hf), ("com/example/pointfold/pointfold/datalog/TupleIndex", "next", "Lcom/example/pointfold/pointfold/datalog/IntBlocks;", .ref nx), ("com/example/pointfold/pointfold/datalog/TupleIndex", "relation", "Lcom/example/pointfold/pointfold/datalog/FlatRelation;", .ref fr), ("com/example/pointfold/pointfold/datalog/TupleIndex", "columns", "[I", .ref ac), ("com/example/pointfold/pointfold/datalog/TupleIndex", "count", "I", .int cz)]) :: (nx2, ARR Z .int (AF Value.int 16 Nx)) :: (bk2, ARR Z .int (AF Value.int 16 Bk)) :: (ba, ARR Z .long (AF Value.long 2 Bf)) :: (hm, OBJ Z "java/util/HashMap" [("java/util/HashMap", "loadFactor", "F", .float 1061158912), ("java/util/AbstractMap", "values", "Ljava/util/Collection;", w), ("java/util/HashMap", "modCount", "I", .int 0), ("java/util/HashMap", "table", "[Ljava/util/HashMap$Node;", .null)]) :: (vb, OBJ Z "com/example/pointfold/pointfold/datalog/IntBlocks" [("com/example/pointfold/pointfold/datalog/IntBlocks", "blocks", "[[I", .ref vb1)]) :: (vb1, ARR Z (.array .int) [.ref vb2]) :: (ac, ARR Z .int [.int 0]) :: (bk, OBJ Z "com/example/pointfold/pointfold/datalog/IntBlocks" [("com/example/pointfold/pointfold/datalog/IntBlocks", "blocks", "[[I", .ref bk1)]) :: (bk1, ARR Z (.array .int) [.ref bk2]) :: (nx, OBJ Z "com/example/pointfold/pointfold/datalog/IntBlocks" [("com/example/pointfold/pointfold/datalog/IntBlocks", "blocks", "[[I", .ref nx1)]) :: (nx1, ARR Z (.array .int) [.ref nx2]) :: (hf, OBJ Z "com/example/pointfold/pointfold/datalog/HashFilter" [("com/example/pointfold/pointfold/datalog/HashFilter", "bits", "[J", .ref ba), ("com/example/pointfold/pointfold/datalog/HashFilter", "mask", "J", .long 127)]) :: rest2) _ _
  refine W.aloadN K 1 d12_0 0 rfl rfl rfl ?_
  refine W.aloadN K 2 d12_1 0 rfl rfl rfl ?_
  refine W.getF K 5 d12_2 (hw _ (List.mem_of_getElem? (i := 107) rfl)) (by repeat (first | exact List.mem_cons_self | apply List.mem_cons_of_mem)) (by repeat (first | exact List.mem_cons_self | apply List.mem_cons_of_mem)) ?_
  refine W.putF (ty := .int) K 8 d12_5 (hw _ (List.mem_of_getElem? (i := 109) rfl)) (hw _ (List.mem_of_getElem? (i := 110) rfl)) (hw _ (List.mem_of_getElem? (i := 2) rfl)) (by decide +kernel) (by repeat (first | exact Upd.here | apply Upd.there)) (by repeat (first | exact UpdF.here | apply UpdF.there)) ?_
  exact W.return K d12_8 ⟨rfl, szz, hszz, vb, vb1, vb2, hm, ac, st, on, ti, bk, bk1, bk2, hf, ba, nx, nx1, nx2, szz, cnt, s, o, cz, Vl, Bk, Nx, Bf, w, rest2, rfl, hszz, hcz, hval, hs1, hs2, I, FI, hw2, hsub⟩
set_option maxRecDepth 65536 in
set_option maxHeartbeats 40000000 in
theorem end_REL (l : Launch) (Z : State) (a0 : Array Value) (hw : ∀ d ∈ tables_1, d.before a0 Z = true) (fr : Addr) (rs ds de : Int32) (sz : Nat) (V : Nat → Int32) (rest os : OS) (H : own_REL Z fr sz V rs ds de rest os) : OMeets l Z (⟨"com/example/pointfold/pointfold/datalog/FlatRelation", "endRound", "()Z"⟩ : MethodName) prog_10_method_14_code 1 (some .boolean) ({ frames := 0, cells := 0, slots := 0, locals := 0 } : Room) [(.ref fr)] os (RetV fun v os' => ∃ u d : Int32, v = .int u ∧ (u = 0 ∨ u = 1) ∧ (u = 1 ↔ rs.toInt < (sz : Int)) ∧ d.toInt = (sz : Int) ∧ own_REL Z fr sz V rs rs d rest os') := by
  obtain ⟨vb, vb1, vb2, hm, ac, st, on, ti, bk, bk1, bk2, hf, ba, nx, nx1, nx2, szz, cnt, s, o, cz, Vl, Bk, Nx, Bf, w, rest2, rfl, hszz, hcz, hval, hs1, hs2, I, FI, hw2, hsub⟩ := H
  refine OMeets.of_body [.val (.ref fr)] pn_36 (laid_eq _ _ rfl) ?_
  intro X K
  change WP X Z _ _ _ _ _ _ ((fr, OBJ Z "com/example/pointfold/pointfold/datalog/FlatRelation" [("com/example/pointfold/pointfold/datalog/FlatRelation", "values", "Lcom/example/pointfold/pointfold/datalog/IntBlocks;", .ref vb), ("com/example/pointfold/pointfold/datalog/FlatRelation", "indexes", "Ljava/util/Map;", .ref hm), ("com/example/pointfold/pointfold/datalog/FlatRelation", "arity", "I", .int 1), ("com/example/pointfold/pointfold/datalog/FlatRelation", "allColumns", "[I", .ref ac), ("com/example/pointfold/pointfold/datalog/FlatRelation", "stored", "[I", .ref st), ("com/example/pointfold/pointfold/datalog/FlatRelation", "only", "[I", .ref on), ("com/example/pointfold/pointfold/datalog/FlatRelation", "unique", "Lcom/example/pointfold/pointfold/datalog/TupleIndex;", .ref ti), ("com/example/pointfold/pointfold/datalog/FlatRelation", "size", "I", .int szz), ("com/example/pointfold/pointfold/datalog/FlatRelation", "roundStart", "I", .int rs), ("com/example/pointfold/pointfold/datalog/FlatRelation", "storedCount", "I", .int cnt), ("com/example/pointfold/pointfold/datalog/FlatRelation", "deltaStart", "I", .int ds), ("com/example/pointfold/pointfold/datalog/FlatRelation", "deltaEnd", "I", .int de)]) :: (st, ARR Z .int [.int s]) :: (on, ARR Z .int [.int o]) :: (vb2, ARR Z .int (AF Value.int 16 Vl)) :: (ti, OBJ Z "com/example/pointfold/pointfold/datalog/TupleIndex" [("com/example/pointfold/pointfold/datalog/TupleIndex", "capacity", "I", .int 16), ("com/example/pointfold/pointfold/datalog/TupleIndex", "buckets", "Lcom/example/pointfold/pointfold/datalog/IntBlocks;", .ref bk), ("com/example/pointfold/pointfold/datalog/TupleIndex", "filter", "Lcom/example/pointfold/pointfold/datalog/HashFilter;", .ref hf), ("com/example/pointfold/pointfold/datalog/TupleIndex", "next", "Lcom/example/pointfold/pointfold/datalog/IntBlocks;", .ref nx), ("com/example/pointfold/pointfold/datalog/TupleIndex", "relation", "Lcom/example/pointfold/pointfold/datalog/FlatRelation;", .ref fr), ("com/example/pointfold/pointfold/datalog/TupleIndex", "columns", "[I", .ref ac), ("com/example/pointfold/pointfold/datalog/TupleIndex", "count", "I", .int cz)]) :: (nx2, ARR Z .int (AF Value.int 16 Nx)) :: (bk2, ARR Z .int (AF Value.int 16 Bk)) :: (ba, ARR Z .long (AF Value.long 2 Bf)) :: (hm, OBJ Z "java/util/HashMap" [("java/util/HashMap", "loadFactor", "F", .float 1061158912), ("java/util/AbstractMap", "values", "Ljava/util/Collection;", w), ("java/util/HashMap", "modCount", "I", .int 0), ("java/util/HashMap", "table", "[Ljava/util/HashMap$Node;", .null)]) :: (vb, OBJ Z "com/example/pointfold/pointfold/datalog/IntBlocks" [("com/example/pointfold/pointfold/datalog/IntBlocks", "blocks", "[[I", .ref vb1)]) :: (vb1, ARR Z (.array .int) [.ref vb2]) :: (ac, ARR Z .int [.int 0]) :: (bk, OBJ Z "com/example/pointfold/pointfold/datalog/IntBlocks" [("com/example/pointfold/pointfold/datalog/IntBlocks", "blocks", "[[I", .ref bk1)]) :: (bk1, ARR Z (.array .int) [.ref bk2]) :: (nx, OBJ Z "com/example/pointfold/pointfold/datalog/IntBlocks" [("com/example/pointfold/pointfold/datalog/IntBlocks", "blocks", "[[I", .ref nx1)]) :: (nx1, ARR Z (.array .int) [.ref nx2]) :: (hf, OBJ Z "com/example/pointfold/pointfold/datalog/HashFilter" [("com/example/pointfold/pointfold/datalog/HashFilter", "bits", "[J", .ref ba), ("com/example/pointfold/pointfold/datalog/HashFilter", "mask", "J", .long 127)]) :: rest2) _ _
  refine W.aloadN K 1 d36_0 0 rfl rfl rfl ?_
  refine W.aloadN K 2 d36_1 0 rfl rfl rfl ?_
  refine W.getF K 5 d36_2 (hw _ (List.mem_of_getElem? (i := 109) rfl)) (by repeat (first | exact List.mem_cons_self | apply List.mem_cons_of_mem)) (by repeat (first | exact List.mem_cons_self | apply List.mem_cons_of_mem)) ?_
  refine W.putF (ty := .int) K 8 d36_5 (hw _ (List.mem_of_getElem? (i := 271) rfl)) (hw _ (List.mem_of_getElem? (i := 272) rfl)) (hw _ (List.mem_of_getElem? (i := 2) rfl)) (by decide +kernel) (by repeat (first | exact Upd.here | apply Upd.there)) (by repeat (first | exact UpdF.here | apply UpdF.there)) ?_
  refine W.aloadN K 9 d36_8 0 rfl rfl rfl ?_
  refine W.aloadN K 10 d36_9 0 rfl rfl rfl ?_
  refine W.getF K 13 d36_10 (hw _ (List.mem_of_getElem? (i := 107) rfl)) (by repeat (first | exact List.mem_cons_self | apply List.mem_cons_of_mem)) (by repeat (first | exact List.mem_cons_self | apply List.mem_cons_of_mem)) ?_
  refine W.putF (ty := .int) K 16 d36_13 (hw _ (List.mem_of_getElem? (i := 273) rfl)) (hw _ (List.mem_of_getElem? (i := 274) rfl)) (hw _ (List.mem_of_getElem? (i := 2) rfl)) (by decide +kernel) (by repeat (first | exact Upd.here | apply Upd.there)) (by repeat (first | exact UpdF.here | apply UpdF.there)) ?_
  refine W.aloadN K 17 d36_16 0 rfl rfl rfl ?_
  refine W.getF K 20 d36_17 (hw _ (List.mem_of_getElem? (i := 273) rfl)) (by repeat (first | exact List.mem_cons_self | apply List.mem_cons_of_mem)) (by repeat (first | exact List.mem_cons_self | apply List.mem_cons_of_mem)) ?_
  refine W.aloadN K 21 d36_20 0 rfl rfl rfl ?_
  refine W.getF K 24 d36_21 (hw _ (List.mem_of_getElem? (i := 271) rfl)) (by repeat (first | exact List.mem_cons_self | apply List.mem_cons_of_mem)) (by repeat (first | exact List.mem_cons_self | apply List.mem_cons_of_mem)) ?_
  refine W.icmp_le K 31 27 d36_24 (fun h24 => ?_) (fun h24 => ?_)
  · refine W.iconst K 32 d36_31 (0 : Int32) (by decide) ?_
    refine W.zreturn K d36_32 (Or.inl rfl) ⟨_, rfl, 0, szz, rfl, Or.inl rfl, ⟨fun h => absurd h (by decide), fun h => by omega⟩, hszz, vb, vb1, vb2, hm, ac, st, on, ti, bk, bk1, bk2, hf, ba, nx, nx1, nx2, szz, cnt, s, o, cz, Vl, Bk, Nx, Bf, w, rest2, rfl, hszz, hcz, hval, hs1, hs2, I, FI, hw2, hsub⟩
  · refine W.iconst K 28 d36_27 (1 : Int32) (by decide) ?_
    refine W.goto K 32 d36_28 ?_
    refine W.zreturn K d36_32 (Or.inr rfl) ⟨_, rfl, 1, szz, rfl, Or.inr rfl, ⟨fun _ => by omega, fun _ => rfl⟩, hszz, vb, vb1, vb2, hm, ac, st, on, ti, bk, bk1, bk2, hf, ba, nx, nx1, nx2, szz, cnt, s, o, cz, Vl, Bk, Nx, Bf, w, rest2, rfl, hszz, hcz, hval, hs1, hs2, I, FI, hw2, hsub⟩
set_option maxRecDepth 65536 in
set_option maxHeartbeats 40000000 in
theorem spec_38 (l : Launch) (Z : State) (a0 : Array Value) (hw : ∀ d ∈ tables_1, d.before a0 Z = true) (a fr ca : Addr) (v0 v1 v2 v3 v4 v5 : Value) (rest : OS) : OMeets l Z (⟨"com/example/pointfold/pointfold/datalog/FlatRelation$RangeCursor", "<init>", "(Lcom/example/pointfold/pointfold/datalog/FlatRelation;[IZ)V"⟩ : MethodName) prog_12_method_1_code 4 none ({ frames := 1, cells := 0, slots := 0, locals := 12 } : Room) [(.ref a), (.ref fr), (.ref ca), (.int 1)] ((a, OBJ Z "com/example/pointfold/pointfold/datalog/FlatRelation$RangeCursor" [("com/example/pointfold/pointfold/datalog/FlatRelation$RangeCursor", "this$0", "Lcom/example/pointfold/pointfold/datalog/FlatRelation;", v0), ("com/example/pointfold/pointfold/datalog/FlatRelation$RangeCursor", "columns", "[I", v1), ("com/example/pointfold/pointfold/datalog/FlatRelation$RangeCursor", "delta", "Z", v2), ("com/example/pointfold/pointfold/datalog/FlatRelation$RangeCursor", "key", "[I", v3), ("com/example/pointfold/pointfold/datalog/FlatRelation$RangeCursor", "tuple", "I", v4), ("com/example/pointfold/pointfold/datalog/FlatRelation$RangeCursor", "end", "I", v5)]) :: rest) (RetN fun os' => os' = (a, OBJ Z "com/example/pointfold/pointfold/datalog/FlatRelation$RangeCursor" [("com/example/pointfold/pointfold/datalog/FlatRelation$RangeCursor", "this$0", "Lcom/example/pointfold/pointfold/datalog/FlatRelation;", .ref fr), ("com/example/pointfold/pointfold/datalog/FlatRelation$RangeCursor", "columns", "[I", .ref ca), ("com/example/pointfold/pointfold/datalog/FlatRelation$RangeCursor", "delta", "Z", .int 1), ("com/example/pointfold/pointfold/datalog/FlatRelation$RangeCursor", "key", "[I", v3), ("com/example/pointfold/pointfold/datalog/FlatRelation$RangeCursor", "tuple", "I", v4), ("com/example/pointfold/pointfold/datalog/FlatRelation$RangeCursor", "end", "I", v5)]) :: rest) := by
  refine OMeets.of_body [.val (.ref a), .val (.ref fr), .val (.ref ca), .val (.int 1)] pn_38 (laid_eq _ _ rfl) ?_
  intro X K
  refine W.aloadN K 1 d38_0 0 rfl rfl rfl ?_
  refine W.aloadN K 2 d38_1 1 rfl rfl rfl ?_
  refine W.putFf (ty := (.object "com/example/pointfold/pointfold/datalog/FlatRelation")) K 5 d38_2 (hw _ (List.mem_of_getElem? (i := 286) rfl)) (hw _ (List.mem_of_getElem? (i := 287) rfl)) (hw _ (List.mem_of_getElem? (i := 281) rfl)) (by decide +kernel) (by repeat (first | exact Upd.here | apply Upd.there)) (by repeat (first | exact UpdF.here | apply UpdF.there)) ?_
  refine W.aloadN K 6 d38_5 0 rfl rfl rfl ?_
  refine W.initO K 9 d38_6 (hw _ (List.mem_of_getElem? (i := 288) rfl)) (hw _ (List.mem_of_getElem? (i := 13) rfl)) (hw _ (List.mem_of_getElem? (i := 14) rfl)) ?_
  refine W.aloadN K 10 d38_9 0 rfl rfl rfl ?_
  refine W.aloadN K 11 d38_10 2 rfl rfl rfl ?_
  refine W.putFf (ty := (.array .int)) K 14 d38_11 (hw _ (List.mem_of_getElem? (i := 289) rfl)) (hw _ (List.mem_of_getElem? (i := 290) rfl)) (hw _ (List.mem_of_getElem? (i := 281) rfl)) (by decide +kernel) (by repeat (first | exact Upd.here | apply Upd.there)) (by repeat (first | exact UpdF.here | apply UpdF.there)) ?_
  refine W.aloadN K 15 d38_14 0 rfl rfl rfl ?_
  refine W.iloadN K 16 d38_15 3 rfl rfl ?_
  refine W.putFf (ty := .boolean) K 19 d38_16 (hw _ (List.mem_of_getElem? (i := 291) rfl)) (hw _ (List.mem_of_getElem? (i := 292) rfl)) (hw _ (List.mem_of_getElem? (i := 281) rfl)) (by decide +kernel) (by repeat (first | exact Upd.here | apply Upd.there)) (by repeat (first | exact UpdF.here | apply UpdF.there)) ?_
  exact W.return K d38_19 ⟨rfl, rfl⟩
set_option maxRecDepth 65536 in
set_option maxHeartbeats 40000000 in
theorem spec_37 (l : Launch) (Z : State) (a0 : Array Value) (hw : ∀ d ∈ tables_1, d.before a0 Z = true) (fr ca : Addr) (os : OS) : OMeets l Z (⟨"com/example/pointfold/pointfold/datalog/FlatRelation", "cursor", "([IZ)Lcom/example/pointfold/pointfold/datalog/Relation$Cursor;"⟩ : MethodName) prog_10_method_12_code 3 (some (.object "com/example/pointfold/pointfold/datalog/Relation$Cursor")) ({ frames := 2, cells := 1, slots := 6, locals := 29 } : Room) [(.ref fr), (.ref ca), (.int 1)] os (RetV fun v os' => ∃ cu : Addr, v = .ref cu ∧ os' = (cu, OBJ Z "com/example/pointfold/pointfold/datalog/FlatRelation$RangeCursor" [("com/example/pointfold/pointfold/datalog/FlatRelation$RangeCursor", "this$0", "Lcom/example/pointfold/pointfold/datalog/FlatRelation;", .ref fr), ("com/example/pointfold/pointfold/datalog/FlatRelation$RangeCursor", "columns", "[I", .ref ca), ("com/example/pointfold/pointfold/datalog/FlatRelation$RangeCursor", "delta", "Z", .int 1), ("com/example/pointfold/pointfold/datalog/FlatRelation$RangeCursor", "key", "[I", .null), ("com/example/pointfold/pointfold/datalog/FlatRelation$RangeCursor", "tuple", "I", .int 0), ("com/example/pointfold/pointfold/datalog/FlatRelation$RangeCursor", "end", "I", .int 0)]) :: os) := by
  refine OMeets.of_body [.val (.ref fr), .val (.ref ca), .val (.int 1)] pn_37 (laid_eq _ _ rfl) ?_
  intro X K
  refine W.iloadN K 1 d37_0 2 rfl rfl ?_
  refine W.if_ne K 9 4 d37_1 (fun h1 => ?_) (fun h1 => False.elim (absurd h1 (by decide)))
  refine W.new [("com/example/pointfold/pointfold/datalog/FlatRelation$RangeCursor", "this$0", "Lcom/example/pointfold/pointfold/datalog/FlatRelation;", .null), ("com/example/pointfold/pointfold/datalog/FlatRelation$RangeCursor", "columns", "[I", .null), ("com/example/pointfold/pointfold/datalog/FlatRelation$RangeCursor", "delta", "Z", .int 0), ("com/example/pointfold/pointfold/datalog/FlatRelation$RangeCursor", "key", "[I", .null), ("com/example/pointfold/pointfold/datalog/FlatRelation$RangeCursor", "tuple", "I", .int 0), ("com/example/pointfold/pointfold/datalog/FlatRelation$RangeCursor", "end", "I", .int 0)] K 12 d37_9 (hw _ (List.mem_of_getElem? (i := 280) rfl)) (hw _ (List.mem_of_getElem? (i := 281) rfl)) (hw _ (List.mem_of_getElem? (i := 282) rfl)) ⟨⟨Or.inr (hw _ (List.mem_of_getElem? (i := 287) rfl)), (.object "com/example/pointfold/pointfold/datalog/FlatRelation"), by decide +kernel, rfl⟩, ⟨Or.inr (hw _ (List.mem_of_getElem? (i := 290) rfl)), (.array .int), by decide +kernel, rfl⟩, ⟨Or.inr (hw _ (List.mem_of_getElem? (i := 292) rfl)), .boolean, by decide +kernel, rfl⟩, ⟨Or.inl (hw _ (List.mem_of_getElem? (i := 303) rfl)), (.array .int), by decide +kernel, rfl⟩, ⟨Or.inl (hw _ (List.mem_of_getElem? (i := 306) rfl)), .int, by decide +kernel, rfl⟩, ⟨Or.inl (hw _ (List.mem_of_getElem? (i := 309) rfl)), .int, by decide +kernel, rfl⟩, trivial⟩ (fun b9 => ?_)
  refine W.dup K 13 d37_12 ?_
  refine W.aloadN K 14 d37_13 0 rfl rfl rfl ?_
  refine W.aloadN K 15 d37_14 1 rfl rfl rfl ?_
  refine W.iloadN K 16 d37_15 2 rfl rfl ?_
  refine W.callIn3 K 19 d37_16 (hw _ (List.mem_of_getElem? (i := 283) rfl)) (hw _ (List.mem_of_getElem? (i := 284) rfl)) (hw _ (List.mem_of_getElem? (i := 282) rfl)) (hw _ (List.mem_of_getElem? (i := 285) rfl)) pd_38 (spec_38 l Z a0 hw _ _ _ _ _ _ _ _ _ _) (fun os1 hq => ?_)
  obtain rfl := hq
  refine W.areturn K d37_19 ⟨_, rfl, _, rfl, rfl⟩
set_option maxRecDepth 65536 in
set_option maxHeartbeats 40000000 in
theorem spec_40 (l : Launch) (Z : State) (a0 : Array Value) (hw : ∀ d ∈ tables_1, d.before a0 Z = true) (fr vb vb1 vb2 hm ac st on ti : Addr) (szz rs cnt ds de s o : Int32) (Vl V : Nat → Int32) (sz : Nat) (hval : own_val s cnt o Vl V sz) (os : OS) (R : own_RM Z os fr vb vb1 vb2 hm ac st on ti szz rs cnt ds de s o Vl) (hsz : sz ≤ 16) (hde : de.toInt = (sz : Int)) (cu ca ka : Addr) (x : Int32) (mc : (ca, ARR Z .int [.int 0]) ∈ os) (mk : (ka, ARR Z .int [.int x]) ∈ os) (tz : Int32) (k : Nat) (hk : (tz + 1).toInt = (k : Int)) (hks : k ≤ sz) : OMeets l Z (⟨"com/example/pointfold/pointfold/datalog/FlatRelation$RangeCursor", "next", "()Z"⟩ : MethodName) prog_12_method_3_code 1 (some .boolean) ({ frames := 3, cells := 0, slots := 0, locals := 44 } : Room) [(.ref cu)] ((cu, OBJ Z "com/example/pointfold/pointfold/datalog/FlatRelation$RangeCursor" [("com/example/pointfold/pointfold/datalog/FlatRelation$RangeCursor", "this$0", "Lcom/example/pointfold/pointfold/datalog/FlatRelation;", .ref fr), ("com/example/pointfold/pointfold/datalog/FlatRelation$RangeCursor", "columns", "[I", .ref ca), ("com/example/pointfold/pointfold/datalog/FlatRelation$RangeCursor", "delta", "Z", .int 1), ("com/example/pointfold/pointfold/datalog/FlatRelation$RangeCursor", "key", "[I", .ref ka), ("com/example/pointfold/pointfold/datalog/FlatRelation$RangeCursor", "tuple", "I", .int tz), ("com/example/pointfold/pointfold/datalog/FlatRelation$RangeCursor", "end", "I", .int de)]) :: os) (RetV fun v os' => ∃ u : Int32, v = .int u ∧ (u = 0 ∨ u = 1) ∧ (u = 1 ↔ ∃ t, k ≤ t ∧ t < sz ∧ V t = x)) := by
  have e1 : (1 : Int32).toInt = 1 := by decide
  refine OMeets.of_body [.val (.ref cu)] pn_40 (laid_eq _ _ rfl) ?_
  intro X K
  have L1 : ∀ (m k : Nat) (tz : Int32), k + m = sz → (tz + 1).toInt = (k : Int) → WP X Z 0 0 (RetV fun v os' => ∃ u : Int32, v = .int u ∧ (u = 0 ∨ u = 1) ∧ (u = 1 ↔ ∃ t, k ≤ t ∧ t < sz ∧ V t = x)) 0 [.val (.ref cu)] [] ((cu, OBJ Z "com/example/pointfold/pointfold/datalog/FlatRelation$RangeCursor" [("com/example/pointfold/pointfold/datalog/FlatRelation$RangeCursor", "this$0", "Lcom/example/pointfold/pointfold/datalog/FlatRelation;", .ref fr), ("com/example/pointfold/pointfold/datalog/FlatRelation$RangeCursor", "columns", "[I", .ref ca), ("com/example/pointfold/pointfold/datalog/FlatRelation$RangeCursor", "delta", "Z", .int 1), ("com/example/pointfold/pointfold/datalog/FlatRelation$RangeCursor", "key", "[I", .ref ka), ("com/example/pointfold/pointfold/datalog/FlatRelation$RangeCursor", "tuple", "I", .int tz), ("com/example/pointfold/pointfold/datalog/FlatRelation$RangeCursor", "end", "I", .int de)]) :: os) 0 0 := by
    intro m
    induction m with
    | zero =>
      intro k tz hkm hk
      refine W.aloadN K 1 d40_0 0 rfl rfl rfl ?_
      refine W.dup K 2 d40_1 ?_
      refine W.getF K 5 d40_2 (hw _ (List.mem_of_getElem? (i := 305) rfl)) (by repeat (first | exact List.mem_cons_self | apply List.mem_cons_of_mem)) (by repeat (first | exact List.mem_cons_self | apply List.mem_cons_of_mem)) ?_
      refine W.iconst K 6 d40_5 (1 : Int32) (by decide) ?_
      refine W.iadd K 7 d40_6 ?_
      refine W.dupX1 K 8 d40_7 ?_
      refine W.putF (ty := .int) K 11 d40_8 (hw _ (List.mem_of_getElem? (i := 305) rfl)) (hw _ (List.mem_of_getElem? (i := 306) rfl)) (hw _ (List.mem_of_getElem? (i := 281) rfl)) (by decide +kernel) (by repeat (first | exact Upd.here | apply Upd.there)) (by repeat (first | exact UpdF.here | apply UpdF.there)) ?_
      refine W.aloadN K 12 d40_11 0 rfl rfl rfl ?_
      refine W.getF K 15 d40_12 (hw _ (List.mem_of_getElem? (i := 308) rfl)) (by repeat (first | exact List.mem_cons_self | apply List.mem_cons_of_mem)) (by repeat (first | exact List.mem_cons_self | apply List.mem_cons_of_mem)) ?_
      refine W.icmp_ge K 42 18 d40_15 (fun h15 => ?_) (fun h15 => False.elim (by omega))
      refine W.iconst K 43 d40_42 (0 : Int32) (by decide) ?_
      refine W.zreturn K d40_43 (Or.inl rfl) ⟨_, rfl, 0, rfl, Or.inl rfl, fun h => absurd h (by decide), fun ⟨t, h1, h2, _⟩ => by omega⟩
    | succ m ih =>
      intro k tz hkm hk
      have hk2 : (tz + 1 + 1).toInt = ((k + 1 : Nat) : Int) := by rw [toInt_add32 hk e1 (by omega) (by omega)]; omega
      refine W.aloadN K 1 d40_0 0 rfl rfl rfl ?_
      refine W.dup K 2 d40_1 ?_
      refine W.getF K 5 d40_2 (hw _ (List.mem_of_getElem? (i := 305) rfl)) (by repeat (first | exact List.mem_cons_self | apply List.mem_cons_of_mem)) (by repeat (first | exact List.mem_cons_self | apply List.mem_cons_of_mem)) ?_
      refine W.iconst K 6 d40_5 (1 : Int32) (by decide) ?_
      refine W.iadd K 7 d40_6 ?_
      refine W.dupX1 K 8 d40_7 ?_
      refine W.putF (ty := .int) K 11 d40_8 (hw _ (List.mem_of_getElem? (i := 305) rfl)) (hw _ (List.mem_of_getElem? (i := 306) rfl)) (hw _ (List.mem_of_getElem? (i := 281) rfl)) (by decide +kernel) (by repeat (first | exact Upd.here | apply Upd.there)) (by repeat (first | exact UpdF.here | apply UpdF.there)) ?_
      refine W.aloadN K 12 d40_11 0 rfl rfl rfl ?_
      refine W.getF K 15 d40_12 (hw _ (List.mem_of_getElem? (i := 308) rfl)) (by repeat (first | exact List.mem_cons_self | apply List.mem_cons_of_mem)) (by repeat (first | exact List.mem_cons_self | apply List.mem_cons_of_mem)) ?_
      refine W.icmp_ge K 42 18 d40_15 (fun h15 => False.elim (by omega)) (fun h15 => ?_)
      refine W.aloadN K 19 d40_18 0 rfl rfl rfl ?_
      refine W.getF K 22 d40_19 (hw _ (List.mem_of_getElem? (i := 286) rfl)) (by repeat (first | exact List.mem_cons_self | apply List.mem_cons_of_mem)) (by repeat (first | exact List.mem_cons_self | apply List.mem_cons_of_mem)) ?_
      refine W.aloadN K 23 d40_22 0 rfl rfl rfl ?_
      refine W.getF K 26 d40_23 (hw _ (List.mem_of_getElem? (i := 305) rfl)) (by repeat (first | exact List.mem_cons_self | apply List.mem_cons_of_mem)) (by repeat (first | exact List.mem_cons_self | apply List.mem_cons_of_mem)) ?_
      refine W.aloadN K 27 d40_26 0 rfl rfl rfl ?_
      refine W.getF K 30 d40_27 (hw _ (List.mem_of_getElem? (i := 289) rfl)) (by repeat (first | exact List.mem_cons_self | apply List.mem_cons_of_mem)) (by repeat (first | exact List.mem_cons_self | apply List.mem_cons_of_mem)) ?_
      refine W.aloadN K 31 d40_30 0 rfl rfl rfl ?_
      refine W.getF K 34 d40_31 (hw _ (List.mem_of_getElem? (i := 302) rfl)) (by repeat (first | exact List.mem_cons_self | apply List.mem_cons_of_mem)) (by repeat (first | exact List.mem_cons_self | apply List.mem_cons_of_mem)) ?_
      refine W.callVv3 K 37 d40_34 (hw _ (List.mem_of_getElem? (i := 315) rfl)) (hw _ (List.mem_of_getElem? (i := 261) rfl)) (hw _ (List.mem_of_getElem? (i := 263) rfl)) (hw _ (List.mem_of_getElem? (i := 262) rfl)) (hw _ (List.mem_of_getElem? (i := 3) rfl)) (hw _ (List.mem_of_getElem? (i := 264) rfl)) pd_35 (Rc.new (List.mem_cons_of_mem _ R.1)) (spec_35 l Z a0 hw fr vb vb1 vb2 hm ac st on ti szz rs cnt ds de s o Vl V sz hval _ (R.mono (fun x hx => List.mem_cons_of_mem _ hx)) _ k hk (by omega) (by omega) ca ka x (List.mem_cons_of_mem _ mc) (List.mem_cons_of_mem _ mk)) (fun v os1 hq => ?_)
      obtain ⟨u, rfl, rfl, hu⟩ := hq
      refine W.if_eq K 0 40 d40_37 (fun h37 => ?_) (fun h37 => ?_)
      · exact (ih (k + 1) _ (by omega) hk2).weaken (fun v os1 ⟨v1, e, u1, e2, h01, hi⟩ => ⟨v1, e, u1, e2, h01, hi.trans ⟨fun ⟨t, h1, h2, h3⟩ => ⟨t, by omega, h2, h3⟩, fun ⟨t, h1, h2, h3⟩ => ⟨t, by have : t ≠ k := fun q => (hu.mpr (q ▸ h3)) h37; omega, h2, h3⟩⟩⟩)
      · refine W.iconst K 41 d40_40 (1 : Int32) (by decide) ?_
        refine W.zreturn K d40_41 (Or.inr rfl) ⟨_, rfl, 1, rfl, Or.inr rfl, fun _ => ⟨k, Nat.le_refl _, by omega, hu.mp h37⟩, fun _ => rfl⟩
  exact L1 (sz - k) k tz (by omega) hk
set_option maxRecDepth 65536 in
set_option maxHeartbeats 40000000 in
theorem spec_39 (l : Launch) (Z : State) (a0 : Array Value) (hw : ∀ d ∈ tables_1, d.before a0 Z = true) (fr vb vb1 vb2 hm ac st on ti : Addr) (szz rs cnt ds de s o : Int32) (Vl V : Nat → Int32) (sz : Nat) (hval : own_val s cnt o Vl V sz) (os : OS) (R : own_RM Z os fr vb vb1 vb2 hm ac st on ti szz rs cnt ds de s o Vl) (hsz : sz ≤ 16) (hde : de.toInt = (sz : Int)) (k : Nat) (hds : ds.toInt = (k : Int)) (hks : k ≤ sz) (cu ca ka : Addr) (x : Int32) (v3 v4 v5 : Value) (mc : (ca, ARR Z .int [.int 0]) ∈ os) (mk : (ka, ARR Z .int [.int x]) ∈ os) : OMeets l Z (⟨"com/example/pointfold/pointfold/datalog/FlatRelation$RangeCursor", "first", "([I)Z"⟩ : MethodName) prog_12_method_2_code 2 (some .boolean) ({ frames := 4, cells := 0, slots := 0, locals := 56 } : Room) [(.ref cu), (.ref ka)] ((cu, OBJ Z "com/example/pointfold/pointfold/datalog/FlatRelation$RangeCursor" [("com/example/pointfold/pointfold/datalog/FlatRelation$RangeCursor", "this$0", "Lcom/example/pointfold/pointfold/datalog/FlatRelation;", .ref fr), ("com/example/pointfold/pointfold/datalog/FlatRelation$RangeCursor", "columns", "[I", .ref ca), ("com/example/pointfold/pointfold/datalog/FlatRelation$RangeCursor", "delta", "Z", .int 1), ("com/example/pointfold/pointfold/datalog/FlatRelation$RangeCursor", "key", "[I", v3), ("com/example/pointfold/pointfold/datalog/FlatRelation$RangeCursor", "tuple", "I", v4), ("com/example/pointfold/pointfold/datalog/FlatRelation$RangeCursor", "end", "I", v5)]) :: os) (RetV fun v os' => ∃ u : Int32, v = .int u ∧ (u = 0 ∨ u = 1) ∧ (u = 1 ↔ ∃ t, k ≤ t ∧ t < sz ∧ V t = x)) := by
  have e1 : (1 : Int32).toInt = 1 := by decide
  have hk0 : (ds - 1 + 1).toInt = (k : Int) := by rw [Int32.sub_add_cancel]; exact hds
  refine OMeets.of_body [.val (.ref cu), .val (.ref ka)] pn_39 (laid_eq _ _ rfl) ?_
  intro X K
  refine W.aloadN K 1 d39_0 0 rfl rfl rfl ?_
  refine W.aloadN K 2 d39_1 1 rfl rfl rfl ?_
  refine W.putF (ty := (.array .int)) K 5 d39_2 (hw _ (List.mem_of_getElem? (i := 302) rfl)) (hw _ (List.mem_of_getElem? (i := 303) rfl)) (hw _ (List.mem_of_getElem? (i := 281) rfl)) (by decide +kernel) (by repeat (first | exact Upd.here | apply Upd.there)) (by repeat (first | exact UpdF.here | apply UpdF.there)) ?_
  refine W.aloadN K 6 d39_5 0 rfl rfl rfl ?_
  refine W.aloadN K 7 d39_6 0 rfl rfl rfl ?_
  refine W.getF K 10 d39_7 (hw _ (List.mem_of_getElem? (i := 291) rfl)) (by repeat (first | exact List.mem_cons_self | apply List.mem_cons_of_mem)) (by repeat (first | exact List.mem_cons_self | apply List.mem_cons_of_mem)) ?_
  refine W.if_eq K 23 13 d39_10 (fun h10 => False.elim (absurd h10 (by decide))) (fun h10 => ?_)
  refine W.aloadN K 14 d39_13 0 rfl rfl rfl ?_
  refine W.getF K 17 d39_14 (hw _ (List.mem_of_getElem? (i := 286) rfl)) (by repeat (first | exact List.mem_cons_self | apply List.mem_cons_of_mem)) (by repeat (first | exact List.mem_cons_self | apply List.mem_cons_of_mem)) ?_
  refine W.getFN K 20 d39_17 (hw _ (List.mem_of_getElem? (i := 304) rfl)) (List.mem_cons_of_mem _ R.1) (by repeat (first | exact List.mem_cons_self | apply List.mem_cons_of_mem)) ?_
  refine W.goto K 24 d39_20 ?_
  refine W.iconst K 25 d39_24 (1 : Int32) (by decide) ?_
  refine W.isub K 26 d39_25 ?_
  refine W.putF (ty := .int) K 29 d39_26 (hw _ (List.mem_of_getElem? (i := 305) rfl)) (hw _ (List.mem_of_getElem? (i := 306) rfl)) (hw _ (List.mem_of_getElem? (i := 281) rfl)) (by decide +kernel) (by repeat (first | exact Upd.here | apply Upd.there)) (by repeat (first | exact UpdF.here | apply UpdF.there)) ?_
  refine W.aloadN K 30 d39_29 0 rfl rfl rfl ?_
  refine W.aloadN K 31 d39_30 0 rfl rfl rfl ?_
  refine W.getF K 34 d39_31 (hw _ (List.mem_of_getElem? (i := 291) rfl)) (by repeat (first | exact List.mem_cons_self | apply List.mem_cons_of_mem)) (by repeat (first | exact List.mem_cons_self | apply List.mem_cons_of_mem)) ?_
  refine W.if_eq K 47 37 d39_34 (fun h34 => False.elim (absurd h34 (by decide))) (fun h34 => ?_)
  refine W.aloadN K 38 d39_37 0 rfl rfl rfl ?_
  refine W.getF K 41 d39_38 (hw _ (List.mem_of_getElem? (i := 286) rfl)) (by repeat (first | exact List.mem_cons_self | apply List.mem_cons_of_mem)) (by repeat (first | exact List.mem_cons_self | apply List.mem_cons_of_mem)) ?_
  refine W.getFN K 44 d39_41 (hw _ (List.mem_of_getElem? (i := 307) rfl)) (List.mem_cons_of_mem _ R.1) (by repeat (first | exact List.mem_cons_self | apply List.mem_cons_of_mem)) ?_
  refine W.goto K 54 d39_44 ?_
  refine W.putF (ty := .int) K 57 d39_54 (hw _ (List.mem_of_getElem? (i := 308) rfl)) (hw _ (List.mem_of_getElem? (i := 309) rfl)) (hw _ (List.mem_of_getElem? (i := 281) rfl)) (by decide +kernel) (by repeat (first | exact Upd.here | apply Upd.there)) (by repeat (first | exact UpdF.here | apply UpdF.there)) ?_
  refine W.aloadN K 58 d39_57 0 rfl rfl rfl ?_
  refine W.callVv0 K 61 d39_58 (hw _ (List.mem_of_getElem? (i := 310) rfl)) (hw _ (List.mem_of_getElem? (i := 311) rfl)) (hw _ (List.mem_of_getElem? (i := 313) rfl)) (hw _ (List.mem_of_getElem? (i := 312) rfl)) (hw _ (List.mem_of_getElem? (i := 282) rfl)) (hw _ (List.mem_of_getElem? (i := 314) rfl)) pd_40 (Rc.new (by repeat (first | exact List.mem_cons_self | apply List.mem_cons_of_mem))) (spec_40 l Z a0 hw fr vb vb1 vb2 hm ac st on ti szz rs cnt ds de s o Vl V sz hval os R hsz hde cu ca ka x mc mk _ k hk0 hks) (fun v os1 hq => ?_)
  obtain ⟨u, rfl, h01, hi⟩ := hq
  refine W.zreturn K d39_61 h01 ⟨_, rfl, u, rfl, h01, hi⟩
set_option maxRecDepth 65536 in
set_option maxHeartbeats 40000000 in
theorem spec_42 (l : Launch) (Z : State) (a0 : Array Value) (hw : ∀ d ∈ tables_1, d.before a0 Z = true) (x k p q r : Int32) (os : OS) : OMeets l Z (⟨"com/example/pointfold/pointfold/datalog/FlatRelationEndRoundPinLaw", "before", "(IIIII)Z"⟩ : MethodName) method_2_code 5 (some .boolean) ({ frames := 0, cells := 0, slots := 0, locals := 0 } : Room) [(.int x), (.int k), (.int p), (.int q), (.int r)] os (RetV fun v os' => ∃ u : Int32, v = .int u ∧ os' = os ∧ (u = 0 ∨ u = 1) ∧ (u = 1 ↔ ((1 ≤ k.toInt ∧ x = p) ∨ (2 ≤ k.toInt ∧ x = q) ∨ (3 ≤ k.toInt ∧ x = r)))) := by
  have e0 : (0 : Int32).toInt = 0 := by decide
  have e1 : (1 : Int32).toInt = 1 := by decide
  have e2 : (2 : Int32).toInt = 2 := by decide
  have e3 : (3 : Int32).toInt = 3 := by decide
  refine OMeets.of_body [.val (.int x), .val (.int k), .val (.int p), .val (.int q), .val (.int r)] pn_42 (laid_eq _ _ rfl) ?_
  intro X K
  refine W.iloadN K 1 d42_0 1 rfl rfl ?_
  refine W.iconst K 2 d42_1 (1 : Int32) (by decide) ?_
  refine W.icmp_lt K 10 5 d42_2 (fun h2 => ?_) (fun h2 => ?_)
  · refine W.iloadN K 11 d42_10 1 rfl rfl ?_
    refine W.iconst K 12 d42_11 (2 : Int32) (by decide) ?_
    refine W.icmp_lt K 20 15 d42_12 (fun h12 => ?_) (fun h12 => ?_)
    · refine W.iloadN K 21 d42_20 1 rfl rfl ?_
      refine W.iconst K 22 d42_21 (3 : Int32) (by decide) ?_
      refine W.icmp_lt K 35 25 d42_22 (fun h22 => ?_) (fun h22 => ?_)
      · refine W.iconst K 36 d42_35 (0 : Int32) (by decide) ?_
        refine W.zreturn K d42_36 (Or.inl rfl) ⟨_, rfl, 0, rfl, rfl, Or.inl rfl, fun h => absurd h (by decide), fun h => by rcases h with ⟨c1, c2⟩ | ⟨c1, c2⟩ | ⟨c1, c2⟩ <;> first | omega | exact absurd c2 (by assumption)⟩
      · refine W.iloadN K 26 d42_25 0 rfl rfl ?_
        refine W.iload K 28 d42_26 rfl ?_
        refine W.icmp_ne K 35 31 d42_28 (fun h28 => ?_) (fun h28 => ?_)
        · refine W.iconst K 36 d42_35 (0 : Int32) (by decide) ?_
          refine W.zreturn K d42_36 (Or.inl rfl) ⟨_, rfl, 0, rfl, rfl, Or.inl rfl, fun h => absurd h (by decide), fun h => by rcases h with ⟨c1, c2⟩ | ⟨c1, c2⟩ | ⟨c1, c2⟩ <;> first | omega | exact absurd c2 (by assumption)⟩
        · refine W.iconst K 32 d42_31 (1 : Int32) (by decide) ?_
          refine W.goto K 36 d42_32 ?_
          refine W.zreturn K d42_36 (Or.inr rfl) ⟨_, rfl, 1, rfl, rfl, Or.inr rfl, fun _ => Or.inr (Or.inr ⟨by omega, h28⟩), fun _ => rfl⟩
    · refine W.iloadN K 16 d42_15 0 rfl rfl ?_
      refine W.iloadN K 17 d42_16 3 rfl rfl ?_
      refine W.icmp_eq K 31 20 d42_17 (fun h17 => ?_) (fun h17 => ?_)
      · refine W.iconst K 32 d42_31 (1 : Int32) (by decide) ?_
        refine W.goto K 36 d42_32 ?_
        refine W.zreturn K d42_36 (Or.inr rfl) ⟨_, rfl, 1, rfl, rfl, Or.inr rfl, fun _ => by first | exact Or.inl ⟨by omega, h7⟩ | exact Or.inr (Or.inl ⟨by omega, h17⟩), fun _ => rfl⟩
      · refine W.iloadN K 21 d42_20 1 rfl rfl ?_
        refine W.iconst K 22 d42_21 (3 : Int32) (by decide) ?_
        refine W.icmp_lt K 35 25 d42_22 (fun h22 => ?_) (fun h22 => ?_)
        · refine W.iconst K 36 d42_35 (0 : Int32) (by decide) ?_
          refine W.zreturn K d42_36 (Or.inl rfl) ⟨_, rfl, 0, rfl, rfl, Or.inl rfl, fun h => absurd h (by decide), fun h => by rcases h with ⟨c1, c2⟩ | ⟨c1, c2⟩ | ⟨c1, c2⟩ <;> first | omega | exact absurd c2 (by assumption)⟩
        · refine W.iloadN K 26 d42_25 0 rfl rfl ?_
          refine W.iload K 28 d42_26 rfl ?_
          refine W.icmp_ne K 35 31 d42_28 (fun h28 => ?_) (fun h28 => ?_)
          · refine W.iconst K 36 d42_35 (0 : Int32) (by decide) ?_
            refine W.zreturn K d42_36 (Or.inl rfl) ⟨_, rfl, 0, rfl, rfl, Or.inl rfl, fun h => absurd h (by decide), fun h => by rcases h with ⟨c1, c2⟩ | ⟨c1, c2⟩ | ⟨c1, c2⟩ <;> first | omega | exact absurd c2 (by assumption)⟩
          · refine W.iconst K 32 d42_31 (1 : Int32) (by decide) ?_
            refine W.goto K 36 d42_32 ?_
            refine W.zreturn K d42_36 (Or.inr rfl) ⟨_, rfl, 1, rfl, rfl, Or.inr rfl, fun _ => Or.inr (Or.inr ⟨by omega, h28⟩), fun _ => rfl⟩
  · refine W.iloadN K 6 d42_5 0 rfl rfl ?_
    refine W.iloadN K 7 d42_6 2 rfl rfl ?_
    refine W.icmp_eq K 31 10 d42_7 (fun h7 => ?_) (fun h7 => ?_)
    · refine W.iconst K 32 d42_31 (1 : Int32) (by decide) ?_
      refine W.goto K 36 d42_32 ?_
      refine W.zreturn K d42_36 (Or.inr rfl) ⟨_, rfl, 1, rfl, rfl, Or.inr rfl, fun _ => by first | exact Or.inl ⟨by omega, h7⟩ | exact Or.inr (Or.inl ⟨by omega, h17⟩), fun _ => rfl⟩
    · refine W.iloadN K 11 d42_10 1 rfl rfl ?_
      refine W.iconst K 12 d42_11 (2 : Int32) (by decide) ?_
      refine W.icmp_lt K 20 15 d42_12 (fun h12 => ?_) (fun h12 => ?_)
      · refine W.iloadN K 21 d42_20 1 rfl rfl ?_
        refine W.iconst K 22 d42_21 (3 : Int32) (by decide) ?_
        refine W.icmp_lt K 35 25 d42_22 (fun h22 => ?_) (fun h22 => ?_)
        · refine W.iconst K 36 d42_35 (0 : Int32) (by decide) ?_
          refine W.zreturn K d42_36 (Or.inl rfl) ⟨_, rfl, 0, rfl, rfl, Or.inl rfl, fun h => absurd h (by decide), fun h => by rcases h with ⟨c1, c2⟩ | ⟨c1, c2⟩ | ⟨c1, c2⟩ <;> first | omega | exact absurd c2 (by assumption)⟩
        · refine W.iloadN K 26 d42_25 0 rfl rfl ?_
          refine W.iload K 28 d42_26 rfl ?_
          refine W.icmp_ne K 35 31 d42_28 (fun h28 => ?_) (fun h28 => ?_)
          · refine W.iconst K 36 d42_35 (0 : Int32) (by decide) ?_
            refine W.zreturn K d42_36 (Or.inl rfl) ⟨_, rfl, 0, rfl, rfl, Or.inl rfl, fun h => absurd h (by decide), fun h => by rcases h with ⟨c1, c2⟩ | ⟨c1, c2⟩ | ⟨c1, c2⟩ <;> first | omega | exact absurd c2 (by assumption)⟩
          · refine W.iconst K 32 d42_31 (1 : Int32) (by decide) ?_
            refine W.goto K 36 d42_32 ?_
            refine W.zreturn K d42_36 (Or.inr rfl) ⟨_, rfl, 1, rfl, rfl, Or.inr rfl, fun _ => Or.inr (Or.inr ⟨by omega, h28⟩), fun _ => rfl⟩
      · refine W.iloadN K 16 d42_15 0 rfl rfl ?_
        refine W.iloadN K 17 d42_16 3 rfl rfl ?_
        refine W.icmp_eq K 31 20 d42_17 (fun h17 => ?_) (fun h17 => ?_)
        · refine W.iconst K 32 d42_31 (1 : Int32) (by decide) ?_
          refine W.goto K 36 d42_32 ?_
          refine W.zreturn K d42_36 (Or.inr rfl) ⟨_, rfl, 1, rfl, rfl, Or.inr rfl, fun _ => by first | exact Or.inl ⟨by omega, h7⟩ | exact Or.inr (Or.inl ⟨by omega, h17⟩), fun _ => rfl⟩
        · refine W.iloadN K 21 d42_20 1 rfl rfl ?_
          refine W.iconst K 22 d42_21 (3 : Int32) (by decide) ?_
          refine W.icmp_lt K 35 25 d42_22 (fun h22 => ?_) (fun h22 => ?_)
          · refine W.iconst K 36 d42_35 (0 : Int32) (by decide) ?_
            refine W.zreturn K d42_36 (Or.inl rfl) ⟨_, rfl, 0, rfl, rfl, Or.inl rfl, fun h => absurd h (by decide), fun h => by rcases h with ⟨c1, c2⟩ | ⟨c1, c2⟩ | ⟨c1, c2⟩ <;> first | omega | exact absurd c2 (by assumption)⟩
          · refine W.iloadN K 26 d42_25 0 rfl rfl ?_
            refine W.iload K 28 d42_26 rfl ?_
            refine W.icmp_ne K 35 31 d42_28 (fun h28 => ?_) (fun h28 => ?_)
            · refine W.iconst K 36 d42_35 (0 : Int32) (by decide) ?_
              refine W.zreturn K d42_36 (Or.inl rfl) ⟨_, rfl, 0, rfl, rfl, Or.inl rfl, fun h => absurd h (by decide), fun h => by rcases h with ⟨c1, c2⟩ | ⟨c1, c2⟩ | ⟨c1, c2⟩ <;> first | omega | exact absurd c2 (by assumption)⟩
            · refine W.iconst K 32 d42_31 (1 : Int32) (by decide) ?_
              refine W.goto K 36 d42_32 ?_
              refine W.zreturn K d42_36 (Or.inr rfl) ⟨_, rfl, 1, rfl, rfl, Or.inr rfl, fun _ => Or.inr (Or.inr ⟨by omega, h28⟩), fun _ => rfl⟩
set_option maxRecDepth 65536 in
set_option maxHeartbeats 40000000 in
theorem spec_41 (l : Launch) (Z : State) (a0 : Array Value) (hw : ∀ d ∈ tables_1, d.before a0 Z = true) (x k p q r : Int32) (os : OS) : OMeets l Z (⟨"com/example/pointfold/pointfold/datalog/FlatRelationEndRoundPinLaw", "inDelta", "(IIIII)Z"⟩ : MethodName) method_3_code 6 (some .boolean) ({ frames := 1, cells := 0, slots := 0, locals := 16 } : Room) [(.int x), (.int k), (.int p), (.int q), (.int r)] os (RetV fun v os' => ∃ u : Int32, v = .int u ∧ os' = os ∧ (u = 0 ∨ u = 1) ∧ (u = 1 ↔ ((x = p ∨ x = q ∨ x = r) ∧ ¬ ((1 ≤ k.toInt ∧ x = p) ∨ (2 ≤ k.toInt ∧ x = q) ∨ (3 ≤ k.toInt ∧ x = r))))) := by
  have e0 : (0 : Int32).toInt = 0 := by decide
  have e1 : (1 : Int32).toInt = 1 := by decide
  have e2 : (2 : Int32).toInt = 2 := by decide
  have e3 : (3 : Int32).toInt = 3 := by decide
  refine OMeets.of_body [.val (.int x), .val (.int k), .val (.int p), .val (.int q), .val (.int r), .unset] pn_41 (laid_eq _ _ rfl) ?_
  intro X K
  refine W.joinI (S := []) (F := x = p ∨ x = q ∨ x = r) 21 (fun kt kf => ?_) ?_
  · refine W.iloadN K 1 d41_0 0 rfl rfl ?_
    refine W.iloadN K 2 d41_1 2 rfl rfl ?_
    refine W.icmp_eq K 16 5 d41_2 (fun h2 => ?_) (fun h2 => ?_)
    · refine W.iconst K 17 d41_16 (1 : Int32) (by decide) ?_
      refine W.goto K 21 d41_17 ?_
      exact kt (by first | exact Or.inl h2 | exact Or.inr (Or.inl h7) | exact Or.inr (Or.inr h13))
    · refine W.iloadN K 6 d41_5 0 rfl rfl ?_
      refine W.iloadN K 7 d41_6 3 rfl rfl ?_
      refine W.icmp_eq K 16 10 d41_7 (fun h7 => ?_) (fun h7 => ?_)
      · refine W.iconst K 17 d41_16 (1 : Int32) (by decide) ?_
        refine W.goto K 21 d41_17 ?_
        exact kt (by first | exact Or.inl h2 | exact Or.inr (Or.inl h7) | exact Or.inr (Or.inr h13))
      · refine W.iloadN K 11 d41_10 0 rfl rfl ?_
        refine W.iload K 13 d41_11 rfl ?_
        refine W.icmp_ne K 20 16 d41_13 (fun h13 => ?_) (fun h13 => ?_)
        · refine W.iconst K 21 d41_20 (0 : Int32) (by decide) ?_
          exact kf (fun z => by rcases z with z | z | z; exact h2 z; exact h7 z; exact h13 z)
        · refine W.iconst K 17 d41_16 (1 : Int32) (by decide) ?_
          refine W.goto K 21 d41_17 ?_
          exact kt (by first | exact Or.inl h2 | exact Or.inr (Or.inl h7) | exact Or.inr (Or.inr h13))
  refine W.istore K 23 d41_21 rfl (by repeat (first | apply setLS | exact setL0)) ?_
  refine W.iload K 25 d41_23 rfl ?_
  refine W.if_eq K 44 28 d41_25 (fun h25 => ?_) (fun h25 => ?_)
  · refine W.iconst K 45 d41_44 (0 : Int32) (by decide) ?_
    refine W.zreturn K d41_45 (Or.inl rfl) ⟨_, rfl, 0, rfl, rfl, Or.inl rfl, fun h => absurd h (by decide), fun h => absurd h.1 (fun z => absurd h25 (by rw [if_pos z]; decide))⟩
  · have h25p : x = p ∨ x = q ∨ x = r := Classical.byContradiction fun z => h25 (if_neg z)
    refine W.iloadN K 29 d41_28 0 rfl rfl ?_
    refine W.iloadN K 30 d41_29 1 rfl rfl ?_
    refine W.iloadN K 31 d41_30 2 rfl rfl ?_
    refine W.iloadN K 32 d41_31 3 rfl rfl ?_
    refine W.iload K 34 d41_32 rfl ?_
    refine W.callSv5 K 37 d41_34 (hw _ (List.mem_of_getElem? (i := 320) rfl)) (hw _ (List.mem_of_getElem? (i := 321) rfl)) (hw _ (List.mem_of_getElem? (i := 318) rfl)) (hw _ (List.mem_of_getElem? (i := 322) rfl)) pd_42 (spec_42 l Z a0 hw _ _ _ _ _ _) (fun v os1 hq => ?_)
    obtain ⟨u, rfl, rfl, u01, hu⟩ := hq
    refine W.if_ne K 44 40 d41_37 (fun h37 => ?_) (fun h37 => ?_)
    · refine W.iconst K 45 d41_44 (0 : Int32) (by decide) ?_
      refine W.zreturn K d41_45 (Or.inl rfl) ⟨_, rfl, 0, rfl, rfl, Or.inl rfl, fun h => absurd h (by decide), fun h => absurd (hu.mp (by rcases u01 with z | z; exact absurd z h37; exact z)) h.2⟩
    · refine W.iconst K 41 d41_40 (1 : Int32) (by decide) ?_
      refine W.goto K 45 d41_41 ?_
      refine W.zreturn K d41_45 (Or.inr rfl) ⟨_, rfl, 1, rfl, rfl, Or.inr rfl, fun _ => ⟨h25p, fun z => absurd ((hu.mpr z).symm.trans h37) (by decide)⟩, fun _ => rfl⟩
theorem own_after {Z : State} {fr : Addr} {sz : Nat} {V : Nat → Int32} {rs ds de x : Int32} {rest os : OS} {S S0 : Int32 → Prop} {P : Prop} (HS : own_S sz V S) (hR : P → ∃ rn : Nat, rs.toInt = (rn : Int) ∧ rn ≤ sz ∧ own_R rn V S0)
    (hadd : ((∃ t, t < sz ∧ V t = x) ∧ own_REL Z fr sz V rs ds de rest os) ∨ ((∀ t, t < sz → V t ≠ x) ∧ own_REL Z fr (sz + 1) (updA V sz x) rs ds de rest os)) :
    ∃ (sz1 : Nat) (V1 : Nat → Int32), own_REL Z fr sz1 V1 rs ds de rest os ∧ sz1 ≤ sz + 1 ∧ own_S sz1 V1 (fun y => S y ∨ y = x) ∧ (P → ∃ rn : Nat, rs.toInt = (rn : Int) ∧ rn ≤ sz1 ∧ own_R rn V1 S0) := by
  rcases hadd with ⟨h1, h2⟩ | ⟨h1, h2⟩
  · exact ⟨sz, V, h2, by omega, own_S_old HS h1, hR⟩
  · exact ⟨sz + 1, _, h2, Nat.le_refl _, own_S_new HS h1, fun p => by obtain ⟨rn, q1, q2, q3⟩ := hR p; exact ⟨rn, q1, by omega, own_R_upd q3 q2 x⟩⟩
theorem own_fin {w : Int32} {P Q : Prop} [Decidable Q] (h01 : w = 0 ∨ w = 1) (h : w = 1 ↔ P) (hPQ : P ↔ Q) : w = if Q then 1 else 0 := by
  by_cases q : Q
  · rw [if_pos q]; exact h.mpr (hPQ.mpr q)
  · rw [if_neg q]
    rcases h01 with e | e
    · exact e
    · exact absurd (hPQ.mp (h.mp e)) q
theorem own_same1 {u w : Int32} {P Q : Prop} (u01 : u = 0 ∨ u = 1) (w01 : w = 0 ∨ w = 1) (hu : u = 1 ↔ P) (hw : w = 1 ↔ Q) (h : P ↔ Q) : u = w := by
  rcases u01 with rfl | rfl
  · rcases w01 with rfl | rfl
    · rfl
    · exact absurd (hu.mpr (h.mpr (hw.mp rfl))) (by decide)
  · exact (hw.mpr (h.mp (hu.mp rfl))).symm
theorem own_one {u : Int32} (h01 : u = 0 ∨ u = 1) (h : ¬ u = 0) : u = 1 := h01.resolve_left h
theorem own_zero {u : Int32} (h : u = 0) (h1 : u = 1) : False := by rw [h] at h1; exact absurd h1 (by decide)
theorem own_some {rn sz : Nat} {V : Nat → Int32} {S S0 : Int32 → Prop} {k i0 bv cv : Int32} (hdel : ∀ y, (∃ t, rn ≤ t ∧ t < sz ∧ V t = y) ↔ (S y ∧ ¬ S0 y)) (hin : ∀ y, (S y ∧ ¬ S0 y) ↔ ((y = i0 ∨ y = bv ∨ y = cv) ∧ ¬ ((1 ≤ k.toInt ∧ y = i0) ∨ (2 ≤ k.toInt ∧ y = bv) ∨ (3 ≤ k.toInt ∧ y = cv)))) (h : rn ≤ sz) : ((rn : Int) < (sz : Int)) ↔ (((i0 = i0 ∨ i0 = bv ∨ i0 = cv) ∧ ¬ ((1 ≤ k.toInt ∧ i0 = i0) ∨ (2 ≤ k.toInt ∧ i0 = bv) ∨ (3 ≤ k.toInt ∧ i0 = cv))) ∨ ((bv = i0 ∨ bv = bv ∨ bv = cv) ∧ ¬ ((1 ≤ k.toInt ∧ bv = i0) ∨ (2 ≤ k.toInt ∧ bv = bv) ∨ (3 ≤ k.toInt ∧ bv = cv))) ∨ ((cv = i0 ∨ cv = bv ∨ cv = cv) ∧ ¬ ((1 ≤ k.toInt ∧ cv = i0) ∨ (2 ≤ k.toInt ∧ cv = bv) ∨ (3 ≤ k.toInt ∧ cv = cv)))) := by
  constructor
  · intro q
    have z := (hin (V rn)).mp ((hdel (V rn)).mp ⟨rn, Nat.le_refl _, by omega, rfl⟩)
    rcases z.1 with e | e | e
    · rw [e] at z; exact Or.inl z
    · rw [e] at z; exact Or.inr (Or.inl z)
    · rw [e] at z; exact Or.inr (Or.inr z)
  · intro q
    have z : ∃ y, (∃ t, rn ≤ t ∧ t < sz ∧ V t = y) := by
      rcases q with q | q | q
      · exact ⟨_, (hdel _).mpr ((hin _).mpr q)⟩
      · exact ⟨_, (hdel _).mpr ((hin _).mpr q)⟩
      · exact ⟨_, (hdel _).mpr ((hin _).mpr q)⟩
    obtain ⟨y, t, h1, h2, -⟩ := z
    omega
set_option maxRecDepth 65536 in
set_option maxHeartbeats 40000000 in
theorem spec_0 (l : Launch) (Z : State) (a0 : Array Value) (hw : ∀ d ∈ tables_1, d.before a0 Z = true) (i0 i1 i2 i3 i4 : Int32) : OMeets l Z x code maxLocals ret room_1 [(.int i0), (.int i1), (.int i2), (.int i3), (.int i4)] [] (RetV fun v _ => v = .int 1) := by
  have e0 : (0 : Int32).toInt = 0 := by decide
  have e1 : (1 : Int32).toInt = 1 := by decide
  have e2 : (2 : Int32).toInt = 2 := by decide
  have e3 : (3 : Int32).toInt = 3 := by decide
  refine OMeets.of_body [.val (.int i0), .val (.int i1), .val (.int i2), .val (.int i3), .val (.int i4), .unset, .unset, .unset, .unset, .unset, .unset, .unset, .unset, .unset, .unset, .unset, .unset, .unset, .unset, .unset, .unset, .unset, .unset] pn_0 (laid_eq _ _ rfl) ?_
  intro X K
  refine W.iload K 2 at_0 rfl ?_
  refine W.iconst K 3 at_2 (3 : Int32) (by decide) ?_
  refine W.iand K 4 at_3 ?_
  have hkm := c_mask i4 3 2 (by decide) (by decide)
  rw [show ((2 ^ 2 : Nat) : Int) = 4 by decide] at hkm
  have hk0 : 0 ≤ (i4 &&& 3).toInt := by omega
  have hk3 : (i4 &&& 3).toInt ≤ 3 := by omega
  clear hkm
  generalize i4 &&& 3 = k at hk0 hk3 ⊢
  refine W.istore K 6 at_4 rfl (by repeat (first | apply setLS | exact setL0)) ?_
  refine W.iloadN K 7 at_6 0 rfl rfl ?_
  refine W.istore K 9 at_7 rfl (by repeat (first | apply setLS | exact setL0)) ?_
  refine W.cutI (S := []) (G := fun _ => True) 25 7 (fun kk => ?_) (fun bv _ => ?_)
  · refine W.iload K 11 at_9 rfl ?_
    refine W.iconst K 12 at_11 (2 : Int32) (by decide) ?_
    refine W.iushr K 13 at_12 ?_
    refine W.iconst K 14 at_13 (1 : Int32) (by decide) ?_
    refine W.iand K 15 at_14 ?_
    refine W.if_eq K 22 18 at_15 (fun h15 => ?_) (fun h15 => ?_)
    · refine W.iloadN K 23 at_22 1 rfl rfl ?_
      refine W.istore K 25 at_23 rfl (by repeat (first | apply setLS | exact setL0)) ?_
      exact kk _ trivial
    · refine W.iloadN K 19 at_18 0 rfl rfl ?_
      refine W.goto K 23 at_19 ?_
      refine W.istore K 25 at_23 rfl (by repeat (first | apply setLS | exact setL0)) ?_
      exact kk _ trivial
  simp only [List.set_cons_succ, List.set_cons_zero]
  refine W.iload K 27 at_25 rfl ?_
  refine W.iconst K 28 at_27 (4 : Int32) (by decide) ?_
  refine W.iushr K 29 at_28 ?_
  refine W.iconst K 30 at_29 (3 : Int32) (by decide) ?_
  refine W.iand K 31 at_30 ?_
  refine W.istore K 33 at_31 rfl (by repeat (first | apply setLS | exact setL0)) ?_
  refine W.cutI (S := []) (G := fun _ => True) 72 9 (fun kk => ?_) (fun cv _ => ?_)
  · refine W.iload K 35 at_33 rfl ?_
    refine W.if_ne K 44 38 at_35 (fun h35 => ?_) (fun h35 => ?_)
    · refine W.iload K 46 at_44 rfl ?_
      refine W.iconst K 47 at_46 (1 : Int32) (by decide) ?_
      refine W.icmp_ne K 56 50 at_47 (fun h47 => ?_) (fun h47 => ?_)
      · refine W.iload K 58 at_56 rfl ?_
        refine W.iconst K 59 at_58 (2 : Int32) (by decide) ?_
        refine W.icmp_ne K 68 62 at_59 (fun h59 => ?_) (fun h59 => ?_)
        · refine W.iload K 70 at_68 rfl ?_
          refine W.istore K 72 at_70 rfl (by repeat (first | apply setLS | exact setL0)) ?_
          exact kk _ trivial
        · refine W.iloadN K 63 at_62 2 rfl rfl ?_
          refine W.istore K 65 at_63 rfl (by repeat (first | apply setLS | exact setL0)) ?_
          refine W.goto K 72 at_65 ?_
          exact kk _ trivial
      · refine W.iloadN K 51 at_50 1 rfl rfl ?_
        refine W.istore K 53 at_51 rfl (by repeat (first | apply setLS | exact setL0)) ?_
        refine W.goto K 72 at_53 ?_
        exact kk _ trivial
    · refine W.iloadN K 39 at_38 0 rfl rfl ?_
      refine W.istore K 41 at_39 rfl (by repeat (first | apply setLS | exact setL0)) ?_
      refine W.goto K 72 at_41 ?_
      exact kk _ trivial
  simp only [List.set_cons_succ, List.set_cons_zero]
  refine W.iload K 74 at_72 rfl ?_
  refine W.bipush K 76 at_74 (6 : Int32) (by decide) ?_
  refine W.iushr K 77 at_76 ?_
  refine W.iconst K 78 at_77 (3 : Int32) (by decide) ?_
  refine W.iand K 79 at_78 ?_
  refine W.istore K 81 at_79 rfl (by repeat (first | apply setLS | exact setL0)) ?_
  refine W.cutI (S := []) (G := fun _ => True) 122 11 (fun kk => ?_) (fun xv _ => ?_)
  · refine W.iload K 83 at_81 rfl ?_
    refine W.if_ne K 93 86 at_83 (fun h83 => ?_) (fun h83 => ?_)
    · refine W.iload K 95 at_93 rfl ?_
      refine W.iconst K 96 at_95 (1 : Int32) (by decide) ?_
      refine W.icmp_ne K 106 99 at_96 (fun h96 => ?_) (fun h96 => ?_)
      · refine W.iload K 108 at_106 rfl ?_
        refine W.iconst K 109 at_108 (2 : Int32) (by decide) ?_
        refine W.icmp_ne K 119 112 at_109 (fun h109 => ?_) (fun h109 => ?_)
        · refine W.iloadN K 120 at_119 3 rfl rfl ?_
          refine W.istore K 122 at_120 rfl (by repeat (first | apply setLS | exact setL0)) ?_
          exact kk _ trivial
        · refine W.iload K 114 at_112 rfl ?_
          refine W.istore K 116 at_114 rfl (by repeat (first | apply setLS | exact setL0)) ?_
          refine W.goto K 122 at_116 ?_
          exact kk _ trivial
      · refine W.iload K 101 at_99 rfl ?_
        refine W.istore K 103 at_101 rfl (by repeat (first | apply setLS | exact setL0)) ?_
        refine W.goto K 122 at_103 ?_
        exact kk _ trivial
    · refine W.iload K 88 at_86 rfl ?_
      refine W.istore K 90 at_88 rfl (by repeat (first | apply setLS | exact setL0)) ?_
      refine W.goto K 122 at_90 ?_
      exact kk _ trivial
  simp only [List.set_cons_succ, List.set_cons_zero]
  refine W.iconst K 123 at_122 (1 : Int32) (by decide) ?_
  refine W.newarray (ty := .int) 1 1 K 125 at_123 (hw _ (List.mem_of_getElem? (i := 0) rfl)) (by decide) (by decide) (fun b123 => ?_)
  refine W.dup K 126 at_125 ?_
  refine W.iconst K 127 at_126 (0 : Int32) (by decide) ?_
  refine W.iload K 129 at_127 rfl ?_
  refine W.iastore 0 K 130 at_129 (by repeat (first | exact Upd.here | apply Upd.there)) (by decide) rfl ?_
  refine W.astore K 132 at_130 rfl rfl (by repeat (first | apply setLS | exact setL0)) ?_
  refine W.iconst K 133 at_132 (1 : Int32) (by decide) ?_
  refine W.newarray (ty := .int) 1 1 K 135 at_133 (hw _ (List.mem_of_getElem? (i := 0) rfl)) (by decide) (by decide) (fun b133 => ?_)
  refine W.dup K 136 at_135 ?_
  refine W.iconst K 137 at_136 (0 : Int32) (by decide) ?_
  refine W.iload K 139 at_137 rfl ?_
  refine W.iastore 0 K 140 at_139 (by repeat (first | exact Upd.here | apply Upd.there)) (by decide) rfl ?_
  refine W.astore K 142 at_140 rfl rfl (by repeat (first | apply setLS | exact setL0)) ?_
  refine W.iconst K 143 at_142 (1 : Int32) (by decide) ?_
  refine W.newarray (ty := .int) 1 1 K 145 at_143 (hw _ (List.mem_of_getElem? (i := 0) rfl)) (by decide) (by decide) (fun b143 => ?_)
  refine W.dup K 146 at_145 ?_
  refine W.iconst K 147 at_146 (0 : Int32) (by decide) ?_
  refine W.iload K 149 at_147 rfl ?_
  refine W.iastore 0 K 150 at_149 (by repeat (first | exact Upd.here | apply Upd.there)) (by decide) rfl ?_
  refine W.astore K 152 at_150 rfl rfl (by repeat (first | apply setLS | exact setL0)) ?_
  refine W.iconst K 153 at_152 (1 : Int32) (by decide) ?_
  refine W.newarray (ty := .int) 1 1 K 155 at_153 (hw _ (List.mem_of_getElem? (i := 0) rfl)) (by decide) (by decide) (fun b153 => ?_)
  refine W.dup K 156 at_155 ?_
  refine W.iconst K 157 at_156 (0 : Int32) (by decide) ?_
  refine W.iconst K 158 at_157 (0 : Int32) (by decide) ?_
  refine W.iastore 0 K 159 at_158 (by repeat (first | exact Upd.here | apply Upd.there)) (by decide) rfl ?_
  refine W.astore K 161 at_159 rfl rfl (by repeat (first | apply setLS | exact setL0)) ?_
  refine W.iconst K 162 at_161 (1 : Int32) (by decide) ?_
  refine W.newarray (ty := .int) 1 1 K 164 at_162 (hw _ (List.mem_of_getElem? (i := 0) rfl)) (by decide) (by decide) (fun b162 => ?_)
  refine W.dup K 165 at_164 ?_
  refine W.iconst K 166 at_165 (0 : Int32) (by decide) ?_
  refine W.iload K 168 at_166 rfl ?_
  refine W.iastore 0 K 169 at_168 (by repeat (first | exact Upd.here | apply Upd.there)) (by decide) rfl ?_
  refine W.astore K 171 at_169 rfl rfl (by repeat (first | apply setLS | exact setL0)) ?_
  refine W.new [("com/example/pointfold/pointfold/datalog/FlatRelation", "values", "Lcom/example/pointfold/pointfold/datalog/IntBlocks;", .null), ("com/example/pointfold/pointfold/datalog/FlatRelation", "indexes", "Ljava/util/Map;", .null), ("com/example/pointfold/pointfold/datalog/FlatRelation", "arity", "I", .int 0), ("com/example/pointfold/pointfold/datalog/FlatRelation", "allColumns", "[I", .null), ("com/example/pointfold/pointfold/datalog/FlatRelation", "stored", "[I", .null), ("com/example/pointfold/pointfold/datalog/FlatRelation", "only", "[I", .null), ("com/example/pointfold/pointfold/datalog/FlatRelation", "unique", "Lcom/example/pointfold/pointfold/datalog/TupleIndex;", .null), ("com/example/pointfold/pointfold/datalog/FlatRelation", "size", "I", .int 0), ("com/example/pointfold/pointfold/datalog/FlatRelation", "roundStart", "I", .int 0), ("com/example/pointfold/pointfold/datalog/FlatRelation", "storedCount", "I", .int 0), ("com/example/pointfold/pointfold/datalog/FlatRelation", "deltaStart", "I", .int 0), ("com/example/pointfold/pointfold/datalog/FlatRelation", "deltaEnd", "I", .int 0)] K 174 at_171 (hw _ (List.mem_of_getElem? (i := 1) rfl)) (hw _ (List.mem_of_getElem? (i := 2) rfl)) (hw _ (List.mem_of_getElem? (i := 3) rfl)) ⟨⟨Or.inl (hw _ (List.mem_of_getElem? (i := 28) rfl)), (.object "com/example/pointfold/pointfold/datalog/IntBlocks"), by decide +kernel, rfl⟩, ⟨Or.inr (hw _ (List.mem_of_getElem? (i := 46) rfl)), (.object "java/util/Map"), by decide +kernel, rfl⟩, ⟨Or.inr (hw _ (List.mem_of_getElem? (i := 48) rfl)), .int, by decide +kernel, rfl⟩, ⟨Or.inr (hw _ (List.mem_of_getElem? (i := 50) rfl)), (.array .int), by decide +kernel, rfl⟩, ⟨Or.inr (hw _ (List.mem_of_getElem? (i := 52) rfl)), (.array .int), by decide +kernel, rfl⟩, ⟨Or.inr (hw _ (List.mem_of_getElem? (i := 54) rfl)), (.array .int), by decide +kernel, rfl⟩, ⟨Or.inl (hw _ (List.mem_of_getElem? (i := 101) rfl)), (.object "com/example/pointfold/pointfold/datalog/TupleIndex"), by decide +kernel, rfl⟩, ⟨Or.inl (hw _ (List.mem_of_getElem? (i := 108) rfl)), .int, by decide +kernel, rfl⟩, ⟨Or.inl (hw _ (List.mem_of_getElem? (i := 110) rfl)), .int, by decide +kernel, rfl⟩, ⟨Or.inl (hw _ (List.mem_of_getElem? (i := 253) rfl)), .int, by decide +kernel, rfl⟩, ⟨Or.inl (hw _ (List.mem_of_getElem? (i := 272) rfl)), .int, by decide +kernel, rfl⟩, ⟨Or.inl (hw _ (List.mem_of_getElem? (i := 274) rfl)), .int, by decide +kernel, rfl⟩, trivial⟩ (fun b171 => ?_)
  refine W.dup K 175 at_174 ?_
  refine W.iconst K 176 at_175 (1 : Int32) (by decide) ?_
  refine W.callIn1 K 179 at_176 (hw _ (List.mem_of_getElem? (i := 4) rfl)) (hw _ (List.mem_of_getElem? (i := 5) rfl)) (hw _ (List.mem_of_getElem? (i := 3) rfl)) (hw _ (List.mem_of_getElem? (i := 6) rfl)) pd_1 (spec_1 l Z a0 hw _ _) (fun os1 hq => ?_)
  obtain ⟨vb, vb1, vb2, hm, ac, st, on, ti, bk, bk1, bk2, hf, ba, nx, nx1, nx2, rfl⟩ := hq
  refine W.astore K 181 at_179 rfl rfl (by repeat (first | apply setLS | exact setL0)) ?_
  have H : own_REL Z b171 0 (fun _ => 0) 0 0 0 [(b162, ARR Z .int [.int xv]), (b153, ARR Z .int [.int 0]), (b143, ARR Z .int [.int cv]), (b133, ARR Z .int [.int bv]), (b123, ARR Z .int [.int i0])] _ := ⟨vb, vb1, vb2, hm, ac, st, on, ti, bk, bk1, bk2, hf, ba, nx, nx1, nx2, 0, 0, -1, 0, 0, (fun _ => 0), (fun _ => 0), (fun _ => 0), (fun _ => 0), .null, [(b162, ARR Z .int [.int xv]), (b153, ARR Z .int [.int 0]), (b143, ARR Z .int [.int cv]), (b133, ARR Z .int [.int bv]), (b123, ARR Z .int [.int i0])], rfl, by decide, by decide, Or.inl ⟨rfl, fun t ht => by omega⟩, fun _ => ⟨rfl, rfl⟩, fun h => by omega, own_IX0 _ _ _, fun t ht => by omega, Or.inl rfl, fun x hx => hx⟩
  have hS0 : own_S 0 (fun _ => (0 : Int32)) (fun _ => False) := ⟨fun t ht => by omega, fun y hy => hy.elim, fun t u h1 h2 => by omega⟩
  refine W.cutO (S := []) (G := fun os => ∃ (sz : Nat) (V : Nat → Int32) (rs : Int32), own_REL Z b171 sz V rs 0 0 [(b162, ARR Z .int [.int xv]), (b153, ARR Z .int [.int 0]), (b143, ARR Z .int [.int cv]), (b133, ARR Z .int [.int bv]), (b123, ARR Z .int [.int i0])] os ∧ sz ≤ 0 ∧ own_S sz V (fun _ => False) ∧ (k.toInt ≤ 0 → ∃ rn : Nat, rs.toInt = (rn : Int) ∧ rn ≤ sz ∧ own_R rn V (fun y => (1 ≤ k.toInt ∧ y = i0) ∨ (2 ≤ k.toInt ∧ y = bv) ∨ (3 ≤ k.toInt ∧ y = cv)))) 191 (fun kk => ?_) ?_
  · refine W.iload K 183 at_181 rfl ?_
    refine W.if_ne K 191 186 at_183 (fun h183 => ?_) (fun h183 => ?_)
    · exact kk _ ⟨_, (fun _ => 0), 0, H, by omega, hS0, fun h => absurd h (by have : k.toInt ≠ 0 := fun q => h183 (Int32.toInt_inj.mp (q.trans e0.symm)); omega)⟩
    · refine W.aload K 188 at_186 rfl rfl ?_
      refine W.callVn0 K 191 at_188 (hw _ (List.mem_of_getElem? (i := 102) rfl)) (hw _ (List.mem_of_getElem? (i := 103) rfl)) (hw _ (List.mem_of_getElem? (i := 105) rfl)) (hw _ (List.mem_of_getElem? (i := 104) rfl)) (hw _ (List.mem_of_getElem? (i := 3) rfl)) (hw _ (List.mem_of_getElem? (i := 106) rfl)) pd_12 (own_REL.exa H) (begin_REL l Z a0 hw b171 0 0 0 0 (fun _ => 0) [(b162, ARR Z .int [.int xv]), (b153, ARR Z .int [.int 0]), (b143, ARR Z .int [.int cv]), (b133, ARR Z .int [.int bv]), (b123, ARR Z .int [.int i0])] _ H) (fun os1 hq => ?_)
      obtain ⟨r, hr, Hb⟩ := hq
      have hk : k.toInt = 0 := by rw [h183]; exact e0
      exact kk _ ⟨_, (fun _ => 0), r, Hb, by omega, hS0, fun _ => ⟨_, hr, Nat.le_refl _, fun y => (show (fun _ => False) y ↔ (fun y => (1 ≤ k.toInt ∧ y = i0) ∨ (2 ≤ k.toInt ∧ y = bv) ∨ (3 ≤ k.toInt ∧ y = cv)) y by rw [hk]; first | (simp; done) | (simp [or_assoc]; done)).symm.trans (own_R_now hS0 y)⟩⟩
  intro os ⟨sz, V, rs, H, hz, hS, hR⟩
  refine W.aload K 193 at_191 rfl rfl ?_
  refine W.aload K 195 at_193 rfl rfl ?_
  refine W.callVv1 K 198 at_195 (hw _ (List.mem_of_getElem? (i := 111) rfl)) (hw _ (List.mem_of_getElem? (i := 112) rfl)) (hw _ (List.mem_of_getElem? (i := 114) rfl)) (hw _ (List.mem_of_getElem? (i := 113) rfl)) (hw _ (List.mem_of_getElem? (i := 3) rfl)) (hw _ (List.mem_of_getElem? (i := 115) rfl)) pd_13 (own_REL.exa H) (add_REL l Z a0 hw b171 b123 i0 rs 0 0 sz V (by omega) [(b162, ARR Z .int [.int xv]), (b153, ARR Z .int [.int 0]), (b143, ARR Z .int [.int cv]), (b133, ARR Z .int [.int bv]), (b123, ARR Z .int [.int i0])] _ H (by repeat (first | exact List.mem_cons_self | apply List.mem_cons_of_mem))) (fun v os1 hq => ?_)
  obtain ⟨⟨u, rfl⟩, hadd⟩ := hq
  refine W.popx K 199 at_198 ?_
  obtain ⟨sz1, V1, H1, hz1', hS1, hR1⟩ := own_after hS hR hadd
  have hz1 : sz1 ≤ 1 := by omega
  refine W.cutO (S := []) (G := fun os => ∃ (sz : Nat) (V : Nat → Int32) (rs : Int32), own_REL Z b171 sz V rs 0 0 [(b162, ARR Z .int [.int xv]), (b153, ARR Z .int [.int 0]), (b143, ARR Z .int [.int cv]), (b133, ARR Z .int [.int bv]), (b123, ARR Z .int [.int i0])] os ∧ sz ≤ 1 ∧ own_S sz V (fun y => (fun _ => False) y ∨ y = i0) ∧ (k.toInt ≤ 1 → ∃ rn : Nat, rs.toInt = (rn : Int) ∧ rn ≤ sz ∧ own_R rn V (fun y => (1 ≤ k.toInt ∧ y = i0) ∨ (2 ≤ k.toInt ∧ y = bv) ∨ (3 ≤ k.toInt ∧ y = cv)))) 210 (fun kk => ?_) ?_
  · refine W.iload K 201 at_199 rfl ?_
    refine W.iconst K 202 at_201 (1 : Int32) (by decide) ?_
    refine W.icmp_ne K 210 205 at_202 (fun h202 => ?_) (fun h202 => ?_)
    · exact kk _ ⟨_, V1, rs, H1, hz1, hS1, fun h => hR1 (by have : k.toInt ≠ 1 := fun q => h202 (Int32.toInt_inj.mp (q.trans e1.symm)); omega)⟩
    · refine W.aload K 207 at_205 rfl rfl ?_
      refine W.callVn0 K 210 at_207 (hw _ (List.mem_of_getElem? (i := 102) rfl)) (hw _ (List.mem_of_getElem? (i := 103) rfl)) (hw _ (List.mem_of_getElem? (i := 105) rfl)) (hw _ (List.mem_of_getElem? (i := 104) rfl)) (hw _ (List.mem_of_getElem? (i := 3) rfl)) (hw _ (List.mem_of_getElem? (i := 106) rfl)) pd_12 (own_REL.exa H1) (begin_REL l Z a0 hw b171 rs 0 0 sz1 V1 [(b162, ARR Z .int [.int xv]), (b153, ARR Z .int [.int 0]), (b143, ARR Z .int [.int cv]), (b133, ARR Z .int [.int bv]), (b123, ARR Z .int [.int i0])] _ H1) (fun os1 hq => ?_)
      obtain ⟨r, hr, Hb⟩ := hq
      have hk : k.toInt = 1 := by rw [h202]; exact e1
      exact kk _ ⟨_, V1, r, Hb, hz1, hS1, fun _ => ⟨_, hr, Nat.le_refl _, fun y => (show (fun y => (fun _ => False) y ∨ y = i0) y ↔ (fun y => (1 ≤ k.toInt ∧ y = i0) ∨ (2 ≤ k.toInt ∧ y = bv) ∨ (3 ≤ k.toInt ∧ y = cv)) y by rw [hk]; first | (simp; done) | (simp [or_assoc]; done)).symm.trans (own_R_now hS1 y)⟩⟩
  intro os ⟨sz, V, rs, H, hz, hS, hR⟩
  refine W.aload K 212 at_210 rfl rfl ?_
  refine W.aload K 214 at_212 rfl rfl ?_
  refine W.callVv1 K 217 at_214 (hw _ (List.mem_of_getElem? (i := 111) rfl)) (hw _ (List.mem_of_getElem? (i := 112) rfl)) (hw _ (List.mem_of_getElem? (i := 114) rfl)) (hw _ (List.mem_of_getElem? (i := 113) rfl)) (hw _ (List.mem_of_getElem? (i := 3) rfl)) (hw _ (List.mem_of_getElem? (i := 115) rfl)) pd_13 (own_REL.exa H) (add_REL l Z a0 hw b171 b133 bv rs 0 0 sz V (by omega) [(b162, ARR Z .int [.int xv]), (b153, ARR Z .int [.int 0]), (b143, ARR Z .int [.int cv]), (b133, ARR Z .int [.int bv]), (b123, ARR Z .int [.int i0])] _ H (by repeat (first | exact List.mem_cons_self | apply List.mem_cons_of_mem))) (fun v os1 hq => ?_)
  obtain ⟨⟨u, rfl⟩, hadd⟩ := hq
  refine W.popx K 218 at_217 ?_
  obtain ⟨sz2, V2, H2, hz2', hS2, hR2⟩ := own_after hS hR hadd
  have hz2 : sz2 ≤ 2 := by omega
  refine W.cutO (S := []) (G := fun os => ∃ (sz : Nat) (V : Nat → Int32) (rs : Int32), own_REL Z b171 sz V rs 0 0 [(b162, ARR Z .int [.int xv]), (b153, ARR Z .int [.int 0]), (b143, ARR Z .int [.int cv]), (b133, ARR Z .int [.int bv]), (b123, ARR Z .int [.int i0])] os ∧ sz ≤ 2 ∧ own_S sz V (fun y => (fun y => (fun _ => False) y ∨ y = i0) y ∨ y = bv) ∧ (k.toInt ≤ 2 → ∃ rn : Nat, rs.toInt = (rn : Int) ∧ rn ≤ sz ∧ own_R rn V (fun y => (1 ≤ k.toInt ∧ y = i0) ∨ (2 ≤ k.toInt ∧ y = bv) ∨ (3 ≤ k.toInt ∧ y = cv)))) 229 (fun kk => ?_) ?_
  · refine W.iload K 220 at_218 rfl ?_
    refine W.iconst K 221 at_220 (2 : Int32) (by decide) ?_
    refine W.icmp_ne K 229 224 at_221 (fun h221 => ?_) (fun h221 => ?_)
    · exact kk _ ⟨_, V2, rs, H2, hz2, hS2, fun h => hR2 (by have : k.toInt ≠ 2 := fun q => h221 (Int32.toInt_inj.mp (q.trans e2.symm)); omega)⟩
    · refine W.aload K 226 at_224 rfl rfl ?_
      refine W.callVn0 K 229 at_226 (hw _ (List.mem_of_getElem? (i := 102) rfl)) (hw _ (List.mem_of_getElem? (i := 103) rfl)) (hw _ (List.mem_of_getElem? (i := 105) rfl)) (hw _ (List.mem_of_getElem? (i := 104) rfl)) (hw _ (List.mem_of_getElem? (i := 3) rfl)) (hw _ (List.mem_of_getElem? (i := 106) rfl)) pd_12 (own_REL.exa H2) (begin_REL l Z a0 hw b171 rs 0 0 sz2 V2 [(b162, ARR Z .int [.int xv]), (b153, ARR Z .int [.int 0]), (b143, ARR Z .int [.int cv]), (b133, ARR Z .int [.int bv]), (b123, ARR Z .int [.int i0])] _ H2) (fun os1 hq => ?_)
      obtain ⟨r, hr, Hb⟩ := hq
      have hk : k.toInt = 2 := by rw [h221]; exact e2
      exact kk _ ⟨_, V2, r, Hb, hz2, hS2, fun _ => ⟨_, hr, Nat.le_refl _, fun y => (show (fun y => (fun y => (fun _ => False) y ∨ y = i0) y ∨ y = bv) y ↔ (fun y => (1 ≤ k.toInt ∧ y = i0) ∨ (2 ≤ k.toInt ∧ y = bv) ∨ (3 ≤ k.toInt ∧ y = cv)) y by rw [hk]; first | (simp; done) | (simp [or_assoc]; done)).symm.trans (own_R_now hS2 y)⟩⟩
  intro os ⟨sz, V, rs, H, hz, hS, hR⟩
  refine W.aload K 231 at_229 rfl rfl ?_
  refine W.aload K 233 at_231 rfl rfl ?_
  refine W.callVv1 K 236 at_233 (hw _ (List.mem_of_getElem? (i := 111) rfl)) (hw _ (List.mem_of_getElem? (i := 112) rfl)) (hw _ (List.mem_of_getElem? (i := 114) rfl)) (hw _ (List.mem_of_getElem? (i := 113) rfl)) (hw _ (List.mem_of_getElem? (i := 3) rfl)) (hw _ (List.mem_of_getElem? (i := 115) rfl)) pd_13 (own_REL.exa H) (add_REL l Z a0 hw b171 b143 cv rs 0 0 sz V (by omega) [(b162, ARR Z .int [.int xv]), (b153, ARR Z .int [.int 0]), (b143, ARR Z .int [.int cv]), (b133, ARR Z .int [.int bv]), (b123, ARR Z .int [.int i0])] _ H (by repeat (first | exact List.mem_cons_self | apply List.mem_cons_of_mem))) (fun v os1 hq => ?_)
  obtain ⟨⟨u, rfl⟩, hadd⟩ := hq
  refine W.popx K 237 at_236 ?_
  obtain ⟨sz3, V3, H3, hz3', hS3, hR3⟩ := own_after hS hR hadd
  have hz3 : sz3 ≤ 3 := by omega
  refine W.cutO (S := []) (G := fun os => ∃ (sz : Nat) (V : Nat → Int32) (rs : Int32), own_REL Z b171 sz V rs 0 0 [(b162, ARR Z .int [.int xv]), (b153, ARR Z .int [.int 0]), (b143, ARR Z .int [.int cv]), (b133, ARR Z .int [.int bv]), (b123, ARR Z .int [.int i0])] os ∧ sz ≤ 3 ∧ own_S sz V (fun y => (fun y => (fun y => (fun _ => False) y ∨ y = i0) y ∨ y = bv) y ∨ y = cv) ∧ (k.toInt ≤ 3 → ∃ rn : Nat, rs.toInt = (rn : Int) ∧ rn ≤ sz ∧ own_R rn V (fun y => (1 ≤ k.toInt ∧ y = i0) ∨ (2 ≤ k.toInt ∧ y = bv) ∨ (3 ≤ k.toInt ∧ y = cv)))) 248 (fun kk => ?_) ?_
  · refine W.iload K 239 at_237 rfl ?_
    refine W.iconst K 240 at_239 (3 : Int32) (by decide) ?_
    refine W.icmp_ne K 248 243 at_240 (fun h240 => ?_) (fun h240 => ?_)
    · exact kk _ ⟨_, V3, rs, H3, hz3, hS3, fun h => hR3 (by have : k.toInt ≠ 3 := fun q => h240 (Int32.toInt_inj.mp (q.trans e3.symm)); omega)⟩
    · refine W.aload K 245 at_243 rfl rfl ?_
      refine W.callVn0 K 248 at_245 (hw _ (List.mem_of_getElem? (i := 102) rfl)) (hw _ (List.mem_of_getElem? (i := 103) rfl)) (hw _ (List.mem_of_getElem? (i := 105) rfl)) (hw _ (List.mem_of_getElem? (i := 104) rfl)) (hw _ (List.mem_of_getElem? (i := 3) rfl)) (hw _ (List.mem_of_getElem? (i := 106) rfl)) pd_12 (own_REL.exa H3) (begin_REL l Z a0 hw b171 rs 0 0 sz3 V3 [(b162, ARR Z .int [.int xv]), (b153, ARR Z .int [.int 0]), (b143, ARR Z .int [.int cv]), (b133, ARR Z .int [.int bv]), (b123, ARR Z .int [.int i0])] _ H3) (fun os1 hq => ?_)
      obtain ⟨r, hr, Hb⟩ := hq
      have hk : k.toInt = 3 := by rw [h240]; exact e3
      exact kk _ ⟨_, V3, r, Hb, hz3, hS3, fun _ => ⟨_, hr, Nat.le_refl _, fun y => (show (fun y => (fun y => (fun y => (fun _ => False) y ∨ y = i0) y ∨ y = bv) y ∨ y = cv) y ↔ (fun y => (1 ≤ k.toInt ∧ y = i0) ∨ (2 ≤ k.toInt ∧ y = bv) ∨ (3 ≤ k.toInt ∧ y = cv)) y by rw [hk]; first | (simp; done) | (simp [or_assoc]; done)).symm.trans (own_R_now hS3 y)⟩⟩
  intro os ⟨sz, V, rs, H, hz, hS, hR⟩
  obtain ⟨rn, hrn, hrn2, hRR⟩ := hR hk3
  have hdel := fun y => own_delta hS hRR hrn2 y
  have hin : ∀ y, ((fun y => (fun y => (fun y => (fun _ => False) y ∨ y = i0) y ∨ y = bv) y ∨ y = cv) y ∧ ¬ (fun y => (1 ≤ k.toInt ∧ y = i0) ∨ (2 ≤ k.toInt ∧ y = bv) ∨ (3 ≤ k.toInt ∧ y = cv)) y) ↔ ((y = i0 ∨ y = bv ∨ y = cv) ∧ ¬ ((1 ≤ k.toInt ∧ y = i0) ∨ (2 ≤ k.toInt ∧ y = bv) ∨ (3 ≤ k.toInt ∧ y = cv))) := fun y => ⟨fun ⟨a, b⟩ => ⟨by rcases a with ((a | a) | a) | a; exact a.elim; exact Or.inl a; exact Or.inr (Or.inl a); exact Or.inr (Or.inr a), b⟩, fun ⟨a, b⟩ => ⟨by rcases a with a | a | a; exact Or.inl (Or.inl (Or.inr a)); exact Or.inl (Or.inr a); exact Or.inr a, b⟩⟩
  refine W.aload K 250 at_248 rfl rfl ?_
  refine W.callVv0 K 253 at_250 (hw _ (List.mem_of_getElem? (i := 266) rfl)) (hw _ (List.mem_of_getElem? (i := 267) rfl)) (hw _ (List.mem_of_getElem? (i := 269) rfl)) (hw _ (List.mem_of_getElem? (i := 268) rfl)) (hw _ (List.mem_of_getElem? (i := 3) rfl)) (hw _ (List.mem_of_getElem? (i := 270) rfl)) pd_36 (own_REL.exa H) (end_REL l Z a0 hw b171 rs 0 0 sz V [(b162, ARR Z .int [.int xv]), (b153, ARR Z .int [.int 0]), (b143, ARR Z .int [.int cv]), (b133, ARR Z .int [.int bv]), (b123, ARR Z .int [.int i0])] _ H) (fun v os1 hq => ?_)
  obtain ⟨u, d, rfl, u01, hu, hd, H2⟩ := hq
  refine W.istore K 255 at_253 rfl (by repeat (first | apply setLS | exact setL0)) ?_
  obtain ⟨⟨vb, vb1, vb2, hm, ac, st, on, ti, szz, cnt, s, o, Vl, hszz, hval, R⟩, hsub⟩ := H2.rm
  refine W.aload K 257 at_255 rfl rfl ?_
  refine W.aload K 259 at_257 rfl rfl ?_
  refine W.iconst K 260 at_259 (1 : Int32) (by decide) ?_
  refine W.callVv2 K 263 at_260 (hw _ (List.mem_of_getElem? (i := 275) rfl)) (hw _ (List.mem_of_getElem? (i := 276) rfl)) (hw _ (List.mem_of_getElem? (i := 278) rfl)) (hw _ (List.mem_of_getElem? (i := 277) rfl)) (hw _ (List.mem_of_getElem? (i := 3) rfl)) (hw _ (List.mem_of_getElem? (i := 279) rfl)) pd_37 (own_REL.exa H2) (spec_37 l Z a0 hw b171 b153 _) (fun v os1 hq => ?_)
  obtain ⟨cu, rfl, rfl⟩ := hq
  refine W.astore K 265 at_263 rfl rfl (by repeat (first | apply setLS | exact setL0)) ?_
  refine W.aload K 267 at_265 rfl rfl ?_
  refine W.aload K 269 at_267 rfl rfl ?_
  refine W.callF (C := "com/example/pointfold/pointfold/datalog/FlatRelation$RangeCursor") (argsL := [.ref b162]) (S := []) K 274 at_269 (hw _ (List.mem_of_getElem? (i := 293) rfl)) (hw _ (List.mem_of_getElem? (i := 294) rfl)) (hw _ (List.mem_of_getElem? (i := 295) rfl)) (hw _ (List.mem_of_getElem? (i := 296) rfl)) (hw _ (List.mem_of_getElem? (i := 297) rfl)) (hw _ (List.mem_of_getElem? (i := 298) rfl)) (hw _ (List.mem_of_getElem? (i := 299) rfl)) (hw _ (List.mem_of_getElem? (i := 300) rfl)) (hw _ (List.mem_of_getElem? (i := 282) rfl)) (hw _ (List.mem_of_getElem? (i := 301) rfl)) (show parseMethodDescriptor "([I)Z" = some ⟨[(.array .int)], some .boolean⟩ by decide +kernel) (Rc.new List.mem_cons_self) (spec_39 l Z a0 hw b171 vb vb1 vb2 hm ac st on ti szz rs cnt rs d s o Vl V sz hval _ R (by omega) hd rn hrn hrn2 cu b153 b162 xv _ _ _ (hsub _ (by repeat (first | exact List.mem_cons_self | apply List.mem_cons_of_mem))) (hsub _ (by repeat (first | exact List.mem_cons_self | apply List.mem_cons_of_mem)))) (fun v os1 hq => ?_)
  obtain ⟨u2, rfl, u201, hu2⟩ := hq
  refine W.istore K 276 at_274 rfl (by repeat (first | apply setLS | exact setL0)) ?_
  refine W.joinI (S := []) (F := ((i0 = i0 ∨ i0 = bv ∨ i0 = cv) ∧ ¬ ((1 ≤ k.toInt ∧ i0 = i0) ∨ (2 ≤ k.toInt ∧ i0 = bv) ∨ (3 ≤ k.toInt ∧ i0 = cv))) ∨ ((bv = i0 ∨ bv = bv ∨ bv = cv) ∧ ¬ ((1 ≤ k.toInt ∧ bv = i0) ∨ (2 ≤ k.toInt ∧ bv = bv) ∨ (3 ≤ k.toInt ∧ bv = cv))) ∨ ((cv = i0 ∨ cv = bv ∨ cv = cv) ∧ ¬ ((1 ≤ k.toInt ∧ cv = i0) ∨ (2 ≤ k.toInt ∧ cv = bv) ∨ (3 ≤ k.toInt ∧ cv = cv)))) 329 (fun kt kf => ?_) ?_
  · refine W.iload K 278 at_276 rfl ?_
    refine W.iload K 280 at_278 rfl ?_
    refine W.iload K 282 at_280 rfl ?_
    refine W.iload K 284 at_282 rfl ?_
    refine W.iload K 286 at_284 rfl ?_
    refine W.callSv5 K 289 at_286 (hw _ (List.mem_of_getElem? (i := 316) rfl)) (hw _ (List.mem_of_getElem? (i := 317) rfl)) (hw _ (List.mem_of_getElem? (i := 318) rfl)) (hw _ (List.mem_of_getElem? (i := 319) rfl)) pd_41 (spec_41 l Z a0 hw _ _ _ _ _ _) (fun v os1 hq => ?_)
    obtain ⟨y0, rfl, rfl, w0, g0⟩ := hq
    refine W.if_ne K 324 292 at_289 (fun h289 => ?_) (fun h289 => ?_)
    · refine W.iconst K 325 at_324 (1 : Int32) (by decide) ?_
      refine W.goto K 329 at_325 ?_
      exact kt (by first | exact Or.inl (g0.mp (own_one w0 h289)) | exact Or.inr (Or.inl (g1.mp (own_one w1 h305))) | exact Or.inr (Or.inr (g2.mp (own_one w2 h321))))
    · refine W.iload K 294 at_292 rfl ?_
      refine W.iload K 296 at_294 rfl ?_
      refine W.iload K 298 at_296 rfl ?_
      refine W.iload K 300 at_298 rfl ?_
      refine W.iload K 302 at_300 rfl ?_
      refine W.callSv5 K 305 at_302 (hw _ (List.mem_of_getElem? (i := 316) rfl)) (hw _ (List.mem_of_getElem? (i := 317) rfl)) (hw _ (List.mem_of_getElem? (i := 318) rfl)) (hw _ (List.mem_of_getElem? (i := 319) rfl)) pd_41 (spec_41 l Z a0 hw _ _ _ _ _ _) (fun v os1 hq => ?_)
      obtain ⟨y1, rfl, rfl, w1, g1⟩ := hq
      refine W.if_ne K 324 308 at_305 (fun h305 => ?_) (fun h305 => ?_)
      · refine W.iconst K 325 at_324 (1 : Int32) (by decide) ?_
        refine W.goto K 329 at_325 ?_
        exact kt (by first | exact Or.inl (g0.mp (own_one w0 h289)) | exact Or.inr (Or.inl (g1.mp (own_one w1 h305))) | exact Or.inr (Or.inr (g2.mp (own_one w2 h321))))
      · refine W.iload K 310 at_308 rfl ?_
        refine W.iload K 312 at_310 rfl ?_
        refine W.iload K 314 at_312 rfl ?_
        refine W.iload K 316 at_314 rfl ?_
        refine W.iload K 318 at_316 rfl ?_
        refine W.callSv5 K 321 at_318 (hw _ (List.mem_of_getElem? (i := 316) rfl)) (hw _ (List.mem_of_getElem? (i := 317) rfl)) (hw _ (List.mem_of_getElem? (i := 318) rfl)) (hw _ (List.mem_of_getElem? (i := 319) rfl)) pd_41 (spec_41 l Z a0 hw _ _ _ _ _ _) (fun v os1 hq => ?_)
        obtain ⟨y2, rfl, rfl, w2, g2⟩ := hq
        refine W.if_eq K 328 324 at_321 (fun h321 => ?_) (fun h321 => ?_)
        · refine W.iconst K 329 at_328 (0 : Int32) (by decide) ?_
          exact kf (fun q => by rcases q with q | q | q; exact own_zero h289 (g0.mpr q); exact own_zero h305 (g1.mpr q); exact own_zero h321 (g2.mpr q))
        · refine W.iconst K 325 at_324 (1 : Int32) (by decide) ?_
          refine W.goto K 329 at_325 ?_
          exact kt (by first | exact Or.inl (g0.mp (own_one w0 h289)) | exact Or.inr (Or.inl (g1.mp (own_one w1 h305))) | exact Or.inr (Or.inr (g2.mp (own_one w2 h321))))
  refine W.istore K 331 at_329 rfl (by repeat (first | apply setLS | exact setL0)) ?_
  refine W.iload K 333 at_331 rfl ?_
  refine W.iload K 335 at_333 rfl ?_
  refine W.iload K 337 at_335 rfl ?_
  refine W.iload K 339 at_337 rfl ?_
  refine W.iload K 341 at_339 rfl ?_
  refine W.callSv5 K 344 at_341 (hw _ (List.mem_of_getElem? (i := 316) rfl)) (hw _ (List.mem_of_getElem? (i := 317) rfl)) (hw _ (List.mem_of_getElem? (i := 318) rfl)) (hw _ (List.mem_of_getElem? (i := 319) rfl)) pd_41 (spec_41 l Z a0 hw _ _ _ _ _ _) (fun v os1 hq => ?_)
  obtain ⟨y3, rfl, rfl, w3, g3⟩ := hq
  refine W.istore K 346 at_344 rfl (by repeat (first | apply setLS | exact setL0)) ?_
  refine W.iload K 348 at_346 rfl ?_
  refine W.iload K 350 at_348 rfl ?_
  refine W.icmp_ne K 364 353 at_350 (fun h350 => False.elim (h350 (own_fin u01 hu (by rw [hrn]; exact own_some hdel hin hrn2)))) (fun h350 => ?_)
  refine W.iload K 355 at_353 rfl ?_
  refine W.iload K 357 at_355 rfl ?_
  refine W.icmp_ne K 364 360 at_357 (fun h357 => False.elim (h357 (own_same1 u201 w3 hu2 g3 ((hdel xv).trans (hin xv))))) (fun h357 => ?_)
  refine W.iconst K 361 at_360 (1 : Int32) (by decide) ?_
  refine W.goto K 365 at_361 ?_
  refine W.zreturn K at_365 (Or.inr rfl) ⟨_, rfl, rfl⟩
set_option maxRecDepth 65536 in
set_option maxHeartbeats 40000000 in
theorem comes_1 {Post : Tables → Env → Array Value → State → Outcome → State → Prop} (hpost : ∀ tb e args s v u, (limb_1_1.after args s (.returned v) u = true ∧ limb_1_2.after args s (.returned v) u = true ∧ True) → FrameEnd s (.returned v) u (Jvm.fieldLocs frame_1_writes args s ++ Jvm.arrayLocs frame_1_arrays args s ++ Jvm.staticLocs frame_1_statics s) 72 384 → Post tb e args s (.returned v) u) :
    ArmFor flags0 classFile x code maxLocals ret World_1 tables_1 room_1 Calls_1 rest_1 Pre_1 Post := by
  intro l hfl _ _ p e ha hc hk s m args below hf hA hF happ hP
  obtain ⟨hcalls, hrest, hpre⟩ := hP
  obtain ⟨-, -, -, hnamed, -, -, -, hat⟩ := (Spec.applies_iff hf).mp happ
  obtain ⟨hg, hn⟩ := and_e (Cond.before_iff.mp (show (Jvm.Cond.and given_1 narrow_1).before args s = true from hpre))
  obtain ⟨gc, g0⟩ := and_e hg
  obtain ⟨k0, g1⟩ := and_e g0
  obtain ⟨k1, g2⟩ := and_e g1
  obtain ⟨k2, g3⟩ := and_e g2
  obtain ⟨k3, g4⟩ := and_e g3
  have k4 := g4
  obtain ⟨w0, w1, w2, w3, w4, rfl⟩ : ∃ w0 w1 w2 w3 w4 : Value, args = #[w0, w1, w2, w3, w4] := by
    have hs : args.size = 5 := by simpa [Cond.value, given_1] using gc
    obtain ⟨L⟩ := args
    match L, hs with
    | [w0, w1, w2, w3, w4], _ => exact ⟨w0, w1, w2, w3, w4, rfl⟩
  have hw := fun d (hd : d ∈ tables_1) => atoms_spec (ws := Jvm.Cond.code x code maxLocals ret :: tables_1) hat d (List.mem_cons_of_mem _ hd)
  have hfit : Fit s := fun {y c} hc i hi => by
    obtain ⟨ha, rfl⟩ := Array.getElem?_eq_some_iff.mp hc
    have q := List.all_eq_true.mp ((Array.all_eq_true_iff_forall_mem.mp hF) _ (Array.getElem_mem ha)) i (List.mem_range.mpr hi)
    simpa [Array.getElem?_eq_getElem hi] using q
  obtain ⟨i0, ei0⟩ := is_v k0
  obtain rfl : w0 = (.int i0) := Option.some.inj ei0
  obtain ⟨i1, ei1⟩ := is_v k1
  obtain rfl : w1 = (.int i1) := Option.some.inj ei1
  obtain ⟨i2, ei2⟩ := is_v k2
  obtain rfl : w2 = (.int i2) := Option.some.inj ei2
  obtain ⟨i3, ei3⟩ := is_v k3
  obtain rfl : w3 = (.int i3) := Option.some.inj ei3
  obtain ⟨i4, ei4⟩ := is_v k4
  obtain rfl : w4 = (.int i4) := Option.some.inj ei4
  obtain ⟨n, o, h1, h2, h3, _, L, rfl, ⟨os1, ⟨_, rfl, rfl⟩, -, N⟩, hq⟩ := spec_0 l s _ hw i0 i1 i2 i3 i4 s.heap (Hp.nil s) tables_1 p e ha hc hk s m _ below hf ((Spec.applies_iff_loose hf).mp happ).1 ⟨rfl, State.Warmed39.refl s, rfl⟩ trivial
  refine ⟨n, _, h1, h2, h3, hpost _ _ _ _ _ _ ⟨Cond.after_iff.mpr rfl, Cond.after_iff.mpr (eq_i res_at (Term.int_eval (1)) rfl), trivial⟩ ⟨hq.1, hq.2.1, (hq.2.2.sift fun y hy => Or.inr (N y hy)).mono (by decide) (by decide)⟩⟩
theorem main_1_1 : Claimed_1_1 := comes_1 fun _ _ _ _ _ _ h hF => ⟨h.1, hF⟩
theorem main_1_2 : Claimed_1_2 := comes_1 fun _ _ _ _ _ _ h hF => ⟨h.2.1, hF⟩
end Jvm.Pilot.@@N@@
namespace Jvm.Pilot.@@N@@
open Jvm Jvm.ClassFile Sem Op Lib Jvm.Free Jvm.Stand Jvm.Pilot.@@N@@.Jvm.D
/-! MADE BY PROGRAM (witnessworld.py) out of the Statement's table words and the real class files: 29 classes; the members and pool entries that the words name. The judged class is class 1, her method 3. -/
namespace start1
open Jvm.ClassFile
def u (s : String) : CpInfo := .utf8 (stringToUtf16 s)
/-- a pool by its gaps: so many unusable entries, then the entry; so many at the end -/
def gap : Nat → List CpInfo → List CpInfo
  | 0, r => r
  | n + 1, r => .unusable :: gap n r
def poolList (es : List (Nat × CpInfo)) (last : Nat) : List CpInfo := es.foldr (fun e r => gap e.1 (e.2 :: r)) (gap last [])
def pool (es : List (Nat × CpInfo)) (last : Nat) : Array CpInfo := ⟨poolList es last⟩
def fileOf (pool : Array CpInfo) (this : Nat) (attrs : Array Attribute := #[]) (ms : Array MethodInfo := #[]) (fl : Nat := 33) (sup : Nat := 0) (ifs : Array Nat := #[]) (fds : Array FieldInfo := #[]) : ClassFile where
  minorVersion := 0
  majorVersion := 65
  constantPool := pool
  accessFlags := fl
  thisClass := this
  superClass := sup
  interfaces := ifs
  fields := fds
  methods := ms
  attributes := attrs
def plain (name : String) (sup : Option ClassId) : Class where
  name := name
  kind := .ordinary
  loader := none
  accessFlags := 33
  super := sup
  interfaces := #[]
  cf := none
  fields := #[]
  methods := #[]
  instanceTypes := #[]
  staticTypes := #[]
  resolved := #[]
  callSites := []
  init := .initialized
  statics := none
  mirror := none

def pool0 : Array CpInfo := pool [(5, u "<init>"), (0, u "()V"), (1, .class_ 10), (1, u "java/lang/Object")] 113

def k0c0 : Code := { maxStack := 0, maxLocals := 1, code := object_method_1_code, exceptionTable := #[], attributes := #[] }
def k0m0 : Method := { name := "<init>", desc := "()V", sig := { parameters := [], returnType := none }, accessFlags := 1, code := some k0c0 }
/-- java/lang/Object -/
def k0 : Class := { plain "java/lang/Object" none with
  accessFlags := 33
  interfaces := #[]
  cf := some (fileOf pool0 8 #[] #[{ accessFlags := 1, nameIndex := 5, descriptorIndex := 6, attributes := #[] }] 33 0 #[] #[])
  fields := #[]
  methods := #[k0m0]
  instanceTypes := #[]
  staticTypes := #[]
  resolved := Array.replicate 124 none
  statics := none }

def pool1 : Array CpInfo := pool [(2, .class_ 4), (1, u "java/lang/Object"), (0, u "<init>"), (0, u "()V"), (0, .methodref 8 9), (0, .class_ 10), (0, .nameAndType 11 12), (0, u "com/example/pointfold/pointfold/datalog/FlatRelationEndRoundPinLaw"), (0, u "before"), (0, u "(IIIII)Z"), (0, .class_ 14), (0, u "com/example/pointfold/pointfold/datalog/FlatRelation"), (0, .methodref 13 16), (0, .nameAndType 5 17), (0, u "(I)V"), (0, .methodref 13 19), (0, .nameAndType 20 6), (0, u "beginRound"), (0, .methodref 13 22), (0, .nameAndType 23 24), (0, u "add"), (0, u "([I)Z"), (0, .methodref 13 26), (0, .nameAndType 27 28), (0, u "endRound"), (0, u "()Z"), (0, .methodref 13 30), (0, .nameAndType 31 32), (0, u "cursor"), (0, u "([IZ)Lcom/example/pointfold/pointfold/datalog/Relation$Cursor;"), (0, .interfaceMethodref 34 35), (0, .class_ 36), (0, .nameAndType 37 24), (0, u "com/example/pointfold/pointfold/datalog/Relation$Cursor"), (0, u "first"), (0, .methodref 8 39), (0, .nameAndType 40 12), (0, u "inDelta"), (3, u "law")] 8

def k1m0 : Method := { name := "<init>", desc := "()V", sig := { parameters := [], returnType := none }, accessFlags := 1, code := none }
def k1c1 : Code := { maxStack := 2, maxLocals := 5, code := method_2_code, exceptionTable := #[], attributes := #[] }
def k1m1 : Method := { name := "before", desc := "(IIIII)Z", sig := { parameters := [.int, .int, .int, .int, .int], returnType := some .boolean }, accessFlags := 10, code := some k1c1 }
def k1c2 : Code := { maxStack := 5, maxLocals := 6, code := method_3_code, exceptionTable := #[], attributes := #[] }
def k1m2 : Method := { name := "inDelta", desc := "(IIIII)Z", sig := { parameters := [.int, .int, .int, .int, .int], returnType := some .boolean }, accessFlags := 10, code := some k1c2 }
def k1c3 : Code := { maxStack := 5, maxLocals := 23, code := code, exceptionTable := #[], attributes := #[] }
def k1m3 : Method := { name := "law", desc := "(IIIII)Z", sig := { parameters := [.int, .int, .int, .int, .int], returnType := some .boolean }, accessFlags := 9, code := some k1c3 }
/-- com/example/pointfold/pointfold/datalog/FlatRelationEndRoundPinLaw -/
def k1 : Class := { plain "com/example/pointfold/pointfold/datalog/FlatRelationEndRoundPinLaw" (some 0) with
  accessFlags := 49
  interfaces := #[]
  cf := some (fileOf pool1 8 #[] #[{ accessFlags := 1, nameIndex := 5, descriptorIndex := 6, attributes := #[] }, { accessFlags := 10, nameIndex := 11, descriptorIndex := 12, attributes := #[] }, { accessFlags := 10, nameIndex := 40, descriptorIndex := 12, attributes := #[] }, { accessFlags := 9, nameIndex := 44, descriptorIndex := 12, attributes := #[] }] 49 2 #[] #[])
  fields := #[]
  methods := #[k1m0, k1m1, k1m2, k1m3]
  instanceTypes := #[]
  staticTypes := #[]
  resolved := Array.replicate 53 none
  statics := none }

def pool2 : Array CpInfo := pool [(1, .methodref 2 3), (0, .class_ 4), (0, .nameAndType 5 6), (0, u "java/lang/Object"), (0, u "<init>"), (0, u "()V"), (0, .integer 2654435769), (0, .class_ 9), (0, u "com/example/pointfold/pointfold/datalog/Relation"), (14, u "combine"), (0, u "(II)I"), (3, .class_ 30), (0, u "com/example/pointfold/pointfold/datalog/Relation$Cursor")] 7

def k2c0 : Code := { maxStack := 1, maxLocals := 1, code := prog_47_method_1_code, exceptionTable := #[], attributes := #[] }
def k2m0 : Method := { name := "<init>", desc := "()V", sig := { parameters := [], returnType := none }, accessFlags := 0, code := some k2c0 }
def k2c1 : Code := { maxStack := 3, maxLocals := 3, code := prog_47_method_10_code, exceptionTable := #[], attributes := #[] }
def k2m1 : Method := { name := "combine", desc := "(II)I", sig := { parameters := [.int, .int], returnType := some .int }, accessFlags := 8, code := some k2c1 }
/-- com/example/pointfold/pointfold/datalog/Relation -/
def k2 : Class := { plain "com/example/pointfold/pointfold/datalog/Relation" (some 0) with
  accessFlags := 1056
  interfaces := #[]
  cf := some (fileOf pool2 8 #[.nestMembers #[29]] #[{ accessFlags := 0, nameIndex := 5, descriptorIndex := 6, attributes := #[] }, { accessFlags := 8, nameIndex := 24, descriptorIndex := 25, attributes := #[] }] 1056 2 #[] #[])
  fields := #[]
  methods := #[k2m0, k2m1]
  instanceTypes := #[]
  staticTypes := #[]
  resolved := Array.replicate 38 none
  statics := none }

def pool3 : Array CpInfo := pool [(1, .methodref 2 3), (0, .class_ 4), (0, .nameAndType 5 6), (0, u "com/example/pointfold/pointfold/datalog/Relation"), (0, u "<init>"), (0, u "()V"), (0, .class_ 8), (0, u "com/example/pointfold/pointfold/datalog/IntBlocks"), (0, .methodref 7 3), (0, .fieldref 11 12), (0, .class_ 13), (0, .nameAndType 14 15), (0, u "com/example/pointfold/pointfold/datalog/FlatRelation"), (0, u "values"), (0, u "Lcom/example/pointfold/pointfold/datalog/IntBlocks;"), (0, .class_ 17), (0, u "java/util/HashMap"), (0, .methodref 16 3), (0, .fieldref 11 20), (0, .nameAndType 21 22), (0, u "indexes"), (0, u "Ljava/util/Map;"), (0, .fieldref 11 24), (0, .nameAndType 25 26), (0, u "arity"), (0, u "I"), (0, .fieldref 11 28), (0, .nameAndType 29 30), (0, u "allColumns"), (0, u "[I"), (0, .fieldref 11 32), (0, .nameAndType 33 30), (0, u "stored"), (0, .fieldref 11 35), (0, .nameAndType 36 30), (0, u "only"), (0, .methodref 38 39), (0, .class_ 40), (0, .nameAndType 41 42), (0, u "java/util/Arrays"), (0, u "fill"), (0, u "([II)V"), (0, .class_ 44), (0, u "com/example/pointfold/pointfold/datalog/TupleIndex"), (0, .methodref 43 46), (0, .nameAndType 5 47), (0, u "(Lcom/example/pointfold/pointfold/datalog/FlatRelation;[I)V"), (0, .fieldref 11 49), (0, .nameAndType 50 51), (0, u "unique"), (0, u "Lcom/example/pointfold/pointfold/datalog/TupleIndex;"), (0, .fieldref 11 53), (0, .nameAndType 54 26), (0, u "size"), (0, .fieldref 11 56), (0, .nameAndType 57 26), (0, u "storedCount"), (0, .methodref 7 59), (0, .nameAndType 60 61), (0, u "get"), (0, u "(I)I"), (0, .methodref 11 63), (0, .nameAndType 64 65), (0, u "value"), (0, u "(II)I"), (0, .methodref 11 67), (0, .nameAndType 68 69), (0, u "index"), (0, u "([I)Lcom/example/pointfold/pointfold/datalog/TupleIndex;"), (0, .methodref 43 71), (0, .nameAndType 72 73), (0, u "find"), (0, u "([I)I"), (0, .methodref 11 75), (0, .nameAndType 76 77), (0, u "contains"), (0, u "([I)Z"), (0, .methodref 11 79), (0, .nameAndType 80 81), (0, u "store"), (0, u "(I)V"), (0, .methodref 7 83), (0, .nameAndType 84 85), (0, u "set"), (0, u "(II)V"), (0, .methodref 43 87), (0, .nameAndType 88 81), (0, u "add"), (0, .interfaceMethodref 90 91), (0, .class_ 92), (0, .nameAndType 14 93), (0, u "java/util/Map"), (0, u "()Ljava/util/Collection;"), (0, .interfaceMethodref 95 96), (0, .class_ 97), (0, .nameAndType 98 99), (0, u "java/util/Collection"), (0, u "iterator"), (0, u "()Ljava/util/Iterator;"), (0, .interfaceMethodref 101 102), (0, .class_ 103), (0, .nameAndType 104 105), (0, u "java/util/Iterator"), (0, u "hasNext"), (0, u "()Z"), (18, .class_ 125), (0, u "com/example/pointfold/pointfold/datalog/FlatRelation$RangeCursor"), (0, .methodref 124 127), (0, .nameAndType 5 128), (0, u "(Lcom/example/pointfold/pointfold/datalog/FlatRelation;[IZ)V"), (0, .class_ 130), (0, u "com/example/pointfold/pointfold/datalog/FlatRelation$IndexCursor"), (3, .fieldref 11 135), (0, .nameAndType 136 26), (0, u "roundStart"), (0, .fieldref 11 138), (0, .nameAndType 139 26), (0, u "deltaStart"), (0, .fieldref 11 141), (0, .nameAndType 142 26), (0, u "deltaEnd"), (6, u "holds"), (0, u "(I[I[I)Z"), (3, u "cursor"), (0, u "([IZ)Lcom/example/pointfold/pointfold/datalog/Relation$Cursor;"), (0, u "beginRound"), (0, u "endRound")] 9

def k3c0 : Code := { maxStack := 5, maxLocals := 3, code := prog_10_method_1_code, exceptionTable := #[], attributes := #[] }
def k3m0 : Method := { name := "<init>", desc := "(I)V", sig := { parameters := [.int], returnType := none }, accessFlags := 0, code := some k3c0 }
def k3c1 : Code := { maxStack := 3, maxLocals := 4, code := prog_10_method_4_code, exceptionTable := #[], attributes := #[] }
def k3m1 : Method := { name := "value", desc := "(II)I", sig := { parameters := [.int, .int], returnType := some .int }, accessFlags := 0, code := some k3c1 }
def k3c2 : Code := { maxStack := 4, maxLocals := 5, code := prog_10_method_5_code, exceptionTable := #[], attributes := #[] }
def k3m2 : Method := { name := "holds", desc := "(I[I[I)Z", sig := { parameters := [.int, (.array .int), (.array .int)], returnType := some .boolean }, accessFlags := 0, code := some k3c2 }
def k3c3 : Code := { maxStack := 2, maxLocals := 2, code := prog_10_method_6_code, exceptionTable := #[], attributes := #[] }
def k3m3 : Method := { name := "contains", desc := "([I)Z", sig := { parameters := [(.array .int)], returnType := some .boolean }, accessFlags := 0, code := some k3c3 }
def k3c4 : Code := { maxStack := 4, maxLocals := 5, code := prog_10_method_8_code, exceptionTable := #[], attributes := #[] }
def k3m4 : Method := { name := "add", desc := "([I)Z", sig := { parameters := [(.array .int)], returnType := some .boolean }, accessFlags := 0, code := some k3c4 }
def k3c5 : Code := { maxStack := 5, maxLocals := 6, code := prog_10_method_9_code, exceptionTable := #[], attributes := #[] }
def k3m5 : Method := { name := "store", desc := "(I)V", sig := { parameters := [.int], returnType := none }, accessFlags := 2, code := some k3c5 }
def k3c6 : Code := { maxStack := 5, maxLocals := 5, code := prog_10_method_11_code, exceptionTable := #[], attributes := #[] }
def k3m6 : Method := { name := "index", desc := "([I)Lcom/example/pointfold/pointfold/datalog/TupleIndex;", sig := { parameters := [(.array .int)], returnType := some (.object "com/example/pointfold/pointfold/datalog/TupleIndex") }, accessFlags := 2, code := some k3c6 }
def k3c7 : Code := { maxStack := 5, maxLocals := 3, code := prog_10_method_12_code, exceptionTable := #[], attributes := #[] }
def k3m7 : Method := { name := "cursor", desc := "([IZ)Lcom/example/pointfold/pointfold/datalog/Relation$Cursor;", sig := { parameters := [(.array .int), .boolean], returnType := some (.object "com/example/pointfold/pointfold/datalog/Relation$Cursor") }, accessFlags := 0, code := some k3c7 }
def k3c8 : Code := { maxStack := 2, maxLocals := 1, code := prog_10_method_13_code, exceptionTable := #[], attributes := #[] }
def k3m8 : Method := { name := "beginRound", desc := "()V", sig := { parameters := [], returnType := none }, accessFlags := 0, code := some k3c8 }
def k3c9 : Code := { maxStack := 2, maxLocals := 1, code := prog_10_method_14_code, exceptionTable := #[], attributes := #[] }
def k3m9 : Method := { name := "endRound", desc := "()Z", sig := { parameters := [], returnType := some .boolean }, accessFlags := 0, code := some k3c9 }
/-- com/example/pointfold/pointfold/datalog/FlatRelation -/
def k3 : Class := { plain "com/example/pointfold/pointfold/datalog/FlatRelation" (some 2) with
  accessFlags := 48
  interfaces := #[]
  cf := some (fileOf pool3 11 #[.nestMembers #[124, 129]] #[{ accessFlags := 0, nameIndex := 5, descriptorIndex := 81, attributes := #[] }, { accessFlags := 0, nameIndex := 64, descriptorIndex := 65, attributes := #[] }, { accessFlags := 0, nameIndex := 149, descriptorIndex := 150, attributes := #[] }, { accessFlags := 0, nameIndex := 76, descriptorIndex := 77, attributes := #[] }, { accessFlags := 0, nameIndex := 88, descriptorIndex := 77, attributes := #[] }, { accessFlags := 2, nameIndex := 80, descriptorIndex := 81, attributes := #[] }, { accessFlags := 2, nameIndex := 68, descriptorIndex := 69, attributes := #[] }, { accessFlags := 0, nameIndex := 154, descriptorIndex := 155, attributes := #[] }, { accessFlags := 0, nameIndex := 156, descriptorIndex := 6, attributes := #[] }, { accessFlags := 0, nameIndex := 157, descriptorIndex := 105, attributes := #[] }] 48 2 #[] #[{ accessFlags := 18, nameIndex := 25, descriptorIndex := 26, attributes := #[] }, { accessFlags := 18, nameIndex := 29, descriptorIndex := 30, attributes := #[] }, { accessFlags := 2, nameIndex := 14, descriptorIndex := 15, attributes := #[] }, { accessFlags := 18, nameIndex := 33, descriptorIndex := 30, attributes := #[] }, { accessFlags := 18, nameIndex := 36, descriptorIndex := 30, attributes := #[] }, { accessFlags := 2, nameIndex := 57, descriptorIndex := 26, attributes := #[] }, { accessFlags := 2, nameIndex := 54, descriptorIndex := 26, attributes := #[] }, { accessFlags := 2, nameIndex := 50, descriptorIndex := 51, attributes := #[] }, { accessFlags := 18, nameIndex := 21, descriptorIndex := 22, attributes := #[] }, { accessFlags := 2, nameIndex := 136, descriptorIndex := 26, attributes := #[] }, { accessFlags := 2, nameIndex := 139, descriptorIndex := 26, attributes := #[] }, { accessFlags := 2, nameIndex := 142, descriptorIndex := 26, attributes := #[] }])
  fields := #[{ name := "arity", type := .int, accessFlags := 18, slot := 0, constantValue := 0 }, { name := "allColumns", type := (.array .int), accessFlags := 18, slot := 1, constantValue := 0 }, { name := "values", type := (.object "com/example/pointfold/pointfold/datalog/IntBlocks"), accessFlags := 2, slot := 2, constantValue := 0 }, { name := "stored", type := (.array .int), accessFlags := 18, slot := 3, constantValue := 0 }, { name := "only", type := (.array .int), accessFlags := 18, slot := 4, constantValue := 0 }, { name := "storedCount", type := .int, accessFlags := 2, slot := 5, constantValue := 0 }, { name := "size", type := .int, accessFlags := 2, slot := 6, constantValue := 0 }, { name := "unique", type := (.object "com/example/pointfold/pointfold/datalog/TupleIndex"), accessFlags := 2, slot := 7, constantValue := 0 }, { name := "indexes", type := (.object "java/util/Map"), accessFlags := 18, slot := 8, constantValue := 0 }, { name := "roundStart", type := .int, accessFlags := 2, slot := 9, constantValue := 0 }, { name := "deltaStart", type := .int, accessFlags := 2, slot := 10, constantValue := 0 }, { name := "deltaEnd", type := .int, accessFlags := 2, slot := 11, constantValue := 0 }]
  methods := #[k3m0, k3m1, k3m2, k3m3, k3m4, k3m5, k3m6, k3m7, k3m8, k3m9]
  instanceTypes := #[.int, (.array .int), (.object "com/example/pointfold/pointfold/datalog/IntBlocks"), (.array .int), (.array .int), .int, .int, (.object "com/example/pointfold/pointfold/datalog/TupleIndex"), (.object "java/util/Map"), .int, .int, .int]
  staticTypes := #[]
  resolved := Array.replicate 167 none
  statics := none }

def pool4 : Array CpInfo := pool [(1, .class_ 2), (0, u "com/example/pointfold/pointfold/datalog/IntBlocks"), (0, .methodref 4 5), (0, .class_ 6), (0, .nameAndType 7 8), (0, u "java/lang/Object"), (0, u "<init>"), (0, u "()V"), (0, .class_ 10), (0, u "[I"), (0, .fieldref 1 12), (0, .nameAndType 13 14), (0, u "blocks"), (0, u "[[I"), (0, .methodref 16 17), (0, .class_ 18), (0, .nameAndType 19 20), (0, u "java/lang/Math"), (0, u "max"), (0, u "(II)I"), (0, .integer 65535), (0, .integer 65536), (13, u "SHIFT"), (0, u "I"), (2, u "BLOCK"), (0, u "MASK"), (2, u "(I)V"), (1, u "get"), (0, u "(I)I"), (0, u "set"), (0, u "(II)V")] 2

def k4c0 : Code := { maxStack := 5, maxLocals := 1, code := prog_16_method_1_code, exceptionTable := #[], attributes := #[] }
def k4m0 : Method := { name := "<init>", desc := "()V", sig := { parameters := [], returnType := none }, accessFlags := 0, code := some k4c0 }
def k4c1 : Code := { maxStack := 6, maxLocals := 4, code := prog_16_method_2_code, exceptionTable := #[], attributes := #[] }
def k4m1 : Method := { name := "<init>", desc := "(I)V", sig := { parameters := [.int], returnType := none }, accessFlags := 0, code := some k4c1 }
def k4c2 : Code := { maxStack := 3, maxLocals := 2, code := prog_16_method_3_code, exceptionTable := #[], attributes := #[] }
def k4m2 : Method := { name := "get", desc := "(I)I", sig := { parameters := [.int], returnType := some .int }, accessFlags := 0, code := some k4c2 }
def k4c3 : Code := { maxStack := 7, maxLocals := 4, code := prog_16_method_4_code, exceptionTable := #[], attributes := #[] }
def k4m3 : Method := { name := "set", desc := "(II)V", sig := { parameters := [.int, .int], returnType := none }, accessFlags := 0, code := some k4c3 }
/-- com/example/pointfold/pointfold/datalog/IntBlocks -/
def k4 : Class := { plain "com/example/pointfold/pointfold/datalog/IntBlocks" (some 0) with
  accessFlags := 48
  interfaces := #[]
  cf := some (fileOf pool4 1 #[] #[{ accessFlags := 0, nameIndex := 7, descriptorIndex := 8, attributes := #[] }, { accessFlags := 0, nameIndex := 7, descriptorIndex := 44, attributes := #[] }, { accessFlags := 0, nameIndex := 46, descriptorIndex := 47, attributes := #[] }, { accessFlags := 0, nameIndex := 48, descriptorIndex := 49, attributes := #[] }] 48 4 #[] #[{ accessFlags := 26, nameIndex := 36, descriptorIndex := 37, attributes := #[] }, { accessFlags := 26, nameIndex := 40, descriptorIndex := 37, attributes := #[] }, { accessFlags := 26, nameIndex := 41, descriptorIndex := 37, attributes := #[] }, { accessFlags := 2, nameIndex := 13, descriptorIndex := 14, attributes := #[] }])
  fields := #[{ name := "SHIFT", type := .int, accessFlags := 26, slot := 0, constantValue := 0 }, { name := "BLOCK", type := .int, accessFlags := 26, slot := 1, constantValue := 0 }, { name := "MASK", type := .int, accessFlags := 26, slot := 2, constantValue := 0 }, { name := "blocks", type := (.array (.array .int)), accessFlags := 2, slot := 0, constantValue := 0 }]
  methods := #[k4m0, k4m1, k4m2, k4m3]
  instanceTypes := #[(.array (.array .int))]
  staticTypes := #[.int, .int, .int]
  resolved := Array.replicate 52 none
  statics := none }

def pool5 : Array CpInfo := pool [(2, .class_ 4), (1, u "java/util/Map"), (31, .class_ 37), (0, u "java/util/Map$Entry"), (55, .class_ 94), (0, u "java/lang/Object"), (38, u "values"), (0, u "()Ljava/util/Collection;")] 128

def k5m0 : Method := { name := "values", desc := "()Ljava/util/Collection;", sig := { parameters := [], returnType := some (.object "java/util/Collection") }, accessFlags := 1025, code := none }
/-- java/util/Map -/
def k5 : Class := { plain "java/util/Map" (some 0) with
  accessFlags := 1537
  interfaces := #[]
  cf := some (fileOf pool5 2 #[.nestMembers #[36]] #[{ accessFlags := 1025, nameIndex := 133, descriptorIndex := 134, attributes := #[] }] 1537 93 #[] #[])
  fields := #[]
  methods := #[k5m0]
  instanceTypes := #[]
  staticTypes := #[]
  resolved := Array.replicate 263 none
  statics := none }

def pool6 : Array CpInfo := pool [(1, .methodref 2 3), (0, .class_ 4), (0, .nameAndType 5 6), (0, u "java/lang/Object"), (0, u "<init>"), (0, u "()V"), (1, .class_ 10), (1, u "java/util/AbstractMap"), (42, .class_ 54), (0, u "java/util/Map"), (9, u "keySet"), (0, u "Ljava/util/Set;"), (0, .class_ 67), (0, u "java/util/AbstractMap$1"), (5, u "values"), (0, u "Ljava/util/Collection;"), (0, .class_ 76), (0, u "java/util/AbstractMap$2"), (104, .class_ 182), (0, u "java/util/AbstractMap$ViewCollection"), (0, .class_ 184), (0, u "java/util/AbstractMap$SimpleImmutableEntry"), (0, .class_ 186), (0, u "java/util/AbstractMap$SimpleEntry"), (0, .class_ 188), (0, u "java/util/AbstractMap$2$1"), (0, .class_ 190), (0, u "java/util/AbstractMap$1$1")] 5

def k6c0 : Code := { maxStack := 1, maxLocals := 1, code := jdk_71_method_1_code, exceptionTable := #[], attributes := #[] }
def k6m0 : Method := { name := "<init>", desc := "()V", sig := { parameters := [], returnType := none }, accessFlags := 4, code := some k6c0 }
/-- java/util/AbstractMap -/
def k6 : Class := { plain "java/util/AbstractMap" (some 0) with
  accessFlags := 1057
  interfaces := #[5]
  cf := some (fileOf pool6 8 #[.nestMembers #[181, 183, 185, 75, 187, 66, 189]] #[{ accessFlags := 4, nameIndex := 5, descriptorIndex := 6, attributes := #[] }] 1057 2 #[53] #[{ accessFlags := 128, nameIndex := 64, descriptorIndex := 65, attributes := #[] }, { accessFlags := 128, nameIndex := 73, descriptorIndex := 74, attributes := #[] }])
  fields := #[{ name := "keySet", type := (.object "java/util/Set"), accessFlags := 128, slot := 0, constantValue := 0 }, { name := "values", type := (.object "java/util/Collection"), accessFlags := 128, slot := 1, constantValue := 0 }]
  methods := #[k6m0]
  instanceTypes := #[(.object "java/util/Set"), (.object "java/util/Collection")]
  staticTypes := #[]
  resolved := Array.replicate 196 none
  statics := none }

def pool7 : Array CpInfo := pool [(1, .class_ 2), (0, u "java/lang/Cloneable"), (0, .class_ 4), (0, u "java/lang/Object")] 2

/-- java/lang/Cloneable -/
def k7 : Class := { plain "java/lang/Cloneable" (some 0) with
  accessFlags := 1537
  interfaces := #[]
  cf := some (fileOf pool7 1 #[] #[] 1537 3 #[] #[])
  fields := #[]
  methods := #[]
  instanceTypes := #[]
  staticTypes := #[]
  resolved := Array.replicate 7 none
  statics := none }

def pool8 : Array CpInfo := pool [(1, .class_ 2), (0, u "java/io/Serializable"), (0, .class_ 4), (0, u "java/lang/Object")] 2

/-- java/io/Serializable -/
def k8 : Class := { plain "java/io/Serializable" (some 0) with
  accessFlags := 1537
  interfaces := #[]
  cf := some (fileOf pool8 1 #[] #[] 1537 3 #[] #[])
  fields := #[]
  methods := #[]
  instanceTypes := #[]
  staticTypes := #[]
  resolved := Array.replicate 7 none
  statics := none }

def pool9 : Array CpInfo := pool [(40, .class_ 41), (0, u "java/util/HashMap"), (1, .methodref 44 45), (0, .class_ 46), (0, .nameAndType 47 48), (0, u "java/util/AbstractMap"), (0, u "<init>"), (0, u "()V"), (32, .fieldref 40 82), (0, .nameAndType 83 84), (0, u "loadFactor"), (0, u "F"), (5, u "threshold"), (0, u "I"), (0, .float 1061158912), (8, .class_ 103), (1, u "java/util/Map"), (0, u "size"), (2, u "table"), (0, u "[Ljava/util/HashMap$Node;"), (14, u "entrySet"), (39, .class_ 165), (1, u "java/util/HashMap$Node"), (14, .class_ 181), (0, u "java/util/HashMap$TreeNode"), (22, u "modCount"), (37, u "Ljava/util/Set;"), (0, .class_ 244), (0, u "java/util/HashMap$KeySet"), (1, .nameAndType 47 247), (0, u "(Ljava/util/HashMap;)V"), (11, .fieldref 40 260), (0, .nameAndType 261 262), (0, u "values"), (0, u "Ljava/util/Collection;"), (0, .class_ 264), (0, u "java/util/HashMap$Values"), (0, .methodref 263 246), (2, .class_ 269), (0, u "java/util/HashMap$EntrySet"), (76, .class_ 348), (1, u "java/util/HashMap$UnsafeHolder"), (43, .class_ 393), (0, u "java/lang/Cloneable"), (0, .class_ 395), (0, u "java/io/Serializable"), (0, u "serialVersionUID"), (0, u "J"), (3, u "DEFAULT_INITIAL_CAPACITY"), (1, u "MAXIMUM_CAPACITY"), (0, u "DEFAULT_LOAD_FACTOR"), (0, u "TREEIFY_THRESHOLD"), (1, u "UNTREEIFY_THRESHOLD"), (1, u "MIN_TREEIFY_CAPACITY"), (106, u "()Ljava/util/Collection;"), (79, .class_ 597), (0, u "java/util/HashMap$EntrySpliterator"), (0, .class_ 599), (0, u "java/util/HashMap$ValueSpliterator"), (0, .class_ 601), (0, u "java/util/HashMap$KeySpliterator"), (0, .class_ 603), (0, u "java/util/HashMap$HashMapSpliterator"), (0, .class_ 605), (0, u "java/util/HashMap$EntryIterator"), (0, .class_ 607), (0, u "java/util/HashMap$ValueIterator"), (0, .class_ 609), (0, u "java/util/HashMap$KeyIterator"), (0, .class_ 611), (0, u "java/util/HashMap$HashIterator")] 17

def k9c0 : Code := { maxStack := 2, maxLocals := 1, code := jdk_69_method_7_code, exceptionTable := #[], attributes := #[] }
def k9m0 : Method := { name := "<init>", desc := "()V", sig := { parameters := [], returnType := none }, accessFlags := 1, code := some k9c0 }
def k9c1 : Code := { maxStack := 3, maxLocals := 2, code := jdk_69_method_28_code, exceptionTable := #[], attributes := #[] }
def k9m1 : Method := { name := "values", desc := "()Ljava/util/Collection;", sig := { parameters := [], returnType := some (.object "java/util/Collection") }, accessFlags := 1, code := some k9c1 }
/-- java/util/HashMap -/
def k9 : Class := { plain "java/util/HashMap" (some 6) with
  accessFlags := 33
  interfaces := #[5, 7, 8]
  cf := some (fileOf pool9 40 #[.nestMembers #[180, 596, 598, 600, 602, 604, 606, 608, 610, 346, 268, 263, 243, 163]] #[{ accessFlags := 1, nameIndex := 47, descriptorIndex := 48, attributes := #[] }, { accessFlags := 1, nameIndex := 261, descriptorIndex := 516, attributes := #[] }] 33 44 #[101, 392, 394] #[{ accessFlags := 26, nameIndex := 396, descriptorIndex := 397, attributes := #[] }, { accessFlags := 24, nameIndex := 401, descriptorIndex := 91, attributes := #[] }, { accessFlags := 24, nameIndex := 403, descriptorIndex := 91, attributes := #[] }, { accessFlags := 24, nameIndex := 404, descriptorIndex := 84, attributes := #[] }, { accessFlags := 24, nameIndex := 405, descriptorIndex := 91, attributes := #[] }, { accessFlags := 24, nameIndex := 407, descriptorIndex := 91, attributes := #[] }, { accessFlags := 24, nameIndex := 409, descriptorIndex := 91, attributes := #[] }, { accessFlags := 128, nameIndex := 107, descriptorIndex := 108, attributes := #[] }, { accessFlags := 128, nameIndex := 123, descriptorIndex := 242, attributes := #[] }, { accessFlags := 128, nameIndex := 104, descriptorIndex := 91, attributes := #[] }, { accessFlags := 128, nameIndex := 204, descriptorIndex := 91, attributes := #[] }, { accessFlags := 0, nameIndex := 90, descriptorIndex := 91, attributes := #[] }, { accessFlags := 16, nameIndex := 83, descriptorIndex := 84, attributes := #[] }])
  fields := #[{ name := "serialVersionUID", type := .long, accessFlags := 26, slot := 0, constantValue := 0 }, { name := "DEFAULT_INITIAL_CAPACITY", type := .int, accessFlags := 24, slot := 1, constantValue := 0 }, { name := "MAXIMUM_CAPACITY", type := .int, accessFlags := 24, slot := 2, constantValue := 0 }, { name := "DEFAULT_LOAD_FACTOR", type := .float, accessFlags := 24, slot := 3, constantValue := 0 }, { name := "TREEIFY_THRESHOLD", type := .int, accessFlags := 24, slot := 4, constantValue := 0 }, { name := "UNTREEIFY_THRESHOLD", type := .int, accessFlags := 24, slot := 5, constantValue := 0 }, { name := "MIN_TREEIFY_CAPACITY", type := .int, accessFlags := 24, slot := 6, constantValue := 0 }, { name := "table", type := (.array (.object "java/util/HashMap$Node")), accessFlags := 128, slot := 2, constantValue := 0 }, { name := "entrySet", type := (.object "java/util/Set"), accessFlags := 128, slot := 3, constantValue := 0 }, { name := "size", type := .int, accessFlags := 128, slot := 4, constantValue := 0 }, { name := "modCount", type := .int, accessFlags := 128, slot := 5, constantValue := 0 }, { name := "threshold", type := .int, accessFlags := 0, slot := 6, constantValue := 0 }, { name := "loadFactor", type := .float, accessFlags := 16, slot := 7, constantValue := 0 }]
  methods := #[k9m0, k9m1]
  instanceTypes := #[(.object "java/util/Set"), (.object "java/util/Collection"), (.array (.object "java/util/HashMap$Node")), (.object "java/util/Set"), .int, .int, .int, .float]
  staticTypes := #[.long, .int, .int, .float, .int, .int, .int]
  resolved := Array.replicate 629 none
  statics := none }

def pool10 : Array CpInfo := pool [(2, .class_ 4), (1, u "java/lang/Object"), (0, u "<init>"), (0, u "()V"), (7, .class_ 16), (1, u "java/util/Arrays"), (57, .class_ 76), (1, u "java/util/Arrays$NaturalOrder"), (36, .class_ 115), (1, u "java/util/Arrays$LegacyMergeSort"), (1, u "Z"), (257, .class_ 376), (0, u "java/util/Arrays$ArrayList"), (68, u "$assertionsDisabled"), (269, u "MIN_ARRAY_SORT_GRAN"), (0, u "I"), (2, u "INSERTIONSORT_THRESHOLD"), (120, u "fill"), (4, u "([II)V"), (129, .class_ 976), (0, u "java/util/Arrays$ArrayItr")] 52

def k10m0 : Method := { name := "<init>", desc := "()V", sig := { parameters := [], returnType := none }, accessFlags := 2, code := none }
def k10c1 : Code := { maxStack := 3, maxLocals := 4, code := jdk_65_method_103_code, exceptionTable := #[], attributes := #[] }
def k10m1 : Method := { name := "fill", desc := "([II)V", sig := { parameters := [(.array .int), .int], returnType := none }, accessFlags := 9, code := some k10c1 }
/-- java/util/Arrays -/
def k10 : Class := { plain "java/util/Arrays" (some 0) with
  accessFlags := 49
  interfaces := #[]
  cf := some (fileOf pool10 14 #[.nestMembers #[975, 375, 113, 74]] #[{ accessFlags := 2, nameIndex := 5, descriptorIndex := 6, attributes := #[] }, { accessFlags := 9, nameIndex := 840, descriptorIndex := 845, attributes := #[] }] 49 2 #[] #[{ accessFlags := 26, nameIndex := 715, descriptorIndex := 716, attributes := #[] }, { accessFlags := 26, nameIndex := 719, descriptorIndex := 716, attributes := #[] }, { accessFlags := 4120, nameIndex := 445, descriptorIndex := 117, attributes := #[] }])
  fields := #[{ name := "MIN_ARRAY_SORT_GRAN", type := .int, accessFlags := 26, slot := 0, constantValue := 0 }, { name := "INSERTIONSORT_THRESHOLD", type := .int, accessFlags := 26, slot := 1, constantValue := 0 }, { name := "$assertionsDisabled", type := .boolean, accessFlags := 4120, slot := 2, constantValue := 0 }]
  methods := #[k10m0, k10m1]
  instanceTypes := #[]
  staticTypes := #[.int, .int, .boolean]
  resolved := Array.replicate 1029 none
  statics := none }

def pool11 : Array CpInfo := pool [(1, .methodref 2 3), (0, .class_ 4), (0, .nameAndType 5 6), (0, u "java/lang/Object"), (0, u "<init>"), (0, u "()V"), (0, .fieldref 8 9), (0, .class_ 10), (0, .nameAndType 11 12), (0, u "com/example/pointfold/pointfold/datalog/TupleIndex"), (0, u "capacity"), (0, u "I"), (0, .class_ 14), (0, u "com/example/pointfold/pointfold/datalog/IntBlocks"), (0, .methodref 13 16), (0, .nameAndType 5 17), (0, u "(I)V"), (0, .fieldref 8 19), (0, .nameAndType 20 21), (0, u "buckets"), (0, u "Lcom/example/pointfold/pointfold/datalog/IntBlocks;"), (0, .class_ 23), (0, u "com/example/pointfold/pointfold/datalog/HashFilter"), (0, .methodref 22 16), (0, .fieldref 8 26), (0, .nameAndType 27 28), (0, u "filter"), (0, u "Lcom/example/pointfold/pointfold/datalog/HashFilter;"), (0, .methodref 13 3), (0, .fieldref 8 31), (0, .nameAndType 32 21), (0, u "next"), (0, .fieldref 8 34), (0, .nameAndType 35 36), (0, u "relation"), (0, u "Lcom/example/pointfold/pointfold/datalog/FlatRelation;"), (0, .fieldref 8 38), (0, .nameAndType 39 40), (0, u "columns"), (0, u "[I"), (0, .fieldref 8 42), (0, .nameAndType 43 12), (0, u "count"), (3, .methodref 8 48), (0, .nameAndType 49 17), (0, u "link"), (0, .methodref 8 51), (0, .nameAndType 52 53), (0, u "hashKey"), (0, u "([I)I"), (0, .methodref 22 55), (0, .nameAndType 56 57), (0, u "mayHold"), (0, u "(I)Z"), (0, .methodref 13 59), (0, .nameAndType 60 61), (0, u "get"), (0, u "(I)I"), (0, .methodref 8 63), (0, .nameAndType 64 65), (0, u "match"), (0, u "(I[I)I"), (0, .methodref 67 68), (0, .class_ 69), (0, .nameAndType 70 71), (0, u "com/example/pointfold/pointfold/datalog/FlatRelation"), (0, u "holds"), (0, u "(I[I[I)Z"), (0, .methodref 67 73), (0, .nameAndType 74 75), (0, u "value"), (0, u "(II)I"), (0, .methodref 77 78), (0, .class_ 79), (0, .nameAndType 80 75), (0, u "com/example/pointfold/pointfold/datalog/Relation"), (0, u "combine"), (0, .methodref 13 82), (0, .nameAndType 83 84), (0, u "set"), (0, u "(II)V"), (0, .methodref 22 86), (0, .nameAndType 87 17), (0, u "add"), (0, u "END"), (2, u "(Lcom/example/pointfold/pointfold/datalog/FlatRelation;[I)V"), (3, u "find")] 4

def k11c0 : Code := { maxStack := 4, maxLocals := 3, code := prog_55_method_1_code, exceptionTable := #[], attributes := #[] }
def k11m0 : Method := { name := "<init>", desc := "(Lcom/example/pointfold/pointfold/datalog/FlatRelation;[I)V", sig := { parameters := [(.object "com/example/pointfold/pointfold/datalog/FlatRelation"), (.array .int)], returnType := none }, accessFlags := 0, code := some k11c0 }
def k11c1 : Code := { maxStack := 3, maxLocals := 2, code := prog_55_method_2_code, exceptionTable := #[], attributes := #[] }
def k11m1 : Method := { name := "add", desc := "(I)V", sig := { parameters := [.int], returnType := none }, accessFlags := 0, code := some k11c1 }
def k11c2 : Code := { maxStack := 5, maxLocals := 3, code := prog_55_method_3_code, exceptionTable := #[], attributes := #[] }
def k11m2 : Method := { name := "find", desc := "([I)I", sig := { parameters := [(.array .int)], returnType := some .int }, accessFlags := 0, code := some k11c2 }
def k11c3 : Code := { maxStack := 4, maxLocals := 4, code := prog_55_method_5_code, exceptionTable := #[], attributes := #[] }
def k11m3 : Method := { name := "match", desc := "(I[I)I", sig := { parameters := [.int, (.array .int)], returnType := some .int }, accessFlags := 2, code := some k11c3 }
def k11c4 : Code := { maxStack := 4, maxLocals := 7, code := prog_55_method_6_code, exceptionTable := #[], attributes := #[] }
def k11m4 : Method := { name := "link", desc := "(I)V", sig := { parameters := [.int], returnType := none }, accessFlags := 2, code := some k11c4 }
def k11c5 : Code := { maxStack := 2, maxLocals := 6, code := prog_55_method_8_code, exceptionTable := #[], attributes := #[] }
def k11m5 : Method := { name := "hashKey", desc := "([I)I", sig := { parameters := [(.array .int)], returnType := some .int }, accessFlags := 10, code := some k11c5 }
/-- com/example/pointfold/pointfold/datalog/TupleIndex -/
def k11 : Class := { plain "com/example/pointfold/pointfold/datalog/TupleIndex" (some 0) with
  accessFlags := 48
  interfaces := #[]
  cf := some (fileOf pool11 8 #[] #[{ accessFlags := 0, nameIndex := 5, descriptorIndex := 91, attributes := #[] }, { accessFlags := 0, nameIndex := 87, descriptorIndex := 17, attributes := #[] }, { accessFlags := 0, nameIndex := 95, descriptorIndex := 53, attributes := #[] }, { accessFlags := 2, nameIndex := 64, descriptorIndex := 65, attributes := #[] }, { accessFlags := 2, nameIndex := 49, descriptorIndex := 17, attributes := #[] }, { accessFlags := 10, nameIndex := 52, descriptorIndex := 53, attributes := #[] }] 48 2 #[] #[{ accessFlags := 26, nameIndex := 88, descriptorIndex := 12, attributes := #[] }, { accessFlags := 18, nameIndex := 35, descriptorIndex := 36, attributes := #[] }, { accessFlags := 18, nameIndex := 39, descriptorIndex := 40, attributes := #[] }, { accessFlags := 2, nameIndex := 11, descriptorIndex := 12, attributes := #[] }, { accessFlags := 2, nameIndex := 20, descriptorIndex := 21, attributes := #[] }, { accessFlags := 2, nameIndex := 27, descriptorIndex := 28, attributes := #[] }, { accessFlags := 18, nameIndex := 32, descriptorIndex := 21, attributes := #[] }, { accessFlags := 2, nameIndex := 43, descriptorIndex := 12, attributes := #[] }])
  fields := #[{ name := "END", type := .int, accessFlags := 26, slot := 0, constantValue := 0 }, { name := "relation", type := (.object "com/example/pointfold/pointfold/datalog/FlatRelation"), accessFlags := 18, slot := 0, constantValue := 0 }, { name := "columns", type := (.array .int), accessFlags := 18, slot := 1, constantValue := 0 }, { name := "capacity", type := .int, accessFlags := 2, slot := 2, constantValue := 0 }, { name := "buckets", type := (.object "com/example/pointfold/pointfold/datalog/IntBlocks"), accessFlags := 2, slot := 3, constantValue := 0 }, { name := "filter", type := (.object "com/example/pointfold/pointfold/datalog/HashFilter"), accessFlags := 2, slot := 4, constantValue := 0 }, { name := "next", type := (.object "com/example/pointfold/pointfold/datalog/IntBlocks"), accessFlags := 18, slot := 5, constantValue := 0 }, { name := "count", type := .int, accessFlags := 2, slot := 6, constantValue := 0 }]
  methods := #[k11m0, k11m1, k11m2, k11m3, k11m4, k11m5]
  instanceTypes := #[(.object "com/example/pointfold/pointfold/datalog/FlatRelation"), (.array .int), .int, (.object "com/example/pointfold/pointfold/datalog/IntBlocks"), (.object "com/example/pointfold/pointfold/datalog/HashFilter"), (.object "com/example/pointfold/pointfold/datalog/IntBlocks"), .int]
  staticTypes := #[.int]
  resolved := Array.replicate 100 none
  statics := none }

def pool12 : Array CpInfo := pool [(1, .class_ 2), (0, u "java/lang/Math"), (1, .class_ 6), (1, u "java/lang/Object"), (0, u "<init>"), (0, u "()V"), (89, .class_ 100), (1, u "java/lang/Math$RandomNumberGeneratorHolder"), (71, u "negativeZeroFloatBits"), (0, u "J"), (2, u "negativeZeroDoubleBits"), (21, u "max"), (46, u "$assertionsDisabled"), (0, u "Z"), (88, u "(II)I"), (2, u "twoToTheDoubleScaleDown"), (0, u "D"), (4, u "twoToTheDoubleScaleUp"), (9, u "E"), (3, u "PI"), (2, u "TAU"), (2, u "DEGREES_TO_RADIANS"), (0, u "RADIANS_TO_DEGREES")] 94

def k12m0 : Method := { name := "<init>", desc := "()V", sig := { parameters := [], returnType := none }, accessFlags := 2, code := none }
def k12c1 : Code := { maxStack := 2, maxLocals := 2, code := jdk_29_method_65_code, exceptionTable := #[], attributes := #[] }
def k12m1 : Method := { name := "max", desc := "(II)I", sig := { parameters := [.int, .int], returnType := some .int }, accessFlags := 9, code := some k12c1 }
/-- java/lang/Math -/
def k12 : Class := { plain "java/lang/Math" (some 0) with
  accessFlags := 49
  interfaces := #[]
  cf := some (fileOf pool12 1 #[.nestMembers #[98]] #[{ accessFlags := 2, nameIndex := 7, descriptorIndex := 8, attributes := #[] }, { accessFlags := 9, nameIndex := 198, descriptorIndex := 335, attributes := #[] }] 49 4 #[] #[{ accessFlags := 25, nameIndex := 354, descriptorIndex := 339, attributes := #[] }, { accessFlags := 25, nameIndex := 358, descriptorIndex := 339, attributes := #[] }, { accessFlags := 25, nameIndex := 361, descriptorIndex := 339, attributes := #[] }, { accessFlags := 26, nameIndex := 364, descriptorIndex := 339, attributes := #[] }, { accessFlags := 26, nameIndex := 365, descriptorIndex := 339, attributes := #[] }, { accessFlags := 26, nameIndex := 172, descriptorIndex := 173, attributes := #[] }, { accessFlags := 26, nameIndex := 176, descriptorIndex := 173, attributes := #[] }, { accessFlags := 8, nameIndex := 344, descriptorIndex := 339, attributes := #[] }, { accessFlags := 8, nameIndex := 338, descriptorIndex := 339, attributes := #[] }, { accessFlags := 4120, nameIndex := 245, descriptorIndex := 246, attributes := #[] }])
  fields := #[{ name := "E", type := .double, accessFlags := 25, slot := 0, constantValue := 0 }, { name := "PI", type := .double, accessFlags := 25, slot := 1, constantValue := 0 }, { name := "TAU", type := .double, accessFlags := 25, slot := 2, constantValue := 0 }, { name := "DEGREES_TO_RADIANS", type := .double, accessFlags := 26, slot := 3, constantValue := 0 }, { name := "RADIANS_TO_DEGREES", type := .double, accessFlags := 26, slot := 4, constantValue := 0 }, { name := "negativeZeroFloatBits", type := .long, accessFlags := 26, slot := 5, constantValue := 0 }, { name := "negativeZeroDoubleBits", type := .long, accessFlags := 26, slot := 6, constantValue := 0 }, { name := "twoToTheDoubleScaleUp", type := .double, accessFlags := 8, slot := 7, constantValue := 0 }, { name := "twoToTheDoubleScaleDown", type := .double, accessFlags := 8, slot := 8, constantValue := 0 }, { name := "$assertionsDisabled", type := .boolean, accessFlags := 4120, slot := 9, constantValue := 0 }]
  methods := #[k12m0, k12m1]
  instanceTypes := #[]
  staticTypes := #[.double, .double, .double, .double, .double, .long, .long, .double, .double, .boolean]
  resolved := Array.replicate 460 none
  statics := none }

def pool13 : Array CpInfo := pool [(1, .methodref 2 3), (0, .class_ 4), (0, .nameAndType 5 6), (0, u "java/lang/Object"), (0, u "<init>"), (0, u "()V"), (0, .fieldref 8 9), (0, .class_ 10), (0, .nameAndType 11 12), (0, u "com/example/pointfold/pointfold/datalog/HashFilter"), (0, u "bits"), (0, u "[J"), (0, .long 8), (1, .fieldref 8 16), (0, .nameAndType 17 18), (0, u "mask"), (0, u "J"), (0, u "(I)V"), (2, u "add"), (0, u "mayHold"), (0, u "(I)Z")] 3

def k13c0 : Code := { maxStack := 5, maxLocals := 2, code := prog_14_method_1_code, exceptionTable := #[], attributes := #[] }
def k13m0 : Method := { name := "<init>", desc := "(I)V", sig := { parameters := [.int], returnType := none }, accessFlags := 0, code := some k13c0 }
def k13c1 : Code := { maxStack := 8, maxLocals := 4, code := prog_14_method_2_code, exceptionTable := #[], attributes := #[] }
def k13m1 : Method := { name := "add", desc := "(I)V", sig := { parameters := [.int], returnType := none }, accessFlags := 0, code := some k13c1 }
def k13c2 : Code := { maxStack := 6, maxLocals := 4, code := prog_14_method_3_code, exceptionTable := #[], attributes := #[] }
def k13m2 : Method := { name := "mayHold", desc := "(I)Z", sig := { parameters := [.int], returnType := some .boolean }, accessFlags := 0, code := some k13c2 }
/-- com/example/pointfold/pointfold/datalog/HashFilter -/
def k13 : Class := { plain "com/example/pointfold/pointfold/datalog/HashFilter" (some 0) with
  accessFlags := 48
  interfaces := #[]
  cf := some (fileOf pool13 8 #[] #[{ accessFlags := 0, nameIndex := 5, descriptorIndex := 19, attributes := #[] }, { accessFlags := 0, nameIndex := 22, descriptorIndex := 19, attributes := #[] }, { accessFlags := 0, nameIndex := 23, descriptorIndex := 24, attributes := #[] }] 48 2 #[] #[{ accessFlags := 18, nameIndex := 11, descriptorIndex := 12, attributes := #[] }, { accessFlags := 18, nameIndex := 17, descriptorIndex := 18, attributes := #[] }])
  fields := #[{ name := "bits", type := (.array .long), accessFlags := 18, slot := 0, constantValue := 0 }, { name := "mask", type := .long, accessFlags := 18, slot := 1, constantValue := 0 }]
  methods := #[k13m0, k13m1, k13m2]
  instanceTypes := #[(.array .long), .long]
  staticTypes := #[]
  resolved := Array.replicate 28 none
  statics := none }

def pool14 : Array CpInfo := pool [(8, .class_ 10), (1, u "java/lang/Iterable"), (24, .class_ 36), (0, u "java/lang/Object")] 25

/-- java/lang/Iterable -/
def k14 : Class := { plain "java/lang/Iterable" (some 0) with
  accessFlags := 1537
  interfaces := #[]
  cf := some (fileOf pool14 8 #[] #[] 1537 35 #[] #[])
  fields := #[]
  methods := #[]
  instanceTypes := #[]
  staticTypes := #[]
  resolved := Array.replicate 62 none
  statics := none }

def pool15 : Array CpInfo := pool [(10, .class_ 12), (1, u "java/util/Collection"), (10, u "iterator"), (0, u "()Ljava/util/Iterator;"), (35, .class_ 61), (0, u "java/lang/Object"), (0, .class_ 63), (0, u "java/lang/Iterable")] 51

def k15m0 : Method := { name := "iterator", desc := "()Ljava/util/Iterator;", sig := { parameters := [], returnType := some (.object "java/util/Iterator") }, accessFlags := 1025, code := none }
/-- java/util/Collection -/
def k15 : Class := { plain "java/util/Collection" (some 0) with
  accessFlags := 1537
  interfaces := #[14]
  cf := some (fileOf pool15 10 #[] #[{ accessFlags := 1025, nameIndex := 23, descriptorIndex := 24, attributes := #[] }] 1537 60 #[62] #[])
  fields := #[]
  methods := #[k15m0]
  instanceTypes := #[]
  staticTypes := #[]
  resolved := Array.replicate 115 none
  statics := none }

def pool16 : Array CpInfo := pool [(1, .methodref 2 3), (0, .class_ 4), (0, .nameAndType 5 6), (0, u "java/lang/Object"), (0, u "<init>"), (0, u "()V"), (1, .class_ 10), (1, u "java/util/AbstractCollection"), (66, .class_ 78), (0, u "java/util/Collection")] 81

def k16c0 : Code := { maxStack := 1, maxLocals := 1, code := jdk_22_method_1_code, exceptionTable := #[], attributes := #[] }
def k16m0 : Method := { name := "<init>", desc := "()V", sig := { parameters := [], returnType := none }, accessFlags := 4, code := some k16c0 }
/-- java/util/AbstractCollection -/
def k16 : Class := { plain "java/util/AbstractCollection" (some 0) with
  accessFlags := 1057
  interfaces := #[15]
  cf := some (fileOf pool16 8 #[] #[{ accessFlags := 4, nameIndex := 5, descriptorIndex := 6, attributes := #[] }] 1057 2 #[77] #[])
  fields := #[]
  methods := #[k16m0]
  instanceTypes := #[]
  staticTypes := #[]
  resolved := Array.replicate 160 none
  statics := none }

def pool17 : Array CpInfo := pool [(1, .fieldref 2 3), (0, .class_ 4), (0, .nameAndType 5 6), (0, u "java/util/HashMap$Values"), (0, u "this$0"), (0, u "Ljava/util/HashMap;"), (0, .methodref 8 9), (0, .class_ 10), (0, .nameAndType 11 12), (0, u "java/util/AbstractCollection"), (0, u "<init>"), (0, u "()V"), (1, .class_ 16), (1, u "java/util/HashMap"), (5, .class_ 23), (0, u "java/util/HashMap$ValueIterator"), (0, .methodref 22 25), (0, .nameAndType 11 26), (0, u "(Ljava/util/HashMap;)V"), (56, u "iterator"), (0, u "()Ljava/util/Iterator;")] 35

def k17c0 : Code := { maxStack := 2, maxLocals := 2, code := jdk_2571_method_1_code, exceptionTable := #[], attributes := #[] }
def k17m0 : Method := { name := "<init>", desc := "(Ljava/util/HashMap;)V", sig := { parameters := [(.object "java/util/HashMap")], returnType := none }, accessFlags := 0, code := some k17c0 }
def k17c1 : Code := { maxStack := 3, maxLocals := 1, code := jdk_2571_method_4_code, exceptionTable := #[], attributes := #[] }
def k17m1 : Method := { name := "iterator", desc := "()Ljava/util/Iterator;", sig := { parameters := [], returnType := some (.object "java/util/Iterator") }, accessFlags := 17, code := some k17c1 }
/-- java/util/HashMap$Values -/
def k17 : Class := { plain "java/util/HashMap$Values" (some 16) with
  accessFlags := 48
  interfaces := #[]
  cf := some (fileOf pool17 2 #[.nestHost 14] #[{ accessFlags := 0, nameIndex := 11, descriptorIndex := 26, attributes := #[] }, { accessFlags := 17, nameIndex := 83, descriptorIndex := 84, attributes := #[] }] 48 8 #[] #[{ accessFlags := 4112, nameIndex := 5, descriptorIndex := 6, attributes := #[] }])
  fields := #[{ name := "this$0", type := (.object "java/util/HashMap"), accessFlags := 4112, slot := 0, constantValue := 0 }]
  methods := #[k17m0, k17m1]
  instanceTypes := #[(.object "java/util/HashMap")]
  staticTypes := #[]
  resolved := Array.replicate 120 none
  statics := none }

def pool18 : Array CpInfo := pool [(1, .fieldref 2 3), (0, .class_ 4), (0, .nameAndType 5 6), (0, u "java/util/HashMap$HashIterator"), (0, u "this$0"), (0, u "Ljava/util/HashMap;"), (0, .methodref 8 9), (0, .class_ 10), (0, .nameAndType 11 12), (0, u "java/lang/Object"), (0, u "<init>"), (0, u "()V"), (0, .fieldref 14 15), (0, .class_ 16), (0, .nameAndType 17 18), (0, u "java/util/HashMap"), (0, u "modCount"), (0, u "I"), (0, .fieldref 2 20), (0, .nameAndType 21 18), (0, u "expectedModCount"), (0, .fieldref 14 23), (0, .nameAndType 24 25), (0, u "table"), (0, u "[Ljava/util/HashMap$Node;"), (0, .fieldref 2 27), (0, .nameAndType 28 29), (0, u "next"), (0, u "Ljava/util/HashMap$Node;"), (0, .fieldref 2 31), (0, .nameAndType 32 29), (0, u "current"), (0, .fieldref 2 34), (0, .nameAndType 35 18), (0, u "index"), (28, u "(Ljava/util/HashMap;)V"), (12, u "hasNext"), (0, u "()Z")] 12

def k18c0 : Code := { maxStack := 6, maxLocals := 3, code := jdk_99_method_1_code, exceptionTable := #[], attributes := #[] }
def k18m0 : Method := { name := "<init>", desc := "(Ljava/util/HashMap;)V", sig := { parameters := [(.object "java/util/HashMap")], returnType := none }, accessFlags := 0, code := some k18c0 }
def k18c1 : Code := { maxStack := 1, maxLocals := 1, code := jdk_99_method_2_code, exceptionTable := #[], attributes := #[] }
def k18m1 : Method := { name := "hasNext", desc := "()Z", sig := { parameters := [], returnType := some .boolean }, accessFlags := 17, code := some k18c1 }
/-- java/util/HashMap$HashIterator -/
def k18 : Class := { plain "java/util/HashMap$HashIterator" (some 0) with
  accessFlags := 1056
  interfaces := #[]
  cf := some (fileOf pool18 2 #[.nestHost 14] #[{ accessFlags := 0, nameIndex := 11, descriptorIndex := 64, attributes := #[] }, { accessFlags := 17, nameIndex := 77, descriptorIndex := 78, attributes := #[] }] 1056 8 #[] #[{ accessFlags := 0, nameIndex := 28, descriptorIndex := 29, attributes := #[] }, { accessFlags := 0, nameIndex := 32, descriptorIndex := 29, attributes := #[] }, { accessFlags := 0, nameIndex := 21, descriptorIndex := 18, attributes := #[] }, { accessFlags := 0, nameIndex := 35, descriptorIndex := 18, attributes := #[] }, { accessFlags := 4112, nameIndex := 5, descriptorIndex := 6, attributes := #[] }])
  fields := #[{ name := "next", type := (.object "java/util/HashMap$Node"), accessFlags := 0, slot := 0, constantValue := 0 }, { name := "current", type := (.object "java/util/HashMap$Node"), accessFlags := 0, slot := 1, constantValue := 0 }, { name := "expectedModCount", type := .int, accessFlags := 0, slot := 2, constantValue := 0 }, { name := "index", type := .int, accessFlags := 0, slot := 3, constantValue := 0 }, { name := "this$0", type := (.object "java/util/HashMap"), accessFlags := 4112, slot := 4, constantValue := 0 }]
  methods := #[k18m0, k18m1]
  instanceTypes := #[(.object "java/util/HashMap$Node"), (.object "java/util/HashMap$Node"), .int, .int, (.object "java/util/HashMap")]
  staticTypes := #[]
  resolved := Array.replicate 91 none
  statics := none }

def pool19 : Array CpInfo := pool [(16, .class_ 18), (1, u "java/util/Iterator"), (0, u "hasNext"), (0, u "()Z"), (10, .class_ 32), (0, u "java/lang/Object")] 20

def k19m0 : Method := { name := "hasNext", desc := "()Z", sig := { parameters := [], returnType := some .boolean }, accessFlags := 1025, code := none }
/-- java/util/Iterator -/
def k19 : Class := { plain "java/util/Iterator" (some 0) with
  accessFlags := 1537
  interfaces := #[]
  cf := some (fileOf pool19 16 #[] #[{ accessFlags := 1025, nameIndex := 19, descriptorIndex := 20, attributes := #[] }] 1537 31 #[] #[])
  fields := #[]
  methods := #[k19m0]
  instanceTypes := #[]
  staticTypes := #[]
  resolved := Array.replicate 53 none
  statics := none }

def pool20 : Array CpInfo := pool [(1, .methodref 2 3), (0, .class_ 4), (0, .nameAndType 5 6), (0, u "java/util/HashMap$HashIterator"), (0, u "<init>"), (0, u "(Ljava/util/HashMap;)V"), (1, .class_ 10), (1, u "java/util/HashMap$ValueIterator"), (8, .class_ 20), (0, u "java/util/Iterator"), (18, .class_ 40), (0, u "java/util/HashMap")] 4

def k20c0 : Code := { maxStack := 2, maxLocals := 2, code := jdk_2569_method_1_code, exceptionTable := #[], attributes := #[] }
def k20m0 : Method := { name := "<init>", desc := "(Ljava/util/HashMap;)V", sig := { parameters := [(.object "java/util/HashMap")], returnType := none }, accessFlags := 0, code := some k20c0 }
/-- java/util/HashMap$ValueIterator -/
def k20 : Class := { plain "java/util/HashMap$ValueIterator" (some 18) with
  accessFlags := 48
  interfaces := #[19]
  cf := some (fileOf pool20 8 #[.nestHost 39] #[{ accessFlags := 0, nameIndex := 5, descriptorIndex := 6, attributes := #[] }] 48 2 #[19] #[])
  fields := #[]
  methods := #[k20m0]
  instanceTypes := #[(.object "java/util/HashMap$Node"), (.object "java/util/HashMap$Node"), .int, .int, (.object "java/util/HashMap")]
  staticTypes := #[]
  resolved := Array.replicate 45 none
  statics := none }

def pool21 : Array CpInfo := pool [(1, .class_ 2), (0, u "com/example/pointfold/pointfold/datalog/Relation$Cursor"), (0, .class_ 4), (0, u "java/lang/Object"), (0, u "first"), (0, u "([I)Z"), (7, .class_ 15), (0, u "com/example/pointfold/pointfold/datalog/Relation")] 2

def k21m0 : Method := { name := "first", desc := "([I)Z", sig := { parameters := [(.array .int)], returnType := some .boolean }, accessFlags := 1025, code := none }
/-- com/example/pointfold/pointfold/datalog/Relation$Cursor -/
def k21 : Class := { plain "com/example/pointfold/pointfold/datalog/Relation$Cursor" (some 0) with
  accessFlags := 1536
  interfaces := #[]
  cf := some (fileOf pool21 1 #[.nestHost 14] #[{ accessFlags := 1025, nameIndex := 5, descriptorIndex := 6, attributes := #[] }] 1536 3 #[] #[])
  fields := #[]
  methods := #[k21m0]
  instanceTypes := #[]
  staticTypes := #[]
  resolved := Array.replicate 18 none
  statics := none }

def pool22 : Array CpInfo := pool [(1, .fieldref 2 3), (0, .class_ 4), (0, .nameAndType 5 6), (0, u "com/example/pointfold/pointfold/datalog/FlatRelation$RangeCursor"), (0, u "this$0"), (0, u "Lcom/example/pointfold/pointfold/datalog/FlatRelation;"), (0, .methodref 8 9), (0, .class_ 10), (0, .nameAndType 11 12), (0, u "java/lang/Object"), (0, u "<init>"), (0, u "()V"), (0, .fieldref 2 14), (0, .nameAndType 15 16), (0, u "columns"), (0, u "[I"), (0, .fieldref 2 18), (0, .nameAndType 19 20), (0, u "delta"), (0, u "Z"), (0, .fieldref 2 22), (0, .nameAndType 23 16), (0, u "key"), (0, .fieldref 25 26), (0, .class_ 27), (0, .nameAndType 28 29), (0, u "com/example/pointfold/pointfold/datalog/FlatRelation"), (0, u "deltaStart"), (0, u "I"), (0, .fieldref 2 31), (0, .nameAndType 32 29), (0, u "tuple"), (0, .fieldref 25 34), (0, .nameAndType 35 29), (0, u "deltaEnd"), (0, .fieldref 25 37), (0, .nameAndType 38 29), (0, u "size"), (0, .fieldref 2 40), (0, .nameAndType 41 29), (0, u "end"), (0, .methodref 2 43), (0, .nameAndType 44 45), (0, u "next"), (0, u "()Z"), (0, .methodref 25 47), (0, .nameAndType 48 49), (0, u "holds"), (0, u "(I[I[I)Z"), (4, .class_ 55), (0, u "com/example/pointfold/pointfold/datalog/Relation$Cursor"), (0, u "(Lcom/example/pointfold/pointfold/datalog/FlatRelation;[IZ)V"), (3, u "first"), (0, u "([I)Z")] 11

def k22c0 : Code := { maxStack := 2, maxLocals := 4, code := prog_12_method_1_code, exceptionTable := #[], attributes := #[] }
def k22m0 : Method := { name := "<init>", desc := "(Lcom/example/pointfold/pointfold/datalog/FlatRelation;[IZ)V", sig := { parameters := [(.object "com/example/pointfold/pointfold/datalog/FlatRelation"), (.array .int), .boolean], returnType := none }, accessFlags := 0, code := some k22c0 }
def k22c1 : Code := { maxStack := 3, maxLocals := 2, code := prog_12_method_2_code, exceptionTable := #[], attributes := #[] }
def k22m1 : Method := { name := "first", desc := "([I)Z", sig := { parameters := [(.array .int)], returnType := some .boolean }, accessFlags := 1, code := some k22c1 }
def k22c2 : Code := { maxStack := 4, maxLocals := 1, code := prog_12_method_3_code, exceptionTable := #[], attributes := #[] }
def k22m2 : Method := { name := "next", desc := "()Z", sig := { parameters := [], returnType := some .boolean }, accessFlags := 1, code := some k22c2 }
/-- com/example/pointfold/pointfold/datalog/FlatRelation$RangeCursor -/
def k22 : Class := { plain "com/example/pointfold/pointfold/datalog/FlatRelation$RangeCursor" (some 0) with
  accessFlags := 48
  interfaces := #[21]
  cf := some (fileOf pool22 2 #[.nestHost 25] #[{ accessFlags := 0, nameIndex := 11, descriptorIndex := 56, attributes := #[] }, { accessFlags := 1, nameIndex := 60, descriptorIndex := 61, attributes := #[] }, { accessFlags := 1, nameIndex := 44, descriptorIndex := 45, attributes := #[] }] 48 8 #[54] #[{ accessFlags := 18, nameIndex := 15, descriptorIndex := 16, attributes := #[] }, { accessFlags := 18, nameIndex := 19, descriptorIndex := 20, attributes := #[] }, { accessFlags := 2, nameIndex := 23, descriptorIndex := 16, attributes := #[] }, { accessFlags := 2, nameIndex := 32, descriptorIndex := 29, attributes := #[] }, { accessFlags := 2, nameIndex := 41, descriptorIndex := 29, attributes := #[] }, { accessFlags := 4112, nameIndex := 5, descriptorIndex := 6, attributes := #[] }])
  fields := #[{ name := "columns", type := (.array .int), accessFlags := 18, slot := 0, constantValue := 0 }, { name := "delta", type := .boolean, accessFlags := 18, slot := 1, constantValue := 0 }, { name := "key", type := (.array .int), accessFlags := 2, slot := 2, constantValue := 0 }, { name := "tuple", type := .int, accessFlags := 2, slot := 3, constantValue := 0 }, { name := "end", type := .int, accessFlags := 2, slot := 4, constantValue := 0 }, { name := "this$0", type := (.object "com/example/pointfold/pointfold/datalog/FlatRelation"), accessFlags := 4112, slot := 5, constantValue := 0 }]
  methods := #[k22m0, k22m1, k22m2]
  instanceTypes := #[(.array .int), .boolean, (.array .int), .int, .int, (.object "com/example/pointfold/pointfold/datalog/FlatRelation")]
  staticTypes := #[]
  resolved := Array.replicate 73 none
  statics := none }

/-- the primitive byte -/
def k23 : Class := { plain "byte" none with kind := .primitive 'B', accessFlags := 0x411 }
/-- [B -/
def k24 : Class := { plain "[B" (some 0) with kind := .array 23 .byte, interfaces := #[7, 8], accessFlags := 1041 }

/-- the primitive int -/
def k25 : Class := { plain "int" none with kind := .primitive 'I', accessFlags := 0x411 }
/-- [I -/
def k26 : Class := { plain "[I" (some 0) with kind := .array 25 .int, interfaces := #[7, 8], accessFlags := 1041 }

/-- the primitive long -/
def k27 : Class := { plain "long" none with kind := .primitive 'J', accessFlags := 0x411 }
/-- [J -/
def k28 : Class := { plain "[J" (some 0) with kind := .array 27 .long, interfaces := #[7, 8], accessFlags := 1041 }

/-- [[I -/
def k29 : Class := { plain "[[I" (some 0) with kind := .array 26 (.array .int), interfaces := #[7, 8], accessFlags := 1041 }

def heap : Heap := #[]
def classes : Array Class := #[k0, k1, k2, k3, k4, k5, k6, k7, k8, k9, k10, k11, k12, k13, k14, k15, k16, k17, k18, k19, k20, k21, k22, k23, k24, k25, k26, k27, k28, k29]
def interned : List (Array UInt16 × Addr) := []
def slotsUsed : Nat := 0
def theMethod : MethodId := ⟨1, 3⟩
def args0 : Array Value := #[.int 1, .int 2, .int 3, .int 4, .int 5]
def aboutOver (below : List Frame) : State where
  vm := { classes := classes, interned := interned.toArray }
  heap := heap
  slotsUsed := slotsUsed
  threads := #[{ frames := .invoking theMethod args0 :: below }]
def below0 : List Frame := [.native { method := ⟨0, 0⟩, args := #[] }]
def about1 : State := aboutOver below0
def p0 : Program := .bare "" "" ""
def e0 : Env := launch0.env 0 0 0
theorem w_frames : about1.frames = Frame.invoking theMethod args0 :: below0 := rfl
set_option maxRecDepth 65536 in
theorem w_args : argsFit about1.vm theMethod args0 = true := by decide +kernel
set_option maxRecDepth 65536 in
theorem w_heap : heapFits about1 = true := by decide +kernel
set_option maxRecDepth 65536 in
theorem w_runnable : about1.curStatus? = some .runnable := by decide +kernel
set_option maxRecDepth 65536 in
theorem w_alone : about1.alone = true := by decide +kernel
set_option maxRecDepth 65536 in
theorem w_named : about1.methodNamed? x = some theMethod := by decide +kernel
set_option maxRecDepth 65536 in
theorem w_hears : about1.hears theMethod below0 = true := by decide +kernel
set_option maxRecDepth 65536 in
theorem w_ripe : about1.ripe theMethod args0 below0 = true := by decide +kernel
theorem w_running : about1.status = .running := rfl
set_option maxRecDepth 65536 in
theorem w_room : about1.hasRoom e0.platform room_1 = true :=
  launch0.hasRoom_least _ room_1 (by decide +kernel) (by decide +kernel) (by decide +kernel) (by decide +kernel) (by decide +kernel) (by decide +kernel)
theorem allAtoms_all (ts : List Jvm.Cond) (a : Array Jvm.Value) (st : Jvm.State) : (allAtoms ts).before a st = ts.all (fun c => c.before a st) := by
  induction ts with
  | nil => rfl
  | cons c t ih =>
    show (Jvm.Cond.and c (allAtoms t)).before a st = _
    rw [Jvm.Cond.before_and, ih, List.all_cons]
def words1 : List Jvm.Cond := Jvm.Cond.code x code maxLocals ret :: tables_1
/-- a 'code' word, met by the world's own term for the bytes: nothing is compared byte by byte -/
theorem code_word {y : MethodName} {bytes : ByteArray} {mx : Nat} {rt : Option FieldType} {a : Array Value} {s : State} {m : MethodId} {meth : Method} {c : Code} (h1 : s.methodNamed? y = some m) (h2 : s.vm.method? m = some meth) (h3 : meth.code = some c) (h4 : c.code = bytes)
    (h5 : (c.maxLocals == mx && c.exceptionTable.isEmpty && decide (c.maxStack ≤ mostOperands) && decide (meth.sig.returnType = rt) && !meth.locks && decide (parseMethodDescriptor y.desc = some meth.sig)) = true) : (Jvm.Cond.code y bytes mx rt).before a s = true := by
  simp only [Bool.and_eq_true, beq_iff_eq, Bool.not_eq_true', decide_eq_true_eq] at h5
  obtain ⟨⟨⟨⟨⟨g1, g2⟩, g3⟩, g4⟩, g5⟩, g6⟩ := h5
  simp [Cond.before, Cond.holds, Cond.value, h1, h2, h3, h4, g1, g2, g3, g4, g5, g6]
def isCode : Jvm.Cond → Bool
  | .code _ _ _ _ => true
  | _ => false
theorem all_split {L : List Jvm.Cond} {P : Jvm.Cond → Bool} (h1 : L.all (fun c => isCode c || P c) = true) (h2 : ∀ c ∈ L.filter isCode, P c = true) : L.all P = true := by
  refine List.all_eq_true.mpr fun c hc => ?_
  have h := List.all_eq_true.mp h1 c hc
  rcases Bool.eq_false_or_eq_true (isCode c) with hi | hi
  · exact h2 c (List.mem_filter.mpr ⟨hc, hi⟩)
  · simpa [hi] using h
set_option maxRecDepth 65536 in
theorem w_c0 : (Jvm.Cond.code x code maxLocals ret).before args0 about1 = true := code_word (m := ⟨1, 3⟩) (meth := k1m3) (c := k1c3) (by decide +kernel) rfl rfl rfl (by decide +kernel)
set_option maxRecDepth 65536 in
theorem w_c1 : (Jvm.Cond.code ({ cls := "com/example/pointfold/pointfold/datalog/FlatRelation", name := "<init>", desc := "(I)V" } : Jvm.MethodName) prog_10_method_1_code (3 : Nat) (Option.none : Option Jvm.ClassFile.FieldType)).before args0 about1 = true := code_word (m := ⟨3, 0⟩) (meth := k3m0) (c := k3c0) (by decide +kernel) rfl rfl rfl (by decide +kernel)
set_option maxRecDepth 65536 in
theorem w_c2 : (Jvm.Cond.code ({ cls := "com/example/pointfold/pointfold/datalog/Relation", name := "<init>", desc := "()V" } : Jvm.MethodName) prog_47_method_1_code (1 : Nat) (Option.none : Option Jvm.ClassFile.FieldType)).before args0 about1 = true := code_word (m := ⟨2, 0⟩) (meth := k2m0) (c := k2c0) (by decide +kernel) rfl rfl rfl (by decide +kernel)
set_option maxRecDepth 65536 in
theorem w_c3 : (Jvm.Cond.code ({ cls := "java/lang/Object", name := "<init>", desc := "()V" } : Jvm.MethodName) object_method_1_code (1 : Nat) (Option.none : Option Jvm.ClassFile.FieldType)).before args0 about1 = true := code_word (m := ⟨0, 0⟩) (meth := k0m0) (c := k0c0) (by decide +kernel) rfl rfl rfl (by decide +kernel)
set_option maxRecDepth 65536 in
theorem w_c4 : (Jvm.Cond.code ({ cls := "com/example/pointfold/pointfold/datalog/IntBlocks", name := "<init>", desc := "()V" } : Jvm.MethodName) prog_16_method_1_code (1 : Nat) (Option.none : Option Jvm.ClassFile.FieldType)).before args0 about1 = true := code_word (m := ⟨4, 0⟩) (meth := k4m0) (c := k4c0) (by decide +kernel) rfl rfl rfl (by decide +kernel)
set_option maxRecDepth 65536 in
theorem w_c5 : (Jvm.Cond.code ({ cls := "java/util/HashMap", name := "<init>", desc := "()V" } : Jvm.MethodName) jdk_69_method_7_code (1 : Nat) (Option.none : Option Jvm.ClassFile.FieldType)).before args0 about1 = true := code_word (m := ⟨9, 0⟩) (meth := k9m0) (c := k9c0) (by decide +kernel) rfl rfl rfl (by decide +kernel)
set_option maxRecDepth 65536 in
theorem w_c6 : (Jvm.Cond.code ({ cls := "java/util/AbstractMap", name := "<init>", desc := "()V" } : Jvm.MethodName) jdk_71_method_1_code (1 : Nat) (Option.none : Option Jvm.ClassFile.FieldType)).before args0 about1 = true := code_word (m := ⟨6, 0⟩) (meth := k6m0) (c := k6c0) (by decide +kernel) rfl rfl rfl (by decide +kernel)
set_option maxRecDepth 65536 in
theorem w_c7 : (Jvm.Cond.code ({ cls := "java/util/Arrays", name := "fill", desc := "([II)V" } : Jvm.MethodName) jdk_65_method_103_code (4 : Nat) (Option.none : Option Jvm.ClassFile.FieldType)).before args0 about1 = true := code_word (m := ⟨10, 1⟩) (meth := k10m1) (c := k10c1) (by decide +kernel) rfl rfl rfl (by decide +kernel)
set_option maxRecDepth 65536 in
theorem w_c8 : (Jvm.Cond.code ({ cls := "com/example/pointfold/pointfold/datalog/TupleIndex", name := "<init>", desc := "(Lcom/example/pointfold/pointfold/datalog/FlatRelation;[I)V" } : Jvm.MethodName) prog_55_method_1_code (3 : Nat) (Option.none : Option Jvm.ClassFile.FieldType)).before args0 about1 = true := code_word (m := ⟨11, 0⟩) (meth := k11m0) (c := k11c0) (by decide +kernel) rfl rfl rfl (by decide +kernel)
set_option maxRecDepth 65536 in
theorem w_c9 : (Jvm.Cond.code ({ cls := "com/example/pointfold/pointfold/datalog/IntBlocks", name := "<init>", desc := "(I)V" } : Jvm.MethodName) prog_16_method_2_code (4 : Nat) (Option.none : Option Jvm.ClassFile.FieldType)).before args0 about1 = true := code_word (m := ⟨4, 1⟩) (meth := k4m1) (c := k4c1) (by decide +kernel) rfl rfl rfl (by decide +kernel)
set_option maxRecDepth 65536 in
theorem w_c10 : (Jvm.Cond.code ({ cls := "java/lang/Math", name := "max", desc := "(II)I" } : Jvm.MethodName) jdk_29_method_65_code (2 : Nat) (Option.some Jvm.ClassFile.FieldType.int)).before args0 about1 = true := code_word (m := ⟨12, 1⟩) (meth := k12m1) (c := k12c1) (by decide +kernel) rfl rfl rfl (by decide +kernel)
set_option maxRecDepth 65536 in
theorem w_c11 : (Jvm.Cond.code ({ cls := "com/example/pointfold/pointfold/datalog/HashFilter", name := "<init>", desc := "(I)V" } : Jvm.MethodName) prog_14_method_1_code (2 : Nat) (Option.none : Option Jvm.ClassFile.FieldType)).before args0 about1 = true := code_word (m := ⟨13, 0⟩) (meth := k13m0) (c := k13c0) (by decide +kernel) rfl rfl rfl (by decide +kernel)
set_option maxRecDepth 65536 in
theorem w_c12 : (Jvm.Cond.code ({ cls := "com/example/pointfold/pointfold/datalog/FlatRelation", name := "beginRound", desc := "()V" } : Jvm.MethodName) prog_10_method_13_code (1 : Nat) (Option.none : Option Jvm.ClassFile.FieldType)).before args0 about1 = true := code_word (m := ⟨3, 8⟩) (meth := k3m8) (c := k3c8) (by decide +kernel) rfl rfl rfl (by decide +kernel)
set_option maxRecDepth 65536 in
theorem w_c13 : (Jvm.Cond.code ({ cls := "com/example/pointfold/pointfold/datalog/FlatRelation", name := "add", desc := "([I)Z" } : Jvm.MethodName) prog_10_method_8_code (5 : Nat) (Option.some Jvm.ClassFile.FieldType.boolean)).before args0 about1 = true := code_word (m := ⟨3, 4⟩) (meth := k3m4) (c := k3c4) (by decide +kernel) rfl rfl rfl (by decide +kernel)
set_option maxRecDepth 65536 in
theorem w_c14 : (Jvm.Cond.code ({ cls := "com/example/pointfold/pointfold/datalog/FlatRelation", name := "contains", desc := "([I)Z" } : Jvm.MethodName) prog_10_method_6_code (2 : Nat) (Option.some Jvm.ClassFile.FieldType.boolean)).before args0 about1 = true := code_word (m := ⟨3, 3⟩) (meth := k3m3) (c := k3c3) (by decide +kernel) rfl rfl rfl (by decide +kernel)
set_option maxRecDepth 65536 in
theorem w_c15 : (Jvm.Cond.code ({ cls := "com/example/pointfold/pointfold/datalog/FlatRelation", name := "index", desc := "([I)Lcom/example/pointfold/pointfold/datalog/TupleIndex;" } : Jvm.MethodName) prog_10_method_11_code (5 : Nat) (Option.some (Jvm.ClassFile.FieldType.object "com/example/pointfold/pointfold/datalog/TupleIndex"))).before args0 about1 = true := code_word (m := ⟨3, 6⟩) (meth := k3m6) (c := k3c6) (by decide +kernel) rfl rfl rfl (by decide +kernel)
set_option maxRecDepth 65536 in
theorem w_c16 : (Jvm.Cond.code ({ cls := "com/example/pointfold/pointfold/datalog/TupleIndex", name := "find", desc := "([I)I" } : Jvm.MethodName) prog_55_method_3_code (3 : Nat) (Option.some Jvm.ClassFile.FieldType.int)).before args0 about1 = true := code_word (m := ⟨11, 2⟩) (meth := k11m2) (c := k11c2) (by decide +kernel) rfl rfl rfl (by decide +kernel)
set_option maxRecDepth 65536 in
theorem w_c17 : (Jvm.Cond.code ({ cls := "com/example/pointfold/pointfold/datalog/TupleIndex", name := "hashKey", desc := "([I)I" } : Jvm.MethodName) prog_55_method_8_code (6 : Nat) (Option.some Jvm.ClassFile.FieldType.int)).before args0 about1 = true := code_word (m := ⟨11, 5⟩) (meth := k11m5) (c := k11c5) (by decide +kernel) rfl rfl rfl (by decide +kernel)
set_option maxRecDepth 65536 in
theorem w_c18 : (Jvm.Cond.code ({ cls := "com/example/pointfold/pointfold/datalog/Relation", name := "combine", desc := "(II)I" } : Jvm.MethodName) prog_47_method_10_code (3 : Nat) (Option.some Jvm.ClassFile.FieldType.int)).before args0 about1 = true := code_word (m := ⟨2, 1⟩) (meth := k2m1) (c := k2c1) (by decide +kernel) rfl rfl rfl (by decide +kernel)
set_option maxRecDepth 65536 in
theorem w_c19 : (Jvm.Cond.code ({ cls := "com/example/pointfold/pointfold/datalog/HashFilter", name := "mayHold", desc := "(I)Z" } : Jvm.MethodName) prog_14_method_3_code (4 : Nat) (Option.some Jvm.ClassFile.FieldType.boolean)).before args0 about1 = true := code_word (m := ⟨13, 2⟩) (meth := k13m2) (c := k13c2) (by decide +kernel) rfl rfl rfl (by decide +kernel)
set_option maxRecDepth 65536 in
theorem w_c20 : (Jvm.Cond.code ({ cls := "com/example/pointfold/pointfold/datalog/TupleIndex", name := "add", desc := "(I)V" } : Jvm.MethodName) prog_55_method_2_code (2 : Nat) (Option.none : Option Jvm.ClassFile.FieldType)).before args0 about1 = true := code_word (m := ⟨11, 1⟩) (meth := k11m1) (c := k11c1) (by decide +kernel) rfl rfl rfl (by decide +kernel)
set_option maxRecDepth 65536 in
theorem w_c21 : (Jvm.Cond.code ({ cls := "com/example/pointfold/pointfold/datalog/TupleIndex", name := "link", desc := "(I)V" } : Jvm.MethodName) prog_55_method_6_code (7 : Nat) (Option.none : Option Jvm.ClassFile.FieldType)).before args0 about1 = true := code_word (m := ⟨11, 4⟩) (meth := k11m4) (c := k11c4) (by decide +kernel) rfl rfl rfl (by decide +kernel)
set_option maxRecDepth 65536 in
theorem w_c22 : (Jvm.Cond.code ({ cls := "com/example/pointfold/pointfold/datalog/FlatRelation", name := "value", desc := "(II)I" } : Jvm.MethodName) prog_10_method_4_code (4 : Nat) (Option.some Jvm.ClassFile.FieldType.int)).before args0 about1 = true := code_word (m := ⟨3, 1⟩) (meth := k3m1) (c := k3c1) (by decide +kernel) rfl rfl rfl (by decide +kernel)
set_option maxRecDepth 65536 in
theorem w_c23 : (Jvm.Cond.code ({ cls := "com/example/pointfold/pointfold/datalog/IntBlocks", name := "get", desc := "(I)I" } : Jvm.MethodName) prog_16_method_3_code (2 : Nat) (Option.some Jvm.ClassFile.FieldType.int)).before args0 about1 = true := code_word (m := ⟨4, 2⟩) (meth := k4m2) (c := k4c2) (by decide +kernel) rfl rfl rfl (by decide +kernel)
set_option maxRecDepth 65536 in
theorem w_c24 : (Jvm.Cond.code ({ cls := "com/example/pointfold/pointfold/datalog/IntBlocks", name := "set", desc := "(II)V" } : Jvm.MethodName) prog_16_method_4_code (4 : Nat) (Option.none : Option Jvm.ClassFile.FieldType)).before args0 about1 = true := code_word (m := ⟨4, 3⟩) (meth := k4m3) (c := k4c3) (by decide +kernel) rfl rfl rfl (by decide +kernel)
set_option maxRecDepth 65536 in
theorem w_c25 : (Jvm.Cond.code ({ cls := "com/example/pointfold/pointfold/datalog/HashFilter", name := "add", desc := "(I)V" } : Jvm.MethodName) prog_14_method_2_code (4 : Nat) (Option.none : Option Jvm.ClassFile.FieldType)).before args0 about1 = true := code_word (m := ⟨13, 1⟩) (meth := k13m1) (c := k13c1) (by decide +kernel) rfl rfl rfl (by decide +kernel)
set_option maxRecDepth 65536 in
theorem w_c26 : (Jvm.Cond.code ({ cls := "java/util/HashMap", name := "values", desc := "()Ljava/util/Collection;" } : Jvm.MethodName) jdk_69_method_28_code (2 : Nat) (Option.some (Jvm.ClassFile.FieldType.object "java/util/Collection"))).before args0 about1 = true := code_word (m := ⟨9, 1⟩) (meth := k9m1) (c := k9c1) (by decide +kernel) rfl rfl rfl (by decide +kernel)
set_option maxRecDepth 65536 in
theorem w_c27 : (Jvm.Cond.code ({ cls := "java/util/HashMap$Values", name := "<init>", desc := "(Ljava/util/HashMap;)V" } : Jvm.MethodName) jdk_2571_method_1_code (2 : Nat) (Option.none : Option Jvm.ClassFile.FieldType)).before args0 about1 = true := code_word (m := ⟨17, 0⟩) (meth := k17m0) (c := k17c0) (by decide +kernel) rfl rfl rfl (by decide +kernel)
set_option maxRecDepth 65536 in
theorem w_c28 : (Jvm.Cond.code ({ cls := "java/util/AbstractCollection", name := "<init>", desc := "()V" } : Jvm.MethodName) jdk_22_method_1_code (1 : Nat) (Option.none : Option Jvm.ClassFile.FieldType)).before args0 about1 = true := code_word (m := ⟨16, 0⟩) (meth := k16m0) (c := k16c0) (by decide +kernel) rfl rfl rfl (by decide +kernel)
set_option maxRecDepth 65536 in
theorem w_c29 : (Jvm.Cond.code ({ cls := "java/util/HashMap$Values", name := "iterator", desc := "()Ljava/util/Iterator;" } : Jvm.MethodName) jdk_2571_method_4_code (1 : Nat) (Option.some (Jvm.ClassFile.FieldType.object "java/util/Iterator"))).before args0 about1 = true := code_word (m := ⟨17, 1⟩) (meth := k17m1) (c := k17c1) (by decide +kernel) rfl rfl rfl (by decide +kernel)
set_option maxRecDepth 65536 in
theorem w_c30 : (Jvm.Cond.code ({ cls := "java/util/HashMap$ValueIterator", name := "<init>", desc := "(Ljava/util/HashMap;)V" } : Jvm.MethodName) jdk_2569_method_1_code (2 : Nat) (Option.none : Option Jvm.ClassFile.FieldType)).before args0 about1 = true := code_word (m := ⟨20, 0⟩) (meth := k20m0) (c := k20c0) (by decide +kernel) rfl rfl rfl (by decide +kernel)
set_option maxRecDepth 65536 in
theorem w_c31 : (Jvm.Cond.code ({ cls := "java/util/HashMap$HashIterator", name := "<init>", desc := "(Ljava/util/HashMap;)V" } : Jvm.MethodName) jdk_99_method_1_code (3 : Nat) (Option.none : Option Jvm.ClassFile.FieldType)).before args0 about1 = true := code_word (m := ⟨18, 0⟩) (meth := k18m0) (c := k18c0) (by decide +kernel) rfl rfl rfl (by decide +kernel)
set_option maxRecDepth 65536 in
theorem w_c32 : (Jvm.Cond.code ({ cls := "java/util/HashMap$HashIterator", name := "hasNext", desc := "()Z" } : Jvm.MethodName) jdk_99_method_2_code (1 : Nat) (Option.some Jvm.ClassFile.FieldType.boolean)).before args0 about1 = true := code_word (m := ⟨18, 1⟩) (meth := k18m1) (c := k18c1) (by decide +kernel) rfl rfl rfl (by decide +kernel)
set_option maxRecDepth 65536 in
theorem w_c33 : (Jvm.Cond.code ({ cls := "com/example/pointfold/pointfold/datalog/FlatRelation", name := "store", desc := "(I)V" } : Jvm.MethodName) prog_10_method_9_code (6 : Nat) (Option.none : Option Jvm.ClassFile.FieldType)).before args0 about1 = true := code_word (m := ⟨3, 5⟩) (meth := k3m5) (c := k3c5) (by decide +kernel) rfl rfl rfl (by decide +kernel)
set_option maxRecDepth 65536 in
theorem w_c34 : (Jvm.Cond.code ({ cls := "com/example/pointfold/pointfold/datalog/TupleIndex", name := "match", desc := "(I[I)I" } : Jvm.MethodName) prog_55_method_5_code (4 : Nat) (Option.some Jvm.ClassFile.FieldType.int)).before args0 about1 = true := code_word (m := ⟨11, 3⟩) (meth := k11m3) (c := k11c3) (by decide +kernel) rfl rfl rfl (by decide +kernel)
set_option maxRecDepth 65536 in
theorem w_c35 : (Jvm.Cond.code ({ cls := "com/example/pointfold/pointfold/datalog/FlatRelation", name := "holds", desc := "(I[I[I)Z" } : Jvm.MethodName) prog_10_method_5_code (5 : Nat) (Option.some Jvm.ClassFile.FieldType.boolean)).before args0 about1 = true := code_word (m := ⟨3, 2⟩) (meth := k3m2) (c := k3c2) (by decide +kernel) rfl rfl rfl (by decide +kernel)
set_option maxRecDepth 65536 in
theorem w_c36 : (Jvm.Cond.code ({ cls := "com/example/pointfold/pointfold/datalog/FlatRelation", name := "endRound", desc := "()Z" } : Jvm.MethodName) prog_10_method_14_code (1 : Nat) (Option.some Jvm.ClassFile.FieldType.boolean)).before args0 about1 = true := code_word (m := ⟨3, 9⟩) (meth := k3m9) (c := k3c9) (by decide +kernel) rfl rfl rfl (by decide +kernel)
set_option maxRecDepth 65536 in
theorem w_c37 : (Jvm.Cond.code ({ cls := "com/example/pointfold/pointfold/datalog/FlatRelation", name := "cursor", desc := "([IZ)Lcom/example/pointfold/pointfold/datalog/Relation$Cursor;" } : Jvm.MethodName) prog_10_method_12_code (3 : Nat) (Option.some (Jvm.ClassFile.FieldType.object "com/example/pointfold/pointfold/datalog/Relation$Cursor"))).before args0 about1 = true := code_word (m := ⟨3, 7⟩) (meth := k3m7) (c := k3c7) (by decide +kernel) rfl rfl rfl (by decide +kernel)
set_option maxRecDepth 65536 in
theorem w_c38 : (Jvm.Cond.code ({ cls := "com/example/pointfold/pointfold/datalog/FlatRelation$RangeCursor", name := "<init>", desc := "(Lcom/example/pointfold/pointfold/datalog/FlatRelation;[IZ)V" } : Jvm.MethodName) prog_12_method_1_code (4 : Nat) (Option.none : Option Jvm.ClassFile.FieldType)).before args0 about1 = true := code_word (m := ⟨22, 0⟩) (meth := k22m0) (c := k22c0) (by decide +kernel) rfl rfl rfl (by decide +kernel)
set_option maxRecDepth 65536 in
theorem w_c39 : (Jvm.Cond.code ({ cls := "com/example/pointfold/pointfold/datalog/FlatRelation$RangeCursor", name := "first", desc := "([I)Z" } : Jvm.MethodName) prog_12_method_2_code (2 : Nat) (Option.some Jvm.ClassFile.FieldType.boolean)).before args0 about1 = true := code_word (m := ⟨22, 1⟩) (meth := k22m1) (c := k22c1) (by decide +kernel) rfl rfl rfl (by decide +kernel)
set_option maxRecDepth 65536 in
theorem w_c40 : (Jvm.Cond.code ({ cls := "com/example/pointfold/pointfold/datalog/FlatRelation$RangeCursor", name := "next", desc := "()Z" } : Jvm.MethodName) prog_12_method_3_code (1 : Nat) (Option.some Jvm.ClassFile.FieldType.boolean)).before args0 about1 = true := code_word (m := ⟨22, 2⟩) (meth := k22m2) (c := k22c2) (by decide +kernel) rfl rfl rfl (by decide +kernel)
set_option maxRecDepth 65536 in
theorem w_c41 : (Jvm.Cond.code ({ cls := "com/example/pointfold/pointfold/datalog/FlatRelationEndRoundPinLaw", name := "inDelta", desc := "(IIIII)Z" } : Jvm.MethodName) method_3_code (6 : Nat) (Option.some Jvm.ClassFile.FieldType.boolean)).before args0 about1 = true := code_word (m := ⟨1, 2⟩) (meth := k1m2) (c := k1c2) (by decide +kernel) rfl rfl rfl (by decide +kernel)
set_option maxRecDepth 65536 in
theorem w_c42 : (Jvm.Cond.code ({ cls := "com/example/pointfold/pointfold/datalog/FlatRelationEndRoundPinLaw", name := "before", desc := "(IIIII)Z" } : Jvm.MethodName) method_2_code (5 : Nat) (Option.some Jvm.ClassFile.FieldType.boolean)).before args0 about1 = true := code_word (m := ⟨1, 1⟩) (meth := k1m1) (c := k1c1) (by decide +kernel) rfl rfl rfl (by decide +kernel)
def codes1 : List Jvm.Cond := [Jvm.Cond.code x code maxLocals ret, Jvm.Cond.code ({ cls := "com/example/pointfold/pointfold/datalog/FlatRelation", name := "<init>", desc := "(I)V" } : Jvm.MethodName) prog_10_method_1_code (3 : Nat) (Option.none : Option Jvm.ClassFile.FieldType), Jvm.Cond.code ({ cls := "com/example/pointfold/pointfold/datalog/Relation", name := "<init>", desc := "()V" } : Jvm.MethodName) prog_47_method_1_code (1 : Nat) (Option.none : Option Jvm.ClassFile.FieldType), Jvm.Cond.code ({ cls := "java/lang/Object", name := "<init>", desc := "()V" } : Jvm.MethodName) object_method_1_code (1 : Nat) (Option.none : Option Jvm.ClassFile.FieldType), Jvm.Cond.code ({ cls := "com/example/pointfold/pointfold/datalog/IntBlocks", name := "<init>", desc := "()V" } : Jvm.MethodName) prog_16_method_1_code (1 : Nat) (Option.none : Option Jvm.ClassFile.FieldType), Jvm.Cond.code ({ cls := "java/util/HashMap", name := "<init>", desc := "()V" } : Jvm.MethodName) jdk_69_method_7_code (1 : Nat) (Option.none : Option Jvm.ClassFile.FieldType), Jvm.Cond.code ({ cls := "java/util/AbstractMap", name := "<init>", desc := "()V" } : Jvm.MethodName) jdk_71_method_1_code (1 : Nat) (Option.none : Option Jvm.ClassFile.FieldType), Jvm.Cond.code ({ cls := "java/util/Arrays", name := "fill", desc := "([II)V" } : Jvm.MethodName) jdk_65_method_103_code (4 : Nat) (Option.none : Option Jvm.ClassFile.FieldType), Jvm.Cond.code ({ cls := "com/example/pointfold/pointfold/datalog/TupleIndex", name := "<init>", desc := "(Lcom/example/pointfold/pointfold/datalog/FlatRelation;[I)V" } : Jvm.MethodName) prog_55_method_1_code (3 : Nat) (Option.none : Option Jvm.ClassFile.FieldType), Jvm.Cond.code ({ cls := "com/example/pointfold/pointfold/datalog/IntBlocks", name := "<init>", desc := "(I)V" } : Jvm.MethodName) prog_16_method_2_code (4 : Nat) (Option.none : Option Jvm.ClassFile.FieldType), Jvm.Cond.code ({ cls := "java/lang/Math", name := "max", desc := "(II)I" } : Jvm.MethodName) jdk_29_method_65_code (2 : Nat) (Option.some Jvm.ClassFile.FieldType.int), Jvm.Cond.code ({ cls := "com/example/pointfold/pointfold/datalog/HashFilter", name := "<init>", desc := "(I)V" } : Jvm.MethodName) prog_14_method_1_code (2 : Nat) (Option.none : Option Jvm.ClassFile.FieldType), Jvm.Cond.code ({ cls := "com/example/pointfold/pointfold/datalog/FlatRelation", name := "beginRound", desc := "()V" } : Jvm.MethodName) prog_10_method_13_code (1 : Nat) (Option.none : Option Jvm.ClassFile.FieldType), Jvm.Cond.code ({ cls := "com/example/pointfold/pointfold/datalog/FlatRelation", name := "add", desc := "([I)Z" } : Jvm.MethodName) prog_10_method_8_code (5 : Nat) (Option.some Jvm.ClassFile.FieldType.boolean), Jvm.Cond.code ({ cls := "com/example/pointfold/pointfold/datalog/FlatRelation", name := "contains", desc := "([I)Z" } : Jvm.MethodName) prog_10_method_6_code (2 : Nat) (Option.some Jvm.ClassFile.FieldType.boolean), Jvm.Cond.code ({ cls := "com/example/pointfold/pointfold/datalog/FlatRelation", name := "index", desc := "([I)Lcom/example/pointfold/pointfold/datalog/TupleIndex;" } : Jvm.MethodName) prog_10_method_11_code (5 : Nat) (Option.some (Jvm.ClassFile.FieldType.object "com/example/pointfold/pointfold/datalog/TupleIndex")), Jvm.Cond.code ({ cls := "com/example/pointfold/pointfold/datalog/TupleIndex", name := "find", desc := "([I)I" } : Jvm.MethodName) prog_55_method_3_code (3 : Nat) (Option.some Jvm.ClassFile.FieldType.int), Jvm.Cond.code ({ cls := "com/example/pointfold/pointfold/datalog/TupleIndex", name := "hashKey", desc := "([I)I" } : Jvm.MethodName) prog_55_method_8_code (6 : Nat) (Option.some Jvm.ClassFile.FieldType.int), Jvm.Cond.code ({ cls := "com/example/pointfold/pointfold/datalog/Relation", name := "combine", desc := "(II)I" } : Jvm.MethodName) prog_47_method_10_code (3 : Nat) (Option.some Jvm.ClassFile.FieldType.int), Jvm.Cond.code ({ cls := "com/example/pointfold/pointfold/datalog/HashFilter", name := "mayHold", desc := "(I)Z" } : Jvm.MethodName) prog_14_method_3_code (4 : Nat) (Option.some Jvm.ClassFile.FieldType.boolean), Jvm.Cond.code ({ cls := "com/example/pointfold/pointfold/datalog/TupleIndex", name := "add", desc := "(I)V" } : Jvm.MethodName) prog_55_method_2_code (2 : Nat) (Option.none : Option Jvm.ClassFile.FieldType), Jvm.Cond.code ({ cls := "com/example/pointfold/pointfold/datalog/TupleIndex", name := "link", desc := "(I)V" } : Jvm.MethodName) prog_55_method_6_code (7 : Nat) (Option.none : Option Jvm.ClassFile.FieldType), Jvm.Cond.code ({ cls := "com/example/pointfold/pointfold/datalog/FlatRelation", name := "value", desc := "(II)I" } : Jvm.MethodName) prog_10_method_4_code (4 : Nat) (Option.some Jvm.ClassFile.FieldType.int), Jvm.Cond.code ({ cls := "com/example/pointfold/pointfold/datalog/IntBlocks", name := "get", desc := "(I)I" } : Jvm.MethodName) prog_16_method_3_code (2 : Nat) (Option.some Jvm.ClassFile.FieldType.int), Jvm.Cond.code ({ cls := "com/example/pointfold/pointfold/datalog/IntBlocks", name := "set", desc := "(II)V" } : Jvm.MethodName) prog_16_method_4_code (4 : Nat) (Option.none : Option Jvm.ClassFile.FieldType), Jvm.Cond.code ({ cls := "com/example/pointfold/pointfold/datalog/HashFilter", name := "add", desc := "(I)V" } : Jvm.MethodName) prog_14_method_2_code (4 : Nat) (Option.none : Option Jvm.ClassFile.FieldType), Jvm.Cond.code ({ cls := "java/util/HashMap", name := "values", desc := "()Ljava/util/Collection;" } : Jvm.MethodName) jdk_69_method_28_code (2 : Nat) (Option.some (Jvm.ClassFile.FieldType.object "java/util/Collection")), Jvm.Cond.code ({ cls := "java/util/HashMap$Values", name := "<init>", desc := "(Ljava/util/HashMap;)V" } : Jvm.MethodName) jdk_2571_method_1_code (2 : Nat) (Option.none : Option Jvm.ClassFile.FieldType), Jvm.Cond.code ({ cls := "java/util/AbstractCollection", name := "<init>", desc := "()V" } : Jvm.MethodName) jdk_22_method_1_code (1 : Nat) (Option.none : Option Jvm.ClassFile.FieldType), Jvm.Cond.code ({ cls := "java/util/HashMap$Values", name := "iterator", desc := "()Ljava/util/Iterator;" } : Jvm.MethodName) jdk_2571_method_4_code (1 : Nat) (Option.some (Jvm.ClassFile.FieldType.object "java/util/Iterator")), Jvm.Cond.code ({ cls := "java/util/HashMap$ValueIterator", name := "<init>", desc := "(Ljava/util/HashMap;)V" } : Jvm.MethodName) jdk_2569_method_1_code (2 : Nat) (Option.none : Option Jvm.ClassFile.FieldType), Jvm.Cond.code ({ cls := "java/util/HashMap$HashIterator", name := "<init>", desc := "(Ljava/util/HashMap;)V" } : Jvm.MethodName) jdk_99_method_1_code (3 : Nat) (Option.none : Option Jvm.ClassFile.FieldType), Jvm.Cond.code ({ cls := "java/util/HashMap$HashIterator", name := "hasNext", desc := "()Z" } : Jvm.MethodName) jdk_99_method_2_code (1 : Nat) (Option.some Jvm.ClassFile.FieldType.boolean), Jvm.Cond.code ({ cls := "com/example/pointfold/pointfold/datalog/FlatRelation", name := "store", desc := "(I)V" } : Jvm.MethodName) prog_10_method_9_code (6 : Nat) (Option.none : Option Jvm.ClassFile.FieldType), Jvm.Cond.code ({ cls := "com/example/pointfold/pointfold/datalog/TupleIndex", name := "match", desc := "(I[I)I" } : Jvm.MethodName) prog_55_method_5_code (4 : Nat) (Option.some Jvm.ClassFile.FieldType.int), Jvm.Cond.code ({ cls := "com/example/pointfold/pointfold/datalog/FlatRelation", name := "holds", desc := "(I[I[I)Z" } : Jvm.MethodName) prog_10_method_5_code (5 : Nat) (Option.some Jvm.ClassFile.FieldType.boolean), Jvm.Cond.code ({ cls := "com/example/pointfold/pointfold/datalog/FlatRelation", name := "endRound", desc := "()Z" } : Jvm.MethodName) prog_10_method_14_code (1 : Nat) (Option.some Jvm.ClassFile.FieldType.boolean), Jvm.Cond.code ({ cls := "com/example/pointfold/pointfold/datalog/FlatRelation", name := "cursor", desc := "([IZ)Lcom/example/pointfold/pointfold/datalog/Relation$Cursor;" } : Jvm.MethodName) prog_10_method_12_code (3 : Nat) (Option.some (Jvm.ClassFile.FieldType.object "com/example/pointfold/pointfold/datalog/Relation$Cursor")), Jvm.Cond.code ({ cls := "com/example/pointfold/pointfold/datalog/FlatRelation$RangeCursor", name := "<init>", desc := "(Lcom/example/pointfold/pointfold/datalog/FlatRelation;[IZ)V" } : Jvm.MethodName) prog_12_method_1_code (4 : Nat) (Option.none : Option Jvm.ClassFile.FieldType), Jvm.Cond.code ({ cls := "com/example/pointfold/pointfold/datalog/FlatRelation$RangeCursor", name := "first", desc := "([I)Z" } : Jvm.MethodName) prog_12_method_2_code (2 : Nat) (Option.some Jvm.ClassFile.FieldType.boolean), Jvm.Cond.code ({ cls := "com/example/pointfold/pointfold/datalog/FlatRelation$RangeCursor", name := "next", desc := "()Z" } : Jvm.MethodName) prog_12_method_3_code (1 : Nat) (Option.some Jvm.ClassFile.FieldType.boolean), Jvm.Cond.code ({ cls := "com/example/pointfold/pointfold/datalog/FlatRelationEndRoundPinLaw", name := "inDelta", desc := "(IIIII)Z" } : Jvm.MethodName) method_3_code (6 : Nat) (Option.some Jvm.ClassFile.FieldType.boolean), Jvm.Cond.code ({ cls := "com/example/pointfold/pointfold/datalog/FlatRelationEndRoundPinLaw", name := "before", desc := "(IIIII)Z" } : Jvm.MethodName) method_2_code (5 : Nat) (Option.some Jvm.ClassFile.FieldType.boolean)]
set_option maxRecDepth 65536 in
theorem codes_eq : words1.filter isCode = codes1 := rfl
theorem w_codes : ∀ c ∈ words1.filter isCode, c.before args0 about1 = true := by
  rw [codes_eq]
  intro c hc
  simp only [codes1, List.mem_cons, List.not_mem_nil, or_false] at hc
  rcases hc with rfl | rfl | rfl | rfl | rfl | rfl | rfl | rfl | rfl | rfl | rfl | rfl | rfl | rfl | rfl | rfl | rfl | rfl | rfl | rfl | rfl | rfl | rfl | rfl | rfl | rfl | rfl | rfl | rfl | rfl | rfl | rfl | rfl | rfl | rfl | rfl | rfl | rfl | rfl | rfl | rfl | rfl | rfl
  · exact w_c0
  · exact w_c1
  · exact w_c2
  · exact w_c3
  · exact w_c4
  · exact w_c5
  · exact w_c6
  · exact w_c7
  · exact w_c8
  · exact w_c9
  · exact w_c10
  · exact w_c11
  · exact w_c12
  · exact w_c13
  · exact w_c14
  · exact w_c15
  · exact w_c16
  · exact w_c17
  · exact w_c18
  · exact w_c19
  · exact w_c20
  · exact w_c21
  · exact w_c22
  · exact w_c23
  · exact w_c24
  · exact w_c25
  · exact w_c26
  · exact w_c27
  · exact w_c28
  · exact w_c29
  · exact w_c30
  · exact w_c31
  · exact w_c32
  · exact w_c33
  · exact w_c34
  · exact w_c35
  · exact w_c36
  · exact w_c37
  · exact w_c38
  · exact w_c39
  · exact w_c40
  · exact w_c41
  · exact w_c42
set_option maxRecDepth 65536 in
theorem w_t1 : (words1.take 24).all (fun c => isCode c || c.before args0 about1) = true := by decide +kernel
set_option maxRecDepth 65536 in
theorem w_t2 : ((words1.drop 24).take 24).all (fun c => isCode c || c.before args0 about1) = true := by decide +kernel
set_option maxRecDepth 65536 in
theorem w_t3 : (((words1.drop 24).drop 24).take 24).all (fun c => isCode c || c.before args0 about1) = true := by decide +kernel
set_option maxRecDepth 65536 in
theorem w_t4 : ((((words1.drop 24).drop 24).drop 24).take 24).all (fun c => isCode c || c.before args0 about1) = true := by decide +kernel
set_option maxRecDepth 65536 in
theorem w_t5 : (((((words1.drop 24).drop 24).drop 24).drop 24).take 24).all (fun c => isCode c || c.before args0 about1) = true := by decide +kernel
set_option maxRecDepth 65536 in
theorem w_t6 : ((((((words1.drop 24).drop 24).drop 24).drop 24).drop 24).take 24).all (fun c => isCode c || c.before args0 about1) = true := by decide +kernel
set_option maxRecDepth 65536 in
theorem w_t7 : (((((((words1.drop 24).drop 24).drop 24).drop 24).drop 24).drop 24).take 24).all (fun c => isCode c || c.before args0 about1) = true := by decide +kernel
set_option maxRecDepth 65536 in
theorem w_t8 : ((((((((words1.drop 24).drop 24).drop 24).drop 24).drop 24).drop 24).drop 24).take 24).all (fun c => isCode c || c.before args0 about1) = true := by decide +kernel
set_option maxRecDepth 65536 in
theorem w_t9 : (((((((((words1.drop 24).drop 24).drop 24).drop 24).drop 24).drop 24).drop 24).drop 24).take 24).all (fun c => isCode c || c.before args0 about1) = true := by decide +kernel
set_option maxRecDepth 65536 in
theorem w_t10 : ((((((((((words1.drop 24).drop 24).drop 24).drop 24).drop 24).drop 24).drop 24).drop 24).drop 24).take 24).all (fun c => isCode c || c.before args0 about1) = true := by decide +kernel
set_option maxRecDepth 65536 in
theorem w_t11 : (((((((((((words1.drop 24).drop 24).drop 24).drop 24).drop 24).drop 24).drop 24).drop 24).drop 24).drop 24).take 24).all (fun c => isCode c || c.before args0 about1) = true := by decide +kernel
set_option maxRecDepth 65536 in
theorem w_t12 : ((((((((((((words1.drop 24).drop 24).drop 24).drop 24).drop 24).drop 24).drop 24).drop 24).drop 24).drop 24).drop 24).take 24).all (fun c => isCode c || c.before args0 about1) = true := by decide +kernel
set_option maxRecDepth 65536 in
theorem w_t13 : (((((((((((((words1.drop 24).drop 24).drop 24).drop 24).drop 24).drop 24).drop 24).drop 24).drop 24).drop 24).drop 24).drop 24).take 24).all (fun c => isCode c || c.before args0 about1) = true := by decide +kernel
set_option maxRecDepth 65536 in
theorem w_t14 : (((((((((((((words1.drop 24).drop 24).drop 24).drop 24).drop 24).drop 24).drop 24).drop 24).drop 24).drop 24).drop 24).drop 24).drop 24).all (fun c => isCode c || c.before args0 about1) = true := by decide +kernel
theorem w_tables : (allAtoms (Jvm.Cond.code x code maxLocals ret :: tables_1)).before args0 about1 = true := by
  rw [allAtoms_all]
  show words1.all (fun c => c.before args0 about1) = true
  refine all_split ?_ w_codes
  rw [← List.take_append_drop 24 words1, List.all_append, w_t1, ← List.take_append_drop 24 (words1.drop 24), List.all_append, w_t2, ← List.take_append_drop 24 ((words1.drop 24).drop 24), List.all_append, w_t3, ← List.take_append_drop 24 (((words1.drop 24).drop 24).drop 24), List.all_append, w_t4, ← List.take_append_drop 24 ((((words1.drop 24).drop 24).drop 24).drop 24), List.all_append, w_t5, ← List.take_append_drop 24 (((((words1.drop 24).drop 24).drop 24).drop 24).drop 24), List.all_append, w_t6, ← List.take_append_drop 24 ((((((words1.drop 24).drop 24).drop 24).drop 24).drop 24).drop 24), List.all_append, w_t7, ← List.take_append_drop 24 (((((((words1.drop 24).drop 24).drop 24).drop 24).drop 24).drop 24).drop 24), List.all_append, w_t8, ← List.take_append_drop 24 ((((((((words1.drop 24).drop 24).drop 24).drop 24).drop 24).drop 24).drop 24).drop 24), List.all_append, w_t9, ← List.take_append_drop 24 (((((((((words1.drop 24).drop 24).drop 24).drop 24).drop 24).drop 24).drop 24).drop 24).drop 24), List.all_append, w_t10, ← List.take_append_drop 24 ((((((((((words1.drop 24).drop 24).drop 24).drop 24).drop 24).drop 24).drop 24).drop 24).drop 24).drop 24), List.all_append, w_t11, ← List.take_append_drop 24 (((((((((((words1.drop 24).drop 24).drop 24).drop 24).drop 24).drop 24).drop 24).drop 24).drop 24).drop 24).drop 24), List.all_append, w_t12, ← List.take_append_drop 24 ((((((((((((words1.drop 24).drop 24).drop 24).drop 24).drop 24).drop 24).drop 24).drop 24).drop 24).drop 24).drop 24).drop 24), List.all_append, w_t13, w_t14]
  rfl
set_option maxRecDepth 65536 in
theorem w_case : (Jvm.Cond.and given_1 narrow_1).before args0 about1 = true := by decide +kernel
theorem w_applies : (headSpec (Jvm.Cond.code x code maxLocals ret :: tables_1) room_1).applies x e0.platform about1 = true :=
  (Spec.applies_iff w_frames).mpr ⟨w_running, w_runnable, w_alone, w_named, w_hears, w_ripe, w_room, w_tables⟩
theorem atStart : AtStart classFile x code maxLocals ret World_1 tables_1 room_1 Calls_1 rest_1 Pre_1 launch0 p0 e0 about1 theMethod args0 below0 :=
  ⟨lists_1, trivial, launch0.admits_env _ _ _, launch0.least_env, fairChoices_fair.cas, fairChoices_fair.clock, w_frames, w_args, w_heap, w_applies, trivial, trivial, w_case⟩
end start1
theorem witness_1 : WitnessClaimed_1 := ⟨start1.p0, start1.e0, start1.about1, start1.theMethod, start1.args0, start1.below0, start1.atStart⟩
end Jvm.Pilot.@@N@@
