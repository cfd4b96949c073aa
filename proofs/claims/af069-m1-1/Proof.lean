import JvmDerived
import JvmDerived.Pilot.@@N@@Statement
import JvmDerived.Pilot.@@N@@Code
set_option linter.unusedVariables false
set_option linter.unusedSimpArgs false
namespace Jvm.OwnW
open Sem ClassFile Op Lib Jvm.Stand Jvm.Free Jvm.LawKit Jvm.RoadKit
/-! THE OWN LAYER: a walk as a backward reckoning over an abstract heap. -/
abbrev OS := List (Addr × (Cell → Prop))
abbrev FV := String × String × String × Value
abbrev Cx := Program × Launch × Env × Room × State × MethodId × Array Value × List Frame × Method × Code
/-- what the walk knows of a heap: the start's cells stand in it unchanged; the listed cells are new, lie apart, and are as described -/
def Hp (Z : State) (h : Heap) (os : OS) : Prop :=
  Ext Z.heap h ∧ (os.map Prod.fst).Nodup ∧ ∀ (k : Nat) (x : Addr × (Cell → Prop)), os[k]? = some x → Z.heap.size ≤ x.1 ∧ ∃ c, h[x.1]? = some c ∧ x.2 c
def FldC (Z : State) (c : Cell) (f : FV) : Prop := ∃ (cf : ClassId) (k : Class) (i : Nat) (fd : Field), Z.fieldFound? f.1 f.2.1 f.2.2.1 = some (cf, k, i, fd) ∧ fd.isStatic = false ∧ c.vm ≠ .unknown ∧ c.vm.isStatics = false ∧ Z.vm.assignable c.cls cf = true ∧ c.slots[fd.slot]? = some f.2.2.2
def ExaC (Z : State) (C : String) (c : Cell) : Prop := ∃ k : Class, Z.vm.findClass C = some c.cls ∧ Z.vm.classes[c.cls]? = some k ∧ c.vm.isStatics = false ∧ (k.kind = .ordinary → c.slots.size = k.instanceTypes.size)
def sl3 (Z : State) (f : FV) : Nat := RoadKit.slotOf Z f.1 f.2.1 f.2.2.1
/-- an object of just the class C with these fields -/
def OBJ (Z : State) (C : String) (fs : List FV) (c : Cell) : Prop := ExaC Z C c ∧ (fs.map (sl3 Z)).Nodup ∧ ∀ f ∈ fs, FldC Z c f
/-- an array of this component kind with these values -/
def ARR (Z : State) (ty : FieldType) (vs : List Value) (c : Cell) : Prop := Z.isArrayOf c ty ∧ c.vm ≠ .unknown ∧ c.slots = vs.toArray ∧ (∀ v ∈ vs, fits ty v = true) ∧ vs.length < 2 ^ 31

section Heap
variable {Z : State} {h h' : Heap} {os os' : OS} {a b : Addr} {P P' : Cell → Prop} {C O n d : String} {fs fs' : List FV} {v w : Value} {ty : FieldType} {vs : List Value} {c : Cell}
theorem Hp.nil (Z : State) : Hp Z Z.heap [] := ⟨⟨Nat.le_refl _, fun _ _ q => q⟩, List.nodup_nil, fun k x hx => by simp at hx⟩
theorem Hp.get (H : Hp Z h os) (hm : (a, P) ∈ os) : Z.heap.size ≤ a ∧ ∃ c, h[a]? = some c ∧ P c := by
  obtain ⟨k, hk⟩ := List.getElem?_of_mem hm
  exact H.2.2 k _ hk
theorem OBJ.exa (hc : h[a]? = some c) (q : OBJ Z C fs c) : Exa Z h a C := by
  obtain ⟨⟨k, h1, h2, h3, h4⟩, -⟩ := q
  exact ⟨c, k, hc, h1, h2, h3, h4⟩
theorem OBJ.fld (hc : h[a]? = some c) (q : OBJ Z C fs c) (hm : (O, n, d, v) ∈ fs) : Fld Z h a O n d v := by
  obtain ⟨cf, k, i, fd, h1, h2, h3, h4, h5, h6⟩ := q.2.2 _ hm
  exact ⟨c, cf, k, i, fd, hc, h1, h2, h3, h4, h5, h6⟩
theorem Hp.ne (H : Hp Z h os) {i j : Nat} {P P' : Cell → Prop} (hi : os[i]? = some (a, P)) (hj : os[j]? = some (b, P')) (hn : i ≠ j) : a ≠ b := by
  intro e
  subst e
  have h1 : (os.map Prod.fst)[i]? = some a := by simp [hi]
  have h2 : (os.map Prod.fst)[j]? = some a := by simp [hj]
  exact hn ((List.getElem?_inj (List.getElem?_eq_some_iff.mp h1).1 H.2.1).mp (h1.trans h2.symm))
theorem Hp.upd (H : Hp Z h os) {i : Nat} (hi : os[i]? = some (a, P)) {sl : Nat} (W : Wr h h' a sl v) (q : ∀ c c', h[a]? = some c → P c → h'[a]? = some c' → c' = c.setSlot sl v → P' c') : Hp Z h' (os.set i (a, P')) := by
  obtain ⟨ha, ca, hca, hPa⟩ := H.2.2 i _ hi
  refine ⟨⟨by rw [W.size]; exact H.1.1, fun x cx hx => ?_⟩, ?_, fun k x hx => ?_⟩
  · obtain ⟨cx', e1, -, -, -, e5, -⟩ := wr_at W (H.1.2 x cx hx)
    have ne : x ≠ a := fun e => by
      subst e
      exact absurd (Array.getElem?_eq_some_iff.mp hx).1 (Nat.not_lt.mpr ha)
    rw [e5 ne] at e1; exact e1
  · have e : (os.set i (a, P')).map Prod.fst = os.map Prod.fst := by
      apply List.ext_getElem?
      intro k
      simp only [List.getElem?_map, List.getElem?_set]
      split
      · rename_i e; subst e
        rw [if_pos (List.getElem?_eq_some_iff.mp hi).1, hi]; rfl
      · rfl
    rw [e]; exact H.2.1
  · rw [List.getElem?_set] at hx
    split at hx
    · rename_i e; subst e
      split at hx
      · cases hx
        obtain ⟨c', e1, -, -, -, -, -, e7⟩ := wr_at W hca
        exact ⟨ha, c', e1, q ca c' hca hPa e1 (e7 rfl).1⟩
      · cases hx
    · rename_i hne
      obtain ⟨g1, cx, g2, g3⟩ := H.2.2 k x hx
      obtain ⟨c', e1, -, -, -, e5, -⟩ := wr_at W g2
      have ne : x.1 ≠ a := H.ne (i := k) (j := i) (P := x.2) hx hi (fun e => hne e.symm)
      rw [e5 ne] at e1
      exact ⟨g1, cx, e1, g3⟩
theorem Hp.new (H : Hp Z h os) (E : Ext h h') (hc : h'[h.size]? = some c) (hP : P c) : Hp Z h' ((h.size, P) :: os) := by
  refine ⟨⟨Nat.le_trans H.1.1 E.1, fun x cx q => E.2 _ _ (H.1.2 _ _ q)⟩, ?_, fun k x hx => ?_⟩
  · rw [List.map_cons, List.nodup_cons]
    refine ⟨fun hm => ?_, H.2.1⟩
    obtain ⟨⟨y1, y2⟩, hy, he⟩ := List.mem_map.mp hm
    obtain ⟨-, cy, hcy, -⟩ := H.get hy
    have := (Array.getElem?_eq_some_iff.mp hcy).1
    dsimp at he
    rw [he] at this; exact Nat.lt_irrefl _ this
  · cases k with
    | zero => cases hx; exact ⟨H.1.1, c, hc, hP⟩
    | succ k =>
      obtain ⟨g1, cx, g2, g3⟩ := H.2.2 k x hx
      exact ⟨g1, cx, E.2 _ _ g2, g3⟩
theorem Hp.ext (H : Hp Z h os) (E : Ext h h') : Hp Z h' os :=
  ⟨⟨Nat.le_trans H.1.1 E.1, fun x cx q => E.2 _ _ (H.1.2 _ _ q)⟩, H.2.1, fun k x hx => by
    obtain ⟨g1, cx, g2, g3⟩ := H.2.2 k x hx; exact ⟨g1, cx, E.2 _ _ g2, g3⟩⟩
theorem Hp.perm (H : Hp Z h os) (p : os.Perm os') : Hp Z h os' :=
  ⟨H.1, (p.map Prod.fst).nodup_iff.mp H.2.1, fun k x hx => by
    obtain ⟨k', hk'⟩ := List.getElem?_of_mem (p.symm.subset (List.mem_of_getElem? hx))
    exact H.2.2 k' x hk'⟩
theorem Hp.sub (H : Hp Z h os) (p : List.Sublist os' os) : Hp Z h os' :=
  ⟨H.1, H.2.1.sublist (p.map Prod.fst), fun k x hx => by
    obtain ⟨k', hk'⟩ := List.getElem?_of_mem (p.subset (List.mem_of_getElem? hx))
    exact H.2.2 k' x hk'⟩
theorem Hp.imp (H : Hp Z h ((a, P) :: os)) (q : ∀ c, P c → P' c) : Hp Z h ((a, P') :: os) :=
  ⟨H.1, H.2.1, fun k x hx => by
    cases k with
    | zero => cases hx; obtain ⟨g1, c, g2, g3⟩ := H.2.2 0 (a, P) rfl; exact ⟨g1, c, g2, q c g3⟩
    | succ k => exact H.2.2 (k + 1) x hx⟩
/-- the list os with the entry at a turned from P to P' is os' -/
def Upd (os : OS) (a : Addr) (P P' : Cell → Prop) (os' : OS) : Prop := ∃ i : Nat, os[i]? = some (a, P) ∧ os' = os.set i (a, P')
theorem Upd.here {r : OS} : Upd ((a, P) :: r) a P P' ((a, P') :: r) := ⟨0, rfl, rfl⟩
theorem Upd.there {r r' : OS} {x : Addr × (Cell → Prop)} (u : Upd r a P P' r') : Upd (x :: r) a P P' (x :: r') := by
  obtain ⟨i, h1, rfl⟩ := u; exact ⟨i + 1, h1, rfl⟩
/-- the fields fs with (O, n, d) now at v are fs' -/
def UpdF (fs : List FV) (O n d : String) (w v : Value) (fs' : List FV) : Prop := ∃ i : Nat, fs[i]? = some (O, n, d, w) ∧ fs' = fs.set i (O, n, d, v)
theorem UpdF.here {r : List FV} : UpdF ((O, n, d, w) :: r) O n d w v ((O, n, d, v) :: r) := ⟨0, rfl, rfl⟩
theorem UpdF.there {r r' : List FV} {x : FV} (u : UpdF r O n d w v r') : UpdF (x :: r) O n d w v (x :: r') := by
  obtain ⟨i, h1, rfl⟩ := u; exact ⟨i + 1, h1, rfl⟩
theorem OBJ.put {c : Cell} (q : OBJ Z C fs c) (u : UpdF fs O n d w v fs') : OBJ Z C fs' (c.setSlot (RoadKit.slotOf Z O n d) v) := by
  obtain ⟨i, hi, rfl⟩ := u
  obtain ⟨⟨k, e1, e2, e3, e4⟩, nd, ff⟩ := q
  have hslots : ∀ j : Nat, (c.setSlot (RoadKit.slotOf Z O n d) v).slots[j]? = if RoadKit.slotOf Z O n d = j then (if j < c.slots.size then some v else none) else c.slots[j]? := fun j => by
    simp only [Cell.setSlot, Array.getElem?_setIfInBounds]
    by_cases e : RoadKit.slotOf Z O n d = j
    · rw [if_pos e, if_pos e, e]
    · rw [if_neg e, if_neg e]
  have hes : ∀ x ∈ fs, ∃ fd : Field, sl3 Z x = fd.slot ∧ ∃ cf k' i', Z.fieldFound? x.1 x.2.1 x.2.2.1 = some (cf, k', i', fd) := fun x hx => by
    obtain ⟨cf, k', i', fd, g1, -⟩ := ff x hx
    exact ⟨fd, by simp [sl3, RoadKit.slotOf, g1], cf, k', i', g1⟩
  refine ⟨⟨k, e1, e2, e3, fun z => by rw [show (c.setSlot (RoadKit.slotOf Z O n d) v).slots.size = c.slots.size by simp [Cell.setSlot]]; exact e4 z⟩, ?_, fun x hx => ?_⟩
  · have e : (fs.set i (O, n, d, v)).map (sl3 Z) = fs.map (sl3 Z) := by
      apply List.ext_getElem?
      intro k
      simp only [List.getElem?_map, List.getElem?_set]
      split
      · rename_i e; subst e
        rw [if_pos (List.getElem?_eq_some_iff.mp hi).1, hi]; rfl
      · rfl
    rw [e]; exact nd
  · obtain ⟨m, hm⟩ := List.getElem?_of_mem hx
    rw [List.getElem?_set] at hm
    split at hm
    · split at hm
      · cases hm
        obtain ⟨cf, k', i', fd, g1, g2, g3, g4, g5, g6⟩ := ff _ (List.mem_of_getElem? hi)
        refine ⟨cf, k', i', fd, g1, g2, g3, g4, g5, ?_⟩
        have es : RoadKit.slotOf Z O n d = fd.slot := by have g1' : Z.fieldFound? O n d = some (cf, k', i', fd) := g1; simp [RoadKit.slotOf, g1']
        rw [hslots, if_pos es, if_pos (Array.getElem?_eq_some_iff.mp g6).1]
      · cases hm
    · rename_i hne
      obtain ⟨cf, k', i', fd, g1, g2, g3, g4, g5, g6⟩ := ff x (List.mem_of_getElem? hm)
      refine ⟨cf, k', i', fd, g1, g2, g3, g4, g5, ?_⟩
      have es : sl3 Z x = fd.slot := by simp [sl3, RoadKit.slotOf, g1]
      have ne : RoadKit.slotOf Z O n d ≠ fd.slot := fun e => by
        have h1 : (fs.map (sl3 Z))[i]? = some fd.slot := by simp [hi, sl3, e]
        have h2 : (fs.map (sl3 Z))[m]? = some fd.slot := by simp [hm, es]
        exact hne ((List.getElem?_inj (List.getElem?_eq_some_iff.mp h1).1 nd).mp (h1.trans h2.symm))
      rw [hslots, if_neg ne]; exact g6
theorem ARR.put {c : Cell} (q : ARR Z ty vs c) {k : Nat} (hv : fits ty v = true) : ARR Z ty (vs.set k v) (c.setSlot k v) := by
  obtain ⟨h1, h2, h3, h4, h5⟩ := q
  refine ⟨h1, h2, by simp [Cell.setSlot, h3], fun x hx => ?_, by simpa using h5⟩
  rcases List.mem_or_eq_of_mem_set hx with g | g
  · exact h4 x g
  · rw [g]; exact hv
/-- the sheet's words on the fields of a class, and their first values -/
def Laids (Z : State) (a0 : Array Value) (C : String) : List FV → Prop
  | [] => True
  | f :: r => (Laid Z a0 C f.1 f.2.1 f.2.2.1 ∧ ∃ ty, parseFieldDescriptor f.2.2.1 = some ty ∧ defaultValue ty = f.2.2.2) ∧ Laids Z a0 C r
theorem Laids.mem {a0 : Array Value} : ∀ {fs : List FV}, Laids Z a0 C fs → ∀ f ∈ fs, Laid Z a0 C f.1 f.2.1 f.2.2.1 ∧ ∃ ty, parseFieldDescriptor f.2.2.1 = some ty ∧ defaultValue ty = f.2.2.2
  | [], _, f, hf => nomatch hf
  | g :: r, q, f, hf => by
    rcases List.mem_cons.mp hf with rfl | hf
    · exact q.1
    · exact Laids.mem q.2 f hf
theorem Laids.nodup {a0 : Array Value} : ∀ {fs : List FV}, Laids Z a0 C fs → (fs.map (fun f => f.2.1)).Nodup → (fs.map (sl3 Z)).Nodup
  | [], _, _ => List.nodup_nil
  | g :: r, q, nd => by
    rw [List.map_cons, List.nodup_cons] at nd ⊢
    refine ⟨fun hm => ?_, Laids.nodup q.2 nd.2⟩
    obtain ⟨x, hx, he⟩ := List.mem_map.mp hm
    obtain ⟨l1, t1, p1, -⟩ := q.1
    obtain ⟨l2, t2, p2, -⟩ := Laids.mem q.2 x hx
    exact RoadKit.slot_ne l2 l1 (fun e => nd.1 (List.mem_map.mpr ⟨x, hx, e⟩)) p2 p1 he
theorem OBJ.new {a0 : Array Value} (E : Exa Z h a C) (D : ∀ {O nm d : String} {ty : FieldType}, Laid Z a0 C O nm d → parseFieldDescriptor d = some ty → Fld Z h a O nm d (defaultValue ty)) (q : Laids Z a0 C fs) (nd : (fs.map (fun f => f.2.1)).Nodup) :
    ∃ c, h[a]? = some c ∧ OBJ Z C fs c := by
  obtain ⟨c, k, h1, h2, h3, h4, h5⟩ := E
  refine ⟨c, h1, ⟨k, h2, h3, h4, h5⟩, q.nodup nd, fun f hf => ?_⟩
  obtain ⟨l1, ty, p1, e1⟩ := q.mem f hf
  obtain ⟨c', cf, k', i, fd, g1, g2, g3, g4, g5, g6, g7⟩ := D l1 p1
  cases h1.symm.trans g1
  exact ⟨cf, k', i, fd, g2, g3, g4, g5, g6, by rw [← e1]; exact g7⟩
end Heap
end Jvm.OwnW
namespace Jvm.OwnW
open Sem ClassFile Op Lib Jvm.Stand Jvm.Free Jvm.LawKit Jvm.RoadKit
def Stn (X : Cx) (T : State) (locs : List Loc) (ce sl : Nat) : Prop := Stand X.1 X.2.1 X.2.2.1 X.2.2.2.1 X.2.2.2.2.1 X.2.2.2.2.2.1 X.2.2.2.2.2.2.1 X.2.2.2.2.2.2.2.1 X.2.2.2.2.2.2.2.2.1 X.2.2.2.2.2.2.2.2.2 T locs ce sl
/-- from here the run comes to the method's end, and there Q holds -/
def Fn (X : Cx) (Z : State) (rc rs : Nat) (Q : Option Value → OS → Prop) (start : State) : Prop :=
  ∃ s₂ o, Steps X.1.tables X.2.2.1 X.2.2.2.2.2.2.2.1 start s₂ ∧ s₂.status = .running ∧ Ended s₂ X.2.2.2.2.2.2.2.1 o ∧ ∃ v L, o = .returned v ∧ (∃ os', Q v os' ∧ Hp Z s₂.heap os' ∧ Fr Z.heap.size L) ∧ FrameEnd X.2.2.2.2.1 o s₂ L rc rs
def WP (X : Cx) (Z : State) (rc rs : Nat) (Q : Option Value → OS → Prop) (pc : Nat) (L : List Slot) (S : List Value) (os : OS) (ce sl : Nat) : Prop :=
  ∀ T locs, Stn X T locs ce sl → Hp Z T.heap os → Fr Z.heap.size locs → Fn X Z rc rs Q (T.setTop (mkF X.2.2.2.2.2.1 pc L.toArray S))
def Ctx (X : Cx) (l : Launch) (Z : State) (R : Room) (y : MethodName) (code : ByteArray) (maxL : Nat) (ret : Option FieldType) : Prop :=
  X.2.1 = l ∧ X.2.2.2.1 = R ∧ X.1.tables.exec = Jvm.exec ∧ Z.Warmed39 X.2.2.2.2.1.vm ∧ X.2.2.2.2.2.2.2.2.2.code = code ∧ X.2.2.2.2.2.2.2.2.2.maxLocals = maxL ∧ X.2.2.2.2.1.vm.findClass y.cls = some X.2.2.2.2.2.1.cls ∧ X.2.2.2.2.2.2.2.2.1.name = y.name ∧ X.2.2.2.2.2.2.2.2.1.sig.returnType = ret ∧ X.2.2.2.2.2.2.2.2.1.locks = false
/-- the contract of a method, called with these arguments over this abstract heap -/
def OMeets (l : Launch) (Z : State) (y : MethodName) (bytes : ByteArray) (maxL : Nat) (ret : Option FieldType) (rm : Room) (as : List Value) (os : OS) (Q : Option Value → OS → Prop) : Prop :=
  ∀ h0, Hp Z h0 os → ∀ ws : List Jvm.Cond, MetFree l y (head1 (Jvm.Cond.code y bytes maxL ret :: ws) rm) (fun a U => a = as.toArray ∧ Z.Warmed39 U.vm ∧ U.heap = h0) (fun _ _ _ _ _ => True)
    (fun _ U o U' => ∃ v L, o = .returned v ∧ (∃ os', Q v os' ∧ Hp Z U'.heap os' ∧ Fr Z.heap.size L) ∧ FrameEnd U o U' L rm.cells rm.slots)
def RetV (q : Value → OS → Prop) : Option Value → OS → Prop := fun v os => ∃ x, v = some x ∧ q x os
def RetN (q : OS → Prop) : Option Value → OS → Prop := fun v os => v = none ∧ q os
def laid : List Value → List Slot
  | [] => []
  | v :: r => match v.category with
    | 2 => .val v :: .second :: laid r
    | _ => .val v :: laid r
theorem laid_fold : ∀ (as : List Value) (acc : Array Slot), as.foldl (fun acc v => if v.category = 2 then (acc.push (.val v)).push .second else acc.push (.val v)) acc = acc ++ (laid as).toArray
  | [], acc => by simp [laid]
  | v :: r, acc => by
    rw [List.foldl_cons, laid_fold r]
    have hv : v.category = 2 ∨ v.category = 1 := by cases v <;> simp [Value.category]
    rcases hv with h | h
    · rw [if_pos h]
      simp only [laid, h]
      apply Array.ext'
      simp
    · rw [if_neg (by rw [h]; decide)]
      simp only [laid, h]
      apply Array.ext'
      simp
theorem laid_eq (as : List Value) (n : Nat) {L : List Slot} (h : laid as ++ List.replicate (n - (laid as).length) .unset = L) : argsToLocals as.toArray n = L.toArray := by
  subst h
  unfold argsToLocals
  rw [List.foldl_toArray, laid_fold]
  apply Array.ext'
  simp
theorem OMeets.of_body {l : Launch} {Z : State} {y : MethodName} {bytes : ByteArray} {maxL : Nat} {ret : Option FieldType} {rm : Room} {as : List Value} {os : OS} {Q : Option Value → OS → Prop} (L : List Slot)
    (hpn : plainFor y = true) (hef : argsToLocals as.toArray maxL = L.toArray) (hk : ∀ X : Cx, Ctx X l Z rm y bytes maxL ret → WP X Z rm.cells rm.slots Q 0 L [] os 0 0) : OMeets l Z y bytes maxL ret rm as os Q := by
  intro h0 H ws
  refine MetFree.of_bodySF hpn hisR ?_
  intro p e s m args below meth c s₁ Bd hml0 hP hK
  obtain ⟨rfl, hZ, hh⟩ := hP
  have X0 : Stand p l e rm s m as.toArray below meth c s₁ [] 0 0 := Stand.of_body Bd
  have e0 : s₁.heap = h0 := by rw [← hh, Bd.state]; rfl
  obtain ⟨s2, o, st, r⟩ := hk (p, l, e, rm, s, m, as.toArray, below, meth, c) ⟨rfl, rfl, Bd.exec, hZ, Bd.bytes, hml0, findClass_of_methodNamed Bd.named, (name_of_methodNamed Bd.named Bd.method).1, Bd.returns, Bd.notSynchronized⟩ s₁ [] X0 (by rw [e0]; exact H) (Fr.nil _)
  refine ⟨s2, o, castTop (g' := mkF m 0 L.toArray []) ?_ st, r⟩
  simp only [entryFrame, mkF, hef]
theorem OMeets.weaken {l : Launch} {Z : State} {y : MethodName} {bytes : ByteArray} {maxL : Nat} {ret : Option FieldType} {rm : Room} {as : List Value} {os : OS} {Q Q' : Option Value → OS → Prop}
    (h : OMeets l Z y bytes maxL ret rm as os Q) (q : ∀ v os', Q v os' → Q' v os') : OMeets l Z y bytes maxL ret rm as os Q' := by
  intro h0 H ws p e ha hc hk s m args below hf happ hP hK
  obtain ⟨n, o, h1, h2, h3, v, L, h4, ⟨os', h5, h6⟩, h7⟩ := h h0 H ws p e ha hc hk s m args below hf happ hP hK
  exact ⟨n, o, h1, h2, h3, v, L, h4, ⟨os', q v os' h5, h6⟩, h7⟩
section Ops
variable {X : Cx} {l : Launch} {Z : State} {R : Room} {y : MethodName} {code : ByteArray} {maxL : Nat} {ret : Option FieldType} {rc rs : Nat} {Q : Option Value → OS → Prop} {pc : Nat} {L : List Slot} {S : List Value} {os os' : OS} {ce sl : Nat} {a0 : Array Value}
theorem WP.perm (p : os.Perm os') (k : WP X Z rc rs Q pc L S os' ce sl) : WP X Z rc rs Q pc L S os ce sl := fun T locs hT hH hF => k T locs hT (hH.perm p) hF
theorem WP.sub (p : List.Sublist os' os) (k : WP X Z rc rs Q pc L S os' ce sl) : WP X Z rc rs Q pc L S os ce sl := fun T locs hT hH hF => k T locs hT (hH.sub p) hF
/-- a fact out of the abstract heap -/
theorem WP.fact {F : Prop} (f : ∀ h, Hp Z h os → F) (k : F → WP X Z rc rs Q pc L S os ce sl) : WP X Z rc rs Q pc L S os ce sl := fun T locs hT hH hF => k (f _ hH) T locs hT hH hF
theorem perm_front {α : Type} {x : α} : ∀ {os : List α} (i : Nat), os[i]? = some x → os.Perm (x :: os.eraseIdx i)
  | [], i, h => by simp at h
  | y :: r, 0, h => by cases h; exact List.Perm.refl _
  | y :: r, i + 1, h => ((perm_front (os := r) i h).cons y).trans (List.Perm.swap x y _)
theorem pickHere {α : Type} {x : α} {r : List α} : (x :: r).Perm (x :: r) := List.Perm.refl _
theorem pickThere {α : Type} {x z : α} {r r' : List α} (h : r.Perm (x :: r')) : (z :: r).Perm (x :: z :: r') := (h.cons z).trans (List.Perm.swap x z r')
/-- the entry of address a comes to the front -/
theorem WP.pick {P : Cell → Prop} (a : Addr) (p : os.Perm ((a, P) :: os')) (k : WP X Z rc rs Q pc L S ((a, P) :: os') ce sl) : WP X Z rc rs Q pc L S os ce sl := WP.perm p k
theorem WP.imp0 {a : Addr} {P P2 : Cell → Prop} {r : OS} (q : ∀ c, P c → P2 c) (k : WP X Z rc rs Q pc L S ((a, P2) :: r) ce sl) : WP X Z rc rs Q pc L S ((a, P) :: r) ce sl := fun T locs hT hH hF => k T locs hT (hH.imp q) hF
/-- more cells and slots booked than were used -/
theorem WP.book {ce' sl' : Nat} (hc : ce ≤ ce') (hs : sl ≤ sl') (k : WP X Z rc rs Q pc L S os ce' sl') : WP X Z rc rs Q pc L S os ce sl := by
  intro T locs hT hH hF
  refine k T locs ?_ hH hF
  obtain ⟨h1, h2, h3, h4, h5, h6, h7, h8, h9, h10, h11, h12, h13, h14⟩ := hT
  exact ⟨h1, h2, h3, h4, h5, h6, h7, h8, h9, h10, h11, h12, h13, h14.mono hc hs⟩

theorem W.iadd {x z : Int32} (K : Ctx X l Z R y code maxL ret) (pc' : Nat) (hd : decode code pc = .ok (.iadd, 1)) (k : WP X Z rc rs Q pc' L (.int (x + z) :: S) os ce sl) (hp : pc + 1 = pc' := by rfl) : WP X Z rc rs Q pc L (.int z :: .int x :: S) os ce sl := by
  obtain ⟨p, l', e, R', s, m, args, below, meth, c⟩ := X
  obtain ⟨h1, h2, hx, hZ, hby, hml, hown, hnm, hret, hlk⟩ := K
  have h2' : R' = R := h2
  subst h2'
  subst hp
  intro T locs hT0 hH hF
  have hT : Stand p l' e R' s m args below meth c T locs ce sl := hT0
  obtain ⟨s2, o, st, r⟩ := k T locs hT hH hF
  exact ⟨s2, o, XS.iadd (Stand.here hT) hx rfl (hb hby hd) rfl st, r⟩
theorem W.isub {x z : Int32} (K : Ctx X l Z R y code maxL ret) (pc' : Nat) (hd : decode code pc = .ok (.isub, 1)) (k : WP X Z rc rs Q pc' L (.int (x - z) :: S) os ce sl) (hp : pc + 1 = pc' := by rfl) : WP X Z rc rs Q pc L (.int z :: .int x :: S) os ce sl := by
  obtain ⟨p, l', e, R', s, m, args, below, meth, c⟩ := X
  obtain ⟨h1, h2, hx, hZ, hby, hml, hown, hnm, hret, hlk⟩ := K
  have h2' : R' = R := h2
  subst h2'
  subst hp
  intro T locs hT0 hH hF
  have hT : Stand p l' e R' s m args below meth c T locs ce sl := hT0
  obtain ⟨s2, o, st, r⟩ := k T locs hT hH hF
  exact ⟨s2, o, XS.isub (Stand.here hT) hx rfl (hb hby hd) rfl st, r⟩
theorem W.imul {x z : Int32} (K : Ctx X l Z R y code maxL ret) (pc' : Nat) (hd : decode code pc = .ok (.imul, 1)) (k : WP X Z rc rs Q pc' L (.int (x * z) :: S) os ce sl) (hp : pc + 1 = pc' := by rfl) : WP X Z rc rs Q pc L (.int z :: .int x :: S) os ce sl := by
  obtain ⟨p, l', e, R', s, m, args, below, meth, c⟩ := X
  obtain ⟨h1, h2, hx, hZ, hby, hml, hown, hnm, hret, hlk⟩ := K
  have h2' : R' = R := h2
  subst h2'
  subst hp
  intro T locs hT0 hH hF
  have hT : Stand p l' e R' s m args below meth c T locs ce sl := hT0
  obtain ⟨s2, o, st, r⟩ := k T locs hT hH hF
  exact ⟨s2, o, XS.imul (Stand.here hT) hx rfl (hb hby hd) rfl st, r⟩
theorem W.iand {x z : Int32} (K : Ctx X l Z R y code maxL ret) (pc' : Nat) (hd : decode code pc = .ok (.iand, 1)) (k : WP X Z rc rs Q pc' L (.int (x &&& z) :: S) os ce sl) (hp : pc + 1 = pc' := by rfl) : WP X Z rc rs Q pc L (.int z :: .int x :: S) os ce sl := by
  obtain ⟨p, l', e, R', s, m, args, below, meth, c⟩ := X
  obtain ⟨h1, h2, hx, hZ, hby, hml, hown, hnm, hret, hlk⟩ := K
  have h2' : R' = R := h2
  subst h2'
  subst hp
  intro T locs hT0 hH hF
  have hT : Stand p l' e R' s m args below meth c T locs ce sl := hT0
  obtain ⟨s2, o, st, r⟩ := k T locs hT hH hF
  exact ⟨s2, o, XS.iand (Stand.here hT) hx rfl (hb hby hd) rfl st, r⟩
theorem W.ior {x z : Int32} (K : Ctx X l Z R y code maxL ret) (pc' : Nat) (hd : decode code pc = .ok (.ior, 1)) (k : WP X Z rc rs Q pc' L (.int (x ||| z) :: S) os ce sl) (hp : pc + 1 = pc' := by rfl) : WP X Z rc rs Q pc L (.int z :: .int x :: S) os ce sl := by
  obtain ⟨p, l', e, R', s, m, args, below, meth, c⟩ := X
  obtain ⟨h1, h2, hx, hZ, hby, hml, hown, hnm, hret, hlk⟩ := K
  have h2' : R' = R := h2
  subst h2'
  subst hp
  intro T locs hT0 hH hF
  have hT : Stand p l' e R' s m args below meth c T locs ce sl := hT0
  obtain ⟨s2, o, st, r⟩ := k T locs hT hH hF
  exact ⟨s2, o, XS.ior (Stand.here hT) hx rfl (hb hby hd) rfl st, r⟩
theorem W.ixor {x z : Int32} (K : Ctx X l Z R y code maxL ret) (pc' : Nat) (hd : decode code pc = .ok (.ixor, 1)) (k : WP X Z rc rs Q pc' L (.int (x ^^^ z) :: S) os ce sl) (hp : pc + 1 = pc' := by rfl) : WP X Z rc rs Q pc L (.int z :: .int x :: S) os ce sl := by
  obtain ⟨p, l', e, R', s, m, args, below, meth, c⟩ := X
  obtain ⟨h1, h2, hx, hZ, hby, hml, hown, hnm, hret, hlk⟩ := K
  have h2' : R' = R := h2
  subst h2'
  subst hp
  intro T locs hT0 hH hF
  have hT : Stand p l' e R' s m args below meth c T locs ce sl := hT0
  obtain ⟨s2, o, st, r⟩ := k T locs hT hH hF
  exact ⟨s2, o, XS.ixor (Stand.here hT) hx rfl (hb hby hd) rfl st, r⟩
theorem W.ishl {x z : Int32} (K : Ctx X l Z R y code maxL ret) (pc' : Nat) (hd : decode code pc = .ok (.ishl, 1)) (k : WP X Z rc rs Q pc' L (.int (x <<< (z &&& 31)) :: S) os ce sl) (hp : pc + 1 = pc' := by rfl) : WP X Z rc rs Q pc L (.int z :: .int x :: S) os ce sl := by
  obtain ⟨p, l', e, R', s, m, args, below, meth, c⟩ := X
  obtain ⟨h1, h2, hx, hZ, hby, hml, hown, hnm, hret, hlk⟩ := K
  have h2' : R' = R := h2
  subst h2'
  subst hp
  intro T locs hT0 hH hF
  have hT : Stand p l' e R' s m args below meth c T locs ce sl := hT0
  obtain ⟨s2, o, st, r⟩ := k T locs hT hH hF
  exact ⟨s2, o, XS.ishl (Stand.here hT) hx rfl (hb hby hd) rfl st, r⟩
theorem W.ishr {x z : Int32} (K : Ctx X l Z R y code maxL ret) (pc' : Nat) (hd : decode code pc = .ok (.ishr, 1)) (k : WP X Z rc rs Q pc' L (.int (x >>> (z &&& 31)) :: S) os ce sl) (hp : pc + 1 = pc' := by rfl) : WP X Z rc rs Q pc L (.int z :: .int x :: S) os ce sl := by
  obtain ⟨p, l', e, R', s, m, args, below, meth, c⟩ := X
  obtain ⟨h1, h2, hx, hZ, hby, hml, hown, hnm, hret, hlk⟩ := K
  have h2' : R' = R := h2
  subst h2'
  subst hp
  intro T locs hT0 hH hF
  have hT : Stand p l' e R' s m args below meth c T locs ce sl := hT0
  obtain ⟨s2, o, st, r⟩ := k T locs hT hH hF
  exact ⟨s2, o, XS.ishr (Stand.here hT) hx rfl (hb hby hd) rfl st, r⟩
theorem W.iushr {x z : Int32} (K : Ctx X l Z R y code maxL ret) (pc' : Nat) (hd : decode code pc = .ok (.iushr, 1)) (k : WP X Z rc rs Q pc' L (.int ((x.toUInt32 >>> (z &&& 31).toUInt32).toInt32) :: S) os ce sl) (hp : pc + 1 = pc' := by rfl) : WP X Z rc rs Q pc L (.int z :: .int x :: S) os ce sl := by
  obtain ⟨p, l', e, R', s, m, args, below, meth, c⟩ := X
  obtain ⟨h1, h2, hx, hZ, hby, hml, hown, hnm, hret, hlk⟩ := K
  have h2' : R' = R := h2
  subst h2'
  subst hp
  intro T locs hT0 hH hF
  have hT : Stand p l' e R' s m args below meth c T locs ce sl := hT0
  obtain ⟨s2, o, st, r⟩ := k T locs hT hH hF
  exact ⟨s2, o, XS.iushr (Stand.here hT) hx rfl (hb hby hd) rfl st, r⟩
theorem W.ladd {x z : Int64} (K : Ctx X l Z R y code maxL ret) (pc' : Nat) (hd : decode code pc = .ok (.ladd, 1)) (k : WP X Z rc rs Q pc' L (.long (x + z) :: S) os ce sl) (hp : pc + 1 = pc' := by rfl) : WP X Z rc rs Q pc L (.long z :: .long x :: S) os ce sl := by
  obtain ⟨p, l', e, R', s, m, args, below, meth, c⟩ := X
  obtain ⟨h1, h2, hx, hZ, hby, hml, hown, hnm, hret, hlk⟩ := K
  have h2' : R' = R := h2
  subst h2'
  subst hp
  intro T locs hT0 hH hF
  have hT : Stand p l' e R' s m args below meth c T locs ce sl := hT0
  obtain ⟨s2, o, st, r⟩ := k T locs hT hH hF
  exact ⟨s2, o, XS.ladd (Stand.here hT) hx rfl (hb hby hd) rfl st, r⟩
theorem W.lsub {x z : Int64} (K : Ctx X l Z R y code maxL ret) (pc' : Nat) (hd : decode code pc = .ok (.lsub, 1)) (k : WP X Z rc rs Q pc' L (.long (x - z) :: S) os ce sl) (hp : pc + 1 = pc' := by rfl) : WP X Z rc rs Q pc L (.long z :: .long x :: S) os ce sl := by
  obtain ⟨p, l', e, R', s, m, args, below, meth, c⟩ := X
  obtain ⟨h1, h2, hx, hZ, hby, hml, hown, hnm, hret, hlk⟩ := K
  have h2' : R' = R := h2
  subst h2'
  subst hp
  intro T locs hT0 hH hF
  have hT : Stand p l' e R' s m args below meth c T locs ce sl := hT0
  obtain ⟨s2, o, st, r⟩ := k T locs hT hH hF
  exact ⟨s2, o, XS.lsub (Stand.here hT) hx rfl (hb hby hd) rfl st, r⟩
theorem W.lmul {x z : Int64} (K : Ctx X l Z R y code maxL ret) (pc' : Nat) (hd : decode code pc = .ok (.lmul, 1)) (k : WP X Z rc rs Q pc' L (.long (x * z) :: S) os ce sl) (hp : pc + 1 = pc' := by rfl) : WP X Z rc rs Q pc L (.long z :: .long x :: S) os ce sl := by
  obtain ⟨p, l', e, R', s, m, args, below, meth, c⟩ := X
  obtain ⟨h1, h2, hx, hZ, hby, hml, hown, hnm, hret, hlk⟩ := K
  have h2' : R' = R := h2
  subst h2'
  subst hp
  intro T locs hT0 hH hF
  have hT : Stand p l' e R' s m args below meth c T locs ce sl := hT0
  obtain ⟨s2, o, st, r⟩ := k T locs hT hH hF
  exact ⟨s2, o, XS.lmul (Stand.here hT) hx rfl (hb hby hd) rfl st, r⟩
theorem W.land {x z : Int64} (K : Ctx X l Z R y code maxL ret) (pc' : Nat) (hd : decode code pc = .ok (.land, 1)) (k : WP X Z rc rs Q pc' L (.long (x &&& z) :: S) os ce sl) (hp : pc + 1 = pc' := by rfl) : WP X Z rc rs Q pc L (.long z :: .long x :: S) os ce sl := by
  obtain ⟨p, l', e, R', s, m, args, below, meth, c⟩ := X
  obtain ⟨h1, h2, hx, hZ, hby, hml, hown, hnm, hret, hlk⟩ := K
  have h2' : R' = R := h2
  subst h2'
  subst hp
  intro T locs hT0 hH hF
  have hT : Stand p l' e R' s m args below meth c T locs ce sl := hT0
  obtain ⟨s2, o, st, r⟩ := k T locs hT hH hF
  exact ⟨s2, o, XS.land (Stand.here hT) hx rfl (hb hby hd) rfl st, r⟩
theorem W.lor {x z : Int64} (K : Ctx X l Z R y code maxL ret) (pc' : Nat) (hd : decode code pc = .ok (.lor, 1)) (k : WP X Z rc rs Q pc' L (.long (x ||| z) :: S) os ce sl) (hp : pc + 1 = pc' := by rfl) : WP X Z rc rs Q pc L (.long z :: .long x :: S) os ce sl := by
  obtain ⟨p, l', e, R', s, m, args, below, meth, c⟩ := X
  obtain ⟨h1, h2, hx, hZ, hby, hml, hown, hnm, hret, hlk⟩ := K
  have h2' : R' = R := h2
  subst h2'
  subst hp
  intro T locs hT0 hH hF
  have hT : Stand p l' e R' s m args below meth c T locs ce sl := hT0
  obtain ⟨s2, o, st, r⟩ := k T locs hT hH hF
  exact ⟨s2, o, XS.lor (Stand.here hT) hx rfl (hb hby hd) rfl st, r⟩
theorem W.lxor {x z : Int64} (K : Ctx X l Z R y code maxL ret) (pc' : Nat) (hd : decode code pc = .ok (.lxor, 1)) (k : WP X Z rc rs Q pc' L (.long (x ^^^ z) :: S) os ce sl) (hp : pc + 1 = pc' := by rfl) : WP X Z rc rs Q pc L (.long z :: .long x :: S) os ce sl := by
  obtain ⟨p, l', e, R', s, m, args, below, meth, c⟩ := X
  obtain ⟨h1, h2, hx, hZ, hby, hml, hown, hnm, hret, hlk⟩ := K
  have h2' : R' = R := h2
  subst h2'
  subst hp
  intro T locs hT0 hH hF
  have hT : Stand p l' e R' s m args below meth c T locs ce sl := hT0
  obtain ⟨s2, o, st, r⟩ := k T locs hT hH hF
  exact ⟨s2, o, XS.lxor (Stand.here hT) hx rfl (hb hby hd) rfl st, r⟩
theorem W.lshl {x : Int64} {z : Int32} (K : Ctx X l Z R y code maxL ret) (pc' : Nat) (hd : decode code pc = .ok (.lshl, 1)) (k : WP X Z rc rs Q pc' L (.long (x <<< (z &&& 0x3f).toInt64) :: S) os ce sl) (hp : pc + 1 = pc' := by rfl) : WP X Z rc rs Q pc L (.int z :: .long x :: S) os ce sl := by
  obtain ⟨p, l', e, R', s, m, args, below, meth, c⟩ := X
  obtain ⟨h1, h2, hx, hZ, hby, hml, hown, hnm, hret, hlk⟩ := K
  have h2' : R' = R := h2
  subst h2'
  subst hp
  intro T locs hT0 hH hF
  have hT : Stand p l' e R' s m args below meth c T locs ce sl := hT0
  obtain ⟨s2, o, st, r⟩ := k T locs hT hH hF
  exact ⟨s2, o, XS.lshl (Stand.here hT) hx rfl (hb hby hd) rfl st, r⟩
theorem W.lshr {x : Int64} {z : Int32} (K : Ctx X l Z R y code maxL ret) (pc' : Nat) (hd : decode code pc = .ok (.lshr, 1)) (k : WP X Z rc rs Q pc' L (.long (x >>> (z &&& 0x3f).toInt64) :: S) os ce sl) (hp : pc + 1 = pc' := by rfl) : WP X Z rc rs Q pc L (.int z :: .long x :: S) os ce sl := by
  obtain ⟨p, l', e, R', s, m, args, below, meth, c⟩ := X
  obtain ⟨h1, h2, hx, hZ, hby, hml, hown, hnm, hret, hlk⟩ := K
  have h2' : R' = R := h2
  subst h2'
  subst hp
  intro T locs hT0 hH hF
  have hT : Stand p l' e R' s m args below meth c T locs ce sl := hT0
  obtain ⟨s2, o, st, r⟩ := k T locs hT hH hF
  exact ⟨s2, o, XS.lshr (Stand.here hT) hx rfl (hb hby hd) rfl st, r⟩
theorem W.lushr {x : Int64} {z : Int32} (K : Ctx X l Z R y code maxL ret) (pc' : Nat) (hd : decode code pc = .ok (.lushr, 1)) (k : WP X Z rc rs Q pc' L (.long ((x.toUInt64 >>> (z &&& 0x3f).toInt64.toUInt64).toInt64) :: S) os ce sl) (hp : pc + 1 = pc' := by rfl) : WP X Z rc rs Q pc L (.int z :: .long x :: S) os ce sl := by
  obtain ⟨p, l', e, R', s, m, args, below, meth, c⟩ := X
  obtain ⟨h1, h2, hx, hZ, hby, hml, hown, hnm, hret, hlk⟩ := K
  have h2' : R' = R := h2
  subst h2'
  subst hp
  intro T locs hT0 hH hF
  have hT : Stand p l' e R' s m args below meth c T locs ce sl := hT0
  obtain ⟨s2, o, st, r⟩ := k T locs hT hH hF
  exact ⟨s2, o, XS.lushr (Stand.here hT) hx rfl (hb hby hd) rfl st, r⟩
theorem W.ineg {x : Int32} (K : Ctx X l Z R y code maxL ret) (pc' : Nat) (hd : decode code pc = .ok (.ineg, 1)) (k : WP X Z rc rs Q pc' L (.int (-x) :: S) os ce sl) (hp : pc + 1 = pc' := by rfl) : WP X Z rc rs Q pc L (.int x :: S) os ce sl := by
  obtain ⟨p, l', e, R', s, m, args, below, meth, c⟩ := X
  obtain ⟨h1, h2, hx, hZ, hby, hml, hown, hnm, hret, hlk⟩ := K
  have h2' : R' = R := h2
  subst h2'
  subst hp
  intro T locs hT0 hH hF
  have hT : Stand p l' e R' s m args below meth c T locs ce sl := hT0
  obtain ⟨s2, o, st, r⟩ := k T locs hT hH hF
  exact ⟨s2, o, XS.ineg (Stand.here hT) hx rfl (hb hby hd) rfl st, r⟩
theorem W.lneg {x : Int64} (K : Ctx X l Z R y code maxL ret) (pc' : Nat) (hd : decode code pc = .ok (.lneg, 1)) (k : WP X Z rc rs Q pc' L (.long (-x) :: S) os ce sl) (hp : pc + 1 = pc' := by rfl) : WP X Z rc rs Q pc L (.long x :: S) os ce sl := by
  obtain ⟨p, l', e, R', s, m, args, below, meth, c⟩ := X
  obtain ⟨h1, h2, hx, hZ, hby, hml, hown, hnm, hret, hlk⟩ := K
  have h2' : R' = R := h2
  subst h2'
  subst hp
  intro T locs hT0 hH hF
  have hT : Stand p l' e R' s m args below meth c T locs ce sl := hT0
  obtain ⟨s2, o, st, r⟩ := k T locs hT hH hF
  exact ⟨s2, o, XS.lneg (Stand.here hT) hx rfl (hb hby hd) rfl st, r⟩
theorem W.i2l {x : Int32} (K : Ctx X l Z R y code maxL ret) (pc' : Nat) (hd : decode code pc = .ok (.i2l, 1)) (k : WP X Z rc rs Q pc' L (.long x.toInt64 :: S) os ce sl) (hp : pc + 1 = pc' := by rfl) : WP X Z rc rs Q pc L (.int x :: S) os ce sl := by
  obtain ⟨p, l', e, R', s, m, args, below, meth, c⟩ := X
  obtain ⟨h1, h2, hx, hZ, hby, hml, hown, hnm, hret, hlk⟩ := K
  have h2' : R' = R := h2
  subst h2'
  subst hp
  intro T locs hT0 hH hF
  have hT : Stand p l' e R' s m args below meth c T locs ce sl := hT0
  obtain ⟨s2, o, st, r⟩ := k T locs hT hH hF
  exact ⟨s2, o, XS.i2l (Stand.here hT) hx rfl (hb hby hd) rfl st, r⟩
theorem W.l2i {x : Int64} (K : Ctx X l Z R y code maxL ret) (pc' : Nat) (hd : decode code pc = .ok (.l2i, 1)) (k : WP X Z rc rs Q pc' L (.int x.toInt32 :: S) os ce sl) (hp : pc + 1 = pc' := by rfl) : WP X Z rc rs Q pc L (.long x :: S) os ce sl := by
  obtain ⟨p, l', e, R', s, m, args, below, meth, c⟩ := X
  obtain ⟨h1, h2, hx, hZ, hby, hml, hown, hnm, hret, hlk⟩ := K
  have h2' : R' = R := h2
  subst h2'
  subst hp
  intro T locs hT0 hH hF
  have hT : Stand p l' e R' s m args below meth c T locs ce sl := hT0
  obtain ⟨s2, o, st, r⟩ := k T locs hT hH hF
  exact ⟨s2, o, XS.l2i (Stand.here hT) hx rfl (hb hby hd) rfl st, r⟩
theorem W.i2b {x : Int32} (K : Ctx X l Z R y code maxL ret) (pc' : Nat) (hd : decode code pc = .ok (.i2b, 1)) (k : WP X Z rc rs Q pc' L (.int x.toInt8.toInt32 :: S) os ce sl) (hp : pc + 1 = pc' := by rfl) : WP X Z rc rs Q pc L (.int x :: S) os ce sl := by
  obtain ⟨p, l', e, R', s, m, args, below, meth, c⟩ := X
  obtain ⟨h1, h2, hx, hZ, hby, hml, hown, hnm, hret, hlk⟩ := K
  have h2' : R' = R := h2
  subst h2'
  subst hp
  intro T locs hT0 hH hF
  have hT : Stand p l' e R' s m args below meth c T locs ce sl := hT0
  obtain ⟨s2, o, st, r⟩ := k T locs hT hH hF
  exact ⟨s2, o, XS.i2b (Stand.here hT) hx rfl (hb hby hd) rfl st, r⟩
theorem W.i2c {x : Int32} (K : Ctx X l Z R y code maxL ret) (pc' : Nat) (hd : decode code pc = .ok (.i2c, 1)) (k : WP X Z rc rs Q pc' L (.int x.toUInt32.toUInt16.toUInt32.toInt32 :: S) os ce sl) (hp : pc + 1 = pc' := by rfl) : WP X Z rc rs Q pc L (.int x :: S) os ce sl := by
  obtain ⟨p, l', e, R', s, m, args, below, meth, c⟩ := X
  obtain ⟨h1, h2, hx, hZ, hby, hml, hown, hnm, hret, hlk⟩ := K
  have h2' : R' = R := h2
  subst h2'
  subst hp
  intro T locs hT0 hH hF
  have hT : Stand p l' e R' s m args below meth c T locs ce sl := hT0
  obtain ⟨s2, o, st, r⟩ := k T locs hT hH hF
  exact ⟨s2, o, XS.i2c (Stand.here hT) hx rfl (hb hby hd) rfl st, r⟩
theorem W.i2s {x : Int32} (K : Ctx X l Z R y code maxL ret) (pc' : Nat) (hd : decode code pc = .ok (.i2s, 1)) (k : WP X Z rc rs Q pc' L (.int x.toInt16.toInt32 :: S) os ce sl) (hp : pc + 1 = pc' := by rfl) : WP X Z rc rs Q pc L (.int x :: S) os ce sl := by
  obtain ⟨p, l', e, R', s, m, args, below, meth, c⟩ := X
  obtain ⟨h1, h2, hx, hZ, hby, hml, hown, hnm, hret, hlk⟩ := K
  have h2' : R' = R := h2
  subst h2'
  subst hp
  intro T locs hT0 hH hF
  have hT : Stand p l' e R' s m args below meth c T locs ce sl := hT0
  obtain ⟨s2, o, st, r⟩ := k T locs hT hH hF
  exact ⟨s2, o, XS.i2s (Stand.here hT) hx rfl (hb hby hd) rfl st, r⟩
theorem W.idiv {x z : Int32} (K : Ctx X l Z R y code maxL ret) (pc' : Nat) (hd : decode code pc = .ok (.idiv, 1)) (hz : z ≠ 0) (k : WP X Z rc rs Q pc' L (.int (x / z) :: S) os ce sl) (hp : pc + 1 = pc' := by rfl) : WP X Z rc rs Q pc L (.int z :: .int x :: S) os ce sl := by
  obtain ⟨p, l', e, R', s, m, args, below, meth, c⟩ := X
  obtain ⟨h1, h2, hx, hZ, hby, hml, hown, hnm, hret, hlk⟩ := K
  have h2' : R' = R := h2
  subst h2'
  subst hp
  intro T locs hT0 hH hF
  have hT : Stand p l' e R' s m args below meth c T locs ce sl := hT0
  obtain ⟨s2, o, st, r⟩ := k T locs hT hH hF
  exact ⟨s2, o, XS.idiv (Stand.here hT) hx rfl (hb hby hd) rfl hz st, r⟩
theorem W.ldiv {x z : Int64} (K : Ctx X l Z R y code maxL ret) (pc' : Nat) (hd : decode code pc = .ok (.ldiv, 1)) (hz : z ≠ 0) (k : WP X Z rc rs Q pc' L (.long (x / z) :: S) os ce sl) (hp : pc + 1 = pc' := by rfl) : WP X Z rc rs Q pc L (.long z :: .long x :: S) os ce sl := by
  obtain ⟨p, l', e, R', s, m, args, below, meth, c⟩ := X
  obtain ⟨h1, h2, hx, hZ, hby, hml, hown, hnm, hret, hlk⟩ := K
  have h2' : R' = R := h2
  subst h2'
  subst hp
  intro T locs hT0 hH hF
  have hT : Stand p l' e R' s m args below meth c T locs ce sl := hT0
  obtain ⟨s2, o, st, r⟩ := k T locs hT hH hF
  exact ⟨s2, o, XS.ldiv (Stand.here hT) hx rfl (hb hby hd) rfl hz st, r⟩
theorem W.irem {x z : Int32} (K : Ctx X l Z R y code maxL ret) (pc' : Nat) (hd : decode code pc = .ok (.irem, 1)) (hz : z ≠ 0) (k : WP X Z rc rs Q pc' L (.int (x % z) :: S) os ce sl) (hp : pc + 1 = pc' := by rfl) : WP X Z rc rs Q pc L (.int z :: .int x :: S) os ce sl := by
  obtain ⟨p, l', e, R', s, m, args, below, meth, c⟩ := X
  obtain ⟨h1, h2, hx, hZ, hby, hml, hown, hnm, hret, hlk⟩ := K
  have h2' : R' = R := h2
  subst h2'
  subst hp
  intro T locs hT0 hH hF
  have hT : Stand p l' e R' s m args below meth c T locs ce sl := hT0
  obtain ⟨s2, o, st, r⟩ := k T locs hT hH hF
  exact ⟨s2, o, iremM hT hx rfl (hb hby hd) rfl hz st, r⟩
theorem W.dup {x : Value} (K : Ctx X l Z R y code maxL ret) (pc' : Nat) (hd : decode code pc = .ok (.dup, 1)) (k : WP X Z rc rs Q pc' L (x :: x :: S) os ce sl) (hc : x.category = 1 := by rfl) (hp : pc + 1 = pc' := by rfl) : WP X Z rc rs Q pc L (x :: S) os ce sl := by
  obtain ⟨p, l', e, R', s, m, args, below, meth, c⟩ := X
  obtain ⟨h1, h2, hx, hZ, hby, hml, hown, hnm, hret, hlk⟩ := K
  have h2' : R' = R := h2
  subst h2'
  subst hp
  intro T locs hT0 hH hF
  have hT : Stand p l' e R' s m args below meth c T locs ce sl := hT0
  obtain ⟨s2, o, st, r⟩ := k T locs hT hH hF
  exact ⟨s2, o, XS.dup (Stand.here hT) hx rfl (hb hby hd) rfl hc st, r⟩
theorem W.popx {x : Value} (K : Ctx X l Z R y code maxL ret) (pc' : Nat) (hd : decode code pc = .ok (.pop, 1)) (k : WP X Z rc rs Q pc' L S os ce sl) (hc : x.category = 1 := by rfl) (hp : pc + 1 = pc' := by rfl) : WP X Z rc rs Q pc L (x :: S) os ce sl := by
  obtain ⟨p, l', e, R', s, m, args, below, meth, c⟩ := X
  obtain ⟨h1, h2, hx, hZ, hby, hml, hown, hnm, hret, hlk⟩ := K
  have h2' : R' = R := h2
  subst h2'
  subst hp
  intro T locs hT0 hH hF
  have hT : Stand p l' e R' s m args below meth c T locs ce sl := hT0
  obtain ⟨s2, o, st, r⟩ := k T locs hT hH hF
  exact ⟨s2, o, XS.pop (Stand.here hT) hx rfl (hb hby hd) rfl hc st, r⟩
theorem W.dupX1 {x z : Value} (K : Ctx X l Z R y code maxL ret) (pc' : Nat) (hd : decode code pc = .ok (.dup_x1, 1)) (k : WP X Z rc rs Q pc' L (x :: z :: x :: S) os ce sl) (hc : x.category = 1 := by rfl) (hc2 : z.category = 1 := by rfl) (hp : pc + 1 = pc' := by rfl) : WP X Z rc rs Q pc L (x :: z :: S) os ce sl := by
  obtain ⟨p, l', e, R', s, m, args, below, meth, c⟩ := X
  obtain ⟨h1, h2, hx, hZ, hby, hml, hown, hnm, hret, hlk⟩ := K
  have h2' : R' = R := h2
  subst h2'
  subst hp
  intro T locs hT0 hH hF
  have hT : Stand p l' e R' s m args below meth c T locs ce sl := hT0
  obtain ⟨s2, o, st, r⟩ := k T locs hT hH hF
  exact ⟨s2, o, XS.dupX1 (Stand.here hT) hx rfl (hb hby hd) rfl hc hc2 st, r⟩
theorem W.dup2 {x z : Value} (K : Ctx X l Z R y code maxL ret) (pc' : Nat) (hd : decode code pc = .ok (.dup2, 1)) (k : WP X Z rc rs Q pc' L (x :: z :: x :: z :: S) os ce sl) (hc : x.category = 1 := by rfl) (hc2 : z.category = 1 := by rfl) (hp : pc + 1 = pc' := by rfl) : WP X Z rc rs Q pc L (x :: z :: S) os ce sl := by
  obtain ⟨p, l', e, R', s, m, args, below, meth, c⟩ := X
  obtain ⟨h1, h2, hx, hZ, hby, hml, hown, hnm, hret, hlk⟩ := K
  have h2' : R' = R := h2
  subst h2'
  subst hp
  intro T locs hT0 hH hF
  have hT : Stand p l' e R' s m args below meth c T locs ce sl := hT0
  obtain ⟨s2, o, st, r⟩ := k T locs hT hH hF
  exact ⟨s2, o, XT.dup2 (Stand.here hT) hx rfl (hb hby hd) rfl hc hc2 st, r⟩
theorem W.dup2L {x : Int64} (K : Ctx X l Z R y code maxL ret) (pc' : Nat) (hd : decode code pc = .ok (.dup2, 1)) (k : WP X Z rc rs Q pc' L (.long x :: .long x :: S) os ce sl)  (hp : pc + 1 = pc' := by rfl) : WP X Z rc rs Q pc L (.long x :: S) os ce sl := by
  obtain ⟨p, l', e, R', s, m, args, below, meth, c⟩ := X
  obtain ⟨h1, h2, hx, hZ, hby, hml, hown, hnm, hret, hlk⟩ := K
  have h2' : R' = R := h2
  subst h2'
  subst hp
  intro T locs hT0 hH hF
  have hT : Stand p l' e R' s m args below meth c T locs ce sl := hT0
  obtain ⟨s2, o, st, r⟩ := k T locs hT hH hF
  exact ⟨s2, o, XT.dup2L (Stand.here hT) hx rfl (hb hby hd) rfl st, r⟩
theorem W.iconst {i : Int} (K : Ctx X l Z R y code maxL ret) (pc' : Nat) (hd : decode code pc = .ok (.iconst i, 1)) (v : Int32) (hv : Int32.ofInt i = v) (k : WP X Z rc rs Q pc' L (.int v :: S) os ce sl) (hp : pc + 1 = pc' := by rfl) : WP X Z rc rs Q pc L S os ce sl := by
  obtain ⟨p, l', e, R', s, m, args, below, meth, c⟩ := X
  obtain ⟨h1, h2, hx, hZ, hby, hml, hown, hnm, hret, hlk⟩ := K
  have h2' : R' = R := h2
  subst h2'
  subst hp
  intro T locs hT0 hH hF
  have hT : Stand p l' e R' s m args below meth c T locs ce sl := hT0
  obtain ⟨s2, o, st, r⟩ := k T locs hT hH hF
  exact ⟨s2, o, XS.iconst (Stand.here hT) hx rfl (hb hby hd) (hv ▸ st), r⟩
theorem W.bipush {i : Int} (K : Ctx X l Z R y code maxL ret) (pc' : Nat) (hd : decode code pc = .ok (.bipush i, 2)) (v : Int32) (hv : (Int8.ofInt i).toInt32 = v) (k : WP X Z rc rs Q pc' L (.int v :: S) os ce sl) (hp : pc + 2 = pc' := by rfl) : WP X Z rc rs Q pc L S os ce sl := by
  obtain ⟨p, l', e, R', s, m, args, below, meth, c⟩ := X
  obtain ⟨h1, h2, hx, hZ, hby, hml, hown, hnm, hret, hlk⟩ := K
  have h2' : R' = R := h2
  subst h2'
  subst hp
  intro T locs hT0 hH hF
  have hT : Stand p l' e R' s m args below meth c T locs ce sl := hT0
  obtain ⟨s2, o, st, r⟩ := k T locs hT hH hF
  exact ⟨s2, o, XS.bipush (Stand.here hT) hx rfl (hb hby hd) (hv ▸ st), r⟩
theorem W.sipush {i : Int} (K : Ctx X l Z R y code maxL ret) (pc' : Nat) (hd : decode code pc = .ok (.sipush i, 3)) (v : Int32) (hv : (Int16.ofInt i).toInt32 = v) (k : WP X Z rc rs Q pc' L (.int v :: S) os ce sl) (hp : pc + 3 = pc' := by rfl) : WP X Z rc rs Q pc L S os ce sl := by
  obtain ⟨p, l', e, R', s, m, args, below, meth, c⟩ := X
  obtain ⟨h1, h2, hx, hZ, hby, hml, hown, hnm, hret, hlk⟩ := K
  have h2' : R' = R := h2
  subst h2'
  subst hp
  intro T locs hT0 hH hF
  have hT : Stand p l' e R' s m args below meth c T locs ce sl := hT0
  obtain ⟨s2, o, st, r⟩ := k T locs hT hH hF
  exact ⟨s2, o, XS.sipush (Stand.here hT) hx rfl (hb hby hd) (hv ▸ st), r⟩
theorem W.lconst {i : Fin 2} (K : Ctx X l Z R y code maxL ret) (pc' : Nat) (hd : decode code pc = .ok (.lconst i, 1)) (v : Int64) (hv : Int64.ofNat i = v) (k : WP X Z rc rs Q pc' L (.long v :: S) os ce sl) (hp : pc + 1 = pc' := by rfl) : WP X Z rc rs Q pc L S os ce sl := by
  obtain ⟨p, l', e, R', s, m, args, below, meth, c⟩ := X
  obtain ⟨h1, h2, hx, hZ, hby, hml, hown, hnm, hret, hlk⟩ := K
  have h2' : R' = R := h2
  subst h2'
  subst hp
  intro T locs hT0 hH hF
  have hT : Stand p l' e R' s m args below meth c T locs ce sl := hT0
  obtain ⟨s2, o, st, r⟩ := k T locs hT hH hF
  exact ⟨s2, o, XS.lconst (Stand.here hT) hx rfl (hb hby hd) (hv ▸ st), r⟩
theorem W.aconst  (K : Ctx X l Z R y code maxL ret) (pc' : Nat) (hd : decode code pc = .ok (.aconst_null, 1)) (k : WP X Z rc rs Q pc' L (.null :: S) os ce sl) (hp : pc + 1 = pc' := by rfl) : WP X Z rc rs Q pc L S os ce sl := by
  obtain ⟨p, l', e, R', s, m, args, below, meth, c⟩ := X
  obtain ⟨h1, h2, hx, hZ, hby, hml, hown, hnm, hret, hlk⟩ := K
  have h2' : R' = R := h2
  subst h2'
  subst hp
  intro T locs hT0 hH hF
  have hT : Stand p l' e R' s m args below meth c T locs ce sl := hT0
  obtain ⟨s2, o, st, r⟩ := k T locs hT hH hF
  exact ⟨s2, o, XS.aconstNull (Stand.here hT) hx rfl (hb hby hd) st, r⟩
theorem W.iload {n : Nat} {v : Int32} (K : Ctx X l Z R y code maxL ret) (pc' : Nat) (hd : decode code pc = .ok (.iload n, 2)) (hl : L[n]? = some (.val (.int v))) (k : WP X Z rc rs Q pc' L (.int v :: S) os ce sl) (hp : pc + 2 = pc' := by rfl) : WP X Z rc rs Q pc L S os ce sl := by
  obtain ⟨p, l', e, R', s, m, args, below, meth, c⟩ := X
  obtain ⟨h1, h2, hx, hZ, hby, hml, hown, hnm, hret, hlk⟩ := K
  have h2' : R' = R := h2
  subst h2'
  subst hp
  intro T locs hT0 hH hF
  have hT : Stand p l' e R' s m args below meth c T locs ce sl := hT0
  obtain ⟨s2, o, st, r⟩ := k T locs hT hH hF
  exact ⟨s2, o, XS.iload (Stand.here hT) hx rfl (hb hby hd) (by simpa using hl) st, r⟩
theorem W.iloadN {n : Fin 4} {v : Int32} (K : Ctx X l Z R y code maxL ret) (pc' : Nat) (hd : decode code pc = .ok (.iload_n n, 1)) (i : Nat) (hi : n.val = i) (hl : L[i]? = some (.val (.int v))) (k : WP X Z rc rs Q pc' L (.int v :: S) os ce sl) (hp : pc + 1 = pc' := by rfl) : WP X Z rc rs Q pc L S os ce sl := by
  obtain ⟨p, l', e, R', s, m, args, below, meth, c⟩ := X
  obtain ⟨h1, h2, hx, hZ, hby, hml, hown, hnm, hret, hlk⟩ := K
  have h2' : R' = R := h2
  subst h2'
  subst hp
  intro T locs hT0 hH hF
  have hT : Stand p l' e R' s m args below meth c T locs ce sl := hT0
  obtain ⟨s2, o, st, r⟩ := k T locs hT hH hF
  exact ⟨s2, o, XS.iloadN (Stand.here hT) hx rfl (hb hby hd) (by rw [hi]; simpa using hl) st, r⟩
theorem W.lload {n : Nat} {v : Int64} (K : Ctx X l Z R y code maxL ret) (pc' : Nat) (hd : decode code pc = .ok (.lload n, 2)) (hl : L[n]? = some (.val (.long v))) (k : WP X Z rc rs Q pc' L (.long v :: S) os ce sl) (hp : pc + 2 = pc' := by rfl) : WP X Z rc rs Q pc L S os ce sl := by
  obtain ⟨p, l', e, R', s, m, args, below, meth, c⟩ := X
  obtain ⟨h1, h2, hx, hZ, hby, hml, hown, hnm, hret, hlk⟩ := K
  have h2' : R' = R := h2
  subst h2'
  subst hp
  intro T locs hT0 hH hF
  have hT : Stand p l' e R' s m args below meth c T locs ce sl := hT0
  obtain ⟨s2, o, st, r⟩ := k T locs hT hH hF
  exact ⟨s2, o, XS.lload (Stand.here hT) hx rfl (hb hby hd) (by simpa using hl) st, r⟩
theorem W.lloadN {n : Fin 4} {v : Int64} (K : Ctx X l Z R y code maxL ret) (pc' : Nat) (hd : decode code pc = .ok (.lload_n n, 1)) (i : Nat) (hi : n.val = i) (hl : L[i]? = some (.val (.long v))) (k : WP X Z rc rs Q pc' L (.long v :: S) os ce sl) (hp : pc + 1 = pc' := by rfl) : WP X Z rc rs Q pc L S os ce sl := by
  obtain ⟨p, l', e, R', s, m, args, below, meth, c⟩ := X
  obtain ⟨h1, h2, hx, hZ, hby, hml, hown, hnm, hret, hlk⟩ := K
  have h2' : R' = R := h2
  subst h2'
  subst hp
  intro T locs hT0 hH hF
  have hT : Stand p l' e R' s m args below meth c T locs ce sl := hT0
  obtain ⟨s2, o, st, r⟩ := k T locs hT hH hF
  exact ⟨s2, o, XS.lloadN (Stand.here hT) hx rfl (hb hby hd) (by rw [hi]; simpa using hl) st, r⟩
theorem W.aload {n : Nat} {v : Value} (K : Ctx X l Z R y code maxL ret) (pc' : Nat) (hd : decode code pc = .ok (.aload n, 2)) (hl : L[n]? = some (.val v)) (hv : v.isRef = true) (k : WP X Z rc rs Q pc' L (v :: S) os ce sl) (hp : pc + 2 = pc' := by rfl) : WP X Z rc rs Q pc L S os ce sl := by
  obtain ⟨p, l', e, R', s, m, args, below, meth, c⟩ := X
  obtain ⟨h1, h2, hx, hZ, hby, hml, hown, hnm, hret, hlk⟩ := K
  have h2' : R' = R := h2
  subst h2'
  subst hp
  intro T locs hT0 hH hF
  have hT : Stand p l' e R' s m args below meth c T locs ce sl := hT0
  obtain ⟨s2, o, st, r⟩ := k T locs hT hH hF
  exact ⟨s2, o, XS.aload (Stand.here hT) hx rfl (hb hby hd) (by simpa using hl) hv st, r⟩
theorem W.aloadN {n : Fin 4} {v : Value} (K : Ctx X l Z R y code maxL ret) (pc' : Nat) (hd : decode code pc = .ok (.aload_n n, 1)) (i : Nat) (hi : n.val = i) (hl : L[i]? = some (.val v)) (hv : v.isRef = true) (k : WP X Z rc rs Q pc' L (v :: S) os ce sl) (hp : pc + 1 = pc' := by rfl) : WP X Z rc rs Q pc L S os ce sl := by
  obtain ⟨p, l', e, R', s, m, args, below, meth, c⟩ := X
  obtain ⟨h1, h2, hx, hZ, hby, hml, hown, hnm, hret, hlk⟩ := K
  have h2' : R' = R := h2
  subst h2'
  subst hp
  intro T locs hT0 hH hF
  have hT : Stand p l' e R' s m args below meth c T locs ce sl := hT0
  obtain ⟨s2, o, st, r⟩ := k T locs hT hH hF
  exact ⟨s2, o, XS.aloadN (Stand.here hT) hx rfl (hb hby hd) (by rw [hi]; simpa using hl) hv st, r⟩
theorem setL0 {α : Type} {x z : α} {r : List α} : (z :: r).set 0 x = x :: r := rfl
theorem setLS {α : Type} {x z : α} {r r' : List α} {n : Nat} (h : r.set n x = r') : (z :: r).set (n + 1) x = z :: r' := by rw [List.set_cons_succ, h]
def okS : Slot → Bool
  | .unset => true
  | .val v => v.category == 1
  | .second => false
theorem okS_one {L : List Slot} {n : Nat} {v : Value} (ho : (L[n]?.map okS) = some true) (hv : v.category = 1) : storeLocals L.toArray n v = some (L.set n (.val v)).toArray := by
  cases hq : L[n]? with
  | none => simp [hq] at ho
  | some o =>
    rw [hq] at ho
    have h := XS.store1 (l := L.toArray) (i := n) (v := v) (o := o) (by simpa using hq) (by
      cases o with
      | unset => exact Or.inl rfl
      | second => simp [okS] at ho
      | val w => exact Or.inr ⟨w, rfl, by simpa [okS] using ho⟩) hv
    rw [h]; simp

theorem W.istore {n : Nat} {x : Int32} {L' : List Slot} (K : Ctx X l Z R y code maxL ret) (pc' : Nat) (hd : decode code pc = .ok (.istore n, 2)) (ho : (L[n]?.map okS) = some true) (hL : L.set n (.val (.int x)) = L') (k : WP X Z rc rs Q pc' L' S os ce sl) (hp : pc + 2 = pc' := by rfl) : WP X Z rc rs Q pc L (.int x :: S) os ce sl := by
  obtain ⟨p, l', e, R', s, m, args, below, meth, c⟩ := X
  obtain ⟨h1, h2, hx, hZ, hby, hml, hown, hnm, hret, hlk⟩ := K
  have h2' : R' = R := h2
  subst h2'
  subst hp
  intro T locs hT0 hH hF
  have hT : Stand p l' e R' s m args below meth c T locs ce sl := hT0
  obtain ⟨s2, o, st, r⟩ := k T locs hT hH hF
  exact ⟨s2, o, XS.istore (Stand.here hT) hx rfl (hb hby hd) rfl (okS_one ho rfl) (hL ▸ st), r⟩
theorem W.istoreN {n : Fin 4} {x : Int32} {L' : List Slot} (K : Ctx X l Z R y code maxL ret) (pc' : Nat) (hd : decode code pc = .ok (.istore_n n, 1)) (i : Nat) (hi : n.val = i) (ho : (L[i]?.map okS) = some true) (hL : L.set i (.val (.int x)) = L') (k : WP X Z rc rs Q pc' L' S os ce sl) (hp : pc + 1 = pc' := by rfl) : WP X Z rc rs Q pc L (.int x :: S) os ce sl := by
  obtain ⟨p, l', e, R', s, m, args, below, meth, c⟩ := X
  obtain ⟨h1, h2, hx, hZ, hby, hml, hown, hnm, hret, hlk⟩ := K
  have h2' : R' = R := h2
  subst h2'
  subst hp
  intro T locs hT0 hH hF
  have hT : Stand p l' e R' s m args below meth c T locs ce sl := hT0
  obtain ⟨s2, o, st, r⟩ := k T locs hT hH hF
  exact ⟨s2, o, XS.istoreN (Stand.here hT) hx rfl (hb hby hd) rfl (by rw [hi]; exact okS_one ho rfl) (hL ▸ st), r⟩
theorem W.astore {n : Nat} {x : Value} {L' : List Slot} (K : Ctx X l Z R y code maxL ret) (pc' : Nat) (hd : decode code pc = .ok (.astore n, 2)) (hv : x.isRef = true) (ho : (L[n]?.map okS) = some true) (hL : L.set n (.val x) = L') (k : WP X Z rc rs Q pc' L' S os ce sl) (hp : pc + 2 = pc' := by rfl) : WP X Z rc rs Q pc L (x :: S) os ce sl := by
  obtain ⟨p, l', e, R', s, m, args, below, meth, c⟩ := X
  obtain ⟨h1, h2, hx, hZ, hby, hml, hown, hnm, hret, hlk⟩ := K
  have h2' : R' = R := h2
  subst h2'
  subst hp
  intro T locs hT0 hH hF
  have hT : Stand p l' e R' s m args below meth c T locs ce sl := hT0
  obtain ⟨s2, o, st, r⟩ := k T locs hT hH hF
  exact ⟨s2, o, XS.astore (Stand.here hT) hx rfl (hb hby hd) rfl hv (okS_one ho (XT.cat1 hv)) (hL ▸ st), r⟩
theorem W.astoreN {n : Fin 4} {x : Value} {L' : List Slot} (K : Ctx X l Z R y code maxL ret) (pc' : Nat) (hd : decode code pc = .ok (.astore_n n, 1)) (i : Nat) (hi : n.val = i) (hv : x.isRef = true) (ho : (L[i]?.map okS) = some true) (hL : L.set i (.val x) = L') (k : WP X Z rc rs Q pc' L' S os ce sl) (hp : pc + 1 = pc' := by rfl) : WP X Z rc rs Q pc L (x :: S) os ce sl := by
  obtain ⟨p, l', e, R', s, m, args, below, meth, c⟩ := X
  obtain ⟨h1, h2, hx, hZ, hby, hml, hown, hnm, hret, hlk⟩ := K
  have h2' : R' = R := h2
  subst h2'
  subst hp
  intro T locs hT0 hH hF
  have hT : Stand p l' e R' s m args below meth c T locs ce sl := hT0
  obtain ⟨s2, o, st, r⟩ := k T locs hT hH hF
  exact ⟨s2, o, XS.astoreN (Stand.here hT) hx rfl (hb hby hd) rfl hv (by rw [hi]; exact okS_one ho (XT.cat1 hv)) (hL ▸ st), r⟩
theorem W.lstore {n : Nat} {x : Int64} {L1 L' : List Slot} (K : Ctx X l Z R y code maxL ret) (pc' : Nat) (hd : decode code pc = .ok (.lstore n, 2)) (hL1 : L.set n (.val (.long x)) = L1) (hL2 : L1.set (n + 1) .second = L') (k : WP X Z rc rs Q pc' L' S os ce sl) (ho : storeLocals L.toArray n (.long x) = some L'.toArray := by rfl) (hp : pc + 2 = pc' := by rfl) : WP X Z rc rs Q pc L (.long x :: S) os ce sl := by
  obtain ⟨p, l', e, R', s, m, args, below, meth, c⟩ := X
  obtain ⟨h1, h2, hx, hZ, hby, hml, hown, hnm, hret, hlk⟩ := K
  have h2' : R' = R := h2
  subst h2'
  subst hp
  intro T locs hT0 hH hF
  have hT : Stand p l' e R' s m args below meth c T locs ce sl := hT0
  obtain ⟨s2, o, st, r⟩ := k T locs hT hH hF
  exact ⟨s2, o, XS.lstore (Stand.here hT) hx rfl (hb hby hd) rfl ho st, r⟩
theorem W.lstoreN {n : Fin 4} {x : Int64} {L1 L' : List Slot} (K : Ctx X l Z R y code maxL ret) (pc' : Nat) (hd : decode code pc = .ok (.lstore_n n, 1)) (i : Nat) (hi : n.val = i) (hL1 : L.set i (.val (.long x)) = L1) (hL2 : L1.set (i + 1) .second = L') (k : WP X Z rc rs Q pc' L' S os ce sl) (ho : storeLocals L.toArray i (.long x) = some L'.toArray := by rfl) (hp : pc + 1 = pc' := by rfl) : WP X Z rc rs Q pc L (.long x :: S) os ce sl := by
  obtain ⟨p, l', e, R', s, m, args, below, meth, c⟩ := X
  obtain ⟨h1, h2, hx, hZ, hby, hml, hown, hnm, hret, hlk⟩ := K
  have h2' : R' = R := h2
  subst h2'
  subst hp
  intro T locs hT0 hH hF
  have hT : Stand p l' e R' s m args below meth c T locs ce sl := hT0
  obtain ⟨s2, o, st, r⟩ := k T locs hT hH hF
  exact ⟨s2, o, XS.lstoreN (Stand.here hT) hx rfl (hb hby hd) rfl (by rw [hi]; exact ho) st, r⟩
theorem W.iinc {n : Nat} {i : Int} {x : Int32} {L' : List Slot} (K : Ctx X l Z R y code maxL ret) (pc' : Nat) (hd : decode code pc = .ok (.iinc n i, 3)) (v : Int32) (hv : Int32.ofInt i = v) (hl : L[n]? = some (.val (.int x))) (hL : L.set n (.val (.int (x + v))) = L') (k : WP X Z rc rs Q pc' L' S os ce sl) (hp : pc + 3 = pc' := by rfl) : WP X Z rc rs Q pc L S os ce sl := by
  obtain ⟨p, l', e, R', s, m, args, below, meth, c⟩ := X
  obtain ⟨h1, h2, hx, hZ, hby, hml, hown, hnm, hret, hlk⟩ := K
  have h2' : R' = R := h2
  subst h2'
  subst hp
  intro T locs hT0 hH hF
  have hT : Stand p l' e R' s m args below meth c T locs ce sl := hT0
  obtain ⟨s2, o, st, r⟩ := k T locs hT hH hF
  exact ⟨s2, o, XS.iinc (Stand.here hT) hx rfl (hb hby hd) (by simpa using hl) (okS_one (by rw [hl]; rfl) rfl) (by subst hv; exact hL ▸ st), r⟩
theorem W.goto {o : Int} (K : Ctx X l Z R y code maxL ret) (pc' : Nat) (hd : decode code pc = .ok (.goto o, 3)) (k : WP X Z rc rs Q pc' L S os ce sl) (hp : (pc : Int) + o = (pc' : Int) := by decide) : WP X Z rc rs Q pc L S os ce sl := by
  obtain ⟨p, l', e, R', s, m, args, below, meth, c⟩ := X
  obtain ⟨h1, h2, hx, hZ, hby, hml, hown, hnm, hret, hlk⟩ := K
  have h2' : R' = R := h2
  subst h2'
  intro T locs hT0 hH hF
  have hT : Stand p l' e R' s m args below meth c T locs ce sl := hT0
  obtain ⟨s2, o', st, r⟩ := k T locs hT hH hF
  exact ⟨s2, o', XS.goto (Stand.here hT) hx rfl (pc0 := pc) rfl (hb hby hd) (by rw [hp]; exact Int.natCast_nonneg _) (by rw [hp]; rfl) st, r⟩
theorem W.icmp {cd : ClassFile.Cond} {o : Int} {x z : Int32} {F : Prop} (ht : F → if_icmp.holds cd x z = true) (hf : ¬ F → if_icmp.holds cd x z = false) (K : Ctx X l Z R y code maxL ret) (pt pf : Nat) (hd : decode code pc = .ok (.if_icmp cd o, 3)) (kt : F → WP X Z rc rs Q pt L S os ce sl) (kf : ¬ F → WP X Z rc rs Q pf L S os ce sl)
    (hp : (pc : Int) + o = (pt : Int)) (hq : pc + 3 = pf) : WP X Z rc rs Q pc L (.int z :: .int x :: S) os ce sl := by
  obtain ⟨p, l', e, R', s, m, args, below, meth, c⟩ := X
  obtain ⟨h1, h2, hx, hZ, hby, hml, hown, hnm, hret, hlk⟩ := K
  have h2' : R' = R := h2
  subst h2'
  subst hq
  intro T locs hT0 hH hF
  have hT : Stand p l' e R' s m args below meth c T locs ce sl := hT0
  by_cases h : F
  · obtain ⟨s2, o', st, r⟩ := kt h T locs hT hH hF
    exact ⟨s2, o', XS.icmpYes (Stand.here hT) hx rfl (pc0 := pc) rfl (hb hby hd) rfl (ht h) (by rw [hp]; exact Int.natCast_nonneg _) (by rw [hp]; rfl) st, r⟩
  · obtain ⟨s2, o', st, r⟩ := kf h T locs hT hH hF
    exact ⟨s2, o', XS.icmpNo (Stand.here hT) hx rfl (hb hby hd) rfl (hf h) st, r⟩
theorem W.ifc {cd : ClassFile.Cond} {o : Int} {x : Int32} {F : Prop} (ht : F → ifCond.holds cd x = true) (hf : ¬ F → ifCond.holds cd x = false) (K : Ctx X l Z R y code maxL ret) (pt pf : Nat) (hd : decode code pc = .ok (.ifCond cd o, 3)) (kt : F → WP X Z rc rs Q pt L S os ce sl) (kf : ¬ F → WP X Z rc rs Q pf L S os ce sl)
    (hp : (pc : Int) + o = (pt : Int)) (hq : pc + 3 = pf) : WP X Z rc rs Q pc L (.int x :: S) os ce sl := by
  obtain ⟨p, l', e, R', s, m, args, below, meth, c⟩ := X
  obtain ⟨h1, h2, hx, hZ, hby, hml, hown, hnm, hret, hlk⟩ := K
  have h2' : R' = R := h2
  subst h2'
  subst hq
  intro T locs hT0 hH hF
  have hT : Stand p l' e R' s m args below meth c T locs ce sl := hT0
  by_cases h : F
  · obtain ⟨s2, o', st, r⟩ := kt h T locs hT hH hF
    exact ⟨s2, o', XS.ifYes (Stand.here hT) hx rfl (pc0 := pc) rfl (hb hby hd) rfl (ht h) (by rw [hp]; exact Int.natCast_nonneg _) (by rw [hp]; rfl) st, r⟩
  · obtain ⟨s2, o', st, r⟩ := kf h T locs hT hH hF
    exact ⟨s2, o', XS.ifNo (Stand.here hT) hx rfl (hb hby hd) rfl (hf h) st, r⟩
theorem W.lcmpc {cd : ClassFile.Cond} {o : Int} {x z : Int64} {F : Prop} (ht : F → ifCond.holds cd (lcmpW x z) = true) (hf : ¬ F → ifCond.holds cd (lcmpW x z) = false) (K : Ctx X l Z R y code maxL ret) (pc1 pt pf : Nat) (hd0 : decode code pc = .ok (.lcmp, 1)) (hd : decode code pc1 = .ok (.ifCond cd o, 3)) (kt : F → WP X Z rc rs Q pt L S os ce sl) (kf : ¬ F → WP X Z rc rs Q pf L S os ce sl)
    (h1' : pc + 1 = pc1) (hp : (pc1 : Int) + o = (pt : Int)) (hq : pc1 + 3 = pf) : WP X Z rc rs Q pc L (.long z :: .long x :: S) os ce sl := by
  have k1 : WP X Z rc rs Q pc1 L (.int (lcmpW x z) :: S) os ce sl := W.ifc ht hf K pt pf hd kt kf hp hq
  obtain ⟨p, l', e, R', s, m, args, below, meth, c⟩ := X
  obtain ⟨h1, h2, hx, hZ, hby, hml, hown, hnm, hret, hlk⟩ := K
  have h2' : R' = R := h2
  subst h2'
  subst h1'
  intro T locs hT0 hH hF
  have hT : Stand p l' e R' s m args below meth c T locs ce sl := hT0
  obtain ⟨s2, o', st, r⟩ := k1 T locs hT hH hF
  exact ⟨s2, o', XS.lcmp (Stand.here hT) hx rfl (hb hby hd0) rfl st, r⟩
theorem W.icmp_eq {o : Int} {x z : Int32} (K : Ctx X l Z R y code maxL ret) (pt pf : Nat) (hd : decode code pc = .ok (.if_icmp .eq o, 3)) (kt : x = z → WP X Z rc rs Q pt L S os ce sl) (kf : ¬ (x = z) → WP X Z rc rs Q pf L S os ce sl) (hp : (pc : Int) + o = (pt : Int) := by decide) (hq : pc + 3 = pf := by rfl) : WP X Z rc rs Q pc L (.int z :: .int x :: S) os ce sl :=
  W.icmp (F := x = z) (fun h => XT.ii_eq_t h) (fun h => XT.ii_eq_f h) K pt pf hd kt (fun h => kf h) hp hq
theorem W.if_eq {o : Int} {x : Int32} (K : Ctx X l Z R y code maxL ret) (pt pf : Nat) (hd : decode code pc = .ok (.ifCond .eq o, 3)) (kt : x = 0 → WP X Z rc rs Q pt L S os ce sl) (kf : ¬ (x = 0) → WP X Z rc rs Q pf L S os ce sl) (hp : (pc : Int) + o = (pt : Int) := by decide) (hq : pc + 3 = pf := by rfl) : WP X Z rc rs Q pc L (.int x :: S) os ce sl :=
  W.ifc (F := x = 0) (fun h => XT.i0_eq_t h) (fun h => XT.i0_eq_f h) K pt pf hd kt (fun h => kf h) hp hq
theorem W.lcmp_eq {o : Int} {x z : Int64} (K : Ctx X l Z R y code maxL ret) (pc1 pt pf : Nat) (hd0 : decode code pc = .ok (.lcmp, 1)) (hd : decode code pc1 = .ok (.ifCond .eq o, 3)) (kt : x = z → WP X Z rc rs Q pt L S os ce sl) (kf : ¬ (x = z) → WP X Z rc rs Q pf L S os ce sl) (h1' : pc + 1 = pc1 := by rfl) (hp : (pc1 : Int) + o = (pt : Int) := by decide) (hq : pc1 + 3 = pf := by rfl) : WP X Z rc rs Q pc L (.long z :: .long x :: S) os ce sl :=
  W.lcmpc (F := x = z) (fun h => XT.ll_eq_t h) (fun h => XT.ll_eq_f h) K pc1 pt pf hd0 hd kt (fun h => kf h) h1' hp hq
theorem W.icmp_ne {o : Int} {x z : Int32} (K : Ctx X l Z R y code maxL ret) (pt pf : Nat) (hd : decode code pc = .ok (.if_icmp .ne o, 3)) (kt : ¬ (x = z) → WP X Z rc rs Q pt L S os ce sl) (kf : x = z → WP X Z rc rs Q pf L S os ce sl) (hp : (pc : Int) + o = (pt : Int) := by decide) (hq : pc + 3 = pf := by rfl) : WP X Z rc rs Q pc L (.int z :: .int x :: S) os ce sl :=
  W.icmp (F := ¬ (x = z)) (fun h => XT.ii_ne_t h) (fun h => XT.ii_ne_f (Classical.not_not.mp h)) K pt pf hd kt (fun h => kf (Classical.not_not.mp h)) hp hq
theorem W.if_ne {o : Int} {x : Int32} (K : Ctx X l Z R y code maxL ret) (pt pf : Nat) (hd : decode code pc = .ok (.ifCond .ne o, 3)) (kt : ¬ (x = 0) → WP X Z rc rs Q pt L S os ce sl) (kf : x = 0 → WP X Z rc rs Q pf L S os ce sl) (hp : (pc : Int) + o = (pt : Int) := by decide) (hq : pc + 3 = pf := by rfl) : WP X Z rc rs Q pc L (.int x :: S) os ce sl :=
  W.ifc (F := ¬ (x = 0)) (fun h => XT.i0_ne_t h) (fun h => XT.i0_ne_f (Classical.not_not.mp h)) K pt pf hd kt (fun h => kf (Classical.not_not.mp h)) hp hq
theorem W.lcmp_ne {o : Int} {x z : Int64} (K : Ctx X l Z R y code maxL ret) (pc1 pt pf : Nat) (hd0 : decode code pc = .ok (.lcmp, 1)) (hd : decode code pc1 = .ok (.ifCond .ne o, 3)) (kt : ¬ (x = z) → WP X Z rc rs Q pt L S os ce sl) (kf : x = z → WP X Z rc rs Q pf L S os ce sl) (h1' : pc + 1 = pc1 := by rfl) (hp : (pc1 : Int) + o = (pt : Int) := by decide) (hq : pc1 + 3 = pf := by rfl) : WP X Z rc rs Q pc L (.long z :: .long x :: S) os ce sl :=
  W.lcmpc (F := ¬ (x = z)) (fun h => XT.ll_ne_t h) (fun h => XT.ll_ne_f (Classical.not_not.mp h)) K pc1 pt pf hd0 hd kt (fun h => kf (Classical.not_not.mp h)) h1' hp hq
theorem W.icmp_lt {o : Int} {x z : Int32} (K : Ctx X l Z R y code maxL ret) (pt pf : Nat) (hd : decode code pc = .ok (.if_icmp .lt o, 3)) (kt : x.toInt < z.toInt → WP X Z rc rs Q pt L S os ce sl) (kf : ¬ (x.toInt < z.toInt) → WP X Z rc rs Q pf L S os ce sl) (hp : (pc : Int) + o = (pt : Int) := by decide) (hq : pc + 3 = pf := by rfl) : WP X Z rc rs Q pc L (.int z :: .int x :: S) os ce sl :=
  W.icmp (F := x.toInt < z.toInt) (fun h => XT.ii_lt_t (Int32.lt_iff_toInt_lt.mpr h)) (fun h => XT.ii_lt_f (fun q => h (Int32.lt_iff_toInt_lt.mp q))) K pt pf hd kt (fun h => kf h) hp hq
theorem W.if_lt {o : Int} {x : Int32} (K : Ctx X l Z R y code maxL ret) (pt pf : Nat) (hd : decode code pc = .ok (.ifCond .lt o, 3)) (kt : x.toInt < 0 → WP X Z rc rs Q pt L S os ce sl) (kf : ¬ (x.toInt < 0) → WP X Z rc rs Q pf L S os ce sl) (hp : (pc : Int) + o = (pt : Int) := by decide) (hq : pc + 3 = pf := by rfl) : WP X Z rc rs Q pc L (.int x :: S) os ce sl :=
  W.ifc (F := x.toInt < 0) (fun h => XT.i0_lt_t (Int32.lt_iff_toInt_lt.mpr (by simpa using h))) (fun h => XT.i0_lt_f (fun q => h (by have q2 := Int32.lt_iff_toInt_lt.mp q; simpa using q2))) K pt pf hd kt (fun h => kf h) hp hq
theorem W.lcmp_lt {o : Int} {x z : Int64} (K : Ctx X l Z R y code maxL ret) (pc1 pt pf : Nat) (hd0 : decode code pc = .ok (.lcmp, 1)) (hd : decode code pc1 = .ok (.ifCond .lt o, 3)) (kt : x.toInt < z.toInt → WP X Z rc rs Q pt L S os ce sl) (kf : ¬ (x.toInt < z.toInt) → WP X Z rc rs Q pf L S os ce sl) (h1' : pc + 1 = pc1 := by rfl) (hp : (pc1 : Int) + o = (pt : Int) := by decide) (hq : pc1 + 3 = pf := by rfl) : WP X Z rc rs Q pc L (.long z :: .long x :: S) os ce sl :=
  W.lcmpc (F := x.toInt < z.toInt) (fun h => XT.ll_lt_t (Int64.lt_iff_toInt_lt.mpr h)) (fun h => XT.ll_lt_f (fun q => h (Int64.lt_iff_toInt_lt.mp q))) K pc1 pt pf hd0 hd kt (fun h => kf h) h1' hp hq
theorem W.icmp_ge {o : Int} {x z : Int32} (K : Ctx X l Z R y code maxL ret) (pt pf : Nat) (hd : decode code pc = .ok (.if_icmp .ge o, 3)) (kt : ¬ (x.toInt < z.toInt) → WP X Z rc rs Q pt L S os ce sl) (kf : x.toInt < z.toInt → WP X Z rc rs Q pf L S os ce sl) (hp : (pc : Int) + o = (pt : Int) := by decide) (hq : pc + 3 = pf := by rfl) : WP X Z rc rs Q pc L (.int z :: .int x :: S) os ce sl :=
  W.icmp (F := ¬ (x.toInt < z.toInt)) (fun h => XT.ii_ge_t (fun q => h (Int32.lt_iff_toInt_lt.mp q))) (fun h => XT.ii_ge_f (Int32.lt_iff_toInt_lt.mpr (Classical.not_not.mp h))) K pt pf hd kt (fun h => kf (Classical.not_not.mp h)) hp hq
theorem W.if_ge {o : Int} {x : Int32} (K : Ctx X l Z R y code maxL ret) (pt pf : Nat) (hd : decode code pc = .ok (.ifCond .ge o, 3)) (kt : ¬ (x.toInt < 0) → WP X Z rc rs Q pt L S os ce sl) (kf : x.toInt < 0 → WP X Z rc rs Q pf L S os ce sl) (hp : (pc : Int) + o = (pt : Int) := by decide) (hq : pc + 3 = pf := by rfl) : WP X Z rc rs Q pc L (.int x :: S) os ce sl :=
  W.ifc (F := ¬ (x.toInt < 0)) (fun h => XT.i0_ge_t (fun q => h (by have q2 := Int32.lt_iff_toInt_lt.mp q; simpa using q2))) (fun h => XT.i0_ge_f (Int32.lt_iff_toInt_lt.mpr (by simpa using (Classical.not_not.mp h)))) K pt pf hd kt (fun h => kf (Classical.not_not.mp h)) hp hq
theorem W.lcmp_ge {o : Int} {x z : Int64} (K : Ctx X l Z R y code maxL ret) (pc1 pt pf : Nat) (hd0 : decode code pc = .ok (.lcmp, 1)) (hd : decode code pc1 = .ok (.ifCond .ge o, 3)) (kt : ¬ (x.toInt < z.toInt) → WP X Z rc rs Q pt L S os ce sl) (kf : x.toInt < z.toInt → WP X Z rc rs Q pf L S os ce sl) (h1' : pc + 1 = pc1 := by rfl) (hp : (pc1 : Int) + o = (pt : Int) := by decide) (hq : pc1 + 3 = pf := by rfl) : WP X Z rc rs Q pc L (.long z :: .long x :: S) os ce sl :=
  W.lcmpc (F := ¬ (x.toInt < z.toInt)) (fun h => XT.ll_ge_t (fun q => h (Int64.lt_iff_toInt_lt.mp q))) (fun h => XT.ll_ge_f (Int64.lt_iff_toInt_lt.mpr (Classical.not_not.mp h))) K pc1 pt pf hd0 hd kt (fun h => kf (Classical.not_not.mp h)) h1' hp hq
theorem W.icmp_gt {o : Int} {x z : Int32} (K : Ctx X l Z R y code maxL ret) (pt pf : Nat) (hd : decode code pc = .ok (.if_icmp .gt o, 3)) (kt : z.toInt < x.toInt → WP X Z rc rs Q pt L S os ce sl) (kf : ¬ (z.toInt < x.toInt) → WP X Z rc rs Q pf L S os ce sl) (hp : (pc : Int) + o = (pt : Int) := by decide) (hq : pc + 3 = pf := by rfl) : WP X Z rc rs Q pc L (.int z :: .int x :: S) os ce sl :=
  W.icmp (F := z.toInt < x.toInt) (fun h => XT.ii_gt_t (Int32.lt_iff_toInt_lt.mpr h)) (fun h => XT.ii_gt_f (fun q => h (Int32.lt_iff_toInt_lt.mp q))) K pt pf hd kt (fun h => kf h) hp hq
theorem W.if_gt {o : Int} {x : Int32} (K : Ctx X l Z R y code maxL ret) (pt pf : Nat) (hd : decode code pc = .ok (.ifCond .gt o, 3)) (kt : 0 < x.toInt → WP X Z rc rs Q pt L S os ce sl) (kf : ¬ (0 < x.toInt) → WP X Z rc rs Q pf L S os ce sl) (hp : (pc : Int) + o = (pt : Int) := by decide) (hq : pc + 3 = pf := by rfl) : WP X Z rc rs Q pc L (.int x :: S) os ce sl :=
  W.ifc (F := 0 < x.toInt) (fun h => XT.i0_gt_t (Int32.lt_iff_toInt_lt.mpr (by simpa using h))) (fun h => XT.i0_gt_f (fun q => h (by have q2 := Int32.lt_iff_toInt_lt.mp q; simpa using q2))) K pt pf hd kt (fun h => kf h) hp hq
theorem W.lcmp_gt {o : Int} {x z : Int64} (K : Ctx X l Z R y code maxL ret) (pc1 pt pf : Nat) (hd0 : decode code pc = .ok (.lcmp, 1)) (hd : decode code pc1 = .ok (.ifCond .gt o, 3)) (kt : z.toInt < x.toInt → WP X Z rc rs Q pt L S os ce sl) (kf : ¬ (z.toInt < x.toInt) → WP X Z rc rs Q pf L S os ce sl) (h1' : pc + 1 = pc1 := by rfl) (hp : (pc1 : Int) + o = (pt : Int) := by decide) (hq : pc1 + 3 = pf := by rfl) : WP X Z rc rs Q pc L (.long z :: .long x :: S) os ce sl :=
  W.lcmpc (F := z.toInt < x.toInt) (fun h => XT.ll_gt_t (Int64.lt_iff_toInt_lt.mpr h)) (fun h => XT.ll_gt_f (fun q => h (Int64.lt_iff_toInt_lt.mp q))) K pc1 pt pf hd0 hd kt (fun h => kf h) h1' hp hq
theorem W.icmp_le {o : Int} {x z : Int32} (K : Ctx X l Z R y code maxL ret) (pt pf : Nat) (hd : decode code pc = .ok (.if_icmp .le o, 3)) (kt : ¬ (z.toInt < x.toInt) → WP X Z rc rs Q pt L S os ce sl) (kf : z.toInt < x.toInt → WP X Z rc rs Q pf L S os ce sl) (hp : (pc : Int) + o = (pt : Int) := by decide) (hq : pc + 3 = pf := by rfl) : WP X Z rc rs Q pc L (.int z :: .int x :: S) os ce sl :=
  W.icmp (F := ¬ (z.toInt < x.toInt)) (fun h => XT.ii_le_t (fun q => h (Int32.lt_iff_toInt_lt.mp q))) (fun h => XT.ii_le_f (Int32.lt_iff_toInt_lt.mpr (Classical.not_not.mp h))) K pt pf hd kt (fun h => kf (Classical.not_not.mp h)) hp hq
theorem W.if_le {o : Int} {x : Int32} (K : Ctx X l Z R y code maxL ret) (pt pf : Nat) (hd : decode code pc = .ok (.ifCond .le o, 3)) (kt : ¬ (0 < x.toInt) → WP X Z rc rs Q pt L S os ce sl) (kf : 0 < x.toInt → WP X Z rc rs Q pf L S os ce sl) (hp : (pc : Int) + o = (pt : Int) := by decide) (hq : pc + 3 = pf := by rfl) : WP X Z rc rs Q pc L (.int x :: S) os ce sl :=
  W.ifc (F := ¬ (0 < x.toInt)) (fun h => XT.i0_le_t (fun q => h (by have q2 := Int32.lt_iff_toInt_lt.mp q; simpa using q2))) (fun h => XT.i0_le_f (Int32.lt_iff_toInt_lt.mpr (by simpa using (Classical.not_not.mp h)))) K pt pf hd kt (fun h => kf (Classical.not_not.mp h)) hp hq
theorem W.lcmp_le {o : Int} {x z : Int64} (K : Ctx X l Z R y code maxL ret) (pc1 pt pf : Nat) (hd0 : decode code pc = .ok (.lcmp, 1)) (hd : decode code pc1 = .ok (.ifCond .le o, 3)) (kt : ¬ (z.toInt < x.toInt) → WP X Z rc rs Q pt L S os ce sl) (kf : z.toInt < x.toInt → WP X Z rc rs Q pf L S os ce sl) (h1' : pc + 1 = pc1 := by rfl) (hp : (pc1 : Int) + o = (pt : Int) := by decide) (hq : pc1 + 3 = pf := by rfl) : WP X Z rc rs Q pc L (.long z :: .long x :: S) os ce sl :=
  W.lcmpc (F := ¬ (z.toInt < x.toInt)) (fun h => XT.ll_le_t (fun q => h (Int64.lt_iff_toInt_lt.mp q))) (fun h => XT.ll_le_f (Int64.lt_iff_toInt_lt.mpr (Classical.not_not.mp h))) K pc1 pt pf hd0 hd kt (fun h => kf (Classical.not_not.mp h)) h1' hp hq
theorem W.ifnullY {o : Int} (K : Ctx X l Z R y code maxL ret) (pt : Nat) (hd : decode code pc = .ok (.ifnull o, 3)) (k : WP X Z rc rs Q pt L S os ce sl) (hp : (pc : Int) + o = (pt : Int) := by decide) : WP X Z rc rs Q pc L (.null :: S) os ce sl := by
  obtain ⟨p, l', e, R', s, m, args, below, meth, c⟩ := X
  obtain ⟨h1, h2, hx, hZ, hby, hml, hown, hnm, hret, hlk⟩ := K
  have h2' : R' = R := h2
  subst h2'
  intro T locs hT0 hH hF
  have hT : Stand p l' e R' s m args below meth c T locs ce sl := hT0
  obtain ⟨s2, o', st, r⟩ := k T locs hT hH hF
  exact ⟨s2, o', XS.ifnullYes (Stand.here hT) hx rfl (pc0 := pc) rfl (hb hby hd) rfl (by rw [hp]; exact Int.natCast_nonneg _) (by rw [hp]; rfl) st, r⟩
theorem W.ifnonnullY {o : Int} {a : Addr} (K : Ctx X l Z R y code maxL ret) (pt : Nat) (hd : decode code pc = .ok (.ifnonnull o, 3)) (k : WP X Z rc rs Q pt L S os ce sl) (hp : (pc : Int) + o = (pt : Int) := by decide) : WP X Z rc rs Q pc L (.ref a :: S) os ce sl := by
  obtain ⟨p, l', e, R', s, m, args, below, meth, c⟩ := X
  obtain ⟨h1, h2, hx, hZ, hby, hml, hown, hnm, hret, hlk⟩ := K
  have h2' : R' = R := h2
  subst h2'
  intro T locs hT0 hH hF
  have hT : Stand p l' e R' s m args below meth c T locs ce sl := hT0
  obtain ⟨s2, o', st, r⟩ := k T locs hT hH hF
  exact ⟨s2, o', XT.nonnullYes (Stand.here hT) hx rfl (pc0 := pc) rfl (hb hby hd) rfl rfl (by simp) (by rw [hp]; exact Int.natCast_nonneg _) (by rw [hp]; rfl) st, r⟩
theorem W.ifnullN {o : Int} {a : Addr} (K : Ctx X l Z R y code maxL ret) (pc' : Nat) (hd : decode code pc = .ok (.ifnull o, 3)) (k : WP X Z rc rs Q pc' L S os ce sl) (hp : pc + 3 = pc' := by rfl) : WP X Z rc rs Q pc L (.ref a :: S) os ce sl := by
  obtain ⟨p, l', e, R', s, m, args, below, meth, c⟩ := X
  obtain ⟨h1, h2, hx, hZ, hby, hml, hown, hnm, hret, hlk⟩ := K
  have h2' : R' = R := h2
  subst h2'
  subst hp
  intro T locs hT0 hH hF
  have hT : Stand p l' e R' s m args below meth c T locs ce sl := hT0
  obtain ⟨s2, o, st, r⟩ := k T locs hT hH hF
  exact ⟨s2, o, XS.ifnullNo (Stand.here hT) hx rfl (hb hby hd) rfl st, r⟩
theorem W.ifnonnullN {o : Int} (K : Ctx X l Z R y code maxL ret) (pc' : Nat) (hd : decode code pc = .ok (.ifnonnull o, 3)) (k : WP X Z rc rs Q pc' L S os ce sl) (hp : pc + 3 = pc' := by rfl) : WP X Z rc rs Q pc L (.null :: S) os ce sl := by
  obtain ⟨p, l', e, R', s, m, args, below, meth, c⟩ := X
  obtain ⟨h1, h2, hx, hZ, hby, hml, hown, hnm, hret, hlk⟩ := K
  have h2' : R' = R := h2
  subst h2'
  subst hp
  intro T locs hT0 hH hF
  have hT : Stand p l' e R' s m args below meth c T locs ce sl := hT0
  obtain ⟨s2, o, st, r⟩ := k T locs hT hH hF
  exact ⟨s2, o, XT.nonnullNo (Stand.here hT) hx rfl (hb hby hd) rfl rfl st, r⟩
theorem W.acmp_eq {o : Int} {x z : Value} (K : Ctx X l Z R y code maxL ret) (pt pf : Nat) (hd : decode code pc = .ok (.if_acmp .eq o, 3)) (kt : x = z → WP X Z rc rs Q pt L S os ce sl) (kf : ¬ x = z → WP X Z rc rs Q pf L S os ce sl) (hr1 : x.isRef = true := by rfl) (hr2 : z.isRef = true := by rfl) (hp : (pc : Int) + o = (pt : Int) := by decide) (hq : pc + 3 = pf := by rfl) : WP X Z rc rs Q pc L (z :: x :: S) os ce sl := by
  obtain ⟨p, l', e, R', s, m, args, below, meth, c⟩ := X
  obtain ⟨h1, h2, hx, hZ, hby, hml, hown, hnm, hret, hlk⟩ := K
  have h2' : R' = R := h2
  subst h2'
  subst hq
  intro T locs hT0 hH hF
  have hT : Stand p l' e R' s m args below meth c T locs ce sl := hT0
  by_cases h : x = z
  · obtain ⟨s2, o', st, r⟩ := kt h T locs hT hH hF
    exact ⟨s2, o', XT.acmpYes (Stand.here hT) hx rfl (pc0 := pc) rfl (hb hby hd) rfl hr1 hr2 (XT.aa_eq_t h) (by rw [hp]; exact Int.natCast_nonneg _) (by rw [hp]; rfl) st, r⟩
  · obtain ⟨s2, o', st, r⟩ := kf h T locs hT hH hF
    exact ⟨s2, o', XT.acmpNo (Stand.here hT) hx rfl (hb hby hd) rfl hr1 hr2 (XT.aa_eq_f h) st, r⟩
theorem W.acmp_ne {o : Int} {x z : Value} (K : Ctx X l Z R y code maxL ret) (pt pf : Nat) (hd : decode code pc = .ok (.if_acmp .ne o, 3)) (kt : ¬ x = z → WP X Z rc rs Q pt L S os ce sl) (kf : x = z → WP X Z rc rs Q pf L S os ce sl) (hr1 : x.isRef = true := by rfl) (hr2 : z.isRef = true := by rfl) (hp : (pc : Int) + o = (pt : Int) := by decide) (hq : pc + 3 = pf := by rfl) : WP X Z rc rs Q pc L (z :: x :: S) os ce sl := by
  obtain ⟨p, l', e, R', s, m, args, below, meth, c⟩ := X
  obtain ⟨h1, h2, hx, hZ, hby, hml, hown, hnm, hret, hlk⟩ := K
  have h2' : R' = R := h2
  subst h2'
  subst hq
  intro T locs hT0 hH hF
  have hT : Stand p l' e R' s m args below meth c T locs ce sl := hT0
  by_cases h : x = z
  · obtain ⟨s2, o', st, r⟩ := kf h T locs hT hH hF
    exact ⟨s2, o', XT.acmpNo (Stand.here hT) hx rfl (hb hby hd) rfl hr1 hr2 (XT.aa_ne_f h) st, r⟩
  · obtain ⟨s2, o', st, r⟩ := kt h T locs hT hH hF
    exact ⟨s2, o', XT.acmpYes (Stand.here hT) hx rfl (pc0 := pc) rfl (hb hby hd) rfl hr1 hr2 (XT.aa_ne_t h) (by rw [hp]; exact Int.natCast_nonneg _) (by rw [hp]; rfl) st, r⟩
theorem W.bool {A B : Prop} [Decidable A] {o : Int} {i1 i0 : Int} {pt pf pg : Nat} {S0 : List Value} (pj : Nat) (v1 v0 : Int32) (K : Ctx X l Z R y code maxL ret) (br : (A → WP X Z rc rs Q pt L S os ce sl) → (B → WP X Z rc rs Q pf L S os ce sl) → WP X Z rc rs Q pc L S0 os ce sl)
    (d1 : decode code pf = .ok (.iconst i1, 1)) (d2 : decode code pg = .ok (.goto o, 3)) (d3 : decode code pt = .ok (.iconst i0, 1)) (k : WP X Z rc rs Q pj L (.int (if A then v0 else v1) :: S) os ce sl)
    (hAB : B → ¬ A := by first | exact id | exact fun h h' => h' h) (e1 : Int32.ofInt i1 = v1 := by rfl) (e0 : Int32.ofInt i0 = v0 := by rfl) (q1 : pf + 1 = pg := by rfl) (q2 : (pg : Int) + o = (pj : Int) := by decide) (q3 : pt + 1 = pj := by rfl) : WP X Z rc rs Q pc L S0 os ce sl := by
  refine br (fun h => ?_) (fun h => ?_)
  · refine W.iconst K pj d3 v0 e0 ?_ q3
    rw [if_pos h] at k; exact k
  · refine W.iconst K pg d1 v1 e1 ?_ q1
    refine W.goto K pj d2 ?_ q2
    rw [if_neg (hAB h)] at k; exact k
theorem W.sel {A B : Prop} [Decidable A] {pt pf : Nat} {S0 : List Value} {vt vf : Value} (pj : Nat) (br : (A → WP X Z rc rs Q pt L S os ce sl) → (B → WP X Z rc rs Q pf L S os ce sl) → WP X Z rc rs Q pc L S0 os ce sl)
    (kt : WP X Z rc rs Q pj L (vt :: S) os ce sl → WP X Z rc rs Q pt L S os ce sl) (kf : WP X Z rc rs Q pj L (vf :: S) os ce sl → WP X Z rc rs Q pf L S os ce sl) (k : WP X Z rc rs Q pj L ((if A then vt else vf) :: S) os ce sl) (hAB : B → ¬ A := by first | exact id | exact fun h h' => h' h) : WP X Z rc rs Q pc L S0 os ce sl :=
  br (fun h => kt (by rw [if_pos h] at k; exact k)) (fun h => kf (by rw [if_neg (hAB h)] at k; exact k))
theorem W.selI {A B : Prop} [Decidable A] {pt pf : Nat} {S0 : List Value} {vt vf : Int32} (pj : Nat) (br : (A → WP X Z rc rs Q pt L S os ce sl) → (B → WP X Z rc rs Q pf L S os ce sl) → WP X Z rc rs Q pc L S0 os ce sl)
    (kt : WP X Z rc rs Q pj L (.int vt :: S) os ce sl → WP X Z rc rs Q pt L S os ce sl) (kf : WP X Z rc rs Q pj L (.int vf :: S) os ce sl → WP X Z rc rs Q pf L S os ce sl) (k : WP X Z rc rs Q pj L (.int (if A then vt else vf) :: S) os ce sl) (hAB : B → ¬ A := by first | exact id | exact fun h h' => h' h) : WP X Z rc rs Q pc L S0 os ce sl :=
  br (fun h => kt (by rw [if_pos h] at k; exact k)) (fun h => kf (by rw [if_neg (hAB h)] at k; exact k))
theorem W.selL {A B : Prop} [Decidable A] {pt pf : Nat} {S0 : List Value} {vt vf : Int64} (pj : Nat) (br : (A → WP X Z rc rs Q pt L S os ce sl) → (B → WP X Z rc rs Q pf L S os ce sl) → WP X Z rc rs Q pc L S0 os ce sl)
    (kt : WP X Z rc rs Q pj L (.long vt :: S) os ce sl → WP X Z rc rs Q pt L S os ce sl) (kf : WP X Z rc rs Q pj L (.long vf :: S) os ce sl → WP X Z rc rs Q pf L S os ce sl) (k : WP X Z rc rs Q pj L (.long (if A then vt else vf) :: S) os ce sl) (hAB : B → ¬ A := by first | exact id | exact fun h h' => h' h) : WP X Z rc rs Q pc L S0 os ce sl :=
  br (fun h => kt (by rw [if_pos h] at k; exact k)) (fun h => kf (by rw [if_neg (hAB h)] at k; exact k))
theorem W.joinI {F : Prop} [Decidable F] {S0 : List Value} (pj : Nat) (tree : (F → WP X Z rc rs Q pj L (.int 1 :: S) os ce sl) → (¬ F → WP X Z rc rs Q pj L (.int 0 :: S) os ce sl) → WP X Z rc rs Q pc L S0 os ce sl) (k : WP X Z rc rs Q pj L (.int (if F then 1 else 0) :: S) os ce sl) : WP X Z rc rs Q pc L S0 os ce sl :=
  tree (fun h => by rw [if_pos h] at k; exact k) (fun h => by rw [if_neg h] at k; exact k)
theorem W.cutI {G : Int32 → Prop} {S0 : List Value} (pj n : Nat) (tree : (∀ v, G v → WP X Z rc rs Q pj (L.set n (.val (.int v))) S os ce sl) → WP X Z rc rs Q pc L S0 os ce sl) (k : ∀ v, G v → WP X Z rc rs Q pj (L.set n (.val (.int v))) S os ce sl) : WP X Z rc rs Q pc L S0 os ce sl := tree k
theorem W.cutV {G : Value → Prop} {S0 : List Value} (pj n : Nat) (tree : (∀ v, G v → WP X Z rc rs Q pj (L.set n (.val v)) S os ce sl) → WP X Z rc rs Q pc L S0 os ce sl) (k : ∀ v, G v → WP X Z rc rs Q pj (L.set n (.val v)) S os ce sl) : WP X Z rc rs Q pc L S0 os ce sl := tree k
theorem W.cutO {G : OS → Prop} {S0 : List Value} (pj : Nat) (tree : (∀ os', G os' → WP X Z rc rs Q pj L S os' ce sl) → WP X Z rc rs Q pc L S0 os ce sl) (k : ∀ os', G os' → WP X Z rc rs Q pj L S os' ce sl) : WP X Z rc rs Q pc L S0 os ce sl := tree k
theorem W.cutIO {G : Int32 → OS → Prop} {S0 : List Value} (pj n : Nat) (tree : (∀ v os', G v os' → WP X Z rc rs Q pj (L.set n (.val (.int v))) S os' ce sl) → WP X Z rc rs Q pc L S0 os ce sl) (k : ∀ v os', G v os' → WP X Z rc rs Q pj (L.set n (.val (.int v))) S os' ce sl) : WP X Z rc rs Q pc L S0 os ce sl := tree k
theorem W.cutL {G : List Slot → Prop} {S0 : List Value} (pj : Nat) (tree : (∀ L', G L' → WP X Z rc rs Q pj L' S os ce sl) → WP X Z rc rs Q pc L S0 os ce sl) (k : ∀ L', G L' → WP X Z rc rs Q pj L' S os ce sl) : WP X Z rc rs Q pc L S0 os ce sl := tree k
theorem W.cutLO {G : List Slot → OS → Prop} {S0 : List Value} (pj : Nat) (tree : (∀ L' os', G L' os' → WP X Z rc rs Q pj L' S os' ce sl) → WP X Z rc rs Q pc L S0 os ce sl) (k : ∀ L' os', G L' os' → WP X Z rc rs Q pj L' S os' ce sl) : WP X Z rc rs Q pc L S0 os ce sl := tree k
theorem W.cut0 {S0 : List Value} (pj : Nat) (tree : WP X Z rc rs Q pj L S os ce sl → WP X Z rc rs Q pc L S0 os ce sl) (k : WP X Z rc rs Q pj L S os ce sl) : WP X Z rc rs Q pc L S0 os ce sl := tree k
theorem W.cutS {G : Value → Prop} {S0 : List Value} (pj : Nat) (tree : (∀ v, G v → WP X Z rc rs Q pj L (v :: S) os ce sl) → WP X Z rc rs Q pc L S0 os ce sl) (k : ∀ v, G v → WP X Z rc rs Q pj L (v :: S) os ce sl) : WP X Z rc rs Q pc L S0 os ce sl := tree k
theorem W.ldcI {idx : Nat} {v : Int32} (K : Ctx X l Z R y code maxL ret) (pc' : Nat) (hd : decode code pc = .ok (.ldc idx, 2)) (w : (Jvm.Cond.constant y.cls idx v).before a0 Z = true) (k : WP X Z rc rs Q pc' L (.int v :: S) os ce sl) (hp : pc + 2 = pc' := by rfl) : WP X Z rc rs Q pc L S os ce sl := by
  obtain ⟨p, l', e, R', s, m, args, below, meth, c⟩ := X
  obtain ⟨h1, h2, hx, hZ, hby, hml, hown, hnm, hret, hlk⟩ := K
  have h2' : R' = R := h2
  subst h2'
  subst hp
  intro T locs hT0 hH hF
  have hT : Stand p l' e R' s m args below meth c T locs ce sl := hT0
  obtain ⟨s2, o, st, r⟩ := k T locs hT hH hF
  exact ⟨s2, o, Stand.ldcInt hT hx hown (mvT hZ w) (g := mkF m pc L.toArray S) rfl (hb hby hd) _ st, r⟩
theorem W.ldc2 {idx : Nat} {v : Int64} (K : Ctx X l Z R y code maxL ret) (pc' : Nat) (hd : decode code pc = .ok (.ldc2_w idx, 3)) (w : (Jvm.Cond.constantLong y.cls idx v).before a0 Z = true) (k : WP X Z rc rs Q pc' L (.long v :: S) os ce sl) (hp : pc + 3 = pc' := by rfl) : WP X Z rc rs Q pc L S os ce sl := by
  obtain ⟨p, l', e, R', s, m, args, below, meth, c⟩ := X
  obtain ⟨h1, h2, hx, hZ, hby, hml, hown, hnm, hret, hlk⟩ := K
  have h2' : R' = R := h2
  subst h2'
  subst hp
  intro T locs hT0 hH hF
  have hT : Stand p l' e R' s m args below meth c T locs ce sl := hT0
  obtain ⟨s2, o, st, r⟩ := k T locs hT hH hF
  exact ⟨s2, o, Stand.ldc2Long hT hx hown (mvT hZ w) (g := mkF m pc L.toArray S) rfl (hb hby hd) _ st, r⟩
theorem idx_ok {vs : List Value} {c : Cell} {j : Int32} {k : Nat} {v : Value} (hs : c.slots = vs.toArray) (hj : j.toInt = (k : Int)) (hv : vs[k]? = some v) : ¬ (j < 0 ∨ c.slots.size ≤ j.toNatClampNeg) ∧ j.toNatClampNeg = k ∧ c.slots[j.toNatClampNeg]? = some v := by
  have e : j.toNatClampNeg = k := by show j.toInt.toNat = k; rw [hj]; rfl
  have hk := (List.getElem?_eq_some_iff.mp hv).1
  refine ⟨?_, e, by rw [e, hs]; simpa using hv⟩
  rw [Int32.lt_iff_toInt_lt, e, hs]
  simp only [List.size_toArray]
  intro q
  rcases q with q | q
  · rw [hj] at q
    exact absurd q (Int.not_lt.mpr (Int.natCast_nonneg k))
  · omega
theorem W.iaload {a : Addr} {vs : List Value} {j : Int32} {v : Value} (i : Nat) (K : Ctx X l Z R y code maxL ret) (pc' : Nat) (hd : decode code pc = .ok (.iaload, 1)) (hm : (a, ARR Z .int vs) ∈ os) (hj : j.toInt = (i : Int)) (hv : vs[i]? = some v) (k : WP X Z rc rs Q pc' L (v :: S) os ce sl) (hp : pc + 1 = pc' := by rfl) : WP X Z rc rs Q pc L (.int j :: .ref a :: S) os ce sl := by
  obtain ⟨p, l', e, R', s, m, args, below, meth, c⟩ := X
  obtain ⟨h1, h2, hx, hZ, hby, hml, hown, hnm, hret, hlk⟩ := K
  have h2' : R' = R := h2
  subst h2'
  subst hp
  intro T locs hT0 hH hF
  have hT : Stand p l' e R' s m args below meth c T locs ce sl := hT0
  obtain ⟨s2, o, st, r⟩ := k T locs hT hH hF
  obtain ⟨-, cl, hcl, q1, q2, q3, q4, q5⟩ := hH.get hm
  obtain ⟨e1, e2, e3⟩ := idx_ok q3 hj hv
  exact ⟨s2, o, Stand.iaload hT hx hcl (State.isArrayOf_alike hZ.alike q1) q2 e1 e3 (g := mkF m pc L.toArray (.int j :: .ref a :: S)) rfl rfl (hb hby hd) _ st, r⟩
theorem W.laload {a : Addr} {vs : List Value} {j : Int32} {v : Value} (i : Nat) (K : Ctx X l Z R y code maxL ret) (pc' : Nat) (hd : decode code pc = .ok (.laload, 1)) (hm : (a, ARR Z .long vs) ∈ os) (hj : j.toInt = (i : Int)) (hv : vs[i]? = some v) (k : WP X Z rc rs Q pc' L (v :: S) os ce sl) (hp : pc + 1 = pc' := by rfl) : WP X Z rc rs Q pc L (.int j :: .ref a :: S) os ce sl := by
  obtain ⟨p, l', e, R', s, m, args, below, meth, c⟩ := X
  obtain ⟨h1, h2, hx, hZ, hby, hml, hown, hnm, hret, hlk⟩ := K
  have h2' : R' = R := h2
  subst h2'
  subst hp
  intro T locs hT0 hH hF
  have hT : Stand p l' e R' s m args below meth c T locs ce sl := hT0
  obtain ⟨s2, o, st, r⟩ := k T locs hT hH hF
  obtain ⟨-, cl, hcl, q1, q2, q3, q4, q5⟩ := hH.get hm
  obtain ⟨e1, e2, e3⟩ := idx_ok q3 hj hv
  exact ⟨s2, o, Stand.laload hT hx hcl (State.isArrayOf_alike hZ.alike q1) q2 e1 e3 (g := mkF m pc L.toArray (.int j :: .ref a :: S)) rfl rfl (hb hby hd) _ st, r⟩
theorem W.caload {a : Addr} {vs : List Value} {j : Int32} {v : Value} (i : Nat) (K : Ctx X l Z R y code maxL ret) (pc' : Nat) (hd : decode code pc = .ok (.caload, 1)) (hm : (a, ARR Z .char vs) ∈ os) (hj : j.toInt = (i : Int)) (hv : vs[i]? = some v) (k : WP X Z rc rs Q pc' L (v :: S) os ce sl) (hp : pc + 1 = pc' := by rfl) : WP X Z rc rs Q pc L (.int j :: .ref a :: S) os ce sl := by
  obtain ⟨p, l', e, R', s, m, args, below, meth, c⟩ := X
  obtain ⟨h1, h2, hx, hZ, hby, hml, hown, hnm, hret, hlk⟩ := K
  have h2' : R' = R := h2
  subst h2'
  subst hp
  intro T locs hT0 hH hF
  have hT : Stand p l' e R' s m args below meth c T locs ce sl := hT0
  obtain ⟨s2, o, st, r⟩ := k T locs hT hH hF
  obtain ⟨-, cl, hcl, q1, q2, q3, q4, q5⟩ := hH.get hm
  obtain ⟨e1, e2, e3⟩ := idx_ok q3 hj hv
  exact ⟨s2, o, Stand.caload hT hx hcl (State.isArrayOf_alike hZ.alike q1) q2 e1 e3 (g := mkF m pc L.toArray (.int j :: .ref a :: S)) rfl rfl (hb hby hd) _ st, r⟩
theorem W.baload {a : Addr} {vs : List Value} {j : Int32} {v : Value} (i : Nat) (K : Ctx X l Z R y code maxL ret) (pc' : Nat) (hd : decode code pc = .ok (.baload, 1)) (hm : (a, ARR Z .byte vs) ∈ os) (hj : j.toInt = (i : Int)) (hv : vs[i]? = some v) (k : WP X Z rc rs Q pc' L (v :: S) os ce sl) (hp : pc + 1 = pc' := by rfl) : WP X Z rc rs Q pc L (.int j :: .ref a :: S) os ce sl := by
  obtain ⟨p, l', e, R', s, m, args, below, meth, c⟩ := X
  obtain ⟨h1, h2, hx, hZ, hby, hml, hown, hnm, hret, hlk⟩ := K
  have h2' : R' = R := h2
  subst h2'
  subst hp
  intro T locs hT0 hH hF
  have hT : Stand p l' e R' s m args below meth c T locs ce sl := hT0
  obtain ⟨s2, o, st, r⟩ := k T locs hT hH hF
  obtain ⟨-, cl, hcl, q1, q2, q3, q4, q5⟩ := hH.get hm
  obtain ⟨e1, e2, e3⟩ := idx_ok q3 hj hv
  exact ⟨s2, o, Stand.baloadBytes hT hx hcl (State.isArrayOf_alike hZ.alike q1) q2 e1 e3 (g := mkF m pc L.toArray (.int j :: .ref a :: S)) rfl rfl (hb hby hd) _ st, r⟩
theorem W.aaload {a : Addr} {vs : List Value} {j : Int32} {v : Value} {ty : FieldType} (i : Nat) (K : Ctx X l Z R y code maxL ret) (pc' : Nat) (hd : decode code pc = .ok (.aaload, 1)) (hm : (a, ARR Z ty vs) ∈ os) (hj : j.toInt = (i : Int)) (hv : vs[i]? = some v) (hty : ty.isReference = true) (k : WP X Z rc rs Q pc' L (v :: S) os ce sl) (hp : pc + 1 = pc' := by rfl) : WP X Z rc rs Q pc L (.int j :: .ref a :: S) os ce sl := by
  obtain ⟨p, l', e, R', s, m, args, below, meth, c⟩ := X
  obtain ⟨h1, h2, hx, hZ, hby, hml, hown, hnm, hret, hlk⟩ := K
  have h2' : R' = R := h2
  subst h2'
  subst hp
  intro T locs hT0 hH hF
  have hT : Stand p l' e R' s m args below meth c T locs ce sl := hT0
  obtain ⟨s2, o, st, r⟩ := k T locs hT hH hF
  obtain ⟨-, cl, hcl, q1, q2, q3, q4, q5⟩ := hH.get hm
  obtain ⟨e1, e2, e3⟩ := idx_ok q3 hj hv
  exact ⟨s2, o, Stand.aaload hT hx hcl (State.isArrayOf_alike hZ.alike q1) hty q2 e1 e3 (g := mkF m pc L.toArray (.int j :: .ref a :: S)) rfl rfl (hb hby hd) _ st, r⟩
theorem W.arraylength {a : Addr} {vs : List Value} {ty : FieldType} (z : Int32) (K : Ctx X l Z R y code maxL ret) (pc' : Nat) (hd : decode code pc = .ok (.arraylength, 1)) (hm : (a, ARR Z ty vs) ∈ os) (hz : vs.length.toInt32 = z) (k : WP X Z rc rs Q pc' L (.int z :: S) os ce sl) (hp : pc + 1 = pc' := by rfl) : WP X Z rc rs Q pc L (.ref a :: S) os ce sl := by
  obtain ⟨p, l', e, R', s, m, args, below, meth, c⟩ := X
  obtain ⟨h1, h2, hx, hZ, hby, hml, hown, hnm, hret, hlk⟩ := K
  have h2' : R' = R := h2
  subst h2'
  subst hp
  intro T locs hT0 hH hF
  have hT : Stand p l' e R' s m args below meth c T locs ce sl := hT0
  obtain ⟨s2, o, st, r⟩ := k T locs hT hH hF
  obtain ⟨-, cl, hcl, q1, q2, q3, q4, q5⟩ := hH.get hm
  have e : cl.slots.size.toInt32 = z := by rw [q3]; simpa using hz
  rw [← e] at st
  exact ⟨s2, o, Stand.arraylength hT hx hcl (State.isArrayOf_alike hZ.alike q1) (g := mkF m pc L.toArray (.ref a :: S)) rfl rfl (hb hby hd) _ st, r⟩
theorem W.iastore {a : Addr} {vs : List Value} {j : Int32} {x : Int32} {w : Value} (i : Nat) (K : Ctx X l Z R y code maxL ret) (pc' : Nat) (hd : decode code pc = .ok (.iastore, 1)) (hm : Upd os a (ARR Z .int vs) (ARR Z .int (vs.set i (.int x))) os') (hj : j.toInt = (i : Int)) (hv : vs[i]? = some w) (k : WP X Z rc rs Q pc' L S os' ce sl) (hp : pc + 1 = pc' := by rfl) : WP X Z rc rs Q pc L (.int x :: .int j :: .ref a :: S) os ce sl := by
  obtain ⟨p, l', e, R', s, m, args, below, meth, c⟩ := X
  obtain ⟨h1, h2, hx, hZ, hby, hml, hown, hnm, hret, hlk⟩ := K
  have h2' : R' = R := h2
  subst h2'
  subst hp
  intro T locs hT0 hH hF
  have hT : Stand p l' e R' s m args below meth c T locs ce sl := hT0
  obtain ⟨ii, hm, rfl⟩ := hm
  obtain ⟨ha, cl, hcl, q1, q2, q3, q4, q5⟩ := hH.2.2 ii _ hm
  obtain ⟨e1, e2, e3⟩ := idx_ok q3 hj hv
  obtain ⟨T', h', X', e', W', st'⟩ := RoadKit.stI hT hx hZ rfl ⟨hcl, q1, q2⟩ (x := x) e1 (g := mkF m pc L.toArray (.int x :: .int j :: .ref a :: S)) rfl rfl (hb hby hd)
  rw [e2] at W'
  obtain ⟨s2, o, st, r⟩ := k T' _ X' (by rw [e']; exact hH.upd hm W' (fun c c' g1 g2 g3 g4 => by rw [g4]; exact ARR.put g2 (rfl))) (Fr.snoc X' hF ha)
  exact ⟨s2, o, st' _ st, r⟩
theorem W.lastore {a : Addr} {vs : List Value} {j : Int32} {x : Int64} {w : Value} (i : Nat) (K : Ctx X l Z R y code maxL ret) (pc' : Nat) (hd : decode code pc = .ok (.lastore, 1)) (hm : Upd os a (ARR Z .long vs) (ARR Z .long (vs.set i (.long x))) os') (hj : j.toInt = (i : Int)) (hv : vs[i]? = some w) (k : WP X Z rc rs Q pc' L S os' ce sl) (hp : pc + 1 = pc' := by rfl) : WP X Z rc rs Q pc L (.long x :: .int j :: .ref a :: S) os ce sl := by
  obtain ⟨p, l', e, R', s, m, args, below, meth, c⟩ := X
  obtain ⟨h1, h2, hx, hZ, hby, hml, hown, hnm, hret, hlk⟩ := K
  have h2' : R' = R := h2
  subst h2'
  subst hp
  intro T locs hT0 hH hF
  have hT : Stand p l' e R' s m args below meth c T locs ce sl := hT0
  obtain ⟨ii, hm, rfl⟩ := hm
  obtain ⟨ha, cl, hcl, q1, q2, q3, q4, q5⟩ := hH.2.2 ii _ hm
  obtain ⟨e1, e2, e3⟩ := idx_ok q3 hj hv
  obtain ⟨T', h', X', e', W', st'⟩ := RoadKit.stJ hT hx hZ rfl ⟨hcl, q1, q2⟩ (x := x) e1 (g := mkF m pc L.toArray (.long x :: .int j :: .ref a :: S)) rfl rfl (hb hby hd)
  rw [e2] at W'
  obtain ⟨s2, o, st, r⟩ := k T' _ X' (by rw [e']; exact hH.upd hm W' (fun c c' g1 g2 g3 g4 => by rw [g4]; exact ARR.put g2 (rfl))) (Fr.snoc X' hF ha)
  exact ⟨s2, o, st' _ st, r⟩
theorem W.bastore {a : Addr} {vs : List Value} {j : Int32} {x : Int32} {w : Value} (i : Nat) (K : Ctx X l Z R y code maxL ret) (pc' : Nat) (hd : decode code pc = .ok (.bastore, 1)) (hm : Upd os a (ARR Z .byte vs) (ARR Z .byte (vs.set i (.int x.toInt8.toInt32))) os') (hj : j.toInt = (i : Int)) (hv : vs[i]? = some w) (k : WP X Z rc rs Q pc' L S os' ce sl) (hp : pc + 1 = pc' := by rfl) : WP X Z rc rs Q pc L (.int x :: .int j :: .ref a :: S) os ce sl := by
  obtain ⟨p, l', e, R', s, m, args, below, meth, c⟩ := X
  obtain ⟨h1, h2, hx, hZ, hby, hml, hown, hnm, hret, hlk⟩ := K
  have h2' : R' = R := h2
  subst h2'
  subst hp
  intro T locs hT0 hH hF
  have hT : Stand p l' e R' s m args below meth c T locs ce sl := hT0
  obtain ⟨ii, hm, rfl⟩ := hm
  obtain ⟨ha, cl, hcl, q1, q2, q3, q4, q5⟩ := hH.2.2 ii _ hm
  obtain ⟨e1, e2, e3⟩ := idx_ok q3 hj hv
  obtain ⟨T', h', X', e', W', st'⟩ := RoadKit.stB hT hx hZ rfl ⟨hcl, q1, q2⟩ (x := x) e1 (g := mkF m pc L.toArray (.int x :: .int j :: .ref a :: S)) rfl rfl (hb hby hd)
  rw [e2] at W'
  obtain ⟨s2, o, st, r⟩ := k T' _ X' (by rw [e']; exact hH.upd hm W' (fun c c' g1 g2 g3 g4 => by rw [g4]; exact ARR.put g2 (fits_nar_byte x))) (Fr.snoc X' hF ha)
  exact ⟨s2, o, st' _ st, r⟩
theorem W.castore {a : Addr} {vs : List Value} {j : Int32} {x : Int32} {w : Value} (i : Nat) (K : Ctx X l Z R y code maxL ret) (pc' : Nat) (hd : decode code pc = .ok (.castore, 1)) (hm : Upd os a (ARR Z .char vs) (ARR Z .char (vs.set i (.int x.toUInt32.toUInt16.toUInt32.toInt32))) os') (hj : j.toInt = (i : Int)) (hv : vs[i]? = some w) (k : WP X Z rc rs Q pc' L S os' ce sl) (hp : pc + 1 = pc' := by rfl) : WP X Z rc rs Q pc L (.int x :: .int j :: .ref a :: S) os ce sl := by
  obtain ⟨p, l', e, R', s, m, args, below, meth, c⟩ := X
  obtain ⟨h1, h2, hx, hZ, hby, hml, hown, hnm, hret, hlk⟩ := K
  have h2' : R' = R := h2
  subst h2'
  subst hp
  intro T locs hT0 hH hF
  have hT : Stand p l' e R' s m args below meth c T locs ce sl := hT0
  obtain ⟨ii, hm, rfl⟩ := hm
  obtain ⟨ha, cl, hcl, q1, q2, q3, q4, q5⟩ := hH.2.2 ii _ hm
  obtain ⟨e1, e2, e3⟩ := idx_ok q3 hj hv
  obtain ⟨T', h', X', e', W', st'⟩ := RoadKit.stC hT hx hZ rfl ⟨hcl, q1, q2⟩ (x := x) e1 (g := mkF m pc L.toArray (.int x :: .int j :: .ref a :: S)) rfl rfl (hb hby hd)
  rw [e2] at W'
  obtain ⟨s2, o, st, r⟩ := k T' _ X' (by rw [e']; exact hH.upd hm W' (fun c c' g1 g2 g3 g4 => by rw [g4]; exact ARR.put g2 (fits_nar_char x))) (Fr.snoc X' hF ha)
  exact ⟨s2, o, st' _ st, r⟩
theorem W.getF {a : Addr} {O n d C : String} {v : Value} {fs : List FV} {idx : Nat} (K : Ctx X l Z R y code maxL ret) (pc' : Nat) (hd : decode code pc = .ok (.getfield idx, 3)) (w : (Jvm.Cond.fieldLink y.cls idx O n d).before a0 Z = true) (hm : (a, OBJ Z C fs) ∈ os) (hf : (O, n, d, v) ∈ fs) (k : WP X Z rc rs Q pc' L (v :: S) os ce sl) (hp : pc + 3 = pc' := by rfl) : WP X Z rc rs Q pc L (.ref a :: S) os ce sl := by
  obtain ⟨p, l', e, R', s, m, args, below, meth, c⟩ := X
  obtain ⟨h1, h2, hx, hZ, hby, hml, hown, hnm, hret, hlk⟩ := K
  have h2' : R' = R := h2
  subst h2'
  subst hp
  intro T locs hT0 hH hF
  have hT : Stand p l' e R' s m args below meth c T locs ce sl := hT0
  obtain ⟨-, cl, hcl, hO⟩ := hH.get hm
  obtain ⟨T', X', e', st'⟩ := RoadKit.getF hT hx hZ hown (host := "") (Or.inl w) Via.refl rfl (hO.fld hcl hf) (g := mkF m pc L.toArray (.ref a :: S)) rfl rfl (hb hby hd)
  obtain ⟨s2, o, st, r⟩ := k T' locs X' (by rw [e']; exact hH) hF
  exact ⟨s2, o, st' _ st, r⟩
theorem W.getFN {a : Addr} {O n d C host : String} {v : Value} {fs : List FV} {idx : Nat} (K : Ctx X l Z R y code maxL ret) (pc' : Nat) (hd : decode code pc = .ok (.getfield idx, 3)) (w : (Jvm.Cond.fieldLinkNest y.cls idx O n d host).before a0 Z = true) (hm : (a, OBJ Z C fs) ∈ os) (hf : (O, n, d, v) ∈ fs) (k : WP X Z rc rs Q pc' L (v :: S) os ce sl) (hp : pc + 3 = pc' := by rfl) : WP X Z rc rs Q pc L (.ref a :: S) os ce sl := by
  obtain ⟨p, l', e, R', s, m, args, below, meth, c⟩ := X
  obtain ⟨h1, h2, hx, hZ, hby, hml, hown, hnm, hret, hlk⟩ := K
  have h2' : R' = R := h2
  subst h2'
  subst hp
  intro T locs hT0 hH hF
  have hT : Stand p l' e R' s m args below meth c T locs ce sl := hT0
  obtain ⟨-, cl, hcl, hO⟩ := hH.get hm
  obtain ⟨T', X', e', st'⟩ := RoadKit.getF hT hx hZ hown (host := host) (Or.inr w) Via.refl rfl (hO.fld hcl hf) (g := mkF m pc L.toArray (.ref a :: S)) rfl rfl (hb hby hd)
  obtain ⟨s2, o, st, r⟩ := k T' locs X' (by rw [e']; exact hH) hF
  exact ⟨s2, o, st' _ st, r⟩
theorem W.getFo {a : Addr} {O n d : String} {v : Value} {idx : Nat} (K : Ctx X l Z R y code maxL ret) (pc' : Nat) (hd : decode code pc = .ok (.getfield idx, 3)) (w : (Jvm.Cond.fieldLink y.cls idx O n d).before a0 Z = true) (F : Fld Z Z.heap a O n d v) (k : WP X Z rc rs Q pc' L (v :: S) os ce sl) (hp : pc + 3 = pc' := by rfl) : WP X Z rc rs Q pc L (.ref a :: S) os ce sl := by
  obtain ⟨p, l', e, R', s, m, args, below, meth, c⟩ := X
  obtain ⟨h1, h2, hx, hZ, hby, hml, hown, hnm, hret, hlk⟩ := K
  have h2' : R' = R := h2
  subst h2'
  subst hp
  intro T locs hT0 hH hF
  have hT : Stand p l' e R' s m args below meth c T locs ce sl := hT0
  obtain ⟨T', X', e', st'⟩ := RoadKit.getF hT hx hZ hown (host := "") (Or.inl w) Via.refl rfl (F.ext hH.1) (g := mkF m pc L.toArray (.ref a :: S)) rfl rfl (hb hby hd)
  obtain ⟨s2, o, st, r⟩ := k T' locs X' (by rw [e']; exact hH) hF
  exact ⟨s2, o, st' _ st, r⟩
theorem W.getFR {a : Addr} {O n d C : String} {v : Value} {fs : List FV} {idx : Nat} (K : Ctx X l Z R y code maxL ret) (pc' : Nat) (hd : decode code pc = .ok (.getfield idx, 3)) (w : (Jvm.Cond.fieldRef y.cls idx O n d).before a0 Z = true) (hm : (a, OBJ Z C fs) ∈ os) (hf : (O, n, d, v) ∈ fs) (k : WP X Z rc rs Q pc' L (v :: S) os ce sl) (hp : pc + 3 = pc' := by rfl) : WP X Z rc rs Q pc L (.ref a :: S) os ce sl := by
  obtain ⟨p, l', e, R', s, m, args, below, meth, c⟩ := X
  obtain ⟨h1, h2, hx, hZ, hby, hml, hown, hnm, hret, hlk⟩ := K
  have h2' : R' = R := h2
  subst h2'
  subst hp
  intro T locs hT0 hH hF
  have hT : Stand p l' e R' s m args below meth c T locs ce sl := hT0
  obtain ⟨-, cl, hcl, hO⟩ := hH.get hm
  obtain ⟨s2, o, st, r⟩ := k T locs hT hH hF
  obtain ⟨cell, cf, kf, i, f, f1, f2, f3, f4, f5, f6, f7⟩ := hO.fld hcl hf
  cases hcl.symm.trans f1
  have hZT : Z.Warmed39 T.vm := wtrans hZ (Stand.warmed hT)
  have w1 := Cond.fieldRef_warmed39 hZT w
  have hcur : (Z.setVm T.vm).vm.findClass y.cls = some m.cls := by
    have q := (Stand.warmed hT).alike.findClass y.cls
    show T.vm.findClass y.cls = some m.cls
    rw [q]; exact hown
  obtain ⟨c1, k1, i1, fd1, g1, g2⟩ := Cond.fieldRef_spec hcur w1
  obtain ⟨k2, g3, -⟩ := State.fieldFound?_setVm (s := Z) hZT.alike f2
  cases g1.symm.trans g3
  refine ⟨s2, o, ?_, r⟩
  have hX := Stand.here hT
  have hdg := hb hby hd
  jvm_step hX [hX.top, hx, hdg, getfield.wp_ready (e := e) (s := T) (f := mkF m pc L.toArray (.ref a :: S)) hX.top g2 f3 rfl f1 f4 f7]
  exact st
theorem W.putFg {a : Addr} {O n d C host : String} {v old : Value} {fs fs' : List FV} {idx kk : Nat} {ty : FieldType} (K : Ctx X l Z R y code maxL ret) (pc' : Nat) (hd : decode code pc = .ok (.putfield idx, 3)) (w : (Jvm.Cond.fieldLink y.cls idx O n d).before a0 Z = true ∨ (Jvm.Cond.fieldLinkNest y.cls idx O n d host).before a0 Z = true)
    (hL : (Jvm.Cond.lays C O n d).before a0 Z = true ∨ ((Jvm.Cond.laysFinal C O n d).before a0 Z = true ∧ y.cls = O ∧ y.name = "<init>")) (wi : (Jvm.Cond.instantiable C kk).before a0 Z = true) (hty : parseFieldDescriptor d = some ty) (hn : narrow ty v = v) (hfit : fits ty v = true)
    (hm : Upd os a (OBJ Z C fs) (OBJ Z C fs') os') (hf : UpdF fs O n d old v fs') (k : WP X Z rc rs Q pc' L S os' ce sl) (hp : pc + 3 = pc' := by rfl) : WP X Z rc rs Q pc L (v :: .ref a :: S) os ce sl := by
  obtain ⟨p, l', e, R', s, m, args, below, meth, c⟩ := X
  obtain ⟨h1, h2, hx, hZ, hby, hml, hown, hnm, hret, hlk⟩ := K
  have h2' : R' = R := h2
  subst h2'
  subst hp
  intro T locs hT0 hH hF
  have hT : Stand p l' e R' s m args below meth c T locs ce sl := hT0
  obtain ⟨ii, hm, rfl⟩ := hm
  obtain ⟨ha, cl, hcl, hO⟩ := hH.2.2 ii _ hm
  have hmem : (O, n, d, old) ∈ fs := by obtain ⟨jj, hj, -⟩ := hf; exact List.mem_of_getElem? hj
  obtain ⟨T', h', X', e', W', st'⟩ := RoadKit.putF hT hx hZ hown w Via.refl rfl (hO.fld hcl hmem) (hO.exa hcl) (hL.imp id (fun q => ⟨q.1, q.2.1, by rw [hnm]; exact q.2.2⟩)) wi hty hn hfit (g := mkF m pc L.toArray (v :: .ref a :: S)) rfl rfl (hb hby hd)
  obtain ⟨s2, o, st, r⟩ := k T' _ X' (by rw [e']; exact hH.upd hm W' (fun c c' g1 g2 g3 g4 => by rw [g4]; exact OBJ.put g2 hf)) (Fr.snoc X' hF ha)
  exact ⟨s2, o, st' _ st, r⟩
theorem W.putF {a : Addr} {O n d C : String} {v old : Value} {fs fs' : List FV} {idx kk : Nat} {ty : FieldType} (K : Ctx X l Z R y code maxL ret) (pc' : Nat) (hd : decode code pc = .ok (.putfield idx, 3)) (w : (Jvm.Cond.fieldLink y.cls idx O n d).before a0 Z = true)
    (hL : (Jvm.Cond.lays C O n d).before a0 Z = true) (wi : (Jvm.Cond.instantiable C kk).before a0 Z = true) (hty : parseFieldDescriptor d = some ty) (hm : Upd os a (OBJ Z C fs) (OBJ Z C fs') os') (hf : UpdF fs O n d old v fs') (k : WP X Z rc rs Q pc' L S os' ce sl) (hn : narrow ty v = v := by rfl) (hfit : fits ty v = true := by rfl)
    (hp : pc + 3 = pc' := by rfl) : WP X Z rc rs Q pc L (v :: .ref a :: S) os ce sl := W.putFg (host := "") K pc' hd (Or.inl w) (Or.inl hL) wi hty hn hfit hm hf k hp
theorem W.putFf {a : Addr} {O n d C : String} {v old : Value} {fs fs' : List FV} {idx kk : Nat} {ty : FieldType} (K : Ctx X l Z R y code maxL ret) (pc' : Nat) (hd : decode code pc = .ok (.putfield idx, 3)) (w : (Jvm.Cond.fieldLink y.cls idx O n d).before a0 Z = true)
    (hL : (Jvm.Cond.laysFinal C O n d).before a0 Z = true) (wi : (Jvm.Cond.instantiable C kk).before a0 Z = true) (hty : parseFieldDescriptor d = some ty) (hm : Upd os a (OBJ Z C fs) (OBJ Z C fs') os') (hf : UpdF fs O n d old v fs') (k : WP X Z rc rs Q pc' L S os' ce sl) (hn : narrow ty v = v := by rfl) (hfit : fits ty v = true := by rfl)
    (hy1 : y.cls = O := by rfl) (hy2 : y.name = "<init>" := by rfl) (hp : pc + 3 = pc' := by rfl) : WP X Z rc rs Q pc L (v :: .ref a :: S) os ce sl := W.putFg (host := "") K pc' hd (Or.inl w) (Or.inr ⟨hL, hy1, hy2⟩) wi hty hn hfit hm hf k hp
theorem W.getS {O n d : String} {v : Value} {idx : Nat} (K : Ctx X l Z R y code maxL ret) (pc' : Nat) (hd : decode code pc = .ok (.getstatic idx, 3)) (w : (Jvm.Cond.fieldLink y.cls idx O n d).before a0 Z = true) (F : Sta Z Z.heap O n d v) (k : WP X Z rc rs Q pc' L (v :: S) os ce sl) (hp : pc + 3 = pc' := by rfl) : WP X Z rc rs Q pc L S os ce sl := by
  obtain ⟨p, l', e, R', s, m, args, below, meth, c⟩ := X
  obtain ⟨h1, h2, hx, hZ, hby, hml, hown, hnm, hret, hlk⟩ := K
  have h2' : R' = R := h2
  subst h2'
  subst hp
  intro T locs hT0 hH hF
  have hT : Stand p l' e R' s m args below meth c T locs ce sl := hT0
  obtain ⟨T', X', e', st'⟩ := RoadKit.getS hT hx hZ (host := "") hown w Via.refl rfl (F.ext hH.1) (g := mkF m pc L.toArray S) rfl (hb hby hd)
  obtain ⟨s2, o, st, r⟩ := k T' locs X' (by rw [e']; exact hH) hF
  exact ⟨s2, o, st' _ st, r⟩
theorem W.new {C : String} {idx n : Nat} (fs : List FV) (K : Ctx X l Z R y code maxL ret) (pc' : Nat) (hd : decode code pc = .ok (.new idx, 3)) (w : (Jvm.Cond.classLink y.cls idx C).before a0 Z = true) (wi : (Jvm.Cond.instantiable C n).before a0 Z = true) (wz : (Jvm.Cond.initialized C).before a0 Z = true)
    (q : Laids Z a0 C fs) (k : ∀ a, WP X Z rc rs Q pc' L (.ref a :: S) ((a, OBJ Z C fs) :: os) (ce + 1) (sl + n)) (hc : ce + 1 ≤ R.cells := by decide) (hl : sl + n ≤ R.slots := by decide) (nd : (fs.map (fun f => f.2.1)).Nodup := by decide) (hp : pc + 3 = pc' := by rfl) : WP X Z rc rs Q pc L S os ce sl := by
  obtain ⟨p, l', e, R', s, m, args, below, meth, c⟩ := X
  obtain ⟨h1, h2, hx, hZ, hby, hml, hown, hnm, hret, hlk⟩ := K
  have h2' : R' = R := h2
  subst h2'
  subst hp
  intro T locs hT0 hH hF
  have hT : Stand p l' e R' s m args below meth c T locs ce sl := hT0
  obtain ⟨T', h', X', e', E', A', D', -, st'⟩ := RoadKit.newO hT hx hZ hown w wi wz rfl (g := mkF m pc L.toArray S) rfl (hb hby hd) (hc) (hl)
  obtain ⟨c0, hc0, hO⟩ := OBJ.new A' D' q nd
  obtain ⟨s2, o, st, r⟩ := k T.heap.size T' locs X' (by rw [e']; exact hH.new E' hc0 hO) hF
  exact ⟨s2, o, st' _ st, r⟩
theorem fits_dflt {ty : FieldType} (h : ty = .int ∨ ty = .long ∨ ty = .byte ∨ ty = .char ∨ ty = .boolean ∨ ty = .short) : fits ty (defaultValue ty) = true := by
  rcases h with rfl | rfl | rfl | rfl | rfl | rfl <;> rfl
theorem W.newarray {aty : ArrayType} {ty : FieldType} {z : Int32} (i cap : Nat) (K : Ctx X l Z R y code maxL ret) (pc' : Nat) (hd : decode code pc = .ok (.newarray aty, 2)) (w : (Jvm.Cond.arrayClass ty).before a0 Z = true) (hz : z.toInt = (i : Int)) (hi : i ≤ cap)
    (k : ∀ a, WP X Z rc rs Q pc' L (.ref a :: S) ((a, ARR Z ty (List.replicate i (defaultValue ty))) :: os) (ce + 1) (sl + cap)) (ht : newarray.typeOf aty = ty := by rfl) (htt : ty = .int ∨ ty = .long ∨ ty = .byte ∨ ty = .char ∨ ty = .boolean ∨ ty = .short := by simp) (hb8 : cap * 8 ≤ 536870912 := by decide) (hc : ce + 1 ≤ R.cells := by decide) (hl : sl + cap ≤ R.slots := by decide) (hp : pc + 2 = pc' := by rfl) :
    WP X Z rc rs Q pc L (.int z :: S) os ce sl := by
  obtain ⟨p, l', e, R', s, m, args, below, meth, c⟩ := X
  obtain ⟨h1, h2, hx, hZ, hby, hml, hown, hnm, hret, hlk⟩ := K
  have h2' : R' = R := h2
  subst h2'
  subst hp
  intro T locs hT0 hH hF
  have hT : Stand p l' e R' s m args below meth c T locs ce sl := hT0
  subst ht
  have ez : z.toNatClampNeg = i := by show z.toInt.toNat = i; rw [hz]; rfl
  obtain ⟨T', h', cA, X', e', E', A', st'⟩ := RoadKit.newP hT hx hZ w rfl (g := mkF m pc L.toArray (.int z :: S)) rfl (hb hby hd) rfl (by rw [Int32.lt_iff_toInt_lt, hz]; exact Int.not_lt.mpr (Int.natCast_nonneg i)) (cap := cap) (by rw [ez]; exact hi) hb8 (hc) (hl)
  have hA : ARR Z (newarray.typeOf aty) (List.replicate i (defaultValue (newarray.typeOf aty))) (newA cA (newarray.typeOf aty) z) := by
    refine ⟨A'.2.1, A'.2.2, by simp [newA, ez], fun v hv => ?_, by simp; omega⟩
    rw [(List.mem_replicate.mp hv).2]; exact fits_dflt htt
  obtain ⟨s2, o, st, r⟩ := k T.heap.size T' locs X' (by rw [e']; exact hH.new E' A'.1 hA) hF
  exact ⟨s2, o, st' _ st, r⟩
theorem W.initO {a : Addr} {idx : Nat} (K : Ctx X l Z R y code maxL ret) (pc' : Nat) (hd : decode code pc = .ok (.invokespecial idx, 3)) (w1 : (Jvm.Cond.methodLink y.cls idx Lib.objectInit).before a0 Z = true) (w2 : (Jvm.Cond.instanceMethod Lib.objectInit).before a0 Z = true) (w3 : (Jvm.Cond.code Lib.objectInit ⟨#[0xb1]⟩ 1 none).before a0 Z = true)
    (k : WP X Z rc rs Q pc' L S os ce sl) (hsz : L.length = maxL := by rfl) (hf : 1 ≤ R.frames := by decide) (hl : (S.map fun v => v.category).sum + 12 ≤ R.locals := by exact Nat.le_of_ble_eq_true rfl) (hp : pc + 3 = pc' := by rfl) : WP X Z rc rs Q pc L (.ref a :: S) os ce sl := by
  obtain ⟨p, l', e, R', s, m, args, below, meth, c⟩ := X
  obtain ⟨h1, h2, hx, hZ, hby, hml, hown, hnm, hret, hlk⟩ := K
  have h2' : R' = R := h2
  subst h2'
  subst hp
  intro T locs hT0 hH hF
  have hT : Stand p l' e R' s m args below meth c T locs ce sl := hT0
  obtain ⟨T', X', e', st'⟩ := RoadKit.initO hT hx hZ hown w1 w2 w3 rfl (g := mkF m pc L.toArray (.ref a :: S)) rfl (by rw [hml]; simpa using hsz) rfl (hb hby hd) (hf) (W := (S.map fun v => v.category).sum) (by show 2 * 0 + _ ≤ _; omega) (hl)
  obtain ⟨s2, o, st, r⟩ := k T' locs X' (by rw [e']; exact hH) hF
  exact ⟨s2, o, st' _ st, r⟩

theorem W.retG {w : Value} {t : FieldType} {i : Instr} (K : Ctx X l Z R y code maxL (some t)) (hn : narrow t w = w)
    (hi : (i = .ireturn ∧ (t = .int ∨ t = .boolean ∨ t = .byte ∨ t = .char ∨ t = .short) ∧ ∃ z, w = .int z) ∨ (i = .lreturn ∧ t = .long ∧ ∃ z, w = .long z) ∨ (i = .dreturn ∧ t = .double ∧ ∃ z, w = .double z) ∨ (i = .freturn ∧ t = .float ∧ ∃ z, w = .float z) ∨ (i = .areturn ∧ t.isReference = true ∧ w.isRef = true))
    (hd : decode code pc = .ok (i, 1)) (q : Q (some w) os) (hc : ce ≤ rc) (hs : sl ≤ rs) : WP X Z rc rs Q pc L (w :: S) os ce sl := by
  obtain ⟨p, l', e, R', s, m, args, below, meth, c⟩ := X
  obtain ⟨h1, h2, hx, hZ, hby, hml, hown, hnm, hret, hlk⟩ := K
  have h2' : R' = R := h2
  subst h2'
  intro T locs hT0 hH hF
  have hT : Stand p l' e R' s m args below meth c T locs ce sl := hT0
  have hret' : meth.sig.returnType = some t := hret
  obtain ⟨fs, hr, hrun, hended, hW, hsame⟩ := Stand.leave hT (v := some w) (fun h => by rw [hret'] at h; cases h) hlk
  exact ⟨_, _, retOut hT hx hret hn hi (hb hby hd) hr, hrun, hended, _, _, rfl, ⟨os, q, hH, hF⟩, ⟨_, rfl⟩, hW, hsame.mono hc hs⟩
theorem W.ireturn {z : Int32} (K : Ctx X l Z R y code maxL (some .int)) (hd : decode code pc = .ok (.ireturn, 1)) (q : Q (some (.int z)) os) (hc : ce ≤ rc := by decide) (hs : sl ≤ rs := by decide) : WP X Z rc rs Q pc L (.int z :: S) os ce sl := W.retG K rfl (Or.inl ⟨rfl, Or.inl rfl, z, rfl⟩) hd q hc hs
theorem W.lreturn {z : Int64} (K : Ctx X l Z R y code maxL (some .long)) (hd : decode code pc = .ok (.lreturn, 1)) (q : Q (some (.long z)) os) (hc : ce ≤ rc := by decide) (hs : sl ≤ rs := by decide) : WP X Z rc rs Q pc L (.long z :: S) os ce sl := W.retG K rfl (Or.inr (Or.inl ⟨rfl, rfl, z, rfl⟩)) hd q hc hs
theorem W.areturn {w : Value} {t : FieldType} (K : Ctx X l Z R y code maxL (some t)) (hd : decode code pc = .ok (.areturn, 1)) (q : Q (some w) os) (hw : w.isRef = true := by rfl) (ht : t.isReference = true := by rfl) (hc : ce ≤ rc := by decide) (hs : sl ≤ rs := by decide) : WP X Z rc rs Q pc L (w :: S) os ce sl :=
  W.retG K (by cases t <;> first | rfl | (cases w <;> first | rfl | cases ht | cases hw)) (Or.inr (Or.inr (Or.inr (Or.inr ⟨rfl, ht, hw⟩)))) hd q hc hs
theorem W.zreturn {z : Int32} (K : Ctx X l Z R y code maxL (some .boolean)) (hd : decode code pc = .ok (.ireturn, 1)) (hz : z = 0 ∨ z = 1) (q : Q (some (.int z)) os) (hc : ce ≤ rc := by decide) (hs : sl ≤ rs := by decide) : WP X Z rc rs Q pc L (.int z :: S) os ce sl :=
  W.retG K (by rcases hz with rfl | rfl <;> rfl) (Or.inl ⟨rfl, Or.inr (Or.inl rfl), z, rfl⟩) hd q hc hs
theorem W.creturn {z : Int32} (K : Ctx X l Z R y code maxL (some .char)) (hd : decode code pc = .ok (.ireturn, 1)) (hz : narrow .char (.int z) = .int z) (q : Q (some (.int z)) os) (hc : ce ≤ rc := by decide) (hs : sl ≤ rs := by decide) : WP X Z rc rs Q pc L (.int z :: S) os ce sl :=
  W.retG K hz (Or.inl ⟨rfl, Or.inr (Or.inr (Or.inr (Or.inl rfl))), z, rfl⟩) hd q hc hs
theorem W.breturn {z : Int32} (K : Ctx X l Z R y code maxL (some .byte)) (hd : decode code pc = .ok (.ireturn, 1)) (hz : narrow .byte (.int z) = .int z) (q : Q (some (.int z)) os) (hc : ce ≤ rc := by decide) (hs : sl ≤ rs := by decide) : WP X Z rc rs Q pc L (.int z :: S) os ce sl :=
  W.retG K hz (Or.inl ⟨rfl, Or.inr (Or.inr (Or.inl rfl)), z, rfl⟩) hd q hc hs
theorem W.return (K : Ctx X l Z R y code maxL none) (hd : decode code pc = .ok (.return_, 1)) (q : Q none os) (hc : ce ≤ rc := by decide) (hs : sl ≤ rs := by decide) : WP X Z rc rs Q pc L [] os ce sl := by
  obtain ⟨p, l', e, R', s, m, args, below, meth, c⟩ := X
  obtain ⟨h1, h2, hx, hZ, hby, hml, hown, hnm, hret, hlk⟩ := K
  have h2' : R' = R := h2
  subst h2'
  intro T locs hT0 hH hF
  have hT : Stand p l' e R' s m args below meth c T locs ce sl := hT0
  obtain ⟨fs, hr, hrun, hended, hW, hsame⟩ := Stand.leave hT (v := none) (fun _ => rfl) hlk
  exact ⟨_, _, Stand.returnOut hT hx hret (hb hby hd) hr, hrun, hended, _, _, rfl, ⟨os, q, hH, hF⟩, ⟨_, rfl⟩, hW, hsame.mono hc hs⟩

theorem W.callS {idx mx : Nat} {z : MethodName} {bytes : ByteArray} {rt : Option FieldType} {rm : Room} {argsL : List Value} {S0 : List Value} {ps : List FieldType} {rr : Option FieldType} {Q' : Option Value → OS → Prop} (K : Ctx X l Z R y code maxL ret) (pc' : Nat) (hd : decode code pc = .ok (.invokestatic idx, 3)) (w1 : (Jvm.Cond.methodLink y.cls idx z).before a0 Z = true) (w2 : (Jvm.Cond.static z).before a0 Z = true) (w3 : (Jvm.Cond.initialized z.cls).before a0 Z = true) (w4 : (Jvm.Cond.code z bytes mx rt).before a0 Z = true)
    (hsig : parseMethodDescriptor z.desc = some ⟨ps, rr⟩) (hM : OMeets l Z z bytes mx rt rm argsL os Q') (k : ∀ v os', Q' v os' → WP X Z rc rs Q pc' L (v.toList ++ S) os' (ce + rm.cells) (sl + rm.slots)) (hst : S0 = argsL.reverse ++ S := by rfl) (hlen : argsL.length = ps.length := by rfl) (hsz : L.length = maxL := by rfl) (hf : rm.frames + 1 ≤ R.frames := by decide) (hl : (S.map fun v => v.category).sum + (mx + 11) + rm.locals ≤ R.locals := by exact Nat.le_of_ble_eq_true rfl)
    (hc : ce + rm.cells ≤ R.cells := by decide) (hs : sl + rm.slots ≤ R.slots := by decide) (hy : z.cls ≠ "java/lang/invoke/MethodHandle" ∧ z.cls ≠ "java/lang/invoke/VarHandle" := by decide) (hp : pc + 3 = pc' := by rfl) : WP X Z rc rs Q pc L S0 os ce sl := by
  obtain ⟨p, l', e, R', s, m, args, below, meth, c⟩ := X
  obtain ⟨rfl, h2, hx, hZ, hby, hml, hown, hnm, hret, hlk⟩ := K
  have h2' : R' = R := h2
  subst h2'
  subst hp
  intro T locs hT0 hH hF
  have hT : Stand p l' e R' s m args below meth c T locs ce sl := hT0
  obtain ⟨v, vm1, ⟨T', L', k', n'⟩, -, X', ⟨Lc, ⟨os1, hQ1, hH1, hF1⟩, e1, e2, e3⟩, st'⟩ := Jvm.LawKit.callS hT hx (y := z) hown (mvT hZ w1) (mvT hZ w2) (mvT hZ w3) (mvT hZ w4) hy (backOf (W := (S.map fun v => v.category).sum) (Q := fun v h L => ∃ os', Q' v os' ∧ Hp Z h os' ∧ Fr Z.heap.size L) (hM _ hH []) hZ w4 w3 (hf) (hl)) (g := mkF m pc L.toArray S0) rfl (by rw [hml]; simpa using hsz) (argsL := argsL) (rest := S) (lenOf hsig hlen) hst (by show 2 * 0 + _ ≤ _; omega) (hb hby hd) (fun _ _ => ⟨rfl, rfl, hc, hs⟩)
  dsimp only [Pt.U, Pt.locs, Pt.cells, Pt.slots] at X' e1 e2 e3 st' hH1
  subst e1 e2 e3
  obtain ⟨s2, o, st, r⟩ := k v os1 hQ1 T' _ X' hH1 (Fr.app hF hF1)
  exact ⟨s2, o, st' _ st, r⟩
theorem W.callSv {idx mx : Nat} {z : MethodName} {bytes : ByteArray} {rt : Option FieldType} {rm : Room} {argsL : List Value} {S0 : List Value} {ps : List FieldType} {rr : Option FieldType} {q : Value → OS → Prop} (K : Ctx X l Z R y code maxL ret) (pc' : Nat) (hd : decode code pc = .ok (.invokestatic idx, 3)) (w1 : (Jvm.Cond.methodLink y.cls idx z).before a0 Z = true) (w2 : (Jvm.Cond.static z).before a0 Z = true) (w3 : (Jvm.Cond.initialized z.cls).before a0 Z = true) (w4 : (Jvm.Cond.code z bytes mx rt).before a0 Z = true)
    (hsig : parseMethodDescriptor z.desc = some ⟨ps, rr⟩) (hM : OMeets l Z z bytes mx rt rm argsL os (RetV q)) (k : ∀ v os', q v os' → WP X Z rc rs Q pc' L (v :: S) os' (ce + rm.cells) (sl + rm.slots)) (hst : S0 = argsL.reverse ++ S := by rfl) (hlen : argsL.length = ps.length := by rfl) (hsz : L.length = maxL := by rfl) (hf : rm.frames + 1 ≤ R.frames := by decide) (hl : (S.map fun v => v.category).sum + (mx + 11) + rm.locals ≤ R.locals := by exact Nat.le_of_ble_eq_true rfl)
    (hc : ce + rm.cells ≤ R.cells := by decide) (hs : sl + rm.slots ≤ R.slots := by decide) (hy : z.cls ≠ "java/lang/invoke/MethodHandle" ∧ z.cls ≠ "java/lang/invoke/VarHandle" := by decide) (hp : pc + 3 = pc' := by rfl) : WP X Z rc rs Q pc L S0 os ce sl :=
  W.callS K pc' hd w1 w2 w3 w4 hsig hM (fun v os' hq => by obtain ⟨x, rfl, hq⟩ := hq; exact k x os' hq) hst hlen hsz hf hl hc hs hy hp
theorem W.callSn {idx mx : Nat} {z : MethodName} {bytes : ByteArray} {rt : Option FieldType} {rm : Room} {argsL : List Value} {S0 : List Value} {ps : List FieldType} {rr : Option FieldType} {q : OS → Prop} (K : Ctx X l Z R y code maxL ret) (pc' : Nat) (hd : decode code pc = .ok (.invokestatic idx, 3)) (w1 : (Jvm.Cond.methodLink y.cls idx z).before a0 Z = true) (w2 : (Jvm.Cond.static z).before a0 Z = true) (w3 : (Jvm.Cond.initialized z.cls).before a0 Z = true) (w4 : (Jvm.Cond.code z bytes mx rt).before a0 Z = true)
    (hsig : parseMethodDescriptor z.desc = some ⟨ps, rr⟩) (hM : OMeets l Z z bytes mx rt rm argsL os (RetN q)) (k : ∀ os', q os' → WP X Z rc rs Q pc' L S os' (ce + rm.cells) (sl + rm.slots)) (hst : S0 = argsL.reverse ++ S := by rfl) (hlen : argsL.length = ps.length := by rfl) (hsz : L.length = maxL := by rfl) (hf : rm.frames + 1 ≤ R.frames := by decide) (hl : (S.map fun v => v.category).sum + (mx + 11) + rm.locals ≤ R.locals := by exact Nat.le_of_ble_eq_true rfl)
    (hc : ce + rm.cells ≤ R.cells := by decide) (hs : sl + rm.slots ≤ R.slots := by decide) (hy : z.cls ≠ "java/lang/invoke/MethodHandle" ∧ z.cls ≠ "java/lang/invoke/VarHandle" := by decide) (hp : pc + 3 = pc' := by rfl) : WP X Z rc rs Q pc L S0 os ce sl :=
  W.callS K pc' hd w1 w2 w3 w4 hsig hM (fun v os' hq => by obtain ⟨rfl, hq⟩ := hq; exact k os' hq) hst hlen hsz hf hl hc hs hy hp
theorem W.callI {idx mx : Nat} {z : MethodName} {bytes : ByteArray}  {rm : Room} {argsL : List Value} {S0 : List Value} {ps : List FieldType} {rr : Option FieldType} {b : Addr} {Q' : Option Value → OS → Prop} (K : Ctx X l Z R y code maxL ret) (pc' : Nat) (hd : decode code pc = .ok (.invokespecial idx, 3)) (w1 : (Jvm.Cond.methodLink y.cls idx z).before a0 Z = true) (w2 : (Jvm.Cond.instanceMethod z).before a0 Z = true) (w3 : (Jvm.Cond.initialized z.cls).before a0 Z = true) (w4 : (Jvm.Cond.code z bytes mx none).before a0 Z = true)
    (hsig : parseMethodDescriptor z.desc = some ⟨ps, rr⟩) (hM : OMeets l Z z bytes mx none rm (.ref b :: argsL) os Q') (k : ∀ v os', Q' v os' → WP X Z rc rs Q pc' L (v.toList ++ S) os' (ce + rm.cells) (sl + rm.slots)) (hz1 : z.name = "<init>" := by rfl) (hst : S0 = argsL.reverse ++ .ref b :: S := by rfl) (hlen : argsL.length = ps.length := by rfl) (hsz : L.length = maxL := by rfl) (hf : rm.frames + 1 ≤ R.frames := by decide) (hl : (S.map fun v => v.category).sum + (mx + 11) + rm.locals ≤ R.locals := by exact Nat.le_of_ble_eq_true rfl)
    (hc : ce + rm.cells ≤ R.cells := by decide) (hs : sl + rm.slots ≤ R.slots := by decide) (hy : z.cls ≠ "java/lang/invoke/MethodHandle" ∧ z.cls ≠ "java/lang/invoke/VarHandle" := by decide) (hp : pc + 3 = pc' := by rfl) : WP X Z rc rs Q pc L S0 os ce sl := by
  obtain ⟨p, l', e, R', s, m, args, below, meth, c⟩ := X
  obtain ⟨rfl, h2, hx, hZ, hby, hml, hown, hnm, hret, hlk⟩ := K
  have h2' : R' = R := h2
  subst h2'
  subst hp
  intro T locs hT0 hH hF
  have hT : Stand p l' e R' s m args below meth c T locs ce sl := hT0
  obtain ⟨v, vm1, ⟨T', L', k', n'⟩, -, X', ⟨Lc, ⟨os1, hQ1, hH1, hF1⟩, e1, e2, e3⟩, st'⟩ := Stand.specialBack hT hx (y := z) hz1 hown (mvT hZ w1) (mvT hZ w2) (mvT hZ w4) hy (backOf (W := (S.map fun v => v.category).sum) (Q := fun v h L => ∃ os', Q' v os' ∧ Hp Z h os' ∧ Fr Z.heap.size L) (hM _ hH []) hZ w4 w3 (hf) (hl)) (g := mkF m pc L.toArray S0) rfl (by rw [hml]; simpa using hsz) (Steps.refl _) (a := b) (argsL := argsL) (rest := S) (lenOf hsig hlen) hst (by show 2 * 0 + _ ≤ _; omega) (hb hby hd) (fun _ _ => ⟨rfl, rfl, hc, hs⟩)
  dsimp only [Pt.U, Pt.locs, Pt.cells, Pt.slots] at X' e1 e2 e3 st' hH1
  subst e1 e2 e3
  obtain ⟨s2, o, st, r⟩ := k v os1 hQ1 T' _ X' hH1 (Fr.app hF hF1)
  exact ⟨s2, o, st'.trans st, r⟩
theorem W.callIn {idx mx : Nat} {z : MethodName} {bytes : ByteArray}  {rm : Room} {argsL : List Value} {S0 : List Value} {ps : List FieldType} {rr : Option FieldType} {b : Addr} {q : OS → Prop} (K : Ctx X l Z R y code maxL ret) (pc' : Nat) (hd : decode code pc = .ok (.invokespecial idx, 3)) (w1 : (Jvm.Cond.methodLink y.cls idx z).before a0 Z = true) (w2 : (Jvm.Cond.instanceMethod z).before a0 Z = true) (w3 : (Jvm.Cond.initialized z.cls).before a0 Z = true) (w4 : (Jvm.Cond.code z bytes mx none).before a0 Z = true)
    (hsig : parseMethodDescriptor z.desc = some ⟨ps, rr⟩) (hM : OMeets l Z z bytes mx none rm (.ref b :: argsL) os (RetN q)) (k : ∀ os', q os' → WP X Z rc rs Q pc' L S os' (ce + rm.cells) (sl + rm.slots)) (hz1 : z.name = "<init>" := by rfl) (hst : S0 = argsL.reverse ++ .ref b :: S := by rfl) (hlen : argsL.length = ps.length := by rfl) (hsz : L.length = maxL := by rfl) (hf : rm.frames + 1 ≤ R.frames := by decide) (hl : (S.map fun v => v.category).sum + (mx + 11) + rm.locals ≤ R.locals := by exact Nat.le_of_ble_eq_true rfl)
    (hc : ce + rm.cells ≤ R.cells := by decide) (hs : sl + rm.slots ≤ R.slots := by decide) (hy : z.cls ≠ "java/lang/invoke/MethodHandle" ∧ z.cls ≠ "java/lang/invoke/VarHandle" := by decide) (hp : pc + 3 = pc' := by rfl) : WP X Z rc rs Q pc L S0 os ce sl :=
  W.callI K pc' hd w1 w2 w3 w4 hsig hM (fun v os' hq => by obtain ⟨rfl, hq⟩ := hq; exact k os' hq) hz1 hst hlen hsz hf hl hc hs hy hp
theorem W.callV {idx mx : Nat} {z : MethodName} {bytes : ByteArray} {rt : Option FieldType} {C : String} {rm : Room} {argsL : List Value} {S0 : List Value} {ps : List FieldType} {rr : Option FieldType} {b : Addr} {Q' : Option Value → OS → Prop} (K : Ctx X l Z R y code maxL ret) (pc' : Nat) (hd : decode code pc = .ok (.invokevirtual idx, 3)) (w1 : (Jvm.Cond.methodLink y.cls idx z).before a0 Z = true) (w2 : (Jvm.Cond.declares z).before a0 Z = true) (w5 : (Jvm.Cond.selects C z z).before a0 Z = true) (w6 : (Jvm.Cond.instanceMethod z).before a0 Z = true) (w3 : (Jvm.Cond.initialized z.cls).before a0 Z = true) (w4 : (Jvm.Cond.code z bytes mx rt).before a0 Z = true)
    (hsig : parseMethodDescriptor z.desc = some ⟨ps, rr⟩) (hrc : ∀ h, Hp Z h os → Exa Z h b C) (hM : OMeets l Z z bytes mx rt rm (.ref b :: argsL) os Q') (k : ∀ v os', Q' v os' → WP X Z rc rs Q pc' L (v.toList ++ S) os' (ce + rm.cells) (sl + rm.slots)) (hst : S0 = argsL.reverse ++ .ref b :: S := by rfl) (hlen : argsL.length = ps.length := by rfl) (hsz : L.length = maxL := by rfl) (hf : rm.frames + 1 ≤ R.frames := by decide) (hl : (S.map fun v => v.category).sum + (mx + 11) + rm.locals ≤ R.locals := by exact Nat.le_of_ble_eq_true rfl)
    (hc : ce + rm.cells ≤ R.cells := by decide) (hs : sl + rm.slots ≤ R.slots := by decide) (hy : z.cls ≠ "java/lang/invoke/MethodHandle" ∧ z.cls ≠ "java/lang/invoke/VarHandle" := by decide) (hp : pc + 3 = pc' := by rfl) : WP X Z rc rs Q pc L S0 os ce sl := by
  obtain ⟨p, l', e, R', s, m, args, below, meth, c⟩ := X
  obtain ⟨rfl, h2, hx, hZ, hby, hml, hown, hnm, hret, hlk⟩ := K
  have h2' : R' = R := h2
  subst h2'
  subst hp
  intro T locs hT0 hH hF
  have hT : Stand p l' e R' s m args below meth c T locs ce sl := hT0
  obtain ⟨cq7, kq7, q7a, q7b, q7c⟩ := isOf (T := T) hZ rfl (hrc T.heap hH)
  obtain ⟨v, vm1, ⟨T', L', k', n'⟩, -, X', ⟨Lc, ⟨os1, hQ1, hH1, hF1⟩, e1, e2, e3⟩, st'⟩ := Stand.virtualBack hT hx (y := z) (z := z) hown (mvT hZ w1) (mvT hZ w2) (notFace_of_selects (args := #[]) (mvT hZ w5)) (mvT hZ w5) (mvT hZ w6) hy (backOf (W := (S.map fun v => v.category).sum) (Q := fun v h L => ∃ os', Q' v os' ∧ Hp Z h os' ∧ Fr Z.heap.size L) (hM _ hH []) hZ w4 w3 (hf) (hl)) q7a q7c (g := mkF m pc L.toArray S0) rfl (by rw [hml]; simpa using hsz) (Steps.refl _) (argsL := argsL) (rest := S) (lenOf hsig hlen) hst (by show 2 * 0 + _ ≤ _; omega) (hb hby hd) (fun _ _ => ⟨rfl, rfl, hc, hs⟩)
  dsimp only [Pt.U, Pt.locs, Pt.cells, Pt.slots] at X' e1 e2 e3 st' hH1
  subst e1 e2 e3
  obtain ⟨s2, o, st, r⟩ := k v os1 hQ1 T' _ X' hH1 (Fr.app hF hF1)
  exact ⟨s2, o, st'.trans st, r⟩
theorem W.callVv {idx mx : Nat} {z : MethodName} {bytes : ByteArray} {rt : Option FieldType} {C : String} {rm : Room} {argsL : List Value} {S0 : List Value} {ps : List FieldType} {rr : Option FieldType} {b : Addr} {q : Value → OS → Prop} (K : Ctx X l Z R y code maxL ret) (pc' : Nat) (hd : decode code pc = .ok (.invokevirtual idx, 3)) (w1 : (Jvm.Cond.methodLink y.cls idx z).before a0 Z = true) (w2 : (Jvm.Cond.declares z).before a0 Z = true) (w5 : (Jvm.Cond.selects C z z).before a0 Z = true) (w6 : (Jvm.Cond.instanceMethod z).before a0 Z = true) (w3 : (Jvm.Cond.initialized z.cls).before a0 Z = true) (w4 : (Jvm.Cond.code z bytes mx rt).before a0 Z = true)
    (hsig : parseMethodDescriptor z.desc = some ⟨ps, rr⟩) (hrc : ∀ h, Hp Z h os → Exa Z h b C) (hM : OMeets l Z z bytes mx rt rm (.ref b :: argsL) os (RetV q)) (k : ∀ v os', q v os' → WP X Z rc rs Q pc' L (v :: S) os' (ce + rm.cells) (sl + rm.slots)) (hst : S0 = argsL.reverse ++ .ref b :: S := by rfl) (hlen : argsL.length = ps.length := by rfl) (hsz : L.length = maxL := by rfl) (hf : rm.frames + 1 ≤ R.frames := by decide) (hl : (S.map fun v => v.category).sum + (mx + 11) + rm.locals ≤ R.locals := by exact Nat.le_of_ble_eq_true rfl)
    (hc : ce + rm.cells ≤ R.cells := by decide) (hs : sl + rm.slots ≤ R.slots := by decide) (hy : z.cls ≠ "java/lang/invoke/MethodHandle" ∧ z.cls ≠ "java/lang/invoke/VarHandle" := by decide) (hp : pc + 3 = pc' := by rfl) : WP X Z rc rs Q pc L S0 os ce sl :=
  W.callV K pc' hd w1 w2 w5 w6 w3 w4 hsig hrc hM (fun v os' hq => by obtain ⟨x, rfl, hq⟩ := hq; exact k x os' hq) hst hlen hsz hf hl hc hs hy hp
theorem W.callVn {idx mx : Nat} {z : MethodName} {bytes : ByteArray} {rt : Option FieldType} {C : String} {rm : Room} {argsL : List Value} {S0 : List Value} {ps : List FieldType} {rr : Option FieldType} {b : Addr} {q : OS → Prop} (K : Ctx X l Z R y code maxL ret) (pc' : Nat) (hd : decode code pc = .ok (.invokevirtual idx, 3)) (w1 : (Jvm.Cond.methodLink y.cls idx z).before a0 Z = true) (w2 : (Jvm.Cond.declares z).before a0 Z = true) (w5 : (Jvm.Cond.selects C z z).before a0 Z = true) (w6 : (Jvm.Cond.instanceMethod z).before a0 Z = true) (w3 : (Jvm.Cond.initialized z.cls).before a0 Z = true) (w4 : (Jvm.Cond.code z bytes mx rt).before a0 Z = true)
    (hsig : parseMethodDescriptor z.desc = some ⟨ps, rr⟩) (hrc : ∀ h, Hp Z h os → Exa Z h b C) (hM : OMeets l Z z bytes mx rt rm (.ref b :: argsL) os (RetN q)) (k : ∀ os', q os' → WP X Z rc rs Q pc' L S os' (ce + rm.cells) (sl + rm.slots)) (hst : S0 = argsL.reverse ++ .ref b :: S := by rfl) (hlen : argsL.length = ps.length := by rfl) (hsz : L.length = maxL := by rfl) (hf : rm.frames + 1 ≤ R.frames := by decide) (hl : (S.map fun v => v.category).sum + (mx + 11) + rm.locals ≤ R.locals := by exact Nat.le_of_ble_eq_true rfl)
    (hc : ce + rm.cells ≤ R.cells := by decide) (hs : sl + rm.slots ≤ R.slots := by decide) (hy : z.cls ≠ "java/lang/invoke/MethodHandle" ∧ z.cls ≠ "java/lang/invoke/VarHandle" := by decide) (hp : pc + 3 = pc' := by rfl) : WP X Z rc rs Q pc L S0 os ce sl :=
  W.callV K pc' hd w1 w2 w5 w6 w3 w4 hsig hrc hM (fun v os' hq => by obtain ⟨rfl, hq⟩ := hq; exact k os' hq) hst hlen hsz hf hl hc hs hy hp
theorem W.callSv0 {idx mx : Nat} {z : MethodName} {bytes : ByteArray} {rt : Option FieldType} {rm : Room} {ps : List FieldType} {rr : Option FieldType} {q : Value → OS → Prop} (K : Ctx X l Z R y code maxL ret) (pc' : Nat) (hd : decode code pc = .ok (.invokestatic idx, 3)) (w1 : (Jvm.Cond.methodLink y.cls idx z).before a0 Z = true) (w2 : (Jvm.Cond.static z).before a0 Z = true) (w3 : (Jvm.Cond.initialized z.cls).before a0 Z = true) (w4 : (Jvm.Cond.code z bytes mx rt).before a0 Z = true)
    (hsig : parseMethodDescriptor z.desc = some ⟨ps, rr⟩) (hM : OMeets l Z z bytes mx rt rm [] os (RetV q)) (k : ∀ v os', q v os' → WP X Z rc rs Q pc' L (v :: S) os' (ce + rm.cells) (sl + rm.slots)) (hlen : ([] : List Value).length = ps.length := by rfl) (hsz : L.length = maxL := by rfl) (hf : rm.frames + 1 ≤ R.frames := by decide) (hl : (S.map fun v => v.category).sum + (mx + 11) + rm.locals ≤ R.locals := by exact Nat.le_of_ble_eq_true rfl)
    (hc : ce + rm.cells ≤ R.cells := by decide) (hs : sl + rm.slots ≤ R.slots := by decide) (hy : z.cls ≠ "java/lang/invoke/MethodHandle" ∧ z.cls ≠ "java/lang/invoke/VarHandle" := by decide) (hp : pc + 3 = pc' := by rfl) : WP X Z rc rs Q pc L (S) os ce sl :=
  W.callSv (argsL := []) (S := S) K pc' hd w1 w2 w3 w4 hsig hM k rfl hlen hsz hf hl hc hs hy hp
theorem W.callSv1 {idx mx : Nat} {z : MethodName} {bytes : ByteArray} {rt : Option FieldType} {rm : Room} {ps : List FieldType} {rr : Option FieldType} {x1 : Value} {q : Value → OS → Prop} (K : Ctx X l Z R y code maxL ret) (pc' : Nat) (hd : decode code pc = .ok (.invokestatic idx, 3)) (w1 : (Jvm.Cond.methodLink y.cls idx z).before a0 Z = true) (w2 : (Jvm.Cond.static z).before a0 Z = true) (w3 : (Jvm.Cond.initialized z.cls).before a0 Z = true) (w4 : (Jvm.Cond.code z bytes mx rt).before a0 Z = true)
    (hsig : parseMethodDescriptor z.desc = some ⟨ps, rr⟩) (hM : OMeets l Z z bytes mx rt rm [x1] os (RetV q)) (k : ∀ v os', q v os' → WP X Z rc rs Q pc' L (v :: S) os' (ce + rm.cells) (sl + rm.slots)) (hlen : ([x1] : List Value).length = ps.length := by rfl) (hsz : L.length = maxL := by rfl) (hf : rm.frames + 1 ≤ R.frames := by decide) (hl : (S.map fun v => v.category).sum + (mx + 11) + rm.locals ≤ R.locals := by exact Nat.le_of_ble_eq_true rfl)
    (hc : ce + rm.cells ≤ R.cells := by decide) (hs : sl + rm.slots ≤ R.slots := by decide) (hy : z.cls ≠ "java/lang/invoke/MethodHandle" ∧ z.cls ≠ "java/lang/invoke/VarHandle" := by decide) (hp : pc + 3 = pc' := by rfl) : WP X Z rc rs Q pc L (x1 :: S) os ce sl :=
  W.callSv (argsL := [x1]) (S := S) K pc' hd w1 w2 w3 w4 hsig hM k rfl hlen hsz hf hl hc hs hy hp
theorem W.callSv2 {idx mx : Nat} {z : MethodName} {bytes : ByteArray} {rt : Option FieldType} {rm : Room} {ps : List FieldType} {rr : Option FieldType} {x1 x2 : Value} {q : Value → OS → Prop} (K : Ctx X l Z R y code maxL ret) (pc' : Nat) (hd : decode code pc = .ok (.invokestatic idx, 3)) (w1 : (Jvm.Cond.methodLink y.cls idx z).before a0 Z = true) (w2 : (Jvm.Cond.static z).before a0 Z = true) (w3 : (Jvm.Cond.initialized z.cls).before a0 Z = true) (w4 : (Jvm.Cond.code z bytes mx rt).before a0 Z = true)
    (hsig : parseMethodDescriptor z.desc = some ⟨ps, rr⟩) (hM : OMeets l Z z bytes mx rt rm [x1, x2] os (RetV q)) (k : ∀ v os', q v os' → WP X Z rc rs Q pc' L (v :: S) os' (ce + rm.cells) (sl + rm.slots)) (hlen : ([x1, x2] : List Value).length = ps.length := by rfl) (hsz : L.length = maxL := by rfl) (hf : rm.frames + 1 ≤ R.frames := by decide) (hl : (S.map fun v => v.category).sum + (mx + 11) + rm.locals ≤ R.locals := by exact Nat.le_of_ble_eq_true rfl)
    (hc : ce + rm.cells ≤ R.cells := by decide) (hs : sl + rm.slots ≤ R.slots := by decide) (hy : z.cls ≠ "java/lang/invoke/MethodHandle" ∧ z.cls ≠ "java/lang/invoke/VarHandle" := by decide) (hp : pc + 3 = pc' := by rfl) : WP X Z rc rs Q pc L (x2 :: x1 :: S) os ce sl :=
  W.callSv (argsL := [x1, x2]) (S := S) K pc' hd w1 w2 w3 w4 hsig hM k rfl hlen hsz hf hl hc hs hy hp
theorem W.callSv3 {idx mx : Nat} {z : MethodName} {bytes : ByteArray} {rt : Option FieldType} {rm : Room} {ps : List FieldType} {rr : Option FieldType} {x1 x2 x3 : Value} {q : Value → OS → Prop} (K : Ctx X l Z R y code maxL ret) (pc' : Nat) (hd : decode code pc = .ok (.invokestatic idx, 3)) (w1 : (Jvm.Cond.methodLink y.cls idx z).before a0 Z = true) (w2 : (Jvm.Cond.static z).before a0 Z = true) (w3 : (Jvm.Cond.initialized z.cls).before a0 Z = true) (w4 : (Jvm.Cond.code z bytes mx rt).before a0 Z = true)
    (hsig : parseMethodDescriptor z.desc = some ⟨ps, rr⟩) (hM : OMeets l Z z bytes mx rt rm [x1, x2, x3] os (RetV q)) (k : ∀ v os', q v os' → WP X Z rc rs Q pc' L (v :: S) os' (ce + rm.cells) (sl + rm.slots)) (hlen : ([x1, x2, x3] : List Value).length = ps.length := by rfl) (hsz : L.length = maxL := by rfl) (hf : rm.frames + 1 ≤ R.frames := by decide) (hl : (S.map fun v => v.category).sum + (mx + 11) + rm.locals ≤ R.locals := by exact Nat.le_of_ble_eq_true rfl)
    (hc : ce + rm.cells ≤ R.cells := by decide) (hs : sl + rm.slots ≤ R.slots := by decide) (hy : z.cls ≠ "java/lang/invoke/MethodHandle" ∧ z.cls ≠ "java/lang/invoke/VarHandle" := by decide) (hp : pc + 3 = pc' := by rfl) : WP X Z rc rs Q pc L (x3 :: x2 :: x1 :: S) os ce sl :=
  W.callSv (argsL := [x1, x2, x3]) (S := S) K pc' hd w1 w2 w3 w4 hsig hM k rfl hlen hsz hf hl hc hs hy hp
theorem W.callSv4 {idx mx : Nat} {z : MethodName} {bytes : ByteArray} {rt : Option FieldType} {rm : Room} {ps : List FieldType} {rr : Option FieldType} {x1 x2 x3 x4 : Value} {q : Value → OS → Prop} (K : Ctx X l Z R y code maxL ret) (pc' : Nat) (hd : decode code pc = .ok (.invokestatic idx, 3)) (w1 : (Jvm.Cond.methodLink y.cls idx z).before a0 Z = true) (w2 : (Jvm.Cond.static z).before a0 Z = true) (w3 : (Jvm.Cond.initialized z.cls).before a0 Z = true) (w4 : (Jvm.Cond.code z bytes mx rt).before a0 Z = true)
    (hsig : parseMethodDescriptor z.desc = some ⟨ps, rr⟩) (hM : OMeets l Z z bytes mx rt rm [x1, x2, x3, x4] os (RetV q)) (k : ∀ v os', q v os' → WP X Z rc rs Q pc' L (v :: S) os' (ce + rm.cells) (sl + rm.slots)) (hlen : ([x1, x2, x3, x4] : List Value).length = ps.length := by rfl) (hsz : L.length = maxL := by rfl) (hf : rm.frames + 1 ≤ R.frames := by decide) (hl : (S.map fun v => v.category).sum + (mx + 11) + rm.locals ≤ R.locals := by exact Nat.le_of_ble_eq_true rfl)
    (hc : ce + rm.cells ≤ R.cells := by decide) (hs : sl + rm.slots ≤ R.slots := by decide) (hy : z.cls ≠ "java/lang/invoke/MethodHandle" ∧ z.cls ≠ "java/lang/invoke/VarHandle" := by decide) (hp : pc + 3 = pc' := by rfl) : WP X Z rc rs Q pc L (x4 :: x3 :: x2 :: x1 :: S) os ce sl :=
  W.callSv (argsL := [x1, x2, x3, x4]) (S := S) K pc' hd w1 w2 w3 w4 hsig hM k rfl hlen hsz hf hl hc hs hy hp
theorem W.callSv5 {idx mx : Nat} {z : MethodName} {bytes : ByteArray} {rt : Option FieldType} {rm : Room} {ps : List FieldType} {rr : Option FieldType} {x1 x2 x3 x4 x5 : Value} {q : Value → OS → Prop} (K : Ctx X l Z R y code maxL ret) (pc' : Nat) (hd : decode code pc = .ok (.invokestatic idx, 3)) (w1 : (Jvm.Cond.methodLink y.cls idx z).before a0 Z = true) (w2 : (Jvm.Cond.static z).before a0 Z = true) (w3 : (Jvm.Cond.initialized z.cls).before a0 Z = true) (w4 : (Jvm.Cond.code z bytes mx rt).before a0 Z = true)
    (hsig : parseMethodDescriptor z.desc = some ⟨ps, rr⟩) (hM : OMeets l Z z bytes mx rt rm [x1, x2, x3, x4, x5] os (RetV q)) (k : ∀ v os', q v os' → WP X Z rc rs Q pc' L (v :: S) os' (ce + rm.cells) (sl + rm.slots)) (hlen : ([x1, x2, x3, x4, x5] : List Value).length = ps.length := by rfl) (hsz : L.length = maxL := by rfl) (hf : rm.frames + 1 ≤ R.frames := by decide) (hl : (S.map fun v => v.category).sum + (mx + 11) + rm.locals ≤ R.locals := by exact Nat.le_of_ble_eq_true rfl)
    (hc : ce + rm.cells ≤ R.cells := by decide) (hs : sl + rm.slots ≤ R.slots := by decide) (hy : z.cls ≠ "java/lang/invoke/MethodHandle" ∧ z.cls ≠ "java/lang/invoke/VarHandle" := by decide) (hp : pc + 3 = pc' := by rfl) : WP X Z rc rs Q pc L (x5 :: x4 :: x3 :: x2 :: x1 :: S) os ce sl :=
  W.callSv (argsL := [x1, x2, x3, x4, x5]) (S := S) K pc' hd w1 w2 w3 w4 hsig hM k rfl hlen hsz hf hl hc hs hy hp
theorem W.callSv6 {idx mx : Nat} {z : MethodName} {bytes : ByteArray} {rt : Option FieldType} {rm : Room} {ps : List FieldType} {rr : Option FieldType} {x1 x2 x3 x4 x5 x6 : Value} {q : Value → OS → Prop} (K : Ctx X l Z R y code maxL ret) (pc' : Nat) (hd : decode code pc = .ok (.invokestatic idx, 3)) (w1 : (Jvm.Cond.methodLink y.cls idx z).before a0 Z = true) (w2 : (Jvm.Cond.static z).before a0 Z = true) (w3 : (Jvm.Cond.initialized z.cls).before a0 Z = true) (w4 : (Jvm.Cond.code z bytes mx rt).before a0 Z = true)
    (hsig : parseMethodDescriptor z.desc = some ⟨ps, rr⟩) (hM : OMeets l Z z bytes mx rt rm [x1, x2, x3, x4, x5, x6] os (RetV q)) (k : ∀ v os', q v os' → WP X Z rc rs Q pc' L (v :: S) os' (ce + rm.cells) (sl + rm.slots)) (hlen : ([x1, x2, x3, x4, x5, x6] : List Value).length = ps.length := by rfl) (hsz : L.length = maxL := by rfl) (hf : rm.frames + 1 ≤ R.frames := by decide) (hl : (S.map fun v => v.category).sum + (mx + 11) + rm.locals ≤ R.locals := by exact Nat.le_of_ble_eq_true rfl)
    (hc : ce + rm.cells ≤ R.cells := by decide) (hs : sl + rm.slots ≤ R.slots := by decide) (hy : z.cls ≠ "java/lang/invoke/MethodHandle" ∧ z.cls ≠ "java/lang/invoke/VarHandle" := by decide) (hp : pc + 3 = pc' := by rfl) : WP X Z rc rs Q pc L (x6 :: x5 :: x4 :: x3 :: x2 :: x1 :: S) os ce sl :=
  W.callSv (argsL := [x1, x2, x3, x4, x5, x6]) (S := S) K pc' hd w1 w2 w3 w4 hsig hM k rfl hlen hsz hf hl hc hs hy hp
theorem W.callSv7 {idx mx : Nat} {z : MethodName} {bytes : ByteArray} {rt : Option FieldType} {rm : Room} {ps : List FieldType} {rr : Option FieldType} {x1 x2 x3 x4 x5 x6 x7 : Value} {q : Value → OS → Prop} (K : Ctx X l Z R y code maxL ret) (pc' : Nat) (hd : decode code pc = .ok (.invokestatic idx, 3)) (w1 : (Jvm.Cond.methodLink y.cls idx z).before a0 Z = true) (w2 : (Jvm.Cond.static z).before a0 Z = true) (w3 : (Jvm.Cond.initialized z.cls).before a0 Z = true) (w4 : (Jvm.Cond.code z bytes mx rt).before a0 Z = true)
    (hsig : parseMethodDescriptor z.desc = some ⟨ps, rr⟩) (hM : OMeets l Z z bytes mx rt rm [x1, x2, x3, x4, x5, x6, x7] os (RetV q)) (k : ∀ v os', q v os' → WP X Z rc rs Q pc' L (v :: S) os' (ce + rm.cells) (sl + rm.slots)) (hlen : ([x1, x2, x3, x4, x5, x6, x7] : List Value).length = ps.length := by rfl) (hsz : L.length = maxL := by rfl) (hf : rm.frames + 1 ≤ R.frames := by decide) (hl : (S.map fun v => v.category).sum + (mx + 11) + rm.locals ≤ R.locals := by exact Nat.le_of_ble_eq_true rfl)
    (hc : ce + rm.cells ≤ R.cells := by decide) (hs : sl + rm.slots ≤ R.slots := by decide) (hy : z.cls ≠ "java/lang/invoke/MethodHandle" ∧ z.cls ≠ "java/lang/invoke/VarHandle" := by decide) (hp : pc + 3 = pc' := by rfl) : WP X Z rc rs Q pc L (x7 :: x6 :: x5 :: x4 :: x3 :: x2 :: x1 :: S) os ce sl :=
  W.callSv (argsL := [x1, x2, x3, x4, x5, x6, x7]) (S := S) K pc' hd w1 w2 w3 w4 hsig hM k rfl hlen hsz hf hl hc hs hy hp
theorem W.callSn0 {idx mx : Nat} {z : MethodName} {bytes : ByteArray} {rt : Option FieldType} {rm : Room} {ps : List FieldType} {rr : Option FieldType} {q : OS → Prop} (K : Ctx X l Z R y code maxL ret) (pc' : Nat) (hd : decode code pc = .ok (.invokestatic idx, 3)) (w1 : (Jvm.Cond.methodLink y.cls idx z).before a0 Z = true) (w2 : (Jvm.Cond.static z).before a0 Z = true) (w3 : (Jvm.Cond.initialized z.cls).before a0 Z = true) (w4 : (Jvm.Cond.code z bytes mx rt).before a0 Z = true)
    (hsig : parseMethodDescriptor z.desc = some ⟨ps, rr⟩) (hM : OMeets l Z z bytes mx rt rm [] os (RetN q)) (k : ∀ os', q os' → WP X Z rc rs Q pc' L S os' (ce + rm.cells) (sl + rm.slots)) (hlen : ([] : List Value).length = ps.length := by rfl) (hsz : L.length = maxL := by rfl) (hf : rm.frames + 1 ≤ R.frames := by decide) (hl : (S.map fun v => v.category).sum + (mx + 11) + rm.locals ≤ R.locals := by exact Nat.le_of_ble_eq_true rfl)
    (hc : ce + rm.cells ≤ R.cells := by decide) (hs : sl + rm.slots ≤ R.slots := by decide) (hy : z.cls ≠ "java/lang/invoke/MethodHandle" ∧ z.cls ≠ "java/lang/invoke/VarHandle" := by decide) (hp : pc + 3 = pc' := by rfl) : WP X Z rc rs Q pc L (S) os ce sl :=
  W.callSn (argsL := []) (S := S) K pc' hd w1 w2 w3 w4 hsig hM k rfl hlen hsz hf hl hc hs hy hp
theorem W.callSn1 {idx mx : Nat} {z : MethodName} {bytes : ByteArray} {rt : Option FieldType} {rm : Room} {ps : List FieldType} {rr : Option FieldType} {x1 : Value} {q : OS → Prop} (K : Ctx X l Z R y code maxL ret) (pc' : Nat) (hd : decode code pc = .ok (.invokestatic idx, 3)) (w1 : (Jvm.Cond.methodLink y.cls idx z).before a0 Z = true) (w2 : (Jvm.Cond.static z).before a0 Z = true) (w3 : (Jvm.Cond.initialized z.cls).before a0 Z = true) (w4 : (Jvm.Cond.code z bytes mx rt).before a0 Z = true)
    (hsig : parseMethodDescriptor z.desc = some ⟨ps, rr⟩) (hM : OMeets l Z z bytes mx rt rm [x1] os (RetN q)) (k : ∀ os', q os' → WP X Z rc rs Q pc' L S os' (ce + rm.cells) (sl + rm.slots)) (hlen : ([x1] : List Value).length = ps.length := by rfl) (hsz : L.length = maxL := by rfl) (hf : rm.frames + 1 ≤ R.frames := by decide) (hl : (S.map fun v => v.category).sum + (mx + 11) + rm.locals ≤ R.locals := by exact Nat.le_of_ble_eq_true rfl)
    (hc : ce + rm.cells ≤ R.cells := by decide) (hs : sl + rm.slots ≤ R.slots := by decide) (hy : z.cls ≠ "java/lang/invoke/MethodHandle" ∧ z.cls ≠ "java/lang/invoke/VarHandle" := by decide) (hp : pc + 3 = pc' := by rfl) : WP X Z rc rs Q pc L (x1 :: S) os ce sl :=
  W.callSn (argsL := [x1]) (S := S) K pc' hd w1 w2 w3 w4 hsig hM k rfl hlen hsz hf hl hc hs hy hp
theorem W.callSn2 {idx mx : Nat} {z : MethodName} {bytes : ByteArray} {rt : Option FieldType} {rm : Room} {ps : List FieldType} {rr : Option FieldType} {x1 x2 : Value} {q : OS → Prop} (K : Ctx X l Z R y code maxL ret) (pc' : Nat) (hd : decode code pc = .ok (.invokestatic idx, 3)) (w1 : (Jvm.Cond.methodLink y.cls idx z).before a0 Z = true) (w2 : (Jvm.Cond.static z).before a0 Z = true) (w3 : (Jvm.Cond.initialized z.cls).before a0 Z = true) (w4 : (Jvm.Cond.code z bytes mx rt).before a0 Z = true)
    (hsig : parseMethodDescriptor z.desc = some ⟨ps, rr⟩) (hM : OMeets l Z z bytes mx rt rm [x1, x2] os (RetN q)) (k : ∀ os', q os' → WP X Z rc rs Q pc' L S os' (ce + rm.cells) (sl + rm.slots)) (hlen : ([x1, x2] : List Value).length = ps.length := by rfl) (hsz : L.length = maxL := by rfl) (hf : rm.frames + 1 ≤ R.frames := by decide) (hl : (S.map fun v => v.category).sum + (mx + 11) + rm.locals ≤ R.locals := by exact Nat.le_of_ble_eq_true rfl)
    (hc : ce + rm.cells ≤ R.cells := by decide) (hs : sl + rm.slots ≤ R.slots := by decide) (hy : z.cls ≠ "java/lang/invoke/MethodHandle" ∧ z.cls ≠ "java/lang/invoke/VarHandle" := by decide) (hp : pc + 3 = pc' := by rfl) : WP X Z rc rs Q pc L (x2 :: x1 :: S) os ce sl :=
  W.callSn (argsL := [x1, x2]) (S := S) K pc' hd w1 w2 w3 w4 hsig hM k rfl hlen hsz hf hl hc hs hy hp
theorem W.callSn3 {idx mx : Nat} {z : MethodName} {bytes : ByteArray} {rt : Option FieldType} {rm : Room} {ps : List FieldType} {rr : Option FieldType} {x1 x2 x3 : Value} {q : OS → Prop} (K : Ctx X l Z R y code maxL ret) (pc' : Nat) (hd : decode code pc = .ok (.invokestatic idx, 3)) (w1 : (Jvm.Cond.methodLink y.cls idx z).before a0 Z = true) (w2 : (Jvm.Cond.static z).before a0 Z = true) (w3 : (Jvm.Cond.initialized z.cls).before a0 Z = true) (w4 : (Jvm.Cond.code z bytes mx rt).before a0 Z = true)
    (hsig : parseMethodDescriptor z.desc = some ⟨ps, rr⟩) (hM : OMeets l Z z bytes mx rt rm [x1, x2, x3] os (RetN q)) (k : ∀ os', q os' → WP X Z rc rs Q pc' L S os' (ce + rm.cells) (sl + rm.slots)) (hlen : ([x1, x2, x3] : List Value).length = ps.length := by rfl) (hsz : L.length = maxL := by rfl) (hf : rm.frames + 1 ≤ R.frames := by decide) (hl : (S.map fun v => v.category).sum + (mx + 11) + rm.locals ≤ R.locals := by exact Nat.le_of_ble_eq_true rfl)
    (hc : ce + rm.cells ≤ R.cells := by decide) (hs : sl + rm.slots ≤ R.slots := by decide) (hy : z.cls ≠ "java/lang/invoke/MethodHandle" ∧ z.cls ≠ "java/lang/invoke/VarHandle" := by decide) (hp : pc + 3 = pc' := by rfl) : WP X Z rc rs Q pc L (x3 :: x2 :: x1 :: S) os ce sl :=
  W.callSn (argsL := [x1, x2, x3]) (S := S) K pc' hd w1 w2 w3 w4 hsig hM k rfl hlen hsz hf hl hc hs hy hp
theorem W.callSn4 {idx mx : Nat} {z : MethodName} {bytes : ByteArray} {rt : Option FieldType} {rm : Room} {ps : List FieldType} {rr : Option FieldType} {x1 x2 x3 x4 : Value} {q : OS → Prop} (K : Ctx X l Z R y code maxL ret) (pc' : Nat) (hd : decode code pc = .ok (.invokestatic idx, 3)) (w1 : (Jvm.Cond.methodLink y.cls idx z).before a0 Z = true) (w2 : (Jvm.Cond.static z).before a0 Z = true) (w3 : (Jvm.Cond.initialized z.cls).before a0 Z = true) (w4 : (Jvm.Cond.code z bytes mx rt).before a0 Z = true)
    (hsig : parseMethodDescriptor z.desc = some ⟨ps, rr⟩) (hM : OMeets l Z z bytes mx rt rm [x1, x2, x3, x4] os (RetN q)) (k : ∀ os', q os' → WP X Z rc rs Q pc' L S os' (ce + rm.cells) (sl + rm.slots)) (hlen : ([x1, x2, x3, x4] : List Value).length = ps.length := by rfl) (hsz : L.length = maxL := by rfl) (hf : rm.frames + 1 ≤ R.frames := by decide) (hl : (S.map fun v => v.category).sum + (mx + 11) + rm.locals ≤ R.locals := by exact Nat.le_of_ble_eq_true rfl)
    (hc : ce + rm.cells ≤ R.cells := by decide) (hs : sl + rm.slots ≤ R.slots := by decide) (hy : z.cls ≠ "java/lang/invoke/MethodHandle" ∧ z.cls ≠ "java/lang/invoke/VarHandle" := by decide) (hp : pc + 3 = pc' := by rfl) : WP X Z rc rs Q pc L (x4 :: x3 :: x2 :: x1 :: S) os ce sl :=
  W.callSn (argsL := [x1, x2, x3, x4]) (S := S) K pc' hd w1 w2 w3 w4 hsig hM k rfl hlen hsz hf hl hc hs hy hp
theorem W.callSn5 {idx mx : Nat} {z : MethodName} {bytes : ByteArray} {rt : Option FieldType} {rm : Room} {ps : List FieldType} {rr : Option FieldType} {x1 x2 x3 x4 x5 : Value} {q : OS → Prop} (K : Ctx X l Z R y code maxL ret) (pc' : Nat) (hd : decode code pc = .ok (.invokestatic idx, 3)) (w1 : (Jvm.Cond.methodLink y.cls idx z).before a0 Z = true) (w2 : (Jvm.Cond.static z).before a0 Z = true) (w3 : (Jvm.Cond.initialized z.cls).before a0 Z = true) (w4 : (Jvm.Cond.code z bytes mx rt).before a0 Z = true)
    (hsig : parseMethodDescriptor z.desc = some ⟨ps, rr⟩) (hM : OMeets l Z z bytes mx rt rm [x1, x2, x3, x4, x5] os (RetN q)) (k : ∀ os', q os' → WP X Z rc rs Q pc' L S os' (ce + rm.cells) (sl + rm.slots)) (hlen : ([x1, x2, x3, x4, x5] : List Value).length = ps.length := by rfl) (hsz : L.length = maxL := by rfl) (hf : rm.frames + 1 ≤ R.frames := by decide) (hl : (S.map fun v => v.category).sum + (mx + 11) + rm.locals ≤ R.locals := by exact Nat.le_of_ble_eq_true rfl)
    (hc : ce + rm.cells ≤ R.cells := by decide) (hs : sl + rm.slots ≤ R.slots := by decide) (hy : z.cls ≠ "java/lang/invoke/MethodHandle" ∧ z.cls ≠ "java/lang/invoke/VarHandle" := by decide) (hp : pc + 3 = pc' := by rfl) : WP X Z rc rs Q pc L (x5 :: x4 :: x3 :: x2 :: x1 :: S) os ce sl :=
  W.callSn (argsL := [x1, x2, x3, x4, x5]) (S := S) K pc' hd w1 w2 w3 w4 hsig hM k rfl hlen hsz hf hl hc hs hy hp
theorem W.callSn6 {idx mx : Nat} {z : MethodName} {bytes : ByteArray} {rt : Option FieldType} {rm : Room} {ps : List FieldType} {rr : Option FieldType} {x1 x2 x3 x4 x5 x6 : Value} {q : OS → Prop} (K : Ctx X l Z R y code maxL ret) (pc' : Nat) (hd : decode code pc = .ok (.invokestatic idx, 3)) (w1 : (Jvm.Cond.methodLink y.cls idx z).before a0 Z = true) (w2 : (Jvm.Cond.static z).before a0 Z = true) (w3 : (Jvm.Cond.initialized z.cls).before a0 Z = true) (w4 : (Jvm.Cond.code z bytes mx rt).before a0 Z = true)
    (hsig : parseMethodDescriptor z.desc = some ⟨ps, rr⟩) (hM : OMeets l Z z bytes mx rt rm [x1, x2, x3, x4, x5, x6] os (RetN q)) (k : ∀ os', q os' → WP X Z rc rs Q pc' L S os' (ce + rm.cells) (sl + rm.slots)) (hlen : ([x1, x2, x3, x4, x5, x6] : List Value).length = ps.length := by rfl) (hsz : L.length = maxL := by rfl) (hf : rm.frames + 1 ≤ R.frames := by decide) (hl : (S.map fun v => v.category).sum + (mx + 11) + rm.locals ≤ R.locals := by exact Nat.le_of_ble_eq_true rfl)
    (hc : ce + rm.cells ≤ R.cells := by decide) (hs : sl + rm.slots ≤ R.slots := by decide) (hy : z.cls ≠ "java/lang/invoke/MethodHandle" ∧ z.cls ≠ "java/lang/invoke/VarHandle" := by decide) (hp : pc + 3 = pc' := by rfl) : WP X Z rc rs Q pc L (x6 :: x5 :: x4 :: x3 :: x2 :: x1 :: S) os ce sl :=
  W.callSn (argsL := [x1, x2, x3, x4, x5, x6]) (S := S) K pc' hd w1 w2 w3 w4 hsig hM k rfl hlen hsz hf hl hc hs hy hp
theorem W.callSn7 {idx mx : Nat} {z : MethodName} {bytes : ByteArray} {rt : Option FieldType} {rm : Room} {ps : List FieldType} {rr : Option FieldType} {x1 x2 x3 x4 x5 x6 x7 : Value} {q : OS → Prop} (K : Ctx X l Z R y code maxL ret) (pc' : Nat) (hd : decode code pc = .ok (.invokestatic idx, 3)) (w1 : (Jvm.Cond.methodLink y.cls idx z).before a0 Z = true) (w2 : (Jvm.Cond.static z).before a0 Z = true) (w3 : (Jvm.Cond.initialized z.cls).before a0 Z = true) (w4 : (Jvm.Cond.code z bytes mx rt).before a0 Z = true)
    (hsig : parseMethodDescriptor z.desc = some ⟨ps, rr⟩) (hM : OMeets l Z z bytes mx rt rm [x1, x2, x3, x4, x5, x6, x7] os (RetN q)) (k : ∀ os', q os' → WP X Z rc rs Q pc' L S os' (ce + rm.cells) (sl + rm.slots)) (hlen : ([x1, x2, x3, x4, x5, x6, x7] : List Value).length = ps.length := by rfl) (hsz : L.length = maxL := by rfl) (hf : rm.frames + 1 ≤ R.frames := by decide) (hl : (S.map fun v => v.category).sum + (mx + 11) + rm.locals ≤ R.locals := by exact Nat.le_of_ble_eq_true rfl)
    (hc : ce + rm.cells ≤ R.cells := by decide) (hs : sl + rm.slots ≤ R.slots := by decide) (hy : z.cls ≠ "java/lang/invoke/MethodHandle" ∧ z.cls ≠ "java/lang/invoke/VarHandle" := by decide) (hp : pc + 3 = pc' := by rfl) : WP X Z rc rs Q pc L (x7 :: x6 :: x5 :: x4 :: x3 :: x2 :: x1 :: S) os ce sl :=
  W.callSn (argsL := [x1, x2, x3, x4, x5, x6, x7]) (S := S) K pc' hd w1 w2 w3 w4 hsig hM k rfl hlen hsz hf hl hc hs hy hp
theorem W.callIn0 {idx mx : Nat} {z : MethodName} {bytes : ByteArray} {rm : Room} {ps : List FieldType} {rr : Option FieldType} {b : Addr} {q : OS → Prop} (K : Ctx X l Z R y code maxL ret) (pc' : Nat) (hd : decode code pc = .ok (.invokespecial idx, 3)) (w1 : (Jvm.Cond.methodLink y.cls idx z).before a0 Z = true) (w2 : (Jvm.Cond.instanceMethod z).before a0 Z = true) (w3 : (Jvm.Cond.initialized z.cls).before a0 Z = true) (w4 : (Jvm.Cond.code z bytes mx none).before a0 Z = true)
    (hsig : parseMethodDescriptor z.desc = some ⟨ps, rr⟩) (hM : OMeets l Z z bytes mx none rm [.ref b] os (RetN q)) (k : ∀ os', q os' → WP X Z rc rs Q pc' L S os' (ce + rm.cells) (sl + rm.slots)) (hz1 : z.name = "<init>" := by rfl) (hlen : ([] : List Value).length = ps.length := by rfl) (hsz : L.length = maxL := by rfl) (hf : rm.frames + 1 ≤ R.frames := by decide) (hl : (S.map fun v => v.category).sum + (mx + 11) + rm.locals ≤ R.locals := by exact Nat.le_of_ble_eq_true rfl)
    (hc : ce + rm.cells ≤ R.cells := by decide) (hs : sl + rm.slots ≤ R.slots := by decide) (hy : z.cls ≠ "java/lang/invoke/MethodHandle" ∧ z.cls ≠ "java/lang/invoke/VarHandle" := by decide) (hp : pc + 3 = pc' := by rfl) : WP X Z rc rs Q pc L (.ref b :: S) os ce sl :=
  W.callIn (argsL := []) (S := S) K pc' hd w1 w2 w3 w4 hsig hM k hz1 rfl hlen hsz hf hl hc hs hy hp
theorem W.callIn1 {idx mx : Nat} {z : MethodName} {bytes : ByteArray} {rm : Room} {ps : List FieldType} {rr : Option FieldType} {b : Addr} {x1 : Value} {q : OS → Prop} (K : Ctx X l Z R y code maxL ret) (pc' : Nat) (hd : decode code pc = .ok (.invokespecial idx, 3)) (w1 : (Jvm.Cond.methodLink y.cls idx z).before a0 Z = true) (w2 : (Jvm.Cond.instanceMethod z).before a0 Z = true) (w3 : (Jvm.Cond.initialized z.cls).before a0 Z = true) (w4 : (Jvm.Cond.code z bytes mx none).before a0 Z = true)
    (hsig : parseMethodDescriptor z.desc = some ⟨ps, rr⟩) (hM : OMeets l Z z bytes mx none rm [.ref b, x1] os (RetN q)) (k : ∀ os', q os' → WP X Z rc rs Q pc' L S os' (ce + rm.cells) (sl + rm.slots)) (hz1 : z.name = "<init>" := by rfl) (hlen : ([x1] : List Value).length = ps.length := by rfl) (hsz : L.length = maxL := by rfl) (hf : rm.frames + 1 ≤ R.frames := by decide) (hl : (S.map fun v => v.category).sum + (mx + 11) + rm.locals ≤ R.locals := by exact Nat.le_of_ble_eq_true rfl)
    (hc : ce + rm.cells ≤ R.cells := by decide) (hs : sl + rm.slots ≤ R.slots := by decide) (hy : z.cls ≠ "java/lang/invoke/MethodHandle" ∧ z.cls ≠ "java/lang/invoke/VarHandle" := by decide) (hp : pc + 3 = pc' := by rfl) : WP X Z rc rs Q pc L (x1 :: .ref b :: S) os ce sl :=
  W.callIn (argsL := [x1]) (S := S) K pc' hd w1 w2 w3 w4 hsig hM k hz1 rfl hlen hsz hf hl hc hs hy hp
theorem W.callIn2 {idx mx : Nat} {z : MethodName} {bytes : ByteArray} {rm : Room} {ps : List FieldType} {rr : Option FieldType} {b : Addr} {x1 x2 : Value} {q : OS → Prop} (K : Ctx X l Z R y code maxL ret) (pc' : Nat) (hd : decode code pc = .ok (.invokespecial idx, 3)) (w1 : (Jvm.Cond.methodLink y.cls idx z).before a0 Z = true) (w2 : (Jvm.Cond.instanceMethod z).before a0 Z = true) (w3 : (Jvm.Cond.initialized z.cls).before a0 Z = true) (w4 : (Jvm.Cond.code z bytes mx none).before a0 Z = true)
    (hsig : parseMethodDescriptor z.desc = some ⟨ps, rr⟩) (hM : OMeets l Z z bytes mx none rm [.ref b, x1, x2] os (RetN q)) (k : ∀ os', q os' → WP X Z rc rs Q pc' L S os' (ce + rm.cells) (sl + rm.slots)) (hz1 : z.name = "<init>" := by rfl) (hlen : ([x1, x2] : List Value).length = ps.length := by rfl) (hsz : L.length = maxL := by rfl) (hf : rm.frames + 1 ≤ R.frames := by decide) (hl : (S.map fun v => v.category).sum + (mx + 11) + rm.locals ≤ R.locals := by exact Nat.le_of_ble_eq_true rfl)
    (hc : ce + rm.cells ≤ R.cells := by decide) (hs : sl + rm.slots ≤ R.slots := by decide) (hy : z.cls ≠ "java/lang/invoke/MethodHandle" ∧ z.cls ≠ "java/lang/invoke/VarHandle" := by decide) (hp : pc + 3 = pc' := by rfl) : WP X Z rc rs Q pc L (x2 :: x1 :: .ref b :: S) os ce sl :=
  W.callIn (argsL := [x1, x2]) (S := S) K pc' hd w1 w2 w3 w4 hsig hM k hz1 rfl hlen hsz hf hl hc hs hy hp
theorem W.callIn3 {idx mx : Nat} {z : MethodName} {bytes : ByteArray} {rm : Room} {ps : List FieldType} {rr : Option FieldType} {b : Addr} {x1 x2 x3 : Value} {q : OS → Prop} (K : Ctx X l Z R y code maxL ret) (pc' : Nat) (hd : decode code pc = .ok (.invokespecial idx, 3)) (w1 : (Jvm.Cond.methodLink y.cls idx z).before a0 Z = true) (w2 : (Jvm.Cond.instanceMethod z).before a0 Z = true) (w3 : (Jvm.Cond.initialized z.cls).before a0 Z = true) (w4 : (Jvm.Cond.code z bytes mx none).before a0 Z = true)
    (hsig : parseMethodDescriptor z.desc = some ⟨ps, rr⟩) (hM : OMeets l Z z bytes mx none rm [.ref b, x1, x2, x3] os (RetN q)) (k : ∀ os', q os' → WP X Z rc rs Q pc' L S os' (ce + rm.cells) (sl + rm.slots)) (hz1 : z.name = "<init>" := by rfl) (hlen : ([x1, x2, x3] : List Value).length = ps.length := by rfl) (hsz : L.length = maxL := by rfl) (hf : rm.frames + 1 ≤ R.frames := by decide) (hl : (S.map fun v => v.category).sum + (mx + 11) + rm.locals ≤ R.locals := by exact Nat.le_of_ble_eq_true rfl)
    (hc : ce + rm.cells ≤ R.cells := by decide) (hs : sl + rm.slots ≤ R.slots := by decide) (hy : z.cls ≠ "java/lang/invoke/MethodHandle" ∧ z.cls ≠ "java/lang/invoke/VarHandle" := by decide) (hp : pc + 3 = pc' := by rfl) : WP X Z rc rs Q pc L (x3 :: x2 :: x1 :: .ref b :: S) os ce sl :=
  W.callIn (argsL := [x1, x2, x3]) (S := S) K pc' hd w1 w2 w3 w4 hsig hM k hz1 rfl hlen hsz hf hl hc hs hy hp
theorem W.callIn4 {idx mx : Nat} {z : MethodName} {bytes : ByteArray} {rm : Room} {ps : List FieldType} {rr : Option FieldType} {b : Addr} {x1 x2 x3 x4 : Value} {q : OS → Prop} (K : Ctx X l Z R y code maxL ret) (pc' : Nat) (hd : decode code pc = .ok (.invokespecial idx, 3)) (w1 : (Jvm.Cond.methodLink y.cls idx z).before a0 Z = true) (w2 : (Jvm.Cond.instanceMethod z).before a0 Z = true) (w3 : (Jvm.Cond.initialized z.cls).before a0 Z = true) (w4 : (Jvm.Cond.code z bytes mx none).before a0 Z = true)
    (hsig : parseMethodDescriptor z.desc = some ⟨ps, rr⟩) (hM : OMeets l Z z bytes mx none rm [.ref b, x1, x2, x3, x4] os (RetN q)) (k : ∀ os', q os' → WP X Z rc rs Q pc' L S os' (ce + rm.cells) (sl + rm.slots)) (hz1 : z.name = "<init>" := by rfl) (hlen : ([x1, x2, x3, x4] : List Value).length = ps.length := by rfl) (hsz : L.length = maxL := by rfl) (hf : rm.frames + 1 ≤ R.frames := by decide) (hl : (S.map fun v => v.category).sum + (mx + 11) + rm.locals ≤ R.locals := by exact Nat.le_of_ble_eq_true rfl)
    (hc : ce + rm.cells ≤ R.cells := by decide) (hs : sl + rm.slots ≤ R.slots := by decide) (hy : z.cls ≠ "java/lang/invoke/MethodHandle" ∧ z.cls ≠ "java/lang/invoke/VarHandle" := by decide) (hp : pc + 3 = pc' := by rfl) : WP X Z rc rs Q pc L (x4 :: x3 :: x2 :: x1 :: .ref b :: S) os ce sl :=
  W.callIn (argsL := [x1, x2, x3, x4]) (S := S) K pc' hd w1 w2 w3 w4 hsig hM k hz1 rfl hlen hsz hf hl hc hs hy hp
theorem W.callIn5 {idx mx : Nat} {z : MethodName} {bytes : ByteArray} {rm : Room} {ps : List FieldType} {rr : Option FieldType} {b : Addr} {x1 x2 x3 x4 x5 : Value} {q : OS → Prop} (K : Ctx X l Z R y code maxL ret) (pc' : Nat) (hd : decode code pc = .ok (.invokespecial idx, 3)) (w1 : (Jvm.Cond.methodLink y.cls idx z).before a0 Z = true) (w2 : (Jvm.Cond.instanceMethod z).before a0 Z = true) (w3 : (Jvm.Cond.initialized z.cls).before a0 Z = true) (w4 : (Jvm.Cond.code z bytes mx none).before a0 Z = true)
    (hsig : parseMethodDescriptor z.desc = some ⟨ps, rr⟩) (hM : OMeets l Z z bytes mx none rm [.ref b, x1, x2, x3, x4, x5] os (RetN q)) (k : ∀ os', q os' → WP X Z rc rs Q pc' L S os' (ce + rm.cells) (sl + rm.slots)) (hz1 : z.name = "<init>" := by rfl) (hlen : ([x1, x2, x3, x4, x5] : List Value).length = ps.length := by rfl) (hsz : L.length = maxL := by rfl) (hf : rm.frames + 1 ≤ R.frames := by decide) (hl : (S.map fun v => v.category).sum + (mx + 11) + rm.locals ≤ R.locals := by exact Nat.le_of_ble_eq_true rfl)
    (hc : ce + rm.cells ≤ R.cells := by decide) (hs : sl + rm.slots ≤ R.slots := by decide) (hy : z.cls ≠ "java/lang/invoke/MethodHandle" ∧ z.cls ≠ "java/lang/invoke/VarHandle" := by decide) (hp : pc + 3 = pc' := by rfl) : WP X Z rc rs Q pc L (x5 :: x4 :: x3 :: x2 :: x1 :: .ref b :: S) os ce sl :=
  W.callIn (argsL := [x1, x2, x3, x4, x5]) (S := S) K pc' hd w1 w2 w3 w4 hsig hM k hz1 rfl hlen hsz hf hl hc hs hy hp
theorem W.callIn6 {idx mx : Nat} {z : MethodName} {bytes : ByteArray} {rm : Room} {ps : List FieldType} {rr : Option FieldType} {b : Addr} {x1 x2 x3 x4 x5 x6 : Value} {q : OS → Prop} (K : Ctx X l Z R y code maxL ret) (pc' : Nat) (hd : decode code pc = .ok (.invokespecial idx, 3)) (w1 : (Jvm.Cond.methodLink y.cls idx z).before a0 Z = true) (w2 : (Jvm.Cond.instanceMethod z).before a0 Z = true) (w3 : (Jvm.Cond.initialized z.cls).before a0 Z = true) (w4 : (Jvm.Cond.code z bytes mx none).before a0 Z = true)
    (hsig : parseMethodDescriptor z.desc = some ⟨ps, rr⟩) (hM : OMeets l Z z bytes mx none rm [.ref b, x1, x2, x3, x4, x5, x6] os (RetN q)) (k : ∀ os', q os' → WP X Z rc rs Q pc' L S os' (ce + rm.cells) (sl + rm.slots)) (hz1 : z.name = "<init>" := by rfl) (hlen : ([x1, x2, x3, x4, x5, x6] : List Value).length = ps.length := by rfl) (hsz : L.length = maxL := by rfl) (hf : rm.frames + 1 ≤ R.frames := by decide) (hl : (S.map fun v => v.category).sum + (mx + 11) + rm.locals ≤ R.locals := by exact Nat.le_of_ble_eq_true rfl)
    (hc : ce + rm.cells ≤ R.cells := by decide) (hs : sl + rm.slots ≤ R.slots := by decide) (hy : z.cls ≠ "java/lang/invoke/MethodHandle" ∧ z.cls ≠ "java/lang/invoke/VarHandle" := by decide) (hp : pc + 3 = pc' := by rfl) : WP X Z rc rs Q pc L (x6 :: x5 :: x4 :: x3 :: x2 :: x1 :: .ref b :: S) os ce sl :=
  W.callIn (argsL := [x1, x2, x3, x4, x5, x6]) (S := S) K pc' hd w1 w2 w3 w4 hsig hM k hz1 rfl hlen hsz hf hl hc hs hy hp
theorem W.callIn7 {idx mx : Nat} {z : MethodName} {bytes : ByteArray} {rm : Room} {ps : List FieldType} {rr : Option FieldType} {b : Addr} {x1 x2 x3 x4 x5 x6 x7 : Value} {q : OS → Prop} (K : Ctx X l Z R y code maxL ret) (pc' : Nat) (hd : decode code pc = .ok (.invokespecial idx, 3)) (w1 : (Jvm.Cond.methodLink y.cls idx z).before a0 Z = true) (w2 : (Jvm.Cond.instanceMethod z).before a0 Z = true) (w3 : (Jvm.Cond.initialized z.cls).before a0 Z = true) (w4 : (Jvm.Cond.code z bytes mx none).before a0 Z = true)
    (hsig : parseMethodDescriptor z.desc = some ⟨ps, rr⟩) (hM : OMeets l Z z bytes mx none rm [.ref b, x1, x2, x3, x4, x5, x6, x7] os (RetN q)) (k : ∀ os', q os' → WP X Z rc rs Q pc' L S os' (ce + rm.cells) (sl + rm.slots)) (hz1 : z.name = "<init>" := by rfl) (hlen : ([x1, x2, x3, x4, x5, x6, x7] : List Value).length = ps.length := by rfl) (hsz : L.length = maxL := by rfl) (hf : rm.frames + 1 ≤ R.frames := by decide) (hl : (S.map fun v => v.category).sum + (mx + 11) + rm.locals ≤ R.locals := by exact Nat.le_of_ble_eq_true rfl)
    (hc : ce + rm.cells ≤ R.cells := by decide) (hs : sl + rm.slots ≤ R.slots := by decide) (hy : z.cls ≠ "java/lang/invoke/MethodHandle" ∧ z.cls ≠ "java/lang/invoke/VarHandle" := by decide) (hp : pc + 3 = pc' := by rfl) : WP X Z rc rs Q pc L (x7 :: x6 :: x5 :: x4 :: x3 :: x2 :: x1 :: .ref b :: S) os ce sl :=
  W.callIn (argsL := [x1, x2, x3, x4, x5, x6, x7]) (S := S) K pc' hd w1 w2 w3 w4 hsig hM k hz1 rfl hlen hsz hf hl hc hs hy hp
theorem W.callVv0 {idx mx : Nat} {z : MethodName} {bytes : ByteArray} {rt : Option FieldType} {C : String} {rm : Room} {ps : List FieldType} {rr : Option FieldType} {b : Addr} {q : Value → OS → Prop} (K : Ctx X l Z R y code maxL ret) (pc' : Nat) (hd : decode code pc = .ok (.invokevirtual idx, 3)) (w1 : (Jvm.Cond.methodLink y.cls idx z).before a0 Z = true) (w2 : (Jvm.Cond.declares z).before a0 Z = true) (w5 : (Jvm.Cond.selects C z z).before a0 Z = true) (w6 : (Jvm.Cond.instanceMethod z).before a0 Z = true) (w3 : (Jvm.Cond.initialized z.cls).before a0 Z = true) (w4 : (Jvm.Cond.code z bytes mx rt).before a0 Z = true)
    (hsig : parseMethodDescriptor z.desc = some ⟨ps, rr⟩) (hrc : ∀ h, Hp Z h os → Exa Z h b C) (hM : OMeets l Z z bytes mx rt rm [.ref b] os (RetV q)) (k : ∀ v os', q v os' → WP X Z rc rs Q pc' L (v :: S) os' (ce + rm.cells) (sl + rm.slots)) (hlen : ([] : List Value).length = ps.length := by rfl) (hsz : L.length = maxL := by rfl) (hf : rm.frames + 1 ≤ R.frames := by decide) (hl : (S.map fun v => v.category).sum + (mx + 11) + rm.locals ≤ R.locals := by exact Nat.le_of_ble_eq_true rfl)
    (hc : ce + rm.cells ≤ R.cells := by decide) (hs : sl + rm.slots ≤ R.slots := by decide) (hy : z.cls ≠ "java/lang/invoke/MethodHandle" ∧ z.cls ≠ "java/lang/invoke/VarHandle" := by decide) (hp : pc + 3 = pc' := by rfl) : WP X Z rc rs Q pc L (.ref b :: S) os ce sl :=
  W.callVv (argsL := []) (S := S) K pc' hd w1 w2 w5 w6 w3 w4 hsig hrc hM k rfl hlen hsz hf hl hc hs hy hp
theorem W.callVv1 {idx mx : Nat} {z : MethodName} {bytes : ByteArray} {rt : Option FieldType} {C : String} {rm : Room} {ps : List FieldType} {rr : Option FieldType} {b : Addr} {x1 : Value} {q : Value → OS → Prop} (K : Ctx X l Z R y code maxL ret) (pc' : Nat) (hd : decode code pc = .ok (.invokevirtual idx, 3)) (w1 : (Jvm.Cond.methodLink y.cls idx z).before a0 Z = true) (w2 : (Jvm.Cond.declares z).before a0 Z = true) (w5 : (Jvm.Cond.selects C z z).before a0 Z = true) (w6 : (Jvm.Cond.instanceMethod z).before a0 Z = true) (w3 : (Jvm.Cond.initialized z.cls).before a0 Z = true) (w4 : (Jvm.Cond.code z bytes mx rt).before a0 Z = true)
    (hsig : parseMethodDescriptor z.desc = some ⟨ps, rr⟩) (hrc : ∀ h, Hp Z h os → Exa Z h b C) (hM : OMeets l Z z bytes mx rt rm [.ref b, x1] os (RetV q)) (k : ∀ v os', q v os' → WP X Z rc rs Q pc' L (v :: S) os' (ce + rm.cells) (sl + rm.slots)) (hlen : ([x1] : List Value).length = ps.length := by rfl) (hsz : L.length = maxL := by rfl) (hf : rm.frames + 1 ≤ R.frames := by decide) (hl : (S.map fun v => v.category).sum + (mx + 11) + rm.locals ≤ R.locals := by exact Nat.le_of_ble_eq_true rfl)
    (hc : ce + rm.cells ≤ R.cells := by decide) (hs : sl + rm.slots ≤ R.slots := by decide) (hy : z.cls ≠ "java/lang/invoke/MethodHandle" ∧ z.cls ≠ "java/lang/invoke/VarHandle" := by decide) (hp : pc + 3 = pc' := by rfl) : WP X Z rc rs Q pc L (x1 :: .ref b :: S) os ce sl :=
  W.callVv (argsL := [x1]) (S := S) K pc' hd w1 w2 w5 w6 w3 w4 hsig hrc hM k rfl hlen hsz hf hl hc hs hy hp
theorem W.callVv2 {idx mx : Nat} {z : MethodName} {bytes : ByteArray} {rt : Option FieldType} {C : String} {rm : Room} {ps : List FieldType} {rr : Option FieldType} {b : Addr} {x1 x2 : Value} {q : Value → OS → Prop} (K : Ctx X l Z R y code maxL ret) (pc' : Nat) (hd : decode code pc = .ok (.invokevirtual idx, 3)) (w1 : (Jvm.Cond.methodLink y.cls idx z).before a0 Z = true) (w2 : (Jvm.Cond.declares z).before a0 Z = true) (w5 : (Jvm.Cond.selects C z z).before a0 Z = true) (w6 : (Jvm.Cond.instanceMethod z).before a0 Z = true) (w3 : (Jvm.Cond.initialized z.cls).before a0 Z = true) (w4 : (Jvm.Cond.code z bytes mx rt).before a0 Z = true)
    (hsig : parseMethodDescriptor z.desc = some ⟨ps, rr⟩) (hrc : ∀ h, Hp Z h os → Exa Z h b C) (hM : OMeets l Z z bytes mx rt rm [.ref b, x1, x2] os (RetV q)) (k : ∀ v os', q v os' → WP X Z rc rs Q pc' L (v :: S) os' (ce + rm.cells) (sl + rm.slots)) (hlen : ([x1, x2] : List Value).length = ps.length := by rfl) (hsz : L.length = maxL := by rfl) (hf : rm.frames + 1 ≤ R.frames := by decide) (hl : (S.map fun v => v.category).sum + (mx + 11) + rm.locals ≤ R.locals := by exact Nat.le_of_ble_eq_true rfl)
    (hc : ce + rm.cells ≤ R.cells := by decide) (hs : sl + rm.slots ≤ R.slots := by decide) (hy : z.cls ≠ "java/lang/invoke/MethodHandle" ∧ z.cls ≠ "java/lang/invoke/VarHandle" := by decide) (hp : pc + 3 = pc' := by rfl) : WP X Z rc rs Q pc L (x2 :: x1 :: .ref b :: S) os ce sl :=
  W.callVv (argsL := [x1, x2]) (S := S) K pc' hd w1 w2 w5 w6 w3 w4 hsig hrc hM k rfl hlen hsz hf hl hc hs hy hp
theorem W.callVv3 {idx mx : Nat} {z : MethodName} {bytes : ByteArray} {rt : Option FieldType} {C : String} {rm : Room} {ps : List FieldType} {rr : Option FieldType} {b : Addr} {x1 x2 x3 : Value} {q : Value → OS → Prop} (K : Ctx X l Z R y code maxL ret) (pc' : Nat) (hd : decode code pc = .ok (.invokevirtual idx, 3)) (w1 : (Jvm.Cond.methodLink y.cls idx z).before a0 Z = true) (w2 : (Jvm.Cond.declares z).before a0 Z = true) (w5 : (Jvm.Cond.selects C z z).before a0 Z = true) (w6 : (Jvm.Cond.instanceMethod z).before a0 Z = true) (w3 : (Jvm.Cond.initialized z.cls).before a0 Z = true) (w4 : (Jvm.Cond.code z bytes mx rt).before a0 Z = true)
    (hsig : parseMethodDescriptor z.desc = some ⟨ps, rr⟩) (hrc : ∀ h, Hp Z h os → Exa Z h b C) (hM : OMeets l Z z bytes mx rt rm [.ref b, x1, x2, x3] os (RetV q)) (k : ∀ v os', q v os' → WP X Z rc rs Q pc' L (v :: S) os' (ce + rm.cells) (sl + rm.slots)) (hlen : ([x1, x2, x3] : List Value).length = ps.length := by rfl) (hsz : L.length = maxL := by rfl) (hf : rm.frames + 1 ≤ R.frames := by decide) (hl : (S.map fun v => v.category).sum + (mx + 11) + rm.locals ≤ R.locals := by exact Nat.le_of_ble_eq_true rfl)
    (hc : ce + rm.cells ≤ R.cells := by decide) (hs : sl + rm.slots ≤ R.slots := by decide) (hy : z.cls ≠ "java/lang/invoke/MethodHandle" ∧ z.cls ≠ "java/lang/invoke/VarHandle" := by decide) (hp : pc + 3 = pc' := by rfl) : WP X Z rc rs Q pc L (x3 :: x2 :: x1 :: .ref b :: S) os ce sl :=
  W.callVv (argsL := [x1, x2, x3]) (S := S) K pc' hd w1 w2 w5 w6 w3 w4 hsig hrc hM k rfl hlen hsz hf hl hc hs hy hp
theorem W.callVv4 {idx mx : Nat} {z : MethodName} {bytes : ByteArray} {rt : Option FieldType} {C : String} {rm : Room} {ps : List FieldType} {rr : Option FieldType} {b : Addr} {x1 x2 x3 x4 : Value} {q : Value → OS → Prop} (K : Ctx X l Z R y code maxL ret) (pc' : Nat) (hd : decode code pc = .ok (.invokevirtual idx, 3)) (w1 : (Jvm.Cond.methodLink y.cls idx z).before a0 Z = true) (w2 : (Jvm.Cond.declares z).before a0 Z = true) (w5 : (Jvm.Cond.selects C z z).before a0 Z = true) (w6 : (Jvm.Cond.instanceMethod z).before a0 Z = true) (w3 : (Jvm.Cond.initialized z.cls).before a0 Z = true) (w4 : (Jvm.Cond.code z bytes mx rt).before a0 Z = true)
    (hsig : parseMethodDescriptor z.desc = some ⟨ps, rr⟩) (hrc : ∀ h, Hp Z h os → Exa Z h b C) (hM : OMeets l Z z bytes mx rt rm [.ref b, x1, x2, x3, x4] os (RetV q)) (k : ∀ v os', q v os' → WP X Z rc rs Q pc' L (v :: S) os' (ce + rm.cells) (sl + rm.slots)) (hlen : ([x1, x2, x3, x4] : List Value).length = ps.length := by rfl) (hsz : L.length = maxL := by rfl) (hf : rm.frames + 1 ≤ R.frames := by decide) (hl : (S.map fun v => v.category).sum + (mx + 11) + rm.locals ≤ R.locals := by exact Nat.le_of_ble_eq_true rfl)
    (hc : ce + rm.cells ≤ R.cells := by decide) (hs : sl + rm.slots ≤ R.slots := by decide) (hy : z.cls ≠ "java/lang/invoke/MethodHandle" ∧ z.cls ≠ "java/lang/invoke/VarHandle" := by decide) (hp : pc + 3 = pc' := by rfl) : WP X Z rc rs Q pc L (x4 :: x3 :: x2 :: x1 :: .ref b :: S) os ce sl :=
  W.callVv (argsL := [x1, x2, x3, x4]) (S := S) K pc' hd w1 w2 w5 w6 w3 w4 hsig hrc hM k rfl hlen hsz hf hl hc hs hy hp
theorem W.callVv5 {idx mx : Nat} {z : MethodName} {bytes : ByteArray} {rt : Option FieldType} {C : String} {rm : Room} {ps : List FieldType} {rr : Option FieldType} {b : Addr} {x1 x2 x3 x4 x5 : Value} {q : Value → OS → Prop} (K : Ctx X l Z R y code maxL ret) (pc' : Nat) (hd : decode code pc = .ok (.invokevirtual idx, 3)) (w1 : (Jvm.Cond.methodLink y.cls idx z).before a0 Z = true) (w2 : (Jvm.Cond.declares z).before a0 Z = true) (w5 : (Jvm.Cond.selects C z z).before a0 Z = true) (w6 : (Jvm.Cond.instanceMethod z).before a0 Z = true) (w3 : (Jvm.Cond.initialized z.cls).before a0 Z = true) (w4 : (Jvm.Cond.code z bytes mx rt).before a0 Z = true)
    (hsig : parseMethodDescriptor z.desc = some ⟨ps, rr⟩) (hrc : ∀ h, Hp Z h os → Exa Z h b C) (hM : OMeets l Z z bytes mx rt rm [.ref b, x1, x2, x3, x4, x5] os (RetV q)) (k : ∀ v os', q v os' → WP X Z rc rs Q pc' L (v :: S) os' (ce + rm.cells) (sl + rm.slots)) (hlen : ([x1, x2, x3, x4, x5] : List Value).length = ps.length := by rfl) (hsz : L.length = maxL := by rfl) (hf : rm.frames + 1 ≤ R.frames := by decide) (hl : (S.map fun v => v.category).sum + (mx + 11) + rm.locals ≤ R.locals := by exact Nat.le_of_ble_eq_true rfl)
    (hc : ce + rm.cells ≤ R.cells := by decide) (hs : sl + rm.slots ≤ R.slots := by decide) (hy : z.cls ≠ "java/lang/invoke/MethodHandle" ∧ z.cls ≠ "java/lang/invoke/VarHandle" := by decide) (hp : pc + 3 = pc' := by rfl) : WP X Z rc rs Q pc L (x5 :: x4 :: x3 :: x2 :: x1 :: .ref b :: S) os ce sl :=
  W.callVv (argsL := [x1, x2, x3, x4, x5]) (S := S) K pc' hd w1 w2 w5 w6 w3 w4 hsig hrc hM k rfl hlen hsz hf hl hc hs hy hp
theorem W.callVv6 {idx mx : Nat} {z : MethodName} {bytes : ByteArray} {rt : Option FieldType} {C : String} {rm : Room} {ps : List FieldType} {rr : Option FieldType} {b : Addr} {x1 x2 x3 x4 x5 x6 : Value} {q : Value → OS → Prop} (K : Ctx X l Z R y code maxL ret) (pc' : Nat) (hd : decode code pc = .ok (.invokevirtual idx, 3)) (w1 : (Jvm.Cond.methodLink y.cls idx z).before a0 Z = true) (w2 : (Jvm.Cond.declares z).before a0 Z = true) (w5 : (Jvm.Cond.selects C z z).before a0 Z = true) (w6 : (Jvm.Cond.instanceMethod z).before a0 Z = true) (w3 : (Jvm.Cond.initialized z.cls).before a0 Z = true) (w4 : (Jvm.Cond.code z bytes mx rt).before a0 Z = true)
    (hsig : parseMethodDescriptor z.desc = some ⟨ps, rr⟩) (hrc : ∀ h, Hp Z h os → Exa Z h b C) (hM : OMeets l Z z bytes mx rt rm [.ref b, x1, x2, x3, x4, x5, x6] os (RetV q)) (k : ∀ v os', q v os' → WP X Z rc rs Q pc' L (v :: S) os' (ce + rm.cells) (sl + rm.slots)) (hlen : ([x1, x2, x3, x4, x5, x6] : List Value).length = ps.length := by rfl) (hsz : L.length = maxL := by rfl) (hf : rm.frames + 1 ≤ R.frames := by decide) (hl : (S.map fun v => v.category).sum + (mx + 11) + rm.locals ≤ R.locals := by exact Nat.le_of_ble_eq_true rfl)
    (hc : ce + rm.cells ≤ R.cells := by decide) (hs : sl + rm.slots ≤ R.slots := by decide) (hy : z.cls ≠ "java/lang/invoke/MethodHandle" ∧ z.cls ≠ "java/lang/invoke/VarHandle" := by decide) (hp : pc + 3 = pc' := by rfl) : WP X Z rc rs Q pc L (x6 :: x5 :: x4 :: x3 :: x2 :: x1 :: .ref b :: S) os ce sl :=
  W.callVv (argsL := [x1, x2, x3, x4, x5, x6]) (S := S) K pc' hd w1 w2 w5 w6 w3 w4 hsig hrc hM k rfl hlen hsz hf hl hc hs hy hp
theorem W.callVv7 {idx mx : Nat} {z : MethodName} {bytes : ByteArray} {rt : Option FieldType} {C : String} {rm : Room} {ps : List FieldType} {rr : Option FieldType} {b : Addr} {x1 x2 x3 x4 x5 x6 x7 : Value} {q : Value → OS → Prop} (K : Ctx X l Z R y code maxL ret) (pc' : Nat) (hd : decode code pc = .ok (.invokevirtual idx, 3)) (w1 : (Jvm.Cond.methodLink y.cls idx z).before a0 Z = true) (w2 : (Jvm.Cond.declares z).before a0 Z = true) (w5 : (Jvm.Cond.selects C z z).before a0 Z = true) (w6 : (Jvm.Cond.instanceMethod z).before a0 Z = true) (w3 : (Jvm.Cond.initialized z.cls).before a0 Z = true) (w4 : (Jvm.Cond.code z bytes mx rt).before a0 Z = true)
    (hsig : parseMethodDescriptor z.desc = some ⟨ps, rr⟩) (hrc : ∀ h, Hp Z h os → Exa Z h b C) (hM : OMeets l Z z bytes mx rt rm [.ref b, x1, x2, x3, x4, x5, x6, x7] os (RetV q)) (k : ∀ v os', q v os' → WP X Z rc rs Q pc' L (v :: S) os' (ce + rm.cells) (sl + rm.slots)) (hlen : ([x1, x2, x3, x4, x5, x6, x7] : List Value).length = ps.length := by rfl) (hsz : L.length = maxL := by rfl) (hf : rm.frames + 1 ≤ R.frames := by decide) (hl : (S.map fun v => v.category).sum + (mx + 11) + rm.locals ≤ R.locals := by exact Nat.le_of_ble_eq_true rfl)
    (hc : ce + rm.cells ≤ R.cells := by decide) (hs : sl + rm.slots ≤ R.slots := by decide) (hy : z.cls ≠ "java/lang/invoke/MethodHandle" ∧ z.cls ≠ "java/lang/invoke/VarHandle" := by decide) (hp : pc + 3 = pc' := by rfl) : WP X Z rc rs Q pc L (x7 :: x6 :: x5 :: x4 :: x3 :: x2 :: x1 :: .ref b :: S) os ce sl :=
  W.callVv (argsL := [x1, x2, x3, x4, x5, x6, x7]) (S := S) K pc' hd w1 w2 w5 w6 w3 w4 hsig hrc hM k rfl hlen hsz hf hl hc hs hy hp
theorem W.callVn0 {idx mx : Nat} {z : MethodName} {bytes : ByteArray} {rt : Option FieldType} {C : String} {rm : Room} {ps : List FieldType} {rr : Option FieldType} {b : Addr} {q : OS → Prop} (K : Ctx X l Z R y code maxL ret) (pc' : Nat) (hd : decode code pc = .ok (.invokevirtual idx, 3)) (w1 : (Jvm.Cond.methodLink y.cls idx z).before a0 Z = true) (w2 : (Jvm.Cond.declares z).before a0 Z = true) (w5 : (Jvm.Cond.selects C z z).before a0 Z = true) (w6 : (Jvm.Cond.instanceMethod z).before a0 Z = true) (w3 : (Jvm.Cond.initialized z.cls).before a0 Z = true) (w4 : (Jvm.Cond.code z bytes mx rt).before a0 Z = true)
    (hsig : parseMethodDescriptor z.desc = some ⟨ps, rr⟩) (hrc : ∀ h, Hp Z h os → Exa Z h b C) (hM : OMeets l Z z bytes mx rt rm [.ref b] os (RetN q)) (k : ∀ os', q os' → WP X Z rc rs Q pc' L S os' (ce + rm.cells) (sl + rm.slots)) (hlen : ([] : List Value).length = ps.length := by rfl) (hsz : L.length = maxL := by rfl) (hf : rm.frames + 1 ≤ R.frames := by decide) (hl : (S.map fun v => v.category).sum + (mx + 11) + rm.locals ≤ R.locals := by exact Nat.le_of_ble_eq_true rfl)
    (hc : ce + rm.cells ≤ R.cells := by decide) (hs : sl + rm.slots ≤ R.slots := by decide) (hy : z.cls ≠ "java/lang/invoke/MethodHandle" ∧ z.cls ≠ "java/lang/invoke/VarHandle" := by decide) (hp : pc + 3 = pc' := by rfl) : WP X Z rc rs Q pc L (.ref b :: S) os ce sl :=
  W.callVn (argsL := []) (S := S) K pc' hd w1 w2 w5 w6 w3 w4 hsig hrc hM k rfl hlen hsz hf hl hc hs hy hp
theorem W.callVn1 {idx mx : Nat} {z : MethodName} {bytes : ByteArray} {rt : Option FieldType} {C : String} {rm : Room} {ps : List FieldType} {rr : Option FieldType} {b : Addr} {x1 : Value} {q : OS → Prop} (K : Ctx X l Z R y code maxL ret) (pc' : Nat) (hd : decode code pc = .ok (.invokevirtual idx, 3)) (w1 : (Jvm.Cond.methodLink y.cls idx z).before a0 Z = true) (w2 : (Jvm.Cond.declares z).before a0 Z = true) (w5 : (Jvm.Cond.selects C z z).before a0 Z = true) (w6 : (Jvm.Cond.instanceMethod z).before a0 Z = true) (w3 : (Jvm.Cond.initialized z.cls).before a0 Z = true) (w4 : (Jvm.Cond.code z bytes mx rt).before a0 Z = true)
    (hsig : parseMethodDescriptor z.desc = some ⟨ps, rr⟩) (hrc : ∀ h, Hp Z h os → Exa Z h b C) (hM : OMeets l Z z bytes mx rt rm [.ref b, x1] os (RetN q)) (k : ∀ os', q os' → WP X Z rc rs Q pc' L S os' (ce + rm.cells) (sl + rm.slots)) (hlen : ([x1] : List Value).length = ps.length := by rfl) (hsz : L.length = maxL := by rfl) (hf : rm.frames + 1 ≤ R.frames := by decide) (hl : (S.map fun v => v.category).sum + (mx + 11) + rm.locals ≤ R.locals := by exact Nat.le_of_ble_eq_true rfl)
    (hc : ce + rm.cells ≤ R.cells := by decide) (hs : sl + rm.slots ≤ R.slots := by decide) (hy : z.cls ≠ "java/lang/invoke/MethodHandle" ∧ z.cls ≠ "java/lang/invoke/VarHandle" := by decide) (hp : pc + 3 = pc' := by rfl) : WP X Z rc rs Q pc L (x1 :: .ref b :: S) os ce sl :=
  W.callVn (argsL := [x1]) (S := S) K pc' hd w1 w2 w5 w6 w3 w4 hsig hrc hM k rfl hlen hsz hf hl hc hs hy hp
theorem W.callVn2 {idx mx : Nat} {z : MethodName} {bytes : ByteArray} {rt : Option FieldType} {C : String} {rm : Room} {ps : List FieldType} {rr : Option FieldType} {b : Addr} {x1 x2 : Value} {q : OS → Prop} (K : Ctx X l Z R y code maxL ret) (pc' : Nat) (hd : decode code pc = .ok (.invokevirtual idx, 3)) (w1 : (Jvm.Cond.methodLink y.cls idx z).before a0 Z = true) (w2 : (Jvm.Cond.declares z).before a0 Z = true) (w5 : (Jvm.Cond.selects C z z).before a0 Z = true) (w6 : (Jvm.Cond.instanceMethod z).before a0 Z = true) (w3 : (Jvm.Cond.initialized z.cls).before a0 Z = true) (w4 : (Jvm.Cond.code z bytes mx rt).before a0 Z = true)
    (hsig : parseMethodDescriptor z.desc = some ⟨ps, rr⟩) (hrc : ∀ h, Hp Z h os → Exa Z h b C) (hM : OMeets l Z z bytes mx rt rm [.ref b, x1, x2] os (RetN q)) (k : ∀ os', q os' → WP X Z rc rs Q pc' L S os' (ce + rm.cells) (sl + rm.slots)) (hlen : ([x1, x2] : List Value).length = ps.length := by rfl) (hsz : L.length = maxL := by rfl) (hf : rm.frames + 1 ≤ R.frames := by decide) (hl : (S.map fun v => v.category).sum + (mx + 11) + rm.locals ≤ R.locals := by exact Nat.le_of_ble_eq_true rfl)
    (hc : ce + rm.cells ≤ R.cells := by decide) (hs : sl + rm.slots ≤ R.slots := by decide) (hy : z.cls ≠ "java/lang/invoke/MethodHandle" ∧ z.cls ≠ "java/lang/invoke/VarHandle" := by decide) (hp : pc + 3 = pc' := by rfl) : WP X Z rc rs Q pc L (x2 :: x1 :: .ref b :: S) os ce sl :=
  W.callVn (argsL := [x1, x2]) (S := S) K pc' hd w1 w2 w5 w6 w3 w4 hsig hrc hM k rfl hlen hsz hf hl hc hs hy hp
theorem W.callVn3 {idx mx : Nat} {z : MethodName} {bytes : ByteArray} {rt : Option FieldType} {C : String} {rm : Room} {ps : List FieldType} {rr : Option FieldType} {b : Addr} {x1 x2 x3 : Value} {q : OS → Prop} (K : Ctx X l Z R y code maxL ret) (pc' : Nat) (hd : decode code pc = .ok (.invokevirtual idx, 3)) (w1 : (Jvm.Cond.methodLink y.cls idx z).before a0 Z = true) (w2 : (Jvm.Cond.declares z).before a0 Z = true) (w5 : (Jvm.Cond.selects C z z).before a0 Z = true) (w6 : (Jvm.Cond.instanceMethod z).before a0 Z = true) (w3 : (Jvm.Cond.initialized z.cls).before a0 Z = true) (w4 : (Jvm.Cond.code z bytes mx rt).before a0 Z = true)
    (hsig : parseMethodDescriptor z.desc = some ⟨ps, rr⟩) (hrc : ∀ h, Hp Z h os → Exa Z h b C) (hM : OMeets l Z z bytes mx rt rm [.ref b, x1, x2, x3] os (RetN q)) (k : ∀ os', q os' → WP X Z rc rs Q pc' L S os' (ce + rm.cells) (sl + rm.slots)) (hlen : ([x1, x2, x3] : List Value).length = ps.length := by rfl) (hsz : L.length = maxL := by rfl) (hf : rm.frames + 1 ≤ R.frames := by decide) (hl : (S.map fun v => v.category).sum + (mx + 11) + rm.locals ≤ R.locals := by exact Nat.le_of_ble_eq_true rfl)
    (hc : ce + rm.cells ≤ R.cells := by decide) (hs : sl + rm.slots ≤ R.slots := by decide) (hy : z.cls ≠ "java/lang/invoke/MethodHandle" ∧ z.cls ≠ "java/lang/invoke/VarHandle" := by decide) (hp : pc + 3 = pc' := by rfl) : WP X Z rc rs Q pc L (x3 :: x2 :: x1 :: .ref b :: S) os ce sl :=
  W.callVn (argsL := [x1, x2, x3]) (S := S) K pc' hd w1 w2 w5 w6 w3 w4 hsig hrc hM k rfl hlen hsz hf hl hc hs hy hp
theorem W.callVn4 {idx mx : Nat} {z : MethodName} {bytes : ByteArray} {rt : Option FieldType} {C : String} {rm : Room} {ps : List FieldType} {rr : Option FieldType} {b : Addr} {x1 x2 x3 x4 : Value} {q : OS → Prop} (K : Ctx X l Z R y code maxL ret) (pc' : Nat) (hd : decode code pc = .ok (.invokevirtual idx, 3)) (w1 : (Jvm.Cond.methodLink y.cls idx z).before a0 Z = true) (w2 : (Jvm.Cond.declares z).before a0 Z = true) (w5 : (Jvm.Cond.selects C z z).before a0 Z = true) (w6 : (Jvm.Cond.instanceMethod z).before a0 Z = true) (w3 : (Jvm.Cond.initialized z.cls).before a0 Z = true) (w4 : (Jvm.Cond.code z bytes mx rt).before a0 Z = true)
    (hsig : parseMethodDescriptor z.desc = some ⟨ps, rr⟩) (hrc : ∀ h, Hp Z h os → Exa Z h b C) (hM : OMeets l Z z bytes mx rt rm [.ref b, x1, x2, x3, x4] os (RetN q)) (k : ∀ os', q os' → WP X Z rc rs Q pc' L S os' (ce + rm.cells) (sl + rm.slots)) (hlen : ([x1, x2, x3, x4] : List Value).length = ps.length := by rfl) (hsz : L.length = maxL := by rfl) (hf : rm.frames + 1 ≤ R.frames := by decide) (hl : (S.map fun v => v.category).sum + (mx + 11) + rm.locals ≤ R.locals := by exact Nat.le_of_ble_eq_true rfl)
    (hc : ce + rm.cells ≤ R.cells := by decide) (hs : sl + rm.slots ≤ R.slots := by decide) (hy : z.cls ≠ "java/lang/invoke/MethodHandle" ∧ z.cls ≠ "java/lang/invoke/VarHandle" := by decide) (hp : pc + 3 = pc' := by rfl) : WP X Z rc rs Q pc L (x4 :: x3 :: x2 :: x1 :: .ref b :: S) os ce sl :=
  W.callVn (argsL := [x1, x2, x3, x4]) (S := S) K pc' hd w1 w2 w5 w6 w3 w4 hsig hrc hM k rfl hlen hsz hf hl hc hs hy hp
theorem W.callVn5 {idx mx : Nat} {z : MethodName} {bytes : ByteArray} {rt : Option FieldType} {C : String} {rm : Room} {ps : List FieldType} {rr : Option FieldType} {b : Addr} {x1 x2 x3 x4 x5 : Value} {q : OS → Prop} (K : Ctx X l Z R y code maxL ret) (pc' : Nat) (hd : decode code pc = .ok (.invokevirtual idx, 3)) (w1 : (Jvm.Cond.methodLink y.cls idx z).before a0 Z = true) (w2 : (Jvm.Cond.declares z).before a0 Z = true) (w5 : (Jvm.Cond.selects C z z).before a0 Z = true) (w6 : (Jvm.Cond.instanceMethod z).before a0 Z = true) (w3 : (Jvm.Cond.initialized z.cls).before a0 Z = true) (w4 : (Jvm.Cond.code z bytes mx rt).before a0 Z = true)
    (hsig : parseMethodDescriptor z.desc = some ⟨ps, rr⟩) (hrc : ∀ h, Hp Z h os → Exa Z h b C) (hM : OMeets l Z z bytes mx rt rm [.ref b, x1, x2, x3, x4, x5] os (RetN q)) (k : ∀ os', q os' → WP X Z rc rs Q pc' L S os' (ce + rm.cells) (sl + rm.slots)) (hlen : ([x1, x2, x3, x4, x5] : List Value).length = ps.length := by rfl) (hsz : L.length = maxL := by rfl) (hf : rm.frames + 1 ≤ R.frames := by decide) (hl : (S.map fun v => v.category).sum + (mx + 11) + rm.locals ≤ R.locals := by exact Nat.le_of_ble_eq_true rfl)
    (hc : ce + rm.cells ≤ R.cells := by decide) (hs : sl + rm.slots ≤ R.slots := by decide) (hy : z.cls ≠ "java/lang/invoke/MethodHandle" ∧ z.cls ≠ "java/lang/invoke/VarHandle" := by decide) (hp : pc + 3 = pc' := by rfl) : WP X Z rc rs Q pc L (x5 :: x4 :: x3 :: x2 :: x1 :: .ref b :: S) os ce sl :=
  W.callVn (argsL := [x1, x2, x3, x4, x5]) (S := S) K pc' hd w1 w2 w5 w6 w3 w4 hsig hrc hM k rfl hlen hsz hf hl hc hs hy hp
theorem W.callVn6 {idx mx : Nat} {z : MethodName} {bytes : ByteArray} {rt : Option FieldType} {C : String} {rm : Room} {ps : List FieldType} {rr : Option FieldType} {b : Addr} {x1 x2 x3 x4 x5 x6 : Value} {q : OS → Prop} (K : Ctx X l Z R y code maxL ret) (pc' : Nat) (hd : decode code pc = .ok (.invokevirtual idx, 3)) (w1 : (Jvm.Cond.methodLink y.cls idx z).before a0 Z = true) (w2 : (Jvm.Cond.declares z).before a0 Z = true) (w5 : (Jvm.Cond.selects C z z).before a0 Z = true) (w6 : (Jvm.Cond.instanceMethod z).before a0 Z = true) (w3 : (Jvm.Cond.initialized z.cls).before a0 Z = true) (w4 : (Jvm.Cond.code z bytes mx rt).before a0 Z = true)
    (hsig : parseMethodDescriptor z.desc = some ⟨ps, rr⟩) (hrc : ∀ h, Hp Z h os → Exa Z h b C) (hM : OMeets l Z z bytes mx rt rm [.ref b, x1, x2, x3, x4, x5, x6] os (RetN q)) (k : ∀ os', q os' → WP X Z rc rs Q pc' L S os' (ce + rm.cells) (sl + rm.slots)) (hlen : ([x1, x2, x3, x4, x5, x6] : List Value).length = ps.length := by rfl) (hsz : L.length = maxL := by rfl) (hf : rm.frames + 1 ≤ R.frames := by decide) (hl : (S.map fun v => v.category).sum + (mx + 11) + rm.locals ≤ R.locals := by exact Nat.le_of_ble_eq_true rfl)
    (hc : ce + rm.cells ≤ R.cells := by decide) (hs : sl + rm.slots ≤ R.slots := by decide) (hy : z.cls ≠ "java/lang/invoke/MethodHandle" ∧ z.cls ≠ "java/lang/invoke/VarHandle" := by decide) (hp : pc + 3 = pc' := by rfl) : WP X Z rc rs Q pc L (x6 :: x5 :: x4 :: x3 :: x2 :: x1 :: .ref b :: S) os ce sl :=
  W.callVn (argsL := [x1, x2, x3, x4, x5, x6]) (S := S) K pc' hd w1 w2 w5 w6 w3 w4 hsig hrc hM k rfl hlen hsz hf hl hc hs hy hp
theorem W.callVn7 {idx mx : Nat} {z : MethodName} {bytes : ByteArray} {rt : Option FieldType} {C : String} {rm : Room} {ps : List FieldType} {rr : Option FieldType} {b : Addr} {x1 x2 x3 x4 x5 x6 x7 : Value} {q : OS → Prop} (K : Ctx X l Z R y code maxL ret) (pc' : Nat) (hd : decode code pc = .ok (.invokevirtual idx, 3)) (w1 : (Jvm.Cond.methodLink y.cls idx z).before a0 Z = true) (w2 : (Jvm.Cond.declares z).before a0 Z = true) (w5 : (Jvm.Cond.selects C z z).before a0 Z = true) (w6 : (Jvm.Cond.instanceMethod z).before a0 Z = true) (w3 : (Jvm.Cond.initialized z.cls).before a0 Z = true) (w4 : (Jvm.Cond.code z bytes mx rt).before a0 Z = true)
    (hsig : parseMethodDescriptor z.desc = some ⟨ps, rr⟩) (hrc : ∀ h, Hp Z h os → Exa Z h b C) (hM : OMeets l Z z bytes mx rt rm [.ref b, x1, x2, x3, x4, x5, x6, x7] os (RetN q)) (k : ∀ os', q os' → WP X Z rc rs Q pc' L S os' (ce + rm.cells) (sl + rm.slots)) (hlen : ([x1, x2, x3, x4, x5, x6, x7] : List Value).length = ps.length := by rfl) (hsz : L.length = maxL := by rfl) (hf : rm.frames + 1 ≤ R.frames := by decide) (hl : (S.map fun v => v.category).sum + (mx + 11) + rm.locals ≤ R.locals := by exact Nat.le_of_ble_eq_true rfl)
    (hc : ce + rm.cells ≤ R.cells := by decide) (hs : sl + rm.slots ≤ R.slots := by decide) (hy : z.cls ≠ "java/lang/invoke/MethodHandle" ∧ z.cls ≠ "java/lang/invoke/VarHandle" := by decide) (hp : pc + 3 = pc' := by rfl) : WP X Z rc rs Q pc L (x7 :: x6 :: x5 :: x4 :: x3 :: x2 :: x1 :: .ref b :: S) os ce sl :=
  W.callVn (argsL := [x1, x2, x3, x4, x5, x6, x7]) (S := S) K pc' hd w1 w2 w5 w6 w3 w4 hsig hrc hM k rfl hlen hsz hf hl hc hs hy hp
theorem Rc.new {b : Addr} {C : String} {fs : List FV} (hm : (b, OBJ Z C fs) ∈ os) : ∀ h, Hp Z h os → Exa Z h b C := fun h H => by
  obtain ⟨-, c, hc, hO⟩ := H.get hm; exact hO.exa hc
theorem Rc.old {b : Addr} {C : String} (E : Exa Z Z.heap b C) : ∀ h, Hp Z h os → Exa Z h b C := fun h H => E.ext H.1
end Ops
end Jvm.OwnW
namespace Jvm.OwnW
open Sem ClassFile Op Lib Jvm.Stand Jvm.Free Jvm.LawKit Jvm.RoadKit
/-! arrays as functions -/
def AF {α : Type} (c : α → Value) (n : Nat) (F : Nat → α) : List Value := (List.range n).map fun i => c (F i)
def updA {α : Type} (F : Nat → α) (k : Nat) (v : α) : Nat → α := fun i => if i = k then v else F i
theorem updA_same {α : Type} (F : Nat → α) (k : Nat) (v : α) : updA F k v k = v := by simp [updA]
theorem updA_ne {α : Type} (F : Nat → α) {k i : Nat} (v : α) (h : i ≠ k) : updA F k v i = F i := by simp [updA, h]
theorem AF_len {α : Type} {c : α → Value} {n : Nat} {F : Nat → α} : (AF c n F).length = n := by simp [AF]
theorem AF_at {α : Type} {c : α → Value} {n : Nat} {F : Nat → α} {i : Nat} (h : i < n) : (AF c n F)[i]? = some (c (F i)) := by simp [AF, h]
theorem AF_out {α : Type} {c : α → Value} {n : Nat} {F : Nat → α} {i : Nat} (h : ¬ i < n) : (AF c n F)[i]? = none := by simp [AF]; omega
theorem AF_ext {α : Type} {c : α → Value} {n : Nat} {F G : Nat → α} (h : ∀ i, i < n → F i = G i) : AF c n F = AF c n G := by
  apply List.ext_getElem?
  intro i
  by_cases hi : i < n
  · rw [AF_at hi, AF_at hi, h i hi]
  · rw [AF_out hi, AF_out hi]
theorem AF_set {α : Type} {c : α → Value} {n : Nat} {F : Nat → α} {k : Nat} {v : α} : (AF c n F).set k (c v) = AF c n (updA F k v) := by
  apply List.ext_getElem?
  intro i
  rw [List.getElem?_set]
  by_cases hi : i < n
  · rw [AF_at hi, AF_at hi]
    by_cases e : k = i
    · subst e
      rw [if_pos rfl, if_pos (by rw [AF_len]; exact hi), updA_same]
    · rw [if_neg e, updA_ne _ _ (fun h => e h.symm)]
  · rw [AF_out hi, AF_out hi]
    split
    · rename_i e; subst e
      rw [if_neg (by rw [AF_len]; exact hi)]
    · rfl
theorem AF_rep {α : Type} {c : α → Value} {n : Nat} {v : α} : List.replicate n (c v) = AF c n (fun _ => v) := by
  apply List.ext_getElem?
  intro i
  by_cases hi : i < n
  · rw [AF_at hi]; simp [List.getElem?_replicate, hi]
  · rw [AF_out hi]; simp [List.getElem?_replicate, hi]
theorem AF_repI {n : Nat} : List.replicate n (defaultValue .int) = AF Value.int n (fun _ => 0) := AF_rep
theorem AF_repB {n : Nat} : List.replicate n (defaultValue .byte) = AF Value.int n (fun _ => 0) := AF_rep
theorem AF_repC {n : Nat} : List.replicate n (defaultValue .char) = AF Value.int n (fun _ => 0) := AF_rep
theorem AF_repJ {n : Nat} : List.replicate n (defaultValue .long) = AF Value.long n (fun _ => 0) := AF_rep
theorem AF_size {α : Type} {c : α → Value} {n : Nat} {F : Nat → α} {z : Int32} (h : z.toInt = (n : Int)) : (AF c n F).length.toInt32 = z := by
  rw [AF_len]
  apply Int32.toInt_inj.mp
  have h1 := rng32 z
  rw [len_toInt (by omega), h]
theorem toInt_add32 {x z : Int32} {a b : Int} (hx : x.toInt = a) (hz : z.toInt = b) (h1 : -2147483648 ≤ a + b) (h2 : a + b < 2147483648) : (x + z).toInt = a + b := by
  have q := c_iadd x z; have r := rng32 (x + z); omega
theorem toInt_sub32 {x z : Int32} {a b : Int} (hx : x.toInt = a) (hz : z.toInt = b) (h1 : -2147483648 ≤ a - b) (h2 : a - b < 2147483648) : (x - z).toInt = a - b := by
  have q := c_isub x z; have r := rng32 (x - z); omega
theorem toInt_add64 {x z : Int64} {a b : Int} (hx : x.toInt = a) (hz : z.toInt = b) (h1 : -9223372036854775808 ≤ a + b) (h2 : a + b < 9223372036854775808) : (x + z).toInt = a + b := by
  have q := c_ladd x z; have r := rng64 (x + z); omega
theorem toInt_sub64 {x z : Int64} {a b : Int} (hx : x.toInt = a) (hz : z.toInt = b) (h1 : -9223372036854775808 ≤ a - b) (h2 : a - b < 9223372036854775808) : (x - z).toInt = a - b := by
  have q := c_lsub x z; have r := rng64 (x - z); omega
section Old
variable {X : Cx} {l : Launch} {Z : State} {R : Room} {y : MethodName} {code : ByteArray} {maxL : Nat} {ret : Option FieldType} {rc rs : Nat} {Q : Option Value → OS → Prop} {pc : Nat} {L : List Slot} {S : List Value} {os os' : OS} {ce sl : Nat} {a0 : Array Value}
/-- an array that stood at the start -/
theorem W.baloadO {a : Addr} {cl : Cell} {j : Int32} {v : Value} (i : Nat) (K : Ctx X l Z R y code maxL ret) (pc' : Nat) (hd : decode code pc = .ok (.baload, 1)) (A : Arr Z Z.heap a cl .byte) (hj : j.toInt = (i : Int)) (hv : cl.slots[i]? = some v) (k : WP X Z rc rs Q pc' L (v :: S) os ce sl) (hp : pc + 1 = pc' := by rfl) : WP X Z rc rs Q pc L (.int j :: .ref a :: S) os ce sl := by
  obtain ⟨p, l', e, R', s, m, args, below, meth, c⟩ := X
  obtain ⟨h1, h2, hx, hZ, hby, hml, hown, hnm, hret, hlk⟩ := K
  subst hp
  intro T locs hT0 hH hF
  have hT : Stand p l' e R' s m args below meth c T locs ce sl := hT0
  obtain ⟨s2, o, st, r⟩ := k T locs hT hH hF
  have A' := A.ext hH.1
  have e2 : j.toNatClampNeg = i := by show j.toInt.toNat = i; rw [hj]; rfl
  have hlt := (Array.getElem?_eq_some_iff.mp hv).1
  have e1 : ¬ (j < 0 ∨ cl.slots.size ≤ j.toNatClampNeg) := by
    rw [Int32.lt_iff_toInt_lt, e2, hj]
    intro q
    rcases q with q | q
    · exact absurd q (Int.not_lt.mpr (Int.natCast_nonneg i))
    · omega
  exact ⟨s2, o, Stand.baloadBytes hT hx A'.1 (State.isArrayOf_alike hZ.alike A'.2.1) A'.2.2 e1 (by rw [e2]; exact hv) (g := mkF m pc L.toArray (.int j :: .ref a :: S)) rfl rfl (hb hby hd) _ st, r⟩
end Old
end Jvm.OwnW
namespace Jvm.OwnW
open Sem ClassFile Op Lib Jvm.Stand Jvm.Free Jvm.LawKit Jvm.RoadKit
section Copy
variable {X : Cx} {l : Launch} {Z : State} {R : Room} {y : MethodName} {code : ByteArray} {maxL : Nat} {ret : Option FieldType} {rc rs : Nat} {Q : Option Value → OS → Prop} {pc : Nat} {L : List Slot} {S : List Value} {os os' : OS} {ce sl : Nat} {a0 : Array Value}
theorem W.dupX2 {x u v : Value} (K : Ctx X l Z R y code maxL ret) (pc' : Nat) (hd : decode code pc = .ok (.dup_x2, 1)) (k : WP X Z rc rs Q pc' L (x :: u :: v :: x :: S) os ce sl) (hc : x.category = 1 := by rfl) (hc2 : u.category = 1 := by rfl) (hc3 : v.category = 1 := by rfl) (hp : pc + 1 = pc' := by rfl) : WP X Z rc rs Q pc L (x :: u :: v :: S) os ce sl := by
  obtain ⟨p, l', e, R', s, m, args, below, meth, c⟩ := X
  obtain ⟨h1, h2, hx, hZ, hby, hml, hown, hnm, hret, hlk⟩ := K
  subst hp
  intro T locs hT0 hH hF
  have hT : Stand p l' e R' s m args below meth c T locs ce sl := hT0
  obtain ⟨s2, o, st, r⟩ := k T locs hT hH hF
  refine ⟨s2, o, ?_, r⟩
  have hX := Stand.here hT
  have hdg := hb hby hd
  jvm_step hX [hX.top, hx, hdg, hc, hc2, hc3]
  exact st
theorem Hp.keepAt {h h' : Heap} {b : Addr} {P P' : Cell → Prop} {i : Nat} {c' : Cell} (H : Hp Z h os) (hi : os[i]? = some (b, P)) (Kp : Keep h h' [b]) (hc : h'[b]? = some c') (hP : P' c') : Hp Z h' (os.set i (b, P')) := by
  obtain ⟨hb, cb, hcb, -⟩ := H.2.2 i _ hi
  refine ⟨⟨Nat.le_trans H.1.1 Kp.1, fun x cx hx => ?_⟩, ?_, fun k x hx => ?_⟩
  · refine Kp.2.1 x cx (H.1.2 x cx hx) (fun q => ?_)
    have e := List.mem_singleton.mp q
    rw [e] at hx
    exact absurd (Array.getElem?_eq_some_iff.mp hx).1 (Nat.not_lt.mpr hb)
  · have e : (os.set i (b, P')).map Prod.fst = os.map Prod.fst := by
      apply List.ext_getElem?
      intro k
      simp only [List.getElem?_map, List.getElem?_set]
      split
      · rename_i e; subst e
        rw [if_pos (List.getElem?_eq_some_iff.mp hi).1, hi]; rfl
      · rfl
    rw [e]; exact H.2.1
  · rw [List.getElem?_set] at hx
    split at hx
    · rename_i e; subst e
      split at hx
      · cases hx; exact ⟨hb, c', hc, hP⟩
      · cases hx
    · rename_i hne
      obtain ⟨g1, cx, g2, g3⟩ := H.2.2 k x hx
      have ne : x.1 ≠ b := H.ne (i := k) (j := i) (P := x.2) hx hi (fun e => hne e.symm)
      exact ⟨g1, cx, Kp.2.1 _ _ g2 (fun q => ne (List.mem_singleton.mp q)), g3⟩
theorem ARR.arv {h : Heap} {a : Addr} {c : Cell} {ty : FieldType} {vs : List Value} (hc : h[a]? = some c) (q : ARR Z ty vs c) : Arv Z h a c.cls ty vs.length.toInt32 vs .null := by
  obtain ⟨q1, q2, q3, q4, q5⟩ := q
  have e : vs.length.toInt32.toInt = (vs.length : Int) := len_toInt q5
  have e2 : vs.length.toInt32.toNatClampNeg = vs.length := by show (vs.length.toInt32.toInt).toNat = _; rw [e]; rfl
  have hs : c.slots.size = vs.length := by rw [q3]; simp
  refine ⟨c, ⟨hc, q1, q2⟩, rfl, by rw [e2, hs], by rw [Int32.lt_iff_toInt_lt, e]; exact Int.not_lt.mpr (Int.natCast_nonneg _), fun k hk => ?_, fun i hi => ?_⟩
  · rw [hs] at hk
    rw [q3]; simp [List.getElem?_eq_getElem hk]
  · rw [hs] at hi
    refine q4 _ ?_
    rw [List.getD_eq_getElem?_getD, List.getElem?_eq_getElem hi]
    exact List.getElem_mem hi
theorem W.arraycopy {a b : Addr} {vs vd : List Value} {ty : FieldType} {sp dp nn : Int32} {idx : Nat} (i j n : Nat) (K : Ctx X l Z R y code maxL ret) (pc' : Nat) (hd : decode code pc = .ok (.invokestatic idx, 3)) (w1 : (Jvm.Cond.methodLink y.cls idx Jvm.Stand.acN).before a0 Z = true) (w2 : (Jvm.Cond.native Jvm.Stand.acN).before a0 Z = true) (w3 : (Jvm.Cond.static Jvm.Stand.acN).before a0 Z = true) (w4 : (Jvm.Cond.initialized "java/lang/System").before a0 Z = true)
    (hm : (a, ARR Z ty vs) ∈ os) (hu : Upd os b (ARR Z ty vd) (ARR Z ty (vd.take j ++ (vs.drop i).take n ++ vd.drop (j + n))) os') (hsp : sp.toInt = (i : Int)) (hdp : dp.toInt = (j : Int)) (hnn : nn.toInt = (n : Int)) (h4 : i + n ≤ vs.length) (h5 : j + n ≤ vd.length) (hty : refKind ty = false)
    (k : WP X Z rc rs Q pc' L S os' ce sl) (hsz : L.length = maxL := by rfl) (hf : 1 ≤ R.frames := by decide) (hlo : (S.map fun v => v.category).sum + (nativeFrameWords "java/lang/System" "arraycopy" 5 + 11) ≤ R.locals := by exact Nat.le_of_ble_eq_true rfl) (hp : pc + 3 = pc' := by rfl) : WP X Z rc rs Q pc L (.int nn :: .int dp :: .ref b :: .int sp :: .ref a :: S) os ce sl := by
  obtain ⟨p, l', e, R', s, m, args, below, meth, c⟩ := X
  obtain ⟨h1, h2, hx, hZ, hby, hml, hown, hnm, hret, hlk⟩ := K
  have h2' : R' = R := h2
  subst h2'
  subst hp
  intro T locs hT0 hH hF
  have hT : Stand p l' e R' s m args below meth c T locs ce sl := hT0
  obtain ⟨ii, hi, rfl⟩ := hu
  obtain ⟨hbn, cd, hcd, qd⟩ := hH.2.2 ii _ hi
  obtain ⟨-, cs, hcs, qs⟩ := hH.get hm
  have nat : ∀ {x : Int32} {z : Nat}, x.toInt = (z : Int) → x.toNatClampNeg = z := fun {x z} h => by show x.toInt.toNat = z; rw [h]; rfl
  have neg : ∀ {x : Int32} {z : Nat}, x.toInt = (z : Int) → ¬ x < 0 := fun {x z} h => by rw [Int32.lt_iff_toInt_lt, h]; exact Int.not_lt.mpr (Int.natCast_nonneg z)
  have n1 := nat hsp; have n2 := nat hdp; have n3 := nat hnn
  have v1 : vs.length.toInt32.toNatClampNeg = vs.length := nat (len_toInt qs.2.2.2.2)
  have v2 : vd.length.toInt32.toNatClampNeg = vd.length := nat (len_toInt qd.2.2.2.2)
  have hus : (vs.drop i).take n = (List.range nn.toNatClampNeg).map fun q => vs.getD (sp.toNatClampNeg + q) .null := by
    rw [n1, n3]
    apply List.ext_getElem?
    intro q
    by_cases hq : q < n
    · rw [List.getElem?_take, if_pos hq, List.getElem?_drop]
      have hlt : i + q < vs.length := by omega
      simp [hq, List.getElem?_eq_getElem hlt]
    · rw [List.getElem?_take, if_neg hq]
      simp [hq]
  obtain ⟨T', h', L', X', e', N', K', A', st'⟩ := cpA hT hx hZ hown w1 w2 w3 w4 rfl (ARR.arv hcs qs) (ARR.arv hcd qd) (us := (vs.drop i).take n) (Or.inl ⟨rfl, hty⟩) (neg hsp) (neg hdp) (neg hnn) (by rw [n1, n3, v1]; exact h4) (by rw [n2, n3, v2]; exact h5) hus (by rw [n2, n3]; exact h5) hF hbn
    (g := mkF m pc L.toArray (.int nn :: .int dp :: .ref b :: .int sp :: .ref a :: S)) rfl (by rw [hml]; simpa using hsz) rfl (hb hby hd) hf (W := (S.map fun v => v.category).sum) (by show 2 * 0 + _ ≤ _; omega) hlo
  rw [n2, n3] at A'
  obtain ⟨c', B1, -, B3, -, B5, B6⟩ := A'
  have hlen : (vd.take j ++ (vs.drop i).take n ++ vd.drop (j + n)).length = vd.length := by simp; omega
  rw [v2] at B3
  have hA : ARR Z ty (vd.take j ++ (vs.drop i).take n ++ vd.drop (j + n)) c' := by
    generalize vd.take j ++ (vs.drop i).take n ++ vd.drop (j + n) = nv at *
    refine ⟨B1.2.1, B1.2.2, ?_, fun v hv => ?_, by rw [hlen]; exact qd.2.2.2.2⟩
    · apply Array.ext_getElem?
      intro q
      by_cases hq : q < c'.slots.size
      · rw [B5 q hq]
        have hq2 : q < nv.length := by omega
        simp [List.getElem?_eq_getElem hq2]
      · have hq2 : ¬ q < nv.length := by omega
        rw [Array.getElem?_eq_none (by omega)]
        simp; omega
    · obtain ⟨q, hq⟩ := List.getElem?_of_mem hv
      have hlt := (List.getElem?_eq_some_iff.mp hq).1
      have g := B6 q (by omega)
      rw [List.getD_eq_getElem?_getD, hq] at g
      exact g
  obtain ⟨s2, o, st, r⟩ := k T' L' X' (by rw [e']; exact hH.keepAt hi K' B1.1 hA) N'
  exact ⟨s2, o, st' _ st, r⟩
theorem AF_copy {α : Type} {cc : α → Value} {n k : Nat} {F G : Nat → α} (h : k ≤ n) : (AF cc k G).take 0 ++ ((AF cc n F).drop 0).take k ++ (AF cc k G).drop (0 + k) = AF cc k F := by
  have e1 : (AF cc k G).drop (0 + k) = [] := by rw [Nat.zero_add]; exact List.drop_eq_nil_of_le (by rw [AF_len]; exact Nat.le_refl _)
  rw [e1, List.append_nil, List.take_zero, List.nil_append, List.drop_zero]
  apply List.ext_getElem?
  intro i
  rw [List.getElem?_take]
  by_cases hi : i < k
  · rw [if_pos hi, AF_at (by omega), AF_at hi]
  · rw [if_neg hi, AF_out hi]
end Copy
end Jvm.OwnW
namespace Jvm.OwnW
open Sem ClassFile Op Lib Jvm.Stand Jvm.Free Jvm.LawKit Jvm.RoadKit
section Inst
variable {X : Cx} {l : Launch} {Z : State} {R : Room} {y : MethodName} {code : ByteArray} {maxL : Nat} {ret : Option FieldType} {rc rs : Nat} {Q : Option Value → OS → Prop} {pc : Nat} {L : List Slot} {S : List Value} {os os' : OS} {ce sl : Nat} {a0 : Array Value}
theorem W.instY {a : Addr} {C : String} {idx : Nat} (K : Ctx X l Z R y code maxL ret) (pc' : Nat) (hd : decode code pc = .ok (.instanceof idx, 3)) (w : (Jvm.Cond.classLink y.cls idx C).before a0 Z = true) (hE : ∀ h, Hp Z h os → Exa Z h a C) (k : WP X Z rc rs Q pc' L (.int 1 :: S) os ce sl) (hp : pc + 3 = pc' := by rfl) : WP X Z rc rs Q pc L (.ref a :: S) os ce sl := by
  obtain ⟨p, l', e, R', s, m, args, below, meth, c⟩ := X
  obtain ⟨h1, h2, hx, hZ, hby, hml, hown, hnm, hret, hlk⟩ := K
  subst hp
  intro T locs hT0 hH hF
  have hT : Stand p l' e R' s m args below meth c T locs ce sl := hT0
  obtain ⟨T', X', e', st'⟩ := RoadKit.instY hT hx hZ hown w rfl (Ins.self (hE _ hH)) (g := mkF m pc L.toArray (.ref a :: S)) rfl rfl (hb hby hd)
  obtain ⟨s2, o, st, r⟩ := k T' locs X' (by rw [e']; exact hH) hF
  exact ⟨s2, o, st' _ st, r⟩
theorem W.castY {a : Addr} {C : String} {idx : Nat} (K : Ctx X l Z R y code maxL ret) (pc' : Nat) (hd : decode code pc = .ok (.checkcast idx, 3)) (w : (Jvm.Cond.classLink y.cls idx C).before a0 Z = true) (hE : ∀ h, Hp Z h os → Exa Z h a C) (k : WP X Z rc rs Q pc' L (.ref a :: S) os ce sl) (hp : pc + 3 = pc' := by rfl) : WP X Z rc rs Q pc L (.ref a :: S) os ce sl := by
  obtain ⟨p, l', e, R', s, m, args, below, meth, c⟩ := X
  obtain ⟨h1, h2, hx, hZ, hby, hml, hown, hnm, hret, hlk⟩ := K
  subst hp
  intro T locs hT0 hH hF
  have hT : Stand p l' e R' s m args below meth c T locs ce sl := hT0
  obtain ⟨T', X', e', st'⟩ := RoadKit.castY hT hx hZ hown w rfl (Ins.self (hE _ hH)) (g := mkF m pc L.toArray (.ref a :: S)) rfl rfl (hb hby hd)
  obtain ⟨s2, o, st, r⟩ := k T' locs X' (by rw [e']; exact hH) hF
  exact ⟨s2, o, st' _ st, r⟩
theorem W.instNo {a : Addr} {C C' : String} {idx : Nat} (K : Ctx X l Z R y code maxL ret) (pc' : Nat) (hd : decode code pc = .ok (.instanceof idx, 3)) (w : (Jvm.Cond.classLink y.cls idx C').before a0 Z = true) (hE : ∀ h, Hp Z h os → Exa Z h a C) (hN : ∃ c t, Z.vm.findClass C = some c ∧ Z.vm.findClass C' = some t ∧ Z.vm.assignable c t = false) (k : WP X Z rc rs Q pc' L (.int 0 :: S) os ce sl) (hp : pc + 3 = pc' := by rfl) : WP X Z rc rs Q pc L (.ref a :: S) os ce sl := by
  obtain ⟨p, l', e, R', s, m, args, below, meth, c⟩ := X
  obtain ⟨h1, h2, hx, hZ, hby, hml, hown, hnm, hret, hlk⟩ := K
  subst hp
  intro T locs hT0 hH hF
  have hT : Stand p l' e R' s m args below meth c T locs ce sl := hT0
  obtain ⟨T', X', e', st'⟩ := RoadKit.instNo hT hx hZ hown w rfl (hE _ hH) hN (g := mkF m pc L.toArray (.ref a :: S)) rfl rfl (hb hby hd)
  obtain ⟨s2, o, st, r⟩ := k T' locs X' (by rw [e']; exact hH) hF
  exact ⟨s2, o, st' _ st, r⟩
theorem W.instNull {idx : Nat} (K : Ctx X l Z R y code maxL ret) (pc' : Nat) (hd : decode code pc = .ok (.instanceof idx, 3)) (k : WP X Z rc rs Q pc' L (.int 0 :: S) os ce sl) (hp : pc + 3 = pc' := by rfl) : WP X Z rc rs Q pc L (.null :: S) os ce sl := by
  obtain ⟨p, l', e, R', s, m, args, below, meth, c⟩ := X
  obtain ⟨h1, h2, hx, hZ, hby, hml, hown, hnm, hret, hlk⟩ := K
  subst hp
  intro T locs hT0 hH hF
  have hT : Stand p l' e R' s m args below meth c T locs ce sl := hT0
  obtain ⟨s2, o, st, r⟩ := k T locs hT hH hF
  exact ⟨s2, o, Jvm.Stand.instanceofNull hT hx (g := mkF m pc L.toArray (.null :: S)) rfl rfl (hb hby hd) _ st, r⟩
theorem W.aaloadO {a : Addr} {cl : Cell} {ty : FieldType} {j : Int32} {v : Value} (i : Nat) (K : Ctx X l Z R y code maxL ret) (pc' : Nat) (hd : decode code pc = .ok (.aaload, 1)) (A : Arr Z Z.heap a cl ty) (hty : ty.isReference = true) (hj : j.toInt = (i : Int)) (hv : cl.slots[i]? = some v) (k : WP X Z rc rs Q pc' L (v :: S) os ce sl) (hp : pc + 1 = pc' := by rfl) : WP X Z rc rs Q pc L (.int j :: .ref a :: S) os ce sl := by
  obtain ⟨p, l', e, R', s, m, args, below, meth, c⟩ := X
  obtain ⟨h1, h2, hx, hZ, hby, hml, hown, hnm, hret, hlk⟩ := K
  subst hp
  intro T locs hT0 hH hF
  have hT : Stand p l' e R' s m args below meth c T locs ce sl := hT0
  obtain ⟨s2, o, st, r⟩ := k T locs hT hH hF
  have A' := A.ext hH.1
  have e2 : j.toNatClampNeg = i := by show j.toInt.toNat = i; rw [hj]; rfl
  have hlt := (Array.getElem?_eq_some_iff.mp hv).1
  have e1 : ¬ (j < 0 ∨ cl.slots.size ≤ j.toNatClampNeg) := by
    rw [Int32.lt_iff_toInt_lt, e2, hj]
    intro q
    rcases q with q | q
    · exact absurd q (Int.not_lt.mpr (Int.natCast_nonneg i))
    · omega
  exact ⟨s2, o, Stand.aaload hT hx A'.1 (State.isArrayOf_alike hZ.alike A'.2.1) hty A'.2.2 e1 (by rw [e2]; exact hv) (g := mkF m pc L.toArray (.int j :: .ref a :: S)) rfl rfl (hb hby hd) _ st, r⟩
end Inst
end Jvm.OwnW
namespace Jvm.Pilot.@@N@@
open Jvm Jvm.ClassFile Sem Op Lib Jvm.Free Jvm.Stand Jvm.LawKit Jvm.RoadKit Bundle Jvm.OwnW Jvm.Pilot.@@N@@.Jvm.D
theorem pn_0 : plainFor x = true := plainFor_of_name (show plainName "com/example/registrar/registrar/model/BuilderAddPinLaw" = true by first | (simp [plainName, overriddenIn]; done) | decide +kernel)
theorem pd_0 : parseMethodDescriptor "(IIII)Z" = some ⟨[.int, .int, .int, .int], some .boolean⟩ := by decide +kernel
theorem d1_0 : decode method_3_code 0 = .ok (.iload_n 0, 1) := by decide +kernel
theorem d1_1 : decode method_3_code 1 = .ok (.bipush 16, 2) := by decide +kernel
theorem d1_3 : decode method_3_code 3 = .ok (.iushr, 1) := by decide +kernel
theorem d1_4 : decode method_3_code 4 = .ok (.iload_n 0, 1) := by decide +kernel
theorem d1_5 : decode method_3_code 5 = .ok (.ldc 16, 2) := by decide +kernel
theorem d1_7 : decode method_3_code 7 = .ok (.iand, 1) := by decide +kernel
theorem d1_8 : decode method_3_code 8 = .ok (.invokestatic 38, 3) := by decide +kernel
theorem d1_11 : decode method_3_code 11 = .ok (.i2c, 1) := by decide +kernel
theorem d1_12 : decode method_3_code 12 = .ok (.ireturn, 1) := by decide +kernel
theorem pn_1 : plainFor (⟨"com/example/registrar/registrar/model/BuilderAddPinLaw", "lo", "(I)C"⟩ : MethodName) = true := plainFor_of_name (show plainName "com/example/registrar/registrar/model/BuilderAddPinLaw" = true by first | (simp [plainName, overriddenIn]; done) | decide +kernel)
theorem pd_1 : parseMethodDescriptor "(I)C" = some ⟨[.int], some .char⟩ := by decide +kernel
theorem d2_0 : decode jdk_29_method_69_code 0 = .ok (.iload_n 0, 1) := by decide +kernel
theorem d2_1 : decode jdk_29_method_69_code 1 = .ok (.iload_n 1, 1) := by decide +kernel
theorem d2_2 : decode jdk_29_method_69_code 2 = .ok (.if_icmp .gt 7, 3) := by decide +kernel
theorem d2_5 : decode jdk_29_method_69_code 5 = .ok (.iload_n 0, 1) := by decide +kernel
theorem d2_6 : decode jdk_29_method_69_code 6 = .ok (.goto 4, 3) := by decide +kernel
theorem d2_9 : decode jdk_29_method_69_code 9 = .ok (.iload_n 1, 1) := by decide +kernel
theorem d2_10 : decode jdk_29_method_69_code 10 = .ok (.ireturn, 1) := by decide +kernel
theorem pn_2 : plainFor (⟨"java/lang/Math", "min", "(II)I"⟩ : MethodName) = true := Jvm.Free.JP.mathPlain rfl (by decide +kernel)
theorem pd_2 : parseMethodDescriptor "(II)I" = some ⟨[.int, .int], some .int⟩ := by decide +kernel
theorem d3_0 : decode method_4_code 0 = .ok (.iload_n 0, 1) := by decide +kernel
theorem d3_1 : decode method_4_code 1 = .ok (.bipush 16, 2) := by decide +kernel
theorem d3_3 : decode method_4_code 3 = .ok (.iushr, 1) := by decide +kernel
theorem d3_4 : decode method_4_code 4 = .ok (.iload_n 0, 1) := by decide +kernel
theorem d3_5 : decode method_4_code 5 = .ok (.ldc 16, 2) := by decide +kernel
theorem d3_7 : decode method_4_code 7 = .ok (.iand, 1) := by decide +kernel
theorem d3_8 : decode method_4_code 8 = .ok (.invokestatic 44, 3) := by decide +kernel
theorem d3_11 : decode method_4_code 11 = .ok (.i2c, 1) := by decide +kernel
theorem d3_12 : decode method_4_code 12 = .ok (.ireturn, 1) := by decide +kernel
theorem pn_3 : plainFor (⟨"com/example/registrar/registrar/model/BuilderAddPinLaw", "hi", "(I)C"⟩ : MethodName) = true := plainFor_of_name (show plainName "com/example/registrar/registrar/model/BuilderAddPinLaw" = true by first | (simp [plainName, overriddenIn]; done) | decide +kernel)
theorem pd_3 : parseMethodDescriptor "(I)C" = some ⟨[.int], some .char⟩ := by decide +kernel
theorem d4_0 : decode jdk_29_method_65_code 0 = .ok (.iload_n 0, 1) := by decide +kernel
theorem d4_1 : decode jdk_29_method_65_code 1 = .ok (.iload_n 1, 1) := by decide +kernel
theorem d4_2 : decode jdk_29_method_65_code 2 = .ok (.if_icmp .lt 7, 3) := by decide +kernel
theorem d4_5 : decode jdk_29_method_65_code 5 = .ok (.iload_n 0, 1) := by decide +kernel
theorem d4_6 : decode jdk_29_method_65_code 6 = .ok (.goto 4, 3) := by decide +kernel
theorem d4_9 : decode jdk_29_method_65_code 9 = .ok (.iload_n 1, 1) := by decide +kernel
theorem d4_10 : decode jdk_29_method_65_code 10 = .ok (.ireturn, 1) := by decide +kernel
theorem pn_4 : plainFor (⟨"java/lang/Math", "max", "(II)I"⟩ : MethodName) = true := Jvm.Free.JP.mathPlain rfl (by decide +kernel)
theorem pd_4 : parseMethodDescriptor "(II)I" = some ⟨[.int, .int], some .int⟩ := by decide +kernel
theorem d5_0 : decode prog_6_method_1_code 0 = .ok (.aload_n 0, 1) := by decide +kernel
theorem d5_1 : decode prog_6_method_1_code 1 = .ok (.invokespecial 1, 3) := by decide +kernel
theorem d5_4 : decode prog_6_method_1_code 4 = .ok (.aload_n 0, 1) := by decide +kernel
theorem d5_5 : decode prog_6_method_1_code 5 = .ok (.bipush 8, 2) := by decide +kernel
theorem d5_7 : decode prog_6_method_1_code 7 = .ok (.newarray .long, 2) := by decide +kernel
theorem d5_9 : decode prog_6_method_1_code 9 = .ok (.putfield 7, 3) := by decide +kernel
theorem d5_12 : decode prog_6_method_1_code 12 = .ok (.return_, 1) := by decide +kernel
theorem pn_5 : plainFor (⟨"com/example/registrar/registrar/model/CodeUnits$Builder", "<init>", "()V"⟩ : MethodName) = true := plainFor_of_name (show plainName "com/example/registrar/registrar/model/CodeUnits$Builder" = true by first | (simp [plainName, overriddenIn]; done) | decide +kernel)
theorem pd_5 : parseMethodDescriptor "()V" = some ⟨[], none⟩ := by decide +kernel
theorem d7_0 : decode prog_6_method_2_code 0 = .ok (.aload_n 0, 1) := by decide +kernel
theorem d7_1 : decode prog_6_method_2_code 1 = .ok (.getfield 13, 3) := by decide +kernel
theorem d7_4 : decode prog_6_method_2_code 4 = .ok (.aload_n 0, 1) := by decide +kernel
theorem d7_5 : decode prog_6_method_2_code 5 = .ok (.getfield 7, 3) := by decide +kernel
theorem d7_8 : decode prog_6_method_2_code 8 = .ok (.arraylength, 1) := by decide +kernel
theorem d7_9 : decode prog_6_method_2_code 9 = .ok (.if_icmp .ne 20, 3) := by decide +kernel
theorem d7_12 : decode prog_6_method_2_code 12 = .ok (.aload_n 0, 1) := by decide +kernel
theorem d7_13 : decode prog_6_method_2_code 13 = .ok (.aload_n 0, 1) := by decide +kernel
theorem d7_14 : decode prog_6_method_2_code 14 = .ok (.getfield 7, 3) := by decide +kernel
theorem d7_17 : decode prog_6_method_2_code 17 = .ok (.iconst 2, 1) := by decide +kernel
theorem d7_18 : decode prog_6_method_2_code 18 = .ok (.aload_n 0, 1) := by decide +kernel
theorem d7_19 : decode prog_6_method_2_code 19 = .ok (.getfield 13, 3) := by decide +kernel
theorem d7_22 : decode prog_6_method_2_code 22 = .ok (.imul, 1) := by decide +kernel
theorem d7_23 : decode prog_6_method_2_code 23 = .ok (.invokestatic 17, 3) := by decide +kernel
theorem d7_26 : decode prog_6_method_2_code 26 = .ok (.putfield 7, 3) := by decide +kernel
theorem d7_29 : decode prog_6_method_2_code 29 = .ok (.aload_n 0, 1) := by decide +kernel
theorem d7_30 : decode prog_6_method_2_code 30 = .ok (.getfield 7, 3) := by decide +kernel
theorem d7_33 : decode prog_6_method_2_code 33 = .ok (.aload_n 0, 1) := by decide +kernel
theorem d7_34 : decode prog_6_method_2_code 34 = .ok (.dup, 1) := by decide +kernel
theorem d7_35 : decode prog_6_method_2_code 35 = .ok (.getfield 13, 3) := by decide +kernel
theorem d7_38 : decode prog_6_method_2_code 38 = .ok (.dup_x1, 1) := by decide +kernel
theorem d7_39 : decode prog_6_method_2_code 39 = .ok (.iconst 1, 1) := by decide +kernel
theorem d7_40 : decode prog_6_method_2_code 40 = .ok (.iadd, 1) := by decide +kernel
theorem d7_41 : decode prog_6_method_2_code 41 = .ok (.putfield 13, 3) := by decide +kernel
theorem d7_44 : decode prog_6_method_2_code 44 = .ok (.iload_n 1, 1) := by decide +kernel
theorem d7_45 : decode prog_6_method_2_code 45 = .ok (.i2l, 1) := by decide +kernel
theorem d7_46 : decode prog_6_method_2_code 46 = .ok (.bipush 16, 2) := by decide +kernel
theorem d7_48 : decode prog_6_method_2_code 48 = .ok (.lshl, 1) := by decide +kernel
theorem d7_49 : decode prog_6_method_2_code 49 = .ok (.iload_n 2, 1) := by decide +kernel
theorem d7_50 : decode prog_6_method_2_code 50 = .ok (.i2l, 1) := by decide +kernel
theorem d7_51 : decode prog_6_method_2_code 51 = .ok (.lor, 1) := by decide +kernel
theorem d7_52 : decode prog_6_method_2_code 52 = .ok (.lastore, 1) := by decide +kernel
theorem d7_53 : decode prog_6_method_2_code 53 = .ok (.aload_n 0, 1) := by decide +kernel
theorem d7_54 : decode prog_6_method_2_code 54 = .ok (.areturn, 1) := by decide +kernel
theorem pn_7 : plainFor (⟨"com/example/registrar/registrar/model/CodeUnits$Builder", "add", "(CC)Lcom/example/registrar/registrar/model/CodeUnits$Builder;"⟩ : MethodName) = true := plainFor_of_name (show plainName "com/example/registrar/registrar/model/CodeUnits$Builder" = true by first | (simp [plainName, overriddenIn]; done) | decide +kernel)
theorem pd_7 : parseMethodDescriptor "(CC)Lcom/example/registrar/registrar/model/CodeUnits$Builder;" = some ⟨[.char, .char], some (.object "com/example/registrar/registrar/model/CodeUnits$Builder")⟩ := by decide +kernel
theorem d8_0 : decode jdk_65_method_124_code 0 = .ok (.iload_n 1, 1) := by decide +kernel
theorem d8_1 : decode jdk_65_method_124_code 1 = .ok (.aload_n 0, 1) := by decide +kernel
theorem d8_2 : decode jdk_65_method_124_code 2 = .ok (.arraylength, 1) := by decide +kernel
theorem d8_3 : decode jdk_65_method_124_code 3 = .ok (.if_icmp .ne 11, 3) := by decide +kernel
theorem d8_14 : decode jdk_65_method_124_code 14 = .ok (.iload_n 1, 1) := by decide +kernel
theorem d8_15 : decode jdk_65_method_124_code 15 = .ok (.newarray .long, 2) := by decide +kernel
theorem d8_17 : decode jdk_65_method_124_code 17 = .ok (.astore_n 2, 1) := by decide +kernel
theorem d8_18 : decode jdk_65_method_124_code 18 = .ok (.aload_n 0, 1) := by decide +kernel
theorem d8_19 : decode jdk_65_method_124_code 19 = .ok (.iconst 0, 1) := by decide +kernel
theorem d8_20 : decode jdk_65_method_124_code 20 = .ok (.aload_n 2, 1) := by decide +kernel
theorem d8_21 : decode jdk_65_method_124_code 21 = .ok (.iconst 0, 1) := by decide +kernel
theorem d8_22 : decode jdk_65_method_124_code 22 = .ok (.aload_n 0, 1) := by decide +kernel
theorem d8_23 : decode jdk_65_method_124_code 23 = .ok (.arraylength, 1) := by decide +kernel
theorem d8_24 : decode jdk_65_method_124_code 24 = .ok (.iload_n 1, 1) := by decide +kernel
theorem d8_25 : decode jdk_65_method_124_code 25 = .ok (.invokestatic 304, 3) := by decide +kernel
theorem d8_28 : decode jdk_65_method_124_code 28 = .ok (.invokestatic 150, 3) := by decide +kernel
theorem d8_31 : decode jdk_65_method_124_code 31 = .ok (.aload_n 2, 1) := by decide +kernel
theorem d8_32 : decode jdk_65_method_124_code 32 = .ok (.areturn, 1) := by decide +kernel
theorem pn_8 : plainFor (⟨"java/util/Arrays", "copyOf", "([JI)[J"⟩ : MethodName) = true := plainFor_of_name (show plainName "java/util/Arrays" = true by first | (simp [plainName, overriddenIn]; done) | decide +kernel)
theorem pd_8 : parseMethodDescriptor "([JI)[J" = some ⟨[(.array .long), .int], some (.array .long)⟩ := by decide +kernel
theorem d9_0 : decode prog_6_method_4_code 0 = .ok (.aload_n 0, 1) := by decide +kernel
theorem d9_1 : decode prog_6_method_4_code 1 = .ok (.getfield 7, 3) := by decide +kernel
theorem d9_4 : decode prog_6_method_4_code 4 = .ok (.aload_n 0, 1) := by decide +kernel
theorem d9_5 : decode prog_6_method_4_code 5 = .ok (.getfield 13, 3) := by decide +kernel
theorem d9_8 : decode prog_6_method_4_code 8 = .ok (.invokestatic 17, 3) := by decide +kernel
theorem d9_11 : decode prog_6_method_4_code 11 = .ok (.astore_n 1, 1) := by decide +kernel
theorem d9_12 : decode prog_6_method_4_code 12 = .ok (.aload_n 1, 1) := by decide +kernel
theorem d9_13 : decode prog_6_method_4_code 13 = .ok (.invokestatic 35, 3) := by decide +kernel
theorem d9_16 : decode prog_6_method_4_code 16 = .ok (.iconst 2, 1) := by decide +kernel
theorem d9_17 : decode prog_6_method_4_code 17 = .ok (.aload_n 0, 1) := by decide +kernel
theorem d9_18 : decode prog_6_method_4_code 18 = .ok (.getfield 13, 3) := by decide +kernel
theorem d9_21 : decode prog_6_method_4_code 21 = .ok (.imul, 1) := by decide +kernel
theorem d9_22 : decode prog_6_method_4_code 22 = .ok (.newarray .char, 2) := by decide +kernel
theorem d9_24 : decode prog_6_method_4_code 24 = .ok (.astore_n 2, 1) := by decide +kernel
theorem d9_25 : decode prog_6_method_4_code 25 = .ok (.iconst 0, 1) := by decide +kernel
theorem d9_26 : decode prog_6_method_4_code 26 = .ok (.istore_n 3, 1) := by decide +kernel
theorem d9_27 : decode prog_6_method_4_code 27 = .ok (.aload_n 1, 1) := by decide +kernel
theorem d9_28 : decode prog_6_method_4_code 28 = .ok (.astore 4, 2) := by decide +kernel
theorem d9_30 : decode prog_6_method_4_code 30 = .ok (.aload 4, 2) := by decide +kernel
theorem d9_32 : decode prog_6_method_4_code 32 = .ok (.arraylength, 1) := by decide +kernel
theorem d9_33 : decode prog_6_method_4_code 33 = .ok (.istore 5, 2) := by decide +kernel
theorem d9_35 : decode prog_6_method_4_code 35 = .ok (.iconst 0, 1) := by decide +kernel
theorem d9_36 : decode prog_6_method_4_code 36 = .ok (.istore 6, 2) := by decide +kernel
theorem d9_38 : decode prog_6_method_4_code 38 = .ok (.iload 6, 2) := by decide +kernel
theorem d9_40 : decode prog_6_method_4_code 40 = .ok (.iload 5, 2) := by decide +kernel
theorem d9_42 : decode prog_6_method_4_code 42 = .ok (.if_icmp .ge 82, 3) := by decide +kernel
theorem d9_45 : decode prog_6_method_4_code 45 = .ok (.aload 4, 2) := by decide +kernel
theorem d9_47 : decode prog_6_method_4_code 47 = .ok (.iload 6, 2) := by decide +kernel
theorem d9_49 : decode prog_6_method_4_code 49 = .ok (.laload, 1) := by decide +kernel
theorem d9_50 : decode prog_6_method_4_code 50 = .ok (.lstore 7, 2) := by decide +kernel
theorem d9_52 : decode prog_6_method_4_code 52 = .ok (.lload 7, 2) := by decide +kernel
theorem d9_54 : decode prog_6_method_4_code 54 = .ok (.bipush 16, 2) := by decide +kernel
theorem d9_56 : decode prog_6_method_4_code 56 = .ok (.lushr, 1) := by decide +kernel
theorem d9_57 : decode prog_6_method_4_code 57 = .ok (.l2i, 1) := by decide +kernel
theorem d9_58 : decode prog_6_method_4_code 58 = .ok (.i2c, 1) := by decide +kernel
theorem d9_59 : decode prog_6_method_4_code 59 = .ok (.istore 9, 2) := by decide +kernel
theorem d9_61 : decode prog_6_method_4_code 61 = .ok (.lload 7, 2) := by decide +kernel
theorem d9_63 : decode prog_6_method_4_code 63 = .ok (.l2i, 1) := by decide +kernel
theorem d9_64 : decode prog_6_method_4_code 64 = .ok (.i2c, 1) := by decide +kernel
theorem d9_65 : decode prog_6_method_4_code 65 = .ok (.istore 10, 2) := by decide +kernel
theorem d9_67 : decode prog_6_method_4_code 67 = .ok (.iload_n 3, 1) := by decide +kernel
theorem d9_68 : decode prog_6_method_4_code 68 = .ok (.ifCond .le 34, 3) := by decide +kernel
theorem d9_71 : decode prog_6_method_4_code 71 = .ok (.iload 9, 2) := by decide +kernel
theorem d9_73 : decode prog_6_method_4_code 73 = .ok (.aload_n 2, 1) := by decide +kernel
theorem d9_74 : decode prog_6_method_4_code 74 = .ok (.iload_n 3, 1) := by decide +kernel
theorem d9_75 : decode prog_6_method_4_code 75 = .ok (.iconst 1, 1) := by decide +kernel
theorem d9_76 : decode prog_6_method_4_code 76 = .ok (.isub, 1) := by decide +kernel
theorem d9_77 : decode prog_6_method_4_code 77 = .ok (.caload, 1) := by decide +kernel
theorem d9_78 : decode prog_6_method_4_code 78 = .ok (.iconst 1, 1) := by decide +kernel
theorem d9_79 : decode prog_6_method_4_code 79 = .ok (.iadd, 1) := by decide +kernel
theorem d9_80 : decode prog_6_method_4_code 80 = .ok (.if_icmp .gt 22, 3) := by decide +kernel
theorem d9_83 : decode prog_6_method_4_code 83 = .ok (.aload_n 2, 1) := by decide +kernel
theorem d9_84 : decode prog_6_method_4_code 84 = .ok (.iload_n 3, 1) := by decide +kernel
theorem d9_85 : decode prog_6_method_4_code 85 = .ok (.iconst 1, 1) := by decide +kernel
theorem d9_86 : decode prog_6_method_4_code 86 = .ok (.isub, 1) := by decide +kernel
theorem d9_87 : decode prog_6_method_4_code 87 = .ok (.aload_n 2, 1) := by decide +kernel
theorem d9_88 : decode prog_6_method_4_code 88 = .ok (.iload_n 3, 1) := by decide +kernel
theorem d9_89 : decode prog_6_method_4_code 89 = .ok (.iconst 1, 1) := by decide +kernel
theorem d9_90 : decode prog_6_method_4_code 90 = .ok (.isub, 1) := by decide +kernel
theorem d9_91 : decode prog_6_method_4_code 91 = .ok (.caload, 1) := by decide +kernel
theorem d9_92 : decode prog_6_method_4_code 92 = .ok (.iload 10, 2) := by decide +kernel
theorem d9_94 : decode prog_6_method_4_code 94 = .ok (.invokestatic 39, 3) := by decide +kernel
theorem d9_97 : decode prog_6_method_4_code 97 = .ok (.i2c, 1) := by decide +kernel
theorem d9_98 : decode prog_6_method_4_code 98 = .ok (.castore, 1) := by decide +kernel
theorem d9_99 : decode prog_6_method_4_code 99 = .ok (.goto 19, 3) := by decide +kernel
theorem d9_102 : decode prog_6_method_4_code 102 = .ok (.aload_n 2, 1) := by decide +kernel
theorem d9_103 : decode prog_6_method_4_code 103 = .ok (.iload_n 3, 1) := by decide +kernel
theorem d9_104 : decode prog_6_method_4_code 104 = .ok (.iinc 3 1, 3) := by decide +kernel
theorem d9_107 : decode prog_6_method_4_code 107 = .ok (.iload 9, 2) := by decide +kernel
theorem d9_109 : decode prog_6_method_4_code 109 = .ok (.castore, 1) := by decide +kernel
theorem d9_110 : decode prog_6_method_4_code 110 = .ok (.aload_n 2, 1) := by decide +kernel
theorem d9_111 : decode prog_6_method_4_code 111 = .ok (.iload_n 3, 1) := by decide +kernel
theorem d9_112 : decode prog_6_method_4_code 112 = .ok (.iinc 3 1, 3) := by decide +kernel
theorem d9_115 : decode prog_6_method_4_code 115 = .ok (.iload 10, 2) := by decide +kernel
theorem d9_117 : decode prog_6_method_4_code 117 = .ok (.castore, 1) := by decide +kernel
theorem d9_118 : decode prog_6_method_4_code 118 = .ok (.iinc 6 1, 3) := by decide +kernel
theorem d9_121 : decode prog_6_method_4_code 121 = .ok (.goto (-83), 3) := by decide +kernel
theorem d9_124 : decode prog_6_method_4_code 124 = .ok (.new 26, 3) := by decide +kernel
theorem d9_127 : decode prog_6_method_4_code 127 = .ok (.dup, 1) := by decide +kernel
theorem d9_128 : decode prog_6_method_4_code 128 = .ok (.aload_n 2, 1) := by decide +kernel
theorem d9_129 : decode prog_6_method_4_code 129 = .ok (.iload_n 3, 1) := by decide +kernel
theorem d9_130 : decode prog_6_method_4_code 130 = .ok (.invokestatic 45, 3) := by decide +kernel
theorem d9_133 : decode prog_6_method_4_code 133 = .ok (.invokespecial 48, 3) := by decide +kernel
theorem d9_136 : decode prog_6_method_4_code 136 = .ok (.areturn, 1) := by decide +kernel
theorem pn_9 : plainFor (⟨"com/example/registrar/registrar/model/CodeUnits$Builder", "build", "()Lcom/example/registrar/registrar/model/CodeUnits;"⟩ : MethodName) = true := plainFor_of_name (show plainName "com/example/registrar/registrar/model/CodeUnits$Builder" = true by first | (simp [plainName, overriddenIn]; done) | decide +kernel)
theorem pd_9 : parseMethodDescriptor "()Lcom/example/registrar/registrar/model/CodeUnits;" = some ⟨[], some (.object "com/example/registrar/registrar/model/CodeUnits")⟩ := by decide +kernel
theorem d10_0 : decode jdk_65_method_4_code 0 = .ok (.aload_n 0, 1) := by decide +kernel
theorem d10_1 : decode jdk_65_method_4_code 1 = .ok (.iconst 0, 1) := by decide +kernel
theorem d10_2 : decode jdk_65_method_4_code 2 = .ok (.iconst 0, 1) := by decide +kernel
theorem d10_3 : decode jdk_65_method_4_code 3 = .ok (.aload_n 0, 1) := by decide +kernel
theorem d10_4 : decode jdk_65_method_4_code 4 = .ok (.arraylength, 1) := by decide +kernel
theorem d10_5 : decode jdk_65_method_4_code 5 = .ok (.invokestatic 19, 3) := by decide +kernel
theorem d10_8 : decode jdk_65_method_4_code 8 = .ok (.return_, 1) := by decide +kernel
theorem pn_10 : plainFor (⟨"java/util/Arrays", "sort", "([J)V"⟩ : MethodName) = true := plainFor_of_name (show plainName "java/util/Arrays" = true by first | (simp [plainName, overriddenIn]; done) | decide +kernel)
theorem pd_10 : parseMethodDescriptor "([J)V" = some ⟨[(.array .long)], none⟩ := by decide +kernel
theorem d11_0 : decode jdk_2529_method_12_code 0 = .ok (.iload_n 3, 1) := by decide +kernel
theorem d11_1 : decode jdk_2529_method_12_code 1 = .ok (.iload_n 2, 1) := by decide +kernel
theorem d11_2 : decode jdk_2529_method_12_code 2 = .ok (.isub, 1) := by decide +kernel
theorem d11_3 : decode jdk_2529_method_12_code 3 = .ok (.istore 4, 2) := by decide +kernel
theorem d11_5 : decode jdk_2529_method_12_code 5 = .ok (.iload_n 1, 1) := by decide +kernel
theorem d11_6 : decode jdk_2529_method_12_code 6 = .ok (.iconst 1, 1) := by decide +kernel
theorem d11_7 : decode jdk_2529_method_12_code 7 = .ok (.if_icmp .le 61, 3) := by decide +kernel
theorem d11_68 : decode jdk_2529_method_12_code 68 = .ok (.aconst_null, 1) := by decide +kernel
theorem d11_69 : decode jdk_2529_method_12_code 69 = .ok (.aload_n 0, 1) := by decide +kernel
theorem d11_70 : decode jdk_2529_method_12_code 70 = .ok (.iconst 0, 1) := by decide +kernel
theorem d11_71 : decode jdk_2529_method_12_code 71 = .ok (.iload_n 2, 1) := by decide +kernel
theorem d11_72 : decode jdk_2529_method_12_code 72 = .ok (.iload_n 3, 1) := by decide +kernel
theorem d11_73 : decode jdk_2529_method_12_code 73 = .ok (.invokestatic 99, 3) := by decide +kernel
theorem d11_76 : decode jdk_2529_method_12_code 76 = .ok (.return_, 1) := by decide +kernel
theorem pn_11 : plainFor (⟨"java/util/DualPivotQuicksort", "sort", "([JIII)V"⟩ : MethodName) = true := plainFor_of_name (show plainName "java/util/DualPivotQuicksort" = true by first | (simp [plainName, overriddenIn]; done) | decide +kernel)
theorem pd_11 : parseMethodDescriptor "([JIII)V" = some ⟨[(.array .long), .int, .int, .int], none⟩ := by decide +kernel
theorem d12_0 : decode jdk_2529_method_13_code 0 = .ok (.iload 4, 2) := by decide +kernel
theorem d12_2 : decode jdk_2529_method_13_code 2 = .ok (.iconst 1, 1) := by decide +kernel
theorem d12_3 : decode jdk_2529_method_13_code 3 = .ok (.isub, 1) := by decide +kernel
theorem d12_4 : decode jdk_2529_method_13_code 4 = .ok (.istore 5, 2) := by decide +kernel
theorem d12_6 : decode jdk_2529_method_13_code 6 = .ok (.iload 4, 2) := by decide +kernel
theorem d12_8 : decode jdk_2529_method_13_code 8 = .ok (.iload_n 3, 1) := by decide +kernel
theorem d12_9 : decode jdk_2529_method_13_code 9 = .ok (.isub, 1) := by decide +kernel
theorem d12_10 : decode jdk_2529_method_13_code 10 = .ok (.istore 6, 2) := by decide +kernel
theorem d12_12 : decode jdk_2529_method_13_code 12 = .ok (.iload 6, 2) := by decide +kernel
theorem d12_14 : decode jdk_2529_method_13_code 14 = .ok (.bipush 65, 2) := by decide +kernel
theorem d12_16 : decode jdk_2529_method_13_code 16 = .ok (.iload_n 2, 1) := by decide +kernel
theorem d12_17 : decode jdk_2529_method_13_code 17 = .ok (.iadd, 1) := by decide +kernel
theorem d12_18 : decode jdk_2529_method_13_code 18 = .ok (.if_icmp .ge 28, 3) := by decide +kernel
theorem d12_21 : decode jdk_2529_method_13_code 21 = .ok (.iload_n 2, 1) := by decide +kernel
theorem d12_22 : decode jdk_2529_method_13_code 22 = .ok (.iconst 1, 1) := by decide +kernel
theorem d12_23 : decode jdk_2529_method_13_code 23 = .ok (.iand, 1) := by decide +kernel
theorem d12_24 : decode jdk_2529_method_13_code 24 = .ok (.ifCond .le 22, 3) := by decide +kernel
theorem d12_46 : decode jdk_2529_method_13_code 46 = .ok (.iload 6, 2) := by decide +kernel
theorem d12_48 : decode jdk_2529_method_13_code 48 = .ok (.bipush 44, 2) := by decide +kernel
theorem d12_50 : decode jdk_2529_method_13_code 50 = .ok (.if_icmp .ge 11, 3) := by decide +kernel
theorem d12_53 : decode jdk_2529_method_13_code 53 = .ok (.aload_n 1, 1) := by decide +kernel
theorem d12_54 : decode jdk_2529_method_13_code 54 = .ok (.iload_n 3, 1) := by decide +kernel
theorem d12_55 : decode jdk_2529_method_13_code 55 = .ok (.iload 4, 2) := by decide +kernel
theorem d12_57 : decode jdk_2529_method_13_code 57 = .ok (.invokestatic 105, 3) := by decide +kernel
theorem d12_60 : decode jdk_2529_method_13_code 60 = .ok (.return_, 1) := by decide +kernel
theorem pn_12 : plainFor (⟨"java/util/DualPivotQuicksort", "sort", "(Ljava/util/DualPivotQuicksort$Sorter;[JIII)V"⟩ : MethodName) = true := plainFor_of_name (show plainName "java/util/DualPivotQuicksort" = true by first | (simp [plainName, overriddenIn]; done) | decide +kernel)
theorem pd_12 : parseMethodDescriptor "(Ljava/util/DualPivotQuicksort$Sorter;[JIII)V" = some ⟨[(.object "java/util/DualPivotQuicksort$Sorter"), (.array .long), .int, .int, .int], none⟩ := by decide +kernel
theorem d13_0 : decode jdk_2529_method_15_code 0 = .ok (.iload_n 1, 1) := by decide +kernel
theorem d13_1 : decode jdk_2529_method_15_code 1 = .ok (.istore 4, 2) := by decide +kernel
theorem d13_3 : decode jdk_2529_method_15_code 3 = .ok (.iinc 4 1, 3) := by decide +kernel
theorem d13_6 : decode jdk_2529_method_15_code 6 = .ok (.iload 4, 2) := by decide +kernel
theorem d13_8 : decode jdk_2529_method_15_code 8 = .ok (.iload_n 2, 1) := by decide +kernel
theorem d13_9 : decode jdk_2529_method_15_code 9 = .ok (.if_icmp .ge 60, 3) := by decide +kernel
theorem d13_12 : decode jdk_2529_method_15_code 12 = .ok (.aload_n 0, 1) := by decide +kernel
theorem d13_13 : decode jdk_2529_method_15_code 13 = .ok (.iload 4, 2) := by decide +kernel
theorem d13_15 : decode jdk_2529_method_15_code 15 = .ok (.dup, 1) := by decide +kernel
theorem d13_16 : decode jdk_2529_method_15_code 16 = .ok (.istore_n 3, 1) := by decide +kernel
theorem d13_17 : decode jdk_2529_method_15_code 17 = .ok (.laload, 1) := by decide +kernel
theorem d13_18 : decode jdk_2529_method_15_code 18 = .ok (.lstore 5, 2) := by decide +kernel
theorem d13_20 : decode jdk_2529_method_15_code 20 = .ok (.lload 5, 2) := by decide +kernel
theorem d13_22 : decode jdk_2529_method_15_code 22 = .ok (.aload_n 0, 1) := by decide +kernel
theorem d13_23 : decode jdk_2529_method_15_code 23 = .ok (.iload_n 3, 1) := by decide +kernel
theorem d13_24 : decode jdk_2529_method_15_code 24 = .ok (.iconst 1, 1) := by decide +kernel
theorem d13_25 : decode jdk_2529_method_15_code 25 = .ok (.isub, 1) := by decide +kernel
theorem d13_26 : decode jdk_2529_method_15_code 26 = .ok (.laload, 1) := by decide +kernel
theorem d13_27 : decode jdk_2529_method_15_code 27 = .ok (.lcmp, 1) := by decide +kernel
theorem d13_28 : decode jdk_2529_method_15_code 28 = .ok (.ifCond .ge 38, 3) := by decide +kernel
theorem d13_31 : decode jdk_2529_method_15_code 31 = .ok (.iinc 3 (-1), 3) := by decide +kernel
theorem d13_34 : decode jdk_2529_method_15_code 34 = .ok (.iload_n 3, 1) := by decide +kernel
theorem d13_35 : decode jdk_2529_method_15_code 35 = .ok (.iload_n 1, 1) := by decide +kernel
theorem d13_36 : decode jdk_2529_method_15_code 36 = .ok (.if_icmp .lt 23, 3) := by decide +kernel
theorem d13_39 : decode jdk_2529_method_15_code 39 = .ok (.lload 5, 2) := by decide +kernel
theorem d13_41 : decode jdk_2529_method_15_code 41 = .ok (.aload_n 0, 1) := by decide +kernel
theorem d13_42 : decode jdk_2529_method_15_code 42 = .ok (.iload_n 3, 1) := by decide +kernel
theorem d13_43 : decode jdk_2529_method_15_code 43 = .ok (.laload, 1) := by decide +kernel
theorem d13_44 : decode jdk_2529_method_15_code 44 = .ok (.lcmp, 1) := by decide +kernel
theorem d13_45 : decode jdk_2529_method_15_code 45 = .ok (.ifCond .ge 14, 3) := by decide +kernel
theorem d13_48 : decode jdk_2529_method_15_code 48 = .ok (.aload_n 0, 1) := by decide +kernel
theorem d13_49 : decode jdk_2529_method_15_code 49 = .ok (.iload_n 3, 1) := by decide +kernel
theorem d13_50 : decode jdk_2529_method_15_code 50 = .ok (.iconst 1, 1) := by decide +kernel
theorem d13_51 : decode jdk_2529_method_15_code 51 = .ok (.iadd, 1) := by decide +kernel
theorem d13_52 : decode jdk_2529_method_15_code 52 = .ok (.aload_n 0, 1) := by decide +kernel
theorem d13_53 : decode jdk_2529_method_15_code 53 = .ok (.iload_n 3, 1) := by decide +kernel
theorem d13_54 : decode jdk_2529_method_15_code 54 = .ok (.laload, 1) := by decide +kernel
theorem d13_55 : decode jdk_2529_method_15_code 55 = .ok (.lastore, 1) := by decide +kernel
theorem d13_56 : decode jdk_2529_method_15_code 56 = .ok (.goto (-25), 3) := by decide +kernel
theorem d13_59 : decode jdk_2529_method_15_code 59 = .ok (.aload_n 0, 1) := by decide +kernel
theorem d13_60 : decode jdk_2529_method_15_code 60 = .ok (.iload_n 3, 1) := by decide +kernel
theorem d13_61 : decode jdk_2529_method_15_code 61 = .ok (.iconst 1, 1) := by decide +kernel
theorem d13_62 : decode jdk_2529_method_15_code 62 = .ok (.iadd, 1) := by decide +kernel
theorem d13_63 : decode jdk_2529_method_15_code 63 = .ok (.lload 5, 2) := by decide +kernel
theorem d13_65 : decode jdk_2529_method_15_code 65 = .ok (.lastore, 1) := by decide +kernel
theorem d13_66 : decode jdk_2529_method_15_code 66 = .ok (.goto (-63), 3) := by decide +kernel
theorem d13_69 : decode jdk_2529_method_15_code 69 = .ok (.return_, 1) := by decide +kernel
theorem pn_13 : plainFor (⟨"java/util/DualPivotQuicksort", "insertionSort", "([JII)V"⟩ : MethodName) = true := plainFor_of_name (show plainName "java/util/DualPivotQuicksort" = true by first | (simp [plainName, overriddenIn]; done) | decide +kernel)
theorem pd_13 : parseMethodDescriptor "([JII)V" = some ⟨[(.array .long), .int, .int], none⟩ := by decide +kernel
theorem d14_0 : decode jdk_65_method_125_code 0 = .ok (.iload_n 1, 1) := by decide +kernel
theorem d14_1 : decode jdk_65_method_125_code 1 = .ok (.aload_n 0, 1) := by decide +kernel
theorem d14_2 : decode jdk_65_method_125_code 2 = .ok (.arraylength, 1) := by decide +kernel
theorem d14_3 : decode jdk_65_method_125_code 3 = .ok (.if_icmp .ne 11, 3) := by decide +kernel
theorem d14_14 : decode jdk_65_method_125_code 14 = .ok (.iload_n 1, 1) := by decide +kernel
theorem d14_15 : decode jdk_65_method_125_code 15 = .ok (.newarray .char, 2) := by decide +kernel
theorem d14_17 : decode jdk_65_method_125_code 17 = .ok (.astore_n 2, 1) := by decide +kernel
theorem d14_18 : decode jdk_65_method_125_code 18 = .ok (.aload_n 0, 1) := by decide +kernel
theorem d14_19 : decode jdk_65_method_125_code 19 = .ok (.iconst 0, 1) := by decide +kernel
theorem d14_20 : decode jdk_65_method_125_code 20 = .ok (.aload_n 2, 1) := by decide +kernel
theorem d14_21 : decode jdk_65_method_125_code 21 = .ok (.iconst 0, 1) := by decide +kernel
theorem d14_22 : decode jdk_65_method_125_code 22 = .ok (.aload_n 0, 1) := by decide +kernel
theorem d14_23 : decode jdk_65_method_125_code 23 = .ok (.arraylength, 1) := by decide +kernel
theorem d14_24 : decode jdk_65_method_125_code 24 = .ok (.iload_n 1, 1) := by decide +kernel
theorem d14_25 : decode jdk_65_method_125_code 25 = .ok (.invokestatic 304, 3) := by decide +kernel
theorem d14_28 : decode jdk_65_method_125_code 28 = .ok (.invokestatic 150, 3) := by decide +kernel
theorem d14_31 : decode jdk_65_method_125_code 31 = .ok (.aload_n 2, 1) := by decide +kernel
theorem d14_32 : decode jdk_65_method_125_code 32 = .ok (.areturn, 1) := by decide +kernel
theorem pn_14 : plainFor (⟨"java/util/Arrays", "copyOf", "([CI)[C"⟩ : MethodName) = true := plainFor_of_name (show plainName "java/util/Arrays" = true by first | (simp [plainName, overriddenIn]; done) | decide +kernel)
theorem pd_14 : parseMethodDescriptor "([CI)[C" = some ⟨[(.array .char), .int], some (.array .char)⟩ := by decide +kernel
theorem d15_0 : decode prog_5_method_1_code 0 = .ok (.aload_n 0, 1) := by decide +kernel
theorem d15_1 : decode prog_5_method_1_code 1 = .ok (.invokespecial 1, 3) := by decide +kernel
theorem d15_4 : decode prog_5_method_1_code 4 = .ok (.aload_n 0, 1) := by decide +kernel
theorem d15_5 : decode prog_5_method_1_code 5 = .ok (.aload_n 1, 1) := by decide +kernel
theorem d15_6 : decode prog_5_method_1_code 6 = .ok (.putfield 7, 3) := by decide +kernel
theorem d15_9 : decode prog_5_method_1_code 9 = .ok (.return_, 1) := by decide +kernel
theorem pn_15 : plainFor (⟨"com/example/registrar/registrar/model/CodeUnits", "<init>", "([C)V"⟩ : MethodName) = true := plainFor_of_name (show plainName "com/example/registrar/registrar/model/CodeUnits" = true by first | (simp [plainName, overriddenIn]; done) | decide +kernel)
theorem pd_15 : parseMethodDescriptor "([C)V" = some ⟨[(.array .char)], none⟩ := by decide +kernel
theorem d16_0 : decode method_5_code 0 = .ok (.iload_n 0, 1) := by decide +kernel
theorem d16_1 : decode method_5_code 1 = .ok (.iload_n 2, 1) := by decide +kernel
theorem d16_2 : decode method_5_code 2 = .ok (.if_icmp .gt 12, 3) := by decide +kernel
theorem d16_5 : decode method_5_code 5 = .ok (.iload_n 2, 1) := by decide +kernel
theorem d16_6 : decode method_5_code 6 = .ok (.iload_n 1, 1) := by decide +kernel
theorem d16_7 : decode method_5_code 7 = .ok (.if_icmp .gt 7, 3) := by decide +kernel
theorem d16_10 : decode method_5_code 10 = .ok (.iconst 1, 1) := by decide +kernel
theorem d16_11 : decode method_5_code 11 = .ok (.goto 4, 3) := by decide +kernel
theorem d16_14 : decode method_5_code 14 = .ok (.iconst 0, 1) := by decide +kernel
theorem d16_15 : decode method_5_code 15 = .ok (.ireturn, 1) := by decide +kernel
theorem pn_16 : plainFor (⟨"com/example/registrar/registrar/model/BuilderAddPinLaw", "in", "(CCC)Z"⟩ : MethodName) = true := plainFor_of_name (show plainName "com/example/registrar/registrar/model/BuilderAddPinLaw" = true by first | (simp [plainName, overriddenIn]; done) | decide +kernel)
theorem pd_16 : parseMethodDescriptor "(CCC)Z" = some ⟨[.char, .char, .char], some .boolean⟩ := by decide +kernel
theorem d17_0 : decode prog_5_method_3_code 0 = .ok (.iconst 0, 1) := by decide +kernel
theorem d17_1 : decode prog_5_method_3_code 1 = .ok (.istore_n 2, 1) := by decide +kernel
theorem d17_2 : decode prog_5_method_3_code 2 = .ok (.aload_n 0, 1) := by decide +kernel
theorem d17_3 : decode prog_5_method_3_code 3 = .ok (.getfield 7, 3) := by decide +kernel
theorem d17_6 : decode prog_5_method_3_code 6 = .ok (.arraylength, 1) := by decide +kernel
theorem d17_7 : decode prog_5_method_3_code 7 = .ok (.iconst 2, 1) := by decide +kernel
theorem d17_8 : decode prog_5_method_3_code 8 = .ok (.idiv, 1) := by decide +kernel
theorem d17_9 : decode prog_5_method_3_code 9 = .ok (.iconst 1, 1) := by decide +kernel
theorem d17_10 : decode prog_5_method_3_code 10 = .ok (.isub, 1) := by decide +kernel
theorem d17_11 : decode prog_5_method_3_code 11 = .ok (.istore_n 3, 1) := by decide +kernel
theorem d17_12 : decode prog_5_method_3_code 12 = .ok (.iload_n 2, 1) := by decide +kernel
theorem d17_13 : decode prog_5_method_3_code 13 = .ok (.iload_n 3, 1) := by decide +kernel
theorem d17_14 : decode prog_5_method_3_code 14 = .ok (.if_icmp .gt 59, 3) := by decide +kernel
theorem d17_17 : decode prog_5_method_3_code 17 = .ok (.iload_n 2, 1) := by decide +kernel
theorem d17_18 : decode prog_5_method_3_code 18 = .ok (.iload_n 3, 1) := by decide +kernel
theorem d17_19 : decode prog_5_method_3_code 19 = .ok (.iadd, 1) := by decide +kernel
theorem d17_20 : decode prog_5_method_3_code 20 = .ok (.iconst 1, 1) := by decide +kernel
theorem d17_21 : decode prog_5_method_3_code 21 = .ok (.iushr, 1) := by decide +kernel
theorem d17_22 : decode prog_5_method_3_code 22 = .ok (.istore 4, 2) := by decide +kernel
theorem d17_24 : decode prog_5_method_3_code 24 = .ok (.iload_n 1, 1) := by decide +kernel
theorem d17_25 : decode prog_5_method_3_code 25 = .ok (.aload_n 0, 1) := by decide +kernel
theorem d17_26 : decode prog_5_method_3_code 26 = .ok (.getfield 7, 3) := by decide +kernel
theorem d17_29 : decode prog_5_method_3_code 29 = .ok (.iconst 2, 1) := by decide +kernel
theorem d17_30 : decode prog_5_method_3_code 30 = .ok (.iload 4, 2) := by decide +kernel
theorem d17_32 : decode prog_5_method_3_code 32 = .ok (.imul, 1) := by decide +kernel
theorem d17_33 : decode prog_5_method_3_code 33 = .ok (.caload, 1) := by decide +kernel
theorem d17_34 : decode prog_5_method_3_code 34 = .ok (.if_icmp .ge 11, 3) := by decide +kernel
theorem d17_37 : decode prog_5_method_3_code 37 = .ok (.iload 4, 2) := by decide +kernel
theorem d17_39 : decode prog_5_method_3_code 39 = .ok (.iconst 1, 1) := by decide +kernel
theorem d17_40 : decode prog_5_method_3_code 40 = .ok (.isub, 1) := by decide +kernel
theorem d17_41 : decode prog_5_method_3_code 41 = .ok (.istore_n 3, 1) := by decide +kernel
theorem d17_42 : decode prog_5_method_3_code 42 = .ok (.goto 28, 3) := by decide +kernel
theorem d17_45 : decode prog_5_method_3_code 45 = .ok (.iload_n 1, 1) := by decide +kernel
theorem d17_46 : decode prog_5_method_3_code 46 = .ok (.aload_n 0, 1) := by decide +kernel
theorem d17_47 : decode prog_5_method_3_code 47 = .ok (.getfield 7, 3) := by decide +kernel
theorem d17_50 : decode prog_5_method_3_code 50 = .ok (.iconst 2, 1) := by decide +kernel
theorem d17_51 : decode prog_5_method_3_code 51 = .ok (.iload 4, 2) := by decide +kernel
theorem d17_53 : decode prog_5_method_3_code 53 = .ok (.imul, 1) := by decide +kernel
theorem d17_54 : decode prog_5_method_3_code 54 = .ok (.iconst 1, 1) := by decide +kernel
theorem d17_55 : decode prog_5_method_3_code 55 = .ok (.iadd, 1) := by decide +kernel
theorem d17_56 : decode prog_5_method_3_code 56 = .ok (.caload, 1) := by decide +kernel
theorem d17_57 : decode prog_5_method_3_code 57 = .ok (.if_icmp .le 11, 3) := by decide +kernel
theorem d17_60 : decode prog_5_method_3_code 60 = .ok (.iload 4, 2) := by decide +kernel
theorem d17_62 : decode prog_5_method_3_code 62 = .ok (.iconst 1, 1) := by decide +kernel
theorem d17_63 : decode prog_5_method_3_code 63 = .ok (.iadd, 1) := by decide +kernel
theorem d17_64 : decode prog_5_method_3_code 64 = .ok (.istore_n 2, 1) := by decide +kernel
theorem d17_65 : decode prog_5_method_3_code 65 = .ok (.goto 5, 3) := by decide +kernel
theorem d17_68 : decode prog_5_method_3_code 68 = .ok (.iconst 1, 1) := by decide +kernel
theorem d17_69 : decode prog_5_method_3_code 69 = .ok (.ireturn, 1) := by decide +kernel
theorem d17_70 : decode prog_5_method_3_code 70 = .ok (.goto (-58), 3) := by decide +kernel
theorem d17_73 : decode prog_5_method_3_code 73 = .ok (.iconst 0, 1) := by decide +kernel
theorem d17_74 : decode prog_5_method_3_code 74 = .ok (.ireturn, 1) := by decide +kernel
theorem pn_17 : plainFor (⟨"com/example/registrar/registrar/model/CodeUnits", "contains", "(C)Z"⟩ : MethodName) = true := plainFor_of_name (show plainName "com/example/registrar/registrar/model/CodeUnits" = true by first | (simp [plainName, overriddenIn]; done) | decide +kernel)
theorem pd_17 : parseMethodDescriptor "(C)Z" = some ⟨[.char], some .boolean⟩ := by decide +kernel
def own_same (n : Nat) (F G : Nat → Int64) : Prop := (∀ i, i < n → ∃ j, j < n ∧ G i = F j) ∧ (∀ i, i < n → ∃ j, j < n ∧ F i = G j)
theorem own_same_refl (n : Nat) (F : Nat → Int64) : own_same n F F := ⟨fun i h => ⟨i, h, rfl⟩, fun i h => ⟨i, h, rfl⟩⟩
theorem own_same_trans {n : Nat} {F G H : Nat → Int64} (a : own_same n F G) (b : own_same n G H) : own_same n F H :=
  ⟨fun i h => by obtain ⟨j, hj, e⟩ := b.1 i h; obtain ⟨k, hk, e'⟩ := a.1 j hj; exact ⟨k, hk, e.trans e'⟩,
   fun i h => by obtain ⟨j, hj, e⟩ := a.2 i h; obtain ⟨k, hk, e'⟩ := b.2 j hj; exact ⟨k, hk, e.trans e'⟩⟩
theorem own_same_id {F : Nat → Int64} {k : Nat} {v : Int64} (h : F k = v) : updA F k v = F := by
  funext i
  by_cases e : i = k
  · subst e; rw [updA_same, h]
  · rw [updA_ne _ _ e]
theorem own_swap {n k : Nat} (A : Nat → Int64) (v : Int64) (hk : k + 1 < n) : own_same n (updA A (k + 1) v) (updA (updA A (k + 1) (A k)) k v) := by
  constructor
  · intro i hi
    by_cases e1 : i = k
    · subst e1; exact ⟨i + 1, hk, by rw [updA_same, updA_same]⟩
    · by_cases e2 : i = k + 1
      · subst e2; exact ⟨k, by omega, by rw [updA_ne _ _ (by omega), updA_same, updA_ne _ _ (by omega)]⟩
      · exact ⟨i, hi, by rw [updA_ne _ _ e1, updA_ne _ _ e2, updA_ne _ _ e2]⟩
  · intro i hi
    by_cases e1 : i = k
    · subst e1; exact ⟨i + 1, hk, by rw [updA_ne _ _ (by omega), updA_ne _ _ (by omega), updA_same]⟩
    · by_cases e2 : i = k + 1
      · subst e2; exact ⟨k, by omega, by rw [updA_same, updA_same]⟩
      · exact ⟨i, hi, by rw [updA_ne _ _ e2, updA_ne _ _ e1, updA_ne _ _ e2]⟩
def own_sorted (A : Nat → Int64) (m : Nat) : Prop := ∀ p q, p < q → q < m → (A p).toInt ≤ (A q).toInt
/-- the array below m is in order but for the hole h; what stands above the hole is above v -/
def own_hole (A : Nat → Int64) (m h : Nat) (v : Int64) : Prop := (∀ p q, p < q → q < m → p ≠ h → q ≠ h → (A p).toInt ≤ (A q).toInt) ∧ (∀ j, h < j → j < m → v.toInt < (A j).toInt)
theorem own_hole_start {A : Nat → Int64} {k : Nat} {v : Int64} (h : own_sorted A k) : own_hole A (k + 1) k v :=
  ⟨fun p q h1 h2 h3 h4 => h p q h1 (by omega), fun j h1 h2 => by omega⟩
theorem own_hole_step {A : Nat → Int64} {m h : Nat} {v : Int64} (H : own_hole A m (h + 1) v) (hm : h + 1 < m) (hv : v.toInt < (A h).toInt) : own_hole (updA A (h + 1) (A h)) m h v := by
  constructor
  · intro p q h1 h2 h3 h4
    by_cases ep : p = h + 1
    · subst ep; rw [updA_same, updA_ne _ _ (by omega)]; exact H.1 h q (by omega) h2 (by omega) (by omega)
    · by_cases eq : q = h + 1
      · subst eq; rw [updA_same, updA_ne _ _ ep]; exact H.1 p h (by omega) (by omega) (by omega) (by omega)
      · rw [updA_ne _ _ ep, updA_ne _ _ eq]; exact H.1 p q h1 h2 ep eq
  · intro j h1 h2
    by_cases ej : j = h + 1
    · subst ej; rw [updA_same]; exact hv
    · rw [updA_ne _ _ ej]; exact H.2 j (by omega) h2
theorem own_hole_end {A : Nat → Int64} {m h : Nat} {v : Int64} (H : own_hole A m h v) (hv : ∀ p, p < h → (A p).toInt ≤ v.toInt) : own_sorted (updA A h v) m := by
  intro p q h1 h2
  by_cases ep : p = h
  · subst ep; rw [updA_same, updA_ne _ _ (by omega)]; have := H.2 q h1 h2; omega
  · by_cases eq : q = h
    · subst eq; rw [updA_same, updA_ne _ _ ep]; exact hv p h1
    · rw [updA_ne _ _ ep, updA_ne _ _ eq]; exact H.1 p q h1 h2 ep eq
theorem own_hole_low {A : Nat → Int64} {m h : Nat} {v : Int64} (H : own_hole A m (h + 1) v) (hm : h + 1 < m) (hv : ¬ v.toInt < (A h).toInt) : ∀ p, p < h + 1 → (A p).toInt ≤ v.toInt := by
  intro p hp
  by_cases e : p = h
  · subst e; omega
  · have := H.1 p h (by omega) (by omega) (by omega) (by omega); omega
theorem own_sorted_up {A : Nat → Int64} {k : Nat} (h : own_sorted A k) (hv : ∀ p, p < k → (A p).toInt ≤ (A k).toInt) : own_sorted A (k + 1) := by
  intro p q h1 h2
  by_cases e : q = k
  · subst e; exact hv p h1
  · exact h p q h1 (by omega)
theorem own_sorted_last {A : Nat → Int64} {k : Nat} (h : own_sorted A (k + 1)) (hv : (A k).toInt ≤ (A (k + 1)).toInt) : own_sorted A (k + 2) :=
  own_sorted_up h fun p hp => by
    by_cases e : p = k
    · subst e; exact hv
    · have := h p k (by omega) (by omega); omega
/-- the merged pairs after the first t of the sorted ranges -/
def own_J (V : Nat → Int) (C : Nat → Int32) (t p : Nat) : Prop :=
  (∀ j, j < p → (C (2 * j)).toInt ≤ (C (2 * j + 1)).toInt) ∧ (∀ j, j + 1 < p → (C (2 * j + 1)).toInt < (C (2 * (j + 1))).toInt) ∧
  (∀ q i, p = q + 1 → t ≤ i → i < 9 → (C (2 * q)).toInt ≤ V i / 65536) ∧
  (∀ x : Int, (∃ j, j < p ∧ (C (2 * j)).toInt ≤ x ∧ x ≤ (C (2 * j + 1)).toInt) ↔ ∃ i, i < t ∧ V i / 65536 ≤ x ∧ x ≤ V i % 65536) ∧
  p ≤ t ∧ (∀ u, t = u + 1 → ∃ q, p = q + 1 ∧ V u % 65536 ≤ (C (2 * q + 1)).toInt) ∧ (p = t → ∀ i, i + 1 < t → V i < V (i + 1)) ∧ (∀ j, j < 2 * p → 0 ≤ (C j).toInt ∧ (C j).toInt < 65536)
theorem own_J0 (V : Nat → Int) (C : Nat → Int32) : own_J V C 0 0 :=
  ⟨fun j h => by omega, fun j h => by omega, fun q i h => by omega, fun x => ⟨fun ⟨j, h, _⟩ => by omega, fun ⟨j, h, _⟩ => by omega⟩, by omega, fun u h => by omega, fun _ i h => by omega, fun j h => by omega⟩
theorem own_J_app {V : Nat → Int} {C : Nat → Int32} {t p : Nat} {a b : Int32} (H : own_J V C t p) (ht : t < 9) (hV : ∀ i, i < 9 → 0 ≤ V i ∧ V i < 4294967296 ∧ V i / 65536 ≤ V i % 65536) (hs : ∀ i j, i < j → j < 9 → V i ≤ V j)
    (ha : a.toInt = V t / 65536) (hb : b.toInt = V t % 65536) (hn : ∀ q, p = q + 1 → (C (2 * q + 1)).toInt + 1 < V t / 65536) : own_J V (updA (updA C (2 * p) a) (2 * p + 1) b) (t + 1) (p + 1) := by
  obtain ⟨h1, h2, h3, h4, h5, h6, h7, h8⟩ := H
  have e0 : (updA (updA C (2 * p) a) (2 * p + 1) b) (2 * p) = a := by rw [updA_ne _ _ (by omega), updA_same]
  have e1 : (updA (updA C (2 * p) a) (2 * p + 1) b) (2 * p + 1) = b := by rw [updA_same]
  have eo : ∀ j, j < 2 * p → (updA (updA C (2 * p) a) (2 * p + 1) b) j = C j := fun j hj => by rw [updA_ne _ _ (by omega), updA_ne _ _ (by omega)]
  have hVt := hV t ht
  generalize updA (updA C (2 * p) a) (2 * p + 1) b = D at e0 e1 eo
  refine ⟨?_, ?_, ?_, ?_, by omega, ?_, ?_, ?_⟩
  · intro j hj
    by_cases e : j = p
    · subst e; rw [e0, e1, ha, hb]; omega
    · rw [eo _ (by omega), eo _ (by omega)]; exact h1 j (by omega)
  · intro j hj
    by_cases e : j + 1 = p
    · subst e; rw [e0, eo _ (by omega), ha]; have := hn j rfl; omega
    · rw [eo _ (by omega), eo _ (by omega)]; exact h2 j (by omega)
  · intro q i hq hi hi9
    obtain rfl : q = p := by omega
    rw [e0, ha]
    have := hs t i (by omega) hi9
    omega
  · intro x
    constructor
    · rintro ⟨j, hj, g1, g2⟩
      by_cases e : j = p
      · subst e; rw [e0, ha] at g1; rw [e1, hb] at g2; exact ⟨t, by omega, g1, g2⟩
      · rw [eo _ (by omega)] at g1 g2
        obtain ⟨i, hi, k⟩ := (h4 x).mp ⟨j, by omega, g1, g2⟩
        exact ⟨i, by omega, k⟩
    · rintro ⟨i, hi, g1, g2⟩
      by_cases e : i = t
      · subst e; exact ⟨p, by omega, by rw [e0, ha]; exact g1, by rw [e1, hb]; exact g2⟩
      · obtain ⟨j, hj, k1, k2⟩ := (h4 x).mpr ⟨i, by omega, g1, g2⟩
        exact ⟨j, by omega, by rw [eo _ (by omega)]; exact k1, by rw [eo _ (by omega)]; exact k2⟩
  · intro u hu
    obtain rfl : u = t := by omega
    exact ⟨p, rfl, by rw [e1, hb]; omega⟩
  · intro hp i hi
    by_cases e : i + 1 = t
    · subst e
      obtain ⟨q, hq, hq2⟩ := h6 i rfl
      have := hn q hq
      have := hV i (by omega)
      omega
    · exact h7 (by omega) i (by omega)
  · intro j hj
    by_cases e : j < 2 * p
    · rw [eo _ e]; exact h8 j e
    · by_cases e' : j = 2 * p
      · subst e'; rw [e0, ha]; omega
      · obtain rfl : j = 2 * p + 1 := by omega
        rw [e1, hb]; omega
theorem own_J_mrg {V : Nat → Int} {C : Nat → Int32} {t q : Nat} {b : Int32} (H : own_J V C t (q + 1)) (ht : t < 9) (hV : ∀ i, i < 9 → 0 ≤ V i ∧ V i < 4294967296 ∧ V i / 65536 ≤ V i % 65536) (hs : ∀ i j, i < j → j < 9 → V i ≤ V j)
    (hb : b.toInt = if (C (2 * q + 1)).toInt < V t % 65536 then V t % 65536 else (C (2 * q + 1)).toInt) (hn : V t / 65536 ≤ (C (2 * q + 1)).toInt + 1) : own_J V (updA C (2 * q + 1) b) (t + 1) (q + 1) := by
  obtain ⟨h1, h2, h3, h4, h5, h6, h7, h8⟩ := H
  have e1 : (updA C (2 * q + 1) b) (2 * q + 1) = b := by rw [updA_same]
  have eo : ∀ j, j ≠ 2 * q + 1 → (updA C (2 * q + 1) b) j = C j := fun j hj => by rw [updA_ne _ _ (by omega)]
  have hVt := hV t ht
  have hbb : (C (2 * q + 1)).toInt ≤ b.toInt ∧ V t % 65536 ≤ b.toInt ∧ (b.toInt ≤ (C (2 * q + 1)).toInt ∨ b.toInt ≤ V t % 65536) := by split at hb <;> omega
  have h8' := h8 (2 * q + 1) (by omega)
  generalize updA C (2 * q + 1) b = D at e1 eo
  refine ⟨?_, ?_, ?_, ?_, by omega, ?_, ?_, ?_⟩
  · intro j hj
    by_cases e : j = q
    · subst e; rw [e1, eo _ (by omega)]; have := h1 j (by omega); omega
    · rw [eo _ (by omega), eo _ (by omega)]; exact h1 j (by omega)
  · intro j hj
    rw [eo _ (by omega), eo _ (by omega)]; exact h2 j (by omega)
  · intro q' i hq hi hi9
    obtain rfl : q' = q := by omega
    rw [eo _ (by omega)]
    exact h3 q' i rfl (by omega) hi9
  · intro x
    constructor
    · rintro ⟨j, hj, g1, g2⟩
      by_cases e : j = q
      · subst e
        rw [eo _ (by omega)] at g1; rw [e1] at g2
        by_cases hx : x ≤ (C (2 * j + 1)).toInt
        · obtain ⟨i, hi, k⟩ := (h4 x).mp ⟨j, by omega, g1, hx⟩
          exact ⟨i, by omega, k⟩
        · exact ⟨t, by omega, by omega, by omega⟩
      · rw [eo _ (by omega)] at g1 g2
        obtain ⟨i, hi, k⟩ := (h4 x).mp ⟨j, by omega, g1, g2⟩
        exact ⟨i, by omega, k⟩
    · rintro ⟨i, hi, g1, g2⟩
      by_cases e : i = t
      · subst e
        have := h3 q i rfl (by omega) ht
        exact ⟨q, by omega, by rw [eo _ (by omega)]; omega, by rw [e1]; omega⟩
      · obtain ⟨j, hj, k1, k2⟩ := (h4 x).mpr ⟨i, by omega, g1, g2⟩
        by_cases e' : j = q
        · subst e'; exact ⟨j, by omega, by rw [eo _ (by omega)]; exact k1, by rw [e1]; omega⟩
        · exact ⟨j, by omega, by rw [eo _ (by omega)]; exact k1, by rw [eo _ (by omega)]; exact k2⟩
  · intro u hu
    obtain rfl : u = t := by omega
    exact ⟨q, rfl, by rw [e1]; omega⟩
  · intro hp i hi
    omega
  · intro j hj
    by_cases e : j = 2 * q + 1
    · subst e; rw [e1]; omega
    · rw [eo _ e]; exact h8 j hj
theorem own_J_few {V : Nat → Int} {C : Nat → Int32} {p : Nat} (H : own_J V C 9 p) {a b c : Int} (h3 : ∀ i, i < 9 → V i = a ∨ V i = b ∨ V i = c) : p < 9 := by
  obtain ⟨-, -, -, -, h5, -, h7, -⟩ := H
  refine Nat.lt_of_not_le fun h => ?_
  have k := h7 (by omega)
  have k0 := k 0 (by omega); have k1 := k 1 (by omega); have k2 := k 2 (by omega)
  have m0 := h3 0 (by omega); have m1 := h3 1 (by omega); have m2 := h3 2 (by omega); have m3 := h3 3 (by omega)
  simp only [Nat.zero_add, Nat.reduceAdd] at k0 k1 k2
  omega
theorem own_J_mono {V : Nat → Int} {C : Nat → Int32} {t p : Nat} (H : own_J V C t p) : ∀ (d i : Nat), i + d + 1 < p → (C (2 * i + 1)).toInt < (C (2 * (i + d + 1))).toInt := by
  intro d
  induction d with
  | zero => intro i hi; exact H.2.1 i (by omega)
  | succ d ih =>
    intro i hi
    have a1 := ih i (by omega)
    have a2 := H.1 (i + d + 1) (by omega)
    have a3 := H.2.1 (i + d + 1) (by omega)
    have e : i + (d + 1) + 1 = i + d + 1 + 1 := by omega
    rw [e]
    omega
theorem own_J_lt {V : Nat → Int} {C : Nat → Int32} {t p : Nat} (H : own_J V C t p) {i j : Nat} (h : i < j) (hj : j < p) : (C (2 * i + 1)).toInt < (C (2 * j)).toInt := by
  have := own_J_mono H (j - i - 1) i (by omega)
  rwa [show i + (j - i - 1) + 1 = j by omega] at this
/-- what the search has still to look at -/
def own_in (C : Nat → Int32) (p : Nat) (x lo hi : Int) : Prop := ∀ j, j < p → (C (2 * j)).toInt ≤ x → x ≤ (C (2 * j + 1)).toInt → lo ≤ (j : Int) ∧ (j : Int) ≤ hi
theorem own_in_l {V : Nat → Int} {C : Nat → Int32} {t p : Nat} (H : own_J V C t p) {x lo hi : Int} (h : own_in C p x lo hi) {m : Nat} (hm : m < p) (hx : x < (C (2 * m)).toInt) : own_in C p x lo ((m : Int) - 1) := fun j hj g1 g2 => by
  have k := h j hj g1 g2
  refine ⟨k.1, ?_⟩
  by_cases e : j < m
  · omega
  · exfalso
    by_cases e' : j = m
    · subst e'; omega
    · have a1 := own_J_lt H (show m < j by omega) hj
      have a2 := H.1 m hm
      omega
theorem own_in_r {V : Nat → Int} {C : Nat → Int32} {t p : Nat} (H : own_J V C t p) {x lo hi : Int} (h : own_in C p x lo hi) {m : Nat} (hm : m < p) (hx : (C (2 * m + 1)).toInt < x) : own_in C p x ((m : Int) + 1) hi := fun j hj g1 g2 => by
  have k := h j hj g1 g2
  refine ⟨?_, k.2⟩
  by_cases e : m < j
  · omega
  · exfalso
    by_cases e' : j = m
    · subst e'; omega
    · have a1 := own_J_lt H (show j < m by omega) hm
      have a2 := H.1 m hm
      omega

section Nest
variable {X : Cx} {l : Launch} {Z : State} {R : Room} {y : MethodName} {code : ByteArray} {maxL : Nat} {ret : Option FieldType} {rc rs : Nat} {Q : Option Value → OS → Prop} {pc : Nat} {L : List Slot} {S : List Value} {os os' : OS} {ce sl : Nat} {a0 : Array Value}
theorem W.callInest {idx mx : Nat} {z : MethodName} {bytes : ByteArray} {rm : Room} {argsL : List Value} {S0 : List Value} {ps : List FieldType} {rr : Option FieldType} {b : Addr} {host : String} {q : OS → Prop} (K : Ctx X l Z R y code maxL ret) (pc' : Nat) (hd : decode code pc = .ok (.invokespecial idx, 3)) (w1 : (Jvm.Cond.methodLinkNest y.cls idx z host).before a0 Z = true) (w2 : (Jvm.Cond.instanceMethod z).before a0 Z = true) (w3 : (Jvm.Cond.initialized z.cls).before a0 Z = true) (w4 : (Jvm.Cond.code z bytes mx none).before a0 Z = true)
    (hsig : parseMethodDescriptor z.desc = some ⟨ps, rr⟩) (hM : OMeets l Z z bytes mx none rm (.ref b :: argsL) os (RetN q)) (k : ∀ os', q os' → WP X Z rc rs Q pc' L S os' (ce + rm.cells) (sl + rm.slots)) (hz1 : z.name = "<init>" := by rfl) (hst : S0 = argsL.reverse ++ .ref b :: S := by rfl) (hlen : argsL.length = ps.length := by rfl) (hsz : L.length = maxL := by rfl) (hf : rm.frames + 1 ≤ R.frames := by decide) (hl : (S.map fun v => v.category).sum + (mx + 11) + rm.locals ≤ R.locals := by exact Nat.le_of_ble_eq_true rfl)
    (hc : ce + rm.cells ≤ R.cells := by decide) (hs : sl + rm.slots ≤ R.slots := by decide) (hy : z.cls ≠ "java/lang/invoke/MethodHandle" ∧ z.cls ≠ "java/lang/invoke/VarHandle" := by decide) (hp : pc + 3 = pc' := by rfl) : WP X Z rc rs Q pc L S0 os ce sl := by
  obtain ⟨p, l', e, R', s, m, args, below, meth, c⟩ := X
  obtain ⟨rfl, h2, hx, hZ, hby, hml, hown, hnm, hret, hlk⟩ := K
  have h2' : R' = R := h2
  subst h2'
  subst hp
  intro T locs hT0 hH hF
  have hT : Stand p l' e R' s m args below meth c T locs ce sl := hT0
  obtain ⟨v, vm1, ⟨T', L', k', n'⟩, -, X', ⟨Lc, ⟨os1, hQ1, hH1, hF1⟩, e1, e2, e3⟩, st'⟩ := Stand.specialBackNest hT hx (y := z) hz1 hown (Cond.methodLinkNest_wide hZ w1 :) (mvT hZ w2) (mvT hZ w4) hy (backOf (W := (S.map fun v => v.category).sum) (Q := fun v h L => ∃ os', RetN q v os' ∧ Hp Z h os' ∧ Fr Z.heap.size L) (hM _ hH []) hZ w4 w3 (hf) (hl)) (g := mkF m pc L.toArray S0) rfl (by rw [hml]; simpa using hsz) (Steps.refl _) (a := b) (argsL := argsL) (rest := S) (lenOf hsig hlen) hst (by show 2 * 0 + _ ≤ _; omega) (hb hby hd) (fun _ _ => ⟨rfl, rfl, hc, hs⟩)
  dsimp only [Pt.U, Pt.locs, Pt.cells, Pt.slots] at X' e1 e2 e3 st' hH1
  subst e1 e2 e3
  obtain ⟨rfl, hQ1⟩ := hQ1
  obtain ⟨s2, o, st, r⟩ := k os1 hQ1 T' _ X' hH1 (Fr.app hF hF1)
  exact ⟨s2, o, st'.trans st, r⟩
end Nest
def own_max (x y : Int32) : Int32 := if x.toInt < y.toInt then y else x
def own_min (x y : Int32) : Int32 := if y.toInt < x.toInt then y else x
theorem own_c16 {x : Int32} (h0 : 0 ≤ x.toInt) (h1 : x.toInt < 65536) : (x.toUInt32.toUInt16.toUInt32.toInt32).toInt = x.toInt := by have := c_i2c x; omega
theorem own_nar (x : Int32) : narrow .char (.int x.toUInt32.toUInt16.toUInt32.toInt32) = .int x.toUInt32.toUInt16.toUInt32.toInt32 := by
  show Value.int _ = Value.int _
  refine congrArg Value.int (Int32.toInt_inj.mp ?_)
  have h := c_i2c x
  exact own_c16 h.2.1 h.2.2
def own_lo (x : Int32) : Int32 := (own_min ((x.toUInt32 >>> ((16 : Int32) &&& 31).toUInt32).toInt32) (x &&& 65535)).toUInt32.toUInt16.toUInt32.toInt32
def own_hi (x : Int32) : Int32 := (own_max ((x.toUInt32 >>> ((16 : Int32) &&& 31).toUInt32).toInt32) (x &&& 65535)).toUInt32.toUInt16.toUInt32.toInt32
theorem own_lohi (x : Int32) : 0 ≤ (own_lo x).toInt ∧ (own_lo x).toInt ≤ (own_hi x).toInt ∧ (own_hi x).toInt < 65536 := by
  have h1 := c_iushr x 16 16 (by decide) (by decide)
  have h2 := c_mask x 65535 16 (by decide) (by decide)
  have h3 := rng32 x
  unfold own_lo own_hi own_min own_max
  generalize (x.toUInt32 >>> ((16 : Int32) &&& 31).toUInt32).toInt32 = u at h1 ⊢
  generalize x &&& 65535 = v at h2 ⊢
  have hu : 0 ≤ u.toInt ∧ u.toInt < 65536 := by omega
  have hv : 0 ≤ v.toInt ∧ v.toInt < 65536 := by omega
  have cu := own_c16 hu.1 hu.2
  have cv := own_c16 hv.1 hv.2
  split <;> split <;> omega
def own_v (lo hi : Int32) : Int64 := (lo.toInt64 <<< ((16 : Int32) &&& 0x3f).toInt64) ||| hi.toInt64
theorem own_v_eq {lo hi : Int32} (h0 : 0 ≤ lo.toInt) (h1 : lo.toInt < 65536) (h2 : 0 ≤ hi.toInt) (h3 : hi.toInt < 65536) : (own_v lo hi).toInt = lo.toInt * 65536 + hi.toInt := by
  have a1 := c_lshl lo.toInt64 16 16 (by decide)
  have a2 := c_i2l lo
  have a3 := c_i2l hi
  unfold own_v
  have r1 := rng64 (lo.toInt64 <<< ((16 : Int32) &&& 0x3f).toInt64)
  generalize lo.toInt64 <<< ((16 : Int32) &&& 0x3f).toInt64 = u at a1 r1 ⊢
  have hu : u.toInt = lo.toInt * 65536 := by rw [a2] at a1; omega
  have a4 := c_orL u hi.toInt64 16 (by decide) 65536 (by decide) (by omega) (by omega) (by omega)
  have r2 := rng64 (u ||| hi.toInt64)
  omega
theorem own_v_lo (v : Int64) (h0 : 0 ≤ v.toInt) (h1 : v.toInt < 4294967296) : (((v.toUInt64 >>> ((16 : Int32) &&& 0x3f).toInt64.toUInt64).toInt64).toInt32.toUInt32.toUInt16.toUInt32.toInt32).toInt = v.toInt / 65536 := by
  have a1 := c_lushr v 16 16 (by decide) (by decide)
  generalize (v.toUInt64 >>> ((16 : Int32) &&& 0x3f).toInt64.toUInt64).toInt64 = u at a1 ⊢
  have a2 := c_l2i u
  have a3 := c_i2c u.toInt32
  omega
theorem own_v_hi (v : Int64) (h0 : 0 ≤ v.toInt) (h1 : v.toInt < 4294967296) : (v.toInt32.toUInt32.toUInt16.toUInt32.toInt32).toInt = v.toInt % 65536 := by
  have a2 := c_l2i v
  have a3 := c_i2c v.toInt32
  omega
theorem own_fin {w : Int32} {P Q : Prop} [Decidable Q] (h01 : w = 0 ∨ w = 1) (h : w = 1 ↔ P) (hPQ : P ↔ Q) : w = if Q then 1 else 0 := by
  by_cases q : Q
  · rw [if_pos q]; exact h.mpr (hPQ.mpr q)
  · rw [if_neg q]
    rcases h01 with e | e
    · exact e
    · exact absurd (hPQ.mp (h.mp e)) q
theorem own_grow {F : Nat → Int64} : (AF Value.long 16 (fun _ => (0 : Int64))).take 0 ++ ((AF Value.long 8 F).drop 0).take 8 ++ (AF Value.long 16 (fun _ => (0 : Int64))).drop (0 + 8) = AF Value.long 16 (fun i => if i < 8 then F i else 0) := rfl
theorem own_maxI (x y : Int32) : (own_max x y).toInt = if x.toInt < y.toInt then y.toInt else x.toInt := by unfold own_max; split <;> rfl

set_option maxRecDepth 65536 in
set_option maxHeartbeats 40000000 in
theorem spec_2 (l : Launch) (Z : State) (a0 : Array Value) (hw : ∀ d ∈ tables_1, d.before a0 Z = true) (x y : Int32) (os : OS) : OMeets l Z (⟨"java/lang/Math", "min", "(II)I"⟩ : MethodName) jdk_29_method_69_code 2 (some .int) ({ frames := 0, cells := 0, slots := 0, locals := 0 } : Room) [(.int x), (.int y)] os (RetV fun v os' => v = .int (own_min x y) ∧ os' = os) := by
  refine OMeets.of_body [.val (.int x), .val (.int y)] pn_2 (laid_eq _ _ rfl) ?_
  intro X K
  refine W.iloadN K 1 d2_0 0 rfl rfl ?_
  refine W.iloadN K 2 d2_1 1 rfl rfl ?_
  refine W.icmp_gt K 9 5 d2_2 (fun h2 => ?_) (fun h2 => ?_)
  · refine W.iloadN K 10 d2_9 1 rfl rfl ?_
    refine W.ireturn K d2_10 ⟨_, rfl, by unfold own_min; first | rw [if_pos (by omega)] | rw [if_neg (by omega)], rfl⟩
  · refine W.iloadN K 6 d2_5 0 rfl rfl ?_
    refine W.goto K 10 d2_6 ?_
    refine W.ireturn K d2_10 ⟨_, rfl, by unfold own_min; first | rw [if_pos (by omega)] | rw [if_neg (by omega)], rfl⟩
set_option maxRecDepth 65536 in
set_option maxHeartbeats 40000000 in
theorem spec_4 (l : Launch) (Z : State) (a0 : Array Value) (hw : ∀ d ∈ tables_1, d.before a0 Z = true) (x y : Int32) (os : OS) : OMeets l Z (⟨"java/lang/Math", "max", "(II)I"⟩ : MethodName) jdk_29_method_65_code 2 (some .int) ({ frames := 0, cells := 0, slots := 0, locals := 0 } : Room) [(.int x), (.int y)] os (RetV fun v os' => v = .int (own_max x y) ∧ os' = os) := by
  refine OMeets.of_body [.val (.int x), .val (.int y)] pn_4 (laid_eq _ _ rfl) ?_
  intro X K
  refine W.iloadN K 1 d4_0 0 rfl rfl ?_
  refine W.iloadN K 2 d4_1 1 rfl rfl ?_
  refine W.icmp_lt K 9 5 d4_2 (fun h2 => ?_) (fun h2 => ?_)
  · refine W.iloadN K 10 d4_9 1 rfl rfl ?_
    refine W.ireturn K d4_10 ⟨_, rfl, by unfold own_max; first | rw [if_pos (by omega)] | rw [if_neg (by omega)], rfl⟩
  · refine W.iloadN K 6 d4_5 0 rfl rfl ?_
    refine W.goto K 10 d4_6 ?_
    refine W.ireturn K d4_10 ⟨_, rfl, by unfold own_max; first | rw [if_pos (by omega)] | rw [if_neg (by omega)], rfl⟩
set_option maxRecDepth 65536 in
set_option maxHeartbeats 40000000 in
theorem spec_1 (l : Launch) (Z : State) (a0 : Array Value) (hw : ∀ d ∈ tables_1, d.before a0 Z = true) (x : Int32) (os : OS) : OMeets l Z (⟨"com/example/registrar/registrar/model/BuilderAddPinLaw", "lo", "(I)C"⟩ : MethodName) method_3_code 1 (some .char) ({ frames := 1, cells := 0, slots := 0, locals := 13 } : Room) [(.int x)] os (RetV fun v os' => v = .int (own_lo x) ∧ os' = os) := by
  refine OMeets.of_body [.val (.int x)] pn_1 (laid_eq _ _ rfl) ?_
  intro X K
  refine W.iloadN K 1 d1_0 0 rfl rfl ?_
  refine W.bipush K 3 d1_1 (16 : Int32) (by decide) ?_
  refine W.iushr K 4 d1_3 ?_
  refine W.iloadN K 5 d1_4 0 rfl rfl ?_
  refine W.ldcI K 7 d1_5 (hw _ (List.mem_of_getElem? (i := 4) rfl)) ?_
  refine W.iand K 8 d1_7 ?_
  refine W.callSv2 K 11 d1_8 (hw _ (List.mem_of_getElem? (i := 5) rfl)) (hw _ (List.mem_of_getElem? (i := 6) rfl)) (hw _ (List.mem_of_getElem? (i := 7) rfl)) (hw _ (List.mem_of_getElem? (i := 8) rfl)) pd_2 (spec_2 l Z a0 hw _ _ _) (fun v os1 hq => ?_)
  obtain ⟨rfl, rfl⟩ := hq
  refine W.i2c K 12 d1_11 ?_
  refine W.creturn K d1_12 (own_nar _) ⟨_, rfl, rfl, rfl⟩
set_option maxRecDepth 65536 in
set_option maxHeartbeats 40000000 in
theorem spec_3 (l : Launch) (Z : State) (a0 : Array Value) (hw : ∀ d ∈ tables_1, d.before a0 Z = true) (x : Int32) (os : OS) : OMeets l Z (⟨"com/example/registrar/registrar/model/BuilderAddPinLaw", "hi", "(I)C"⟩ : MethodName) method_4_code 1 (some .char) ({ frames := 1, cells := 0, slots := 0, locals := 13 } : Room) [(.int x)] os (RetV fun v os' => v = .int (own_hi x) ∧ os' = os) := by
  refine OMeets.of_body [.val (.int x)] pn_3 (laid_eq _ _ rfl) ?_
  intro X K
  refine W.iloadN K 1 d3_0 0 rfl rfl ?_
  refine W.bipush K 3 d3_1 (16 : Int32) (by decide) ?_
  refine W.iushr K 4 d3_3 ?_
  refine W.iloadN K 5 d3_4 0 rfl rfl ?_
  refine W.ldcI K 7 d3_5 (hw _ (List.mem_of_getElem? (i := 4) rfl)) ?_
  refine W.iand K 8 d3_7 ?_
  refine W.callSv2 K 11 d3_8 (hw _ (List.mem_of_getElem? (i := 12) rfl)) (hw _ (List.mem_of_getElem? (i := 13) rfl)) (hw _ (List.mem_of_getElem? (i := 7) rfl)) (hw _ (List.mem_of_getElem? (i := 14) rfl)) pd_4 (spec_4 l Z a0 hw _ _ _) (fun v os1 hq => ?_)
  obtain ⟨rfl, rfl⟩ := hq
  refine W.i2c K 12 d3_11 ?_
  refine W.creturn K d3_12 (own_nar _) ⟨_, rfl, rfl, rfl⟩
set_option maxRecDepth 65536 in
set_option maxHeartbeats 40000000 in
theorem spec_5 (l : Launch) (Z : State) (a0 : Array Value) (hw : ∀ d ∈ tables_1, d.before a0 Z = true) (a : Addr) (v1 v2 : Value) (rest : OS) : OMeets l Z (⟨"com/example/registrar/registrar/model/CodeUnits$Builder", "<init>", "()V"⟩ : MethodName) prog_6_method_1_code 1 none ({ frames := 1, cells := 1, slots := 8, locals := 12 } : Room) [(.ref a)] ((a, OBJ Z "com/example/registrar/registrar/model/CodeUnits$Builder" [("com/example/registrar/registrar/model/CodeUnits$Builder", "ranges", "[J", v1), ("com/example/registrar/registrar/model/CodeUnits$Builder", "size", "I", v2)]) :: rest) (RetN fun os' => ∃ ra : Addr, os' = (a, OBJ Z "com/example/registrar/registrar/model/CodeUnits$Builder" [("com/example/registrar/registrar/model/CodeUnits$Builder", "ranges", "[J", .ref ra), ("com/example/registrar/registrar/model/CodeUnits$Builder", "size", "I", v2)]) :: (ra, ARR Z .long (AF Value.long 8 (fun _ => (0 : Int64)))) :: rest) := by
  refine OMeets.of_body [.val (.ref a)] pn_5 (laid_eq _ _ rfl) ?_
  intro X K
  refine W.aloadN K 1 d5_0 0 rfl rfl rfl ?_
  refine W.initO K 4 d5_1 (hw _ (List.mem_of_getElem? (i := 21) rfl)) (hw _ (List.mem_of_getElem? (i := 22) rfl)) (hw _ (List.mem_of_getElem? (i := 23) rfl)) ?_
  refine W.aloadN K 5 d5_4 0 rfl rfl rfl ?_
  refine W.bipush K 7 d5_5 (8 : Int32) (by decide) ?_
  refine W.newarray (ty := .long) 8 8 K 9 d5_7 (hw _ (List.mem_of_getElem? (i := 24) rfl)) (by decide) (by decide) (fun b7 => ?_)
  rw [AF_repJ]
  refine W.putF (ty := (.array .long)) K 12 d5_9 (hw _ (List.mem_of_getElem? (i := 25) rfl)) (hw _ (List.mem_of_getElem? (i := 26) rfl)) (hw _ (List.mem_of_getElem? (i := 16) rfl)) (by decide +kernel) (by repeat (first | exact Upd.here | apply Upd.there)) (by repeat (first | exact UpdF.here | apply UpdF.there)) ?_
  refine WP.pick a (by repeat (first | exact pickHere | apply pickThere)) ?_
  exact W.return K d5_12 ⟨rfl, _, rfl⟩
set_option maxRecDepth 65536 in
set_option maxHeartbeats 40000000 in
theorem spec_8 (l : Launch) (Z : State) (a0 : Array Value) (hw : ∀ d ∈ tables_1, d.before a0 Z = true) (a : Addr) (kz : Int32) (k : Nat) (hk : kz.toInt = (k : Int)) (hkn : k < 16) (F : Nat → Int64) (os : OS) (hm : (a, ARR Z .long (AF Value.long 16 F)) ∈ os) : OMeets l Z (⟨"java/util/Arrays", "copyOf", "([JI)[J"⟩ : MethodName) jdk_65_method_124_code 3 (some (.array .long)) ({ frames := 1, cells := 1, slots := 16, locals := 18 } : Room) [(.ref a), (.int kz)] os (RetV fun v os' => ∃ z : Addr, v = .ref z ∧ os' = (z, ARR Z .long (AF Value.long k F)) :: os) := by
  have e0 : (0 : Int32).toInt = 0 := by decide
  have en : (16 : Int32).toInt = ((16 : Nat) : Int) := by decide
  refine OMeets.of_body [.val (.ref a), .val (.int kz), .unset] pn_8 (laid_eq _ _ rfl) ?_
  intro X K
  refine W.iloadN K 1 d8_0 1 rfl rfl ?_
  refine W.aloadN K 2 d8_1 0 rfl rfl rfl ?_
  refine W.arraylength (16 : Int32) K 3 d8_2 hm (AF_size en) ?_
  refine W.icmp_ne K 14 6 d8_3 (fun h3 => ?_) (fun h3 => False.elim (by have q := congrArg Int32.toInt h3; omega))
  refine W.iloadN K 15 d8_14 1 rfl rfl ?_
  refine W.newarray (ty := .long) k 16 K 17 d8_15 (hw _ (List.mem_of_getElem? (i := 24) rfl)) hk (by omega) (fun z => ?_)
  rw [AF_repJ]
  refine W.astoreN K 18 d8_17 2 rfl rfl rfl (by repeat (first | apply setLS | exact setL0)) ?_
  refine W.aloadN K 19 d8_18 0 rfl rfl rfl ?_
  refine W.iconst K 20 d8_19 (0 : Int32) (by decide) ?_
  refine W.aloadN K 21 d8_20 2 rfl rfl rfl ?_
  refine W.iconst K 22 d8_21 (0 : Int32) (by decide) ?_
  refine W.aloadN K 23 d8_22 0 rfl rfl rfl ?_
  refine W.arraylength (16 : Int32) K 24 d8_23 (List.mem_cons_of_mem _ hm) (AF_size en) ?_
  refine W.iloadN K 25 d8_24 1 rfl rfl ?_
  refine W.callSv2 K 28 d8_25 (hw _ (List.mem_of_getElem? (i := 38) rfl)) (hw _ (List.mem_of_getElem? (i := 6) rfl)) (hw _ (List.mem_of_getElem? (i := 7) rfl)) (hw _ (List.mem_of_getElem? (i := 8) rfl)) pd_2 (spec_2 l Z a0 hw _ _ _) (fun v os1 hq => ?_)
  obtain ⟨rfl, rfl⟩ := hq
  refine W.arraycopy 0 0 k K 31 d8_28 (hw _ (List.mem_of_getElem? (i := 39) rfl)) (hw _ (List.mem_of_getElem? (i := 42) rfl)) (hw _ (List.mem_of_getElem? (i := 40) rfl)) (hw _ (List.mem_of_getElem? (i := 41) rfl)) (List.mem_cons_of_mem _ hm) (by repeat (first | exact Upd.here | apply Upd.there)) e0 e0 (by unfold own_min; split <;> omega) (by rw [AF_len]; omega) (by rw [AF_len]; omega) rfl ?_
  rw [AF_copy (by omega)]
  refine W.aloadN K 32 d8_31 2 rfl rfl rfl ?_
  refine W.areturn K d8_32 ⟨_, rfl, _, rfl, rfl⟩
set_option maxRecDepth 65536 in
set_option maxHeartbeats 40000000 in
theorem spec_8G (l : Launch) (Z : State) (a0 : Array Value) (hw : ∀ d ∈ tables_1, d.before a0 Z = true) (a : Addr) (kz : Int32) (hk : kz = 16) (F : Nat → Int64) (os : OS) (hm : (a, ARR Z .long (AF Value.long 8 F)) ∈ os) : OMeets l Z (⟨"java/util/Arrays", "copyOf", "([JI)[J"⟩ : MethodName) jdk_65_method_124_code 3 (some (.array .long)) ({ frames := 1, cells := 1, slots := 16, locals := 18 } : Room) [(.ref a), (.int kz)] os (RetV fun v os' => ∃ z : Addr, v = .ref z ∧ os' = (z, ARR Z .long (AF Value.long 16 (fun i => if i < 8 then F i else 0))) :: os) := by
  have e0 : (0 : Int32).toInt = 0 := by decide
  subst hk
  refine OMeets.of_body [.val (.ref a), .val (.int 16), .unset] pn_8 (laid_eq _ _ rfl) ?_
  intro X K
  refine W.iloadN K 1 d8_0 1 rfl rfl ?_
  refine W.aloadN K 2 d8_1 0 rfl rfl rfl ?_
  refine W.arraylength 8 K 3 d8_2 hm (by rw [AF_len]; rfl) ?_
  refine W.icmp_ne K 14 6 d8_3 (fun h3 => ?_) (fun h3 => False.elim (absurd h3 (by decide)))
  refine W.iloadN K 15 d8_14 1 rfl rfl ?_
  refine W.newarray (ty := .long) 16 16 K 17 d8_15 (hw _ (List.mem_of_getElem? (i := 24) rfl)) (by decide) (by decide) (fun z => ?_)
  rw [AF_repJ]
  refine W.astoreN K 18 d8_17 2 rfl rfl rfl (by repeat (first | apply setLS | exact setL0)) ?_
  refine W.aloadN K 19 d8_18 0 rfl rfl rfl ?_
  refine W.iconst K 20 d8_19 (0 : Int32) (by decide) ?_
  refine W.aloadN K 21 d8_20 2 rfl rfl rfl ?_
  refine W.iconst K 22 d8_21 (0 : Int32) (by decide) ?_
  refine W.aloadN K 23 d8_22 0 rfl rfl rfl ?_
  refine W.arraylength 8 K 24 d8_23 (List.mem_cons_of_mem _ hm) (by rw [AF_len]; rfl) ?_
  refine W.iloadN K 25 d8_24 1 rfl rfl ?_
  refine W.callSv2 K 28 d8_25 (hw _ (List.mem_of_getElem? (i := 38) rfl)) (hw _ (List.mem_of_getElem? (i := 6) rfl)) (hw _ (List.mem_of_getElem? (i := 7) rfl)) (hw _ (List.mem_of_getElem? (i := 8) rfl)) pd_2 (spec_2 l Z a0 hw _ _ _) (fun v os1 hq => ?_)
  obtain ⟨rfl, rfl⟩ := hq
  refine W.arraycopy 0 0 8 K 31 d8_28 (hw _ (List.mem_of_getElem? (i := 39) rfl)) (hw _ (List.mem_of_getElem? (i := 42) rfl)) (hw _ (List.mem_of_getElem? (i := 40) rfl)) (hw _ (List.mem_of_getElem? (i := 41) rfl)) (List.mem_cons_of_mem _ hm) (by repeat (first | exact Upd.here | apply Upd.there)) e0 e0 (by decide) (by rw [AF_len]; omega) (by rw [AF_len]; omega) rfl ?_
  rw [own_grow]
  refine W.aloadN K 32 d8_31 2 rfl rfl rfl ?_
  refine W.areturn K d8_32 ⟨_, rfl, _, rfl, rfl⟩
set_option maxRecDepth 65536 in
set_option maxHeartbeats 40000000 in
theorem spec_14 (l : Launch) (Z : State) (a0 : Array Value) (hw : ∀ d ∈ tables_1, d.before a0 Z = true) (a : Addr) (kz : Int32) (k : Nat) (hk : kz.toInt = (k : Int)) (hkn : k < 18) (F : Nat → Int32) (os : OS) (hm : (a, ARR Z .char (AF Value.int 18 F)) ∈ os) : OMeets l Z (⟨"java/util/Arrays", "copyOf", "([CI)[C"⟩ : MethodName) jdk_65_method_125_code 3 (some (.array .char)) ({ frames := 1, cells := 1, slots := 18, locals := 18 } : Room) [(.ref a), (.int kz)] os (RetV fun v os' => ∃ z : Addr, v = .ref z ∧ os' = (z, ARR Z .char (AF Value.int k F)) :: os) := by
  have e0 : (0 : Int32).toInt = 0 := by decide
  have en : (18 : Int32).toInt = ((18 : Nat) : Int) := by decide
  refine OMeets.of_body [.val (.ref a), .val (.int kz), .unset] pn_14 (laid_eq _ _ rfl) ?_
  intro X K
  refine W.iloadN K 1 d14_0 1 rfl rfl ?_
  refine W.aloadN K 2 d14_1 0 rfl rfl rfl ?_
  refine W.arraylength (18 : Int32) K 3 d14_2 hm (AF_size en) ?_
  refine W.icmp_ne K 14 6 d14_3 (fun h3 => ?_) (fun h3 => False.elim (by have q := congrArg Int32.toInt h3; omega))
  refine W.iloadN K 15 d14_14 1 rfl rfl ?_
  refine W.newarray (ty := .char) k 18 K 17 d14_15 (hw _ (List.mem_of_getElem? (i := 61) rfl)) hk (by omega) (fun z => ?_)
  rw [AF_repC]
  refine W.astoreN K 18 d14_17 2 rfl rfl rfl (by repeat (first | apply setLS | exact setL0)) ?_
  refine W.aloadN K 19 d14_18 0 rfl rfl rfl ?_
  refine W.iconst K 20 d14_19 (0 : Int32) (by decide) ?_
  refine W.aloadN K 21 d14_20 2 rfl rfl rfl ?_
  refine W.iconst K 22 d14_21 (0 : Int32) (by decide) ?_
  refine W.aloadN K 23 d14_22 0 rfl rfl rfl ?_
  refine W.arraylength (18 : Int32) K 24 d14_23 (List.mem_cons_of_mem _ hm) (AF_size en) ?_
  refine W.iloadN K 25 d14_24 1 rfl rfl ?_
  refine W.callSv2 K 28 d14_25 (hw _ (List.mem_of_getElem? (i := 38) rfl)) (hw _ (List.mem_of_getElem? (i := 6) rfl)) (hw _ (List.mem_of_getElem? (i := 7) rfl)) (hw _ (List.mem_of_getElem? (i := 8) rfl)) pd_2 (spec_2 l Z a0 hw _ _ _) (fun v os1 hq => ?_)
  obtain ⟨rfl, rfl⟩ := hq
  refine W.arraycopy 0 0 k K 31 d14_28 (hw _ (List.mem_of_getElem? (i := 39) rfl)) (hw _ (List.mem_of_getElem? (i := 42) rfl)) (hw _ (List.mem_of_getElem? (i := 40) rfl)) (hw _ (List.mem_of_getElem? (i := 41) rfl)) (List.mem_cons_of_mem _ hm) (by repeat (first | exact Upd.here | apply Upd.there)) e0 e0 (by unfold own_min; split <;> omega) (by rw [AF_len]; omega) (by rw [AF_len]; omega) rfl ?_
  rw [AF_copy (by omega)]
  refine W.aloadN K 32 d14_31 2 rfl rfl rfl ?_
  refine W.areturn K d14_32 ⟨_, rfl, _, rfl, rfl⟩
set_option maxRecDepth 65536 in
set_option maxHeartbeats 40000000 in
theorem spec_7 (l : Launch) (Z : State) (a0 : Array Value) (hw : ∀ d ∈ tables_1, d.before a0 Z = true) (a ra : Addr) (lo hi kz : Int32) (k : Nat) (hk : kz.toInt = (k : Int)) (hk8 : k < 8) (F : Nat → Int64) (rest : OS) : OMeets l Z (⟨"com/example/registrar/registrar/model/CodeUnits$Builder", "add", "(CC)Lcom/example/registrar/registrar/model/CodeUnits$Builder;"⟩ : MethodName) prog_6_method_2_code 3 (some (.object "com/example/registrar/registrar/model/CodeUnits$Builder")) ({ frames := 0, cells := 0, slots := 0, locals := 0 } : Room) [(.ref a), (.int lo), (.int hi)] ((a, OBJ Z "com/example/registrar/registrar/model/CodeUnits$Builder" [("com/example/registrar/registrar/model/CodeUnits$Builder", "ranges", "[J", .ref ra), ("com/example/registrar/registrar/model/CodeUnits$Builder", "size", "I", .int kz)]) :: (ra, ARR Z .long (AF Value.long 8 F)) :: rest) (RetV fun v os' => v = .ref a ∧ os' = (a, OBJ Z "com/example/registrar/registrar/model/CodeUnits$Builder" [("com/example/registrar/registrar/model/CodeUnits$Builder", "ranges", "[J", .ref ra), ("com/example/registrar/registrar/model/CodeUnits$Builder", "size", "I", .int (kz + 1))]) :: (ra, ARR Z .long (AF Value.long 8 (updA F k (own_v lo hi)))) :: rest) := by
  have e8 : (8 : Int32).toInt = 8 := by decide
  refine OMeets.of_body [.val (.ref a), .val (.int lo), .val (.int hi)] pn_7 (laid_eq _ _ rfl) ?_
  intro X K
  refine W.aloadN K 1 d7_0 0 rfl rfl rfl ?_
  refine W.getF K 4 d7_1 (hw _ (List.mem_of_getElem? (i := 32) rfl)) (by repeat (first | exact List.mem_cons_self | apply List.mem_cons_of_mem)) (by repeat (first | exact List.mem_cons_self | apply List.mem_cons_of_mem)) ?_
  refine W.aloadN K 5 d7_4 0 rfl rfl rfl ?_
  refine W.getF K 8 d7_5 (hw _ (List.mem_of_getElem? (i := 25) rfl)) (by repeat (first | exact List.mem_cons_self | apply List.mem_cons_of_mem)) (by repeat (first | exact List.mem_cons_self | apply List.mem_cons_of_mem)) ?_
  refine W.arraylength 8 K 9 d7_8 (by repeat (first | exact List.mem_cons_self | apply List.mem_cons_of_mem)) (by rw [AF_len]; rfl) ?_
  refine W.icmp_ne K 29 12 d7_9 (fun h9 => ?_) (fun h9 => False.elim (by rw [h9] at hk; omega))
  refine W.aloadN K 30 d7_29 0 rfl rfl rfl ?_
  refine W.getF K 33 d7_30 (hw _ (List.mem_of_getElem? (i := 25) rfl)) (by repeat (first | exact List.mem_cons_self | apply List.mem_cons_of_mem)) (by repeat (first | exact List.mem_cons_self | apply List.mem_cons_of_mem)) ?_
  refine W.aloadN K 34 d7_33 0 rfl rfl rfl ?_
  refine W.dup K 35 d7_34 ?_
  refine W.getF K 38 d7_35 (hw _ (List.mem_of_getElem? (i := 32) rfl)) (by repeat (first | exact List.mem_cons_self | apply List.mem_cons_of_mem)) (by repeat (first | exact List.mem_cons_self | apply List.mem_cons_of_mem)) ?_
  refine W.dupX1 K 39 d7_38 ?_
  refine W.iconst K 40 d7_39 (1 : Int32) (by decide) ?_
  refine W.iadd K 41 d7_40 ?_
  refine W.putF (ty := .int) K 44 d7_41 (hw _ (List.mem_of_getElem? (i := 32) rfl)) (hw _ (List.mem_of_getElem? (i := 33) rfl)) (hw _ (List.mem_of_getElem? (i := 16) rfl)) (by decide +kernel) (by repeat (first | exact Upd.here | apply Upd.there)) (by repeat (first | exact UpdF.here | apply UpdF.there)) ?_
  refine W.iloadN K 45 d7_44 1 rfl rfl ?_
  refine W.i2l K 46 d7_45 ?_
  refine W.bipush K 48 d7_46 (16 : Int32) (by decide) ?_
  refine W.lshl K 49 d7_48 ?_
  refine W.iloadN K 50 d7_49 2 rfl rfl ?_
  refine W.i2l K 51 d7_50 ?_
  refine W.lor K 52 d7_51 ?_
  refine W.lastore k K 53 d7_52 (by repeat (first | exact Upd.here | apply Upd.there)) hk (AF_at (by omega)) ?_
  rw [AF_set]
  refine W.aloadN K 54 d7_53 0 rfl rfl rfl ?_
  refine W.areturn K d7_54 ⟨_, rfl, rfl, rfl⟩
set_option maxRecDepth 65536 in
set_option maxHeartbeats 40000000 in
theorem spec_7G (l : Launch) (Z : State) (a0 : Array Value) (hw : ∀ d ∈ tables_1, d.before a0 Z = true) (a ra : Addr) (lo hi kz : Int32) (hk : kz = 8) (F : Nat → Int64) (rest : OS) : OMeets l Z (⟨"com/example/registrar/registrar/model/CodeUnits$Builder", "add", "(CC)Lcom/example/registrar/registrar/model/CodeUnits$Builder;"⟩ : MethodName) prog_6_method_2_code 3 (some (.object "com/example/registrar/registrar/model/CodeUnits$Builder")) ({ frames := 2, cells := 1, slots := 16, locals := 33 } : Room) [(.ref a), (.int lo), (.int hi)] ((a, OBJ Z "com/example/registrar/registrar/model/CodeUnits$Builder" [("com/example/registrar/registrar/model/CodeUnits$Builder", "ranges", "[J", .ref ra), ("com/example/registrar/registrar/model/CodeUnits$Builder", "size", "I", .int kz)]) :: (ra, ARR Z .long (AF Value.long 8 F)) :: rest) (RetV fun v os' => v = .ref a ∧ ∃ (na : Addr) (rest' : OS), os' = (a, OBJ Z "com/example/registrar/registrar/model/CodeUnits$Builder" [("com/example/registrar/registrar/model/CodeUnits$Builder", "ranges", "[J", .ref na), ("com/example/registrar/registrar/model/CodeUnits$Builder", "size", "I", .int 9)]) :: (na, ARR Z .long (AF Value.long 16 (updA (fun i => if i < 8 then F i else 0) 8 (own_v lo hi)))) :: rest') := by
  subst hk
  refine OMeets.of_body [.val (.ref a), .val (.int lo), .val (.int hi)] pn_7 (laid_eq _ _ rfl) ?_
  intro X K
  refine W.aloadN K 1 d7_0 0 rfl rfl rfl ?_
  refine W.getF K 4 d7_1 (hw _ (List.mem_of_getElem? (i := 32) rfl)) (by repeat (first | exact List.mem_cons_self | apply List.mem_cons_of_mem)) (by repeat (first | exact List.mem_cons_self | apply List.mem_cons_of_mem)) ?_
  refine W.aloadN K 5 d7_4 0 rfl rfl rfl ?_
  refine W.getF K 8 d7_5 (hw _ (List.mem_of_getElem? (i := 25) rfl)) (by repeat (first | exact List.mem_cons_self | apply List.mem_cons_of_mem)) (by repeat (first | exact List.mem_cons_self | apply List.mem_cons_of_mem)) ?_
  refine W.arraylength 8 K 9 d7_8 (by repeat (first | exact List.mem_cons_self | apply List.mem_cons_of_mem)) (by rw [AF_len]; rfl) ?_
  refine W.icmp_ne K 29 12 d7_9 (fun h9 => False.elim (h9 rfl)) (fun h9 => ?_)
  refine W.aloadN K 13 d7_12 0 rfl rfl rfl ?_
  refine W.aloadN K 14 d7_13 0 rfl rfl rfl ?_
  refine W.getF K 17 d7_14 (hw _ (List.mem_of_getElem? (i := 25) rfl)) (by repeat (first | exact List.mem_cons_self | apply List.mem_cons_of_mem)) (by repeat (first | exact List.mem_cons_self | apply List.mem_cons_of_mem)) ?_
  refine W.iconst K 18 d7_17 (2 : Int32) (by decide) ?_
  refine W.aloadN K 19 d7_18 0 rfl rfl rfl ?_
  refine W.getF K 22 d7_19 (hw _ (List.mem_of_getElem? (i := 32) rfl)) (by repeat (first | exact List.mem_cons_self | apply List.mem_cons_of_mem)) (by repeat (first | exact List.mem_cons_self | apply List.mem_cons_of_mem)) ?_
  refine W.imul K 23 d7_22 ?_
  refine W.callSv2 K 26 d7_23 (hw _ (List.mem_of_getElem? (i := 34) rfl)) (hw _ (List.mem_of_getElem? (i := 35) rfl)) (hw _ (List.mem_of_getElem? (i := 36) rfl)) (hw _ (List.mem_of_getElem? (i := 37) rfl)) pd_8 (spec_8G l Z a0 hw ra _ (by decide) F _ (by repeat (first | exact List.mem_cons_self | apply List.mem_cons_of_mem))) (fun v os1 hq => ?_)
  obtain ⟨na, rfl, rfl⟩ := hq
  refine W.putF (ty := (.array .long)) K 29 d7_26 (hw _ (List.mem_of_getElem? (i := 25) rfl)) (hw _ (List.mem_of_getElem? (i := 26) rfl)) (hw _ (List.mem_of_getElem? (i := 16) rfl)) (by decide +kernel) (by repeat (first | exact Upd.here | apply Upd.there)) (by repeat (first | exact UpdF.here | apply UpdF.there)) ?_
  refine W.aloadN K 30 d7_29 0 rfl rfl rfl ?_
  refine W.getF K 33 d7_30 (hw _ (List.mem_of_getElem? (i := 25) rfl)) (by repeat (first | exact List.mem_cons_self | apply List.mem_cons_of_mem)) (by repeat (first | exact List.mem_cons_self | apply List.mem_cons_of_mem)) ?_
  refine W.aloadN K 34 d7_33 0 rfl rfl rfl ?_
  refine W.dup K 35 d7_34 ?_
  refine W.getF K 38 d7_35 (hw _ (List.mem_of_getElem? (i := 32) rfl)) (by repeat (first | exact List.mem_cons_self | apply List.mem_cons_of_mem)) (by repeat (first | exact List.mem_cons_self | apply List.mem_cons_of_mem)) ?_
  refine W.dupX1 K 39 d7_38 ?_
  refine W.iconst K 40 d7_39 (1 : Int32) (by decide) ?_
  refine W.iadd K 41 d7_40 ?_
  refine W.putF (ty := .int) K 44 d7_41 (hw _ (List.mem_of_getElem? (i := 32) rfl)) (hw _ (List.mem_of_getElem? (i := 33) rfl)) (hw _ (List.mem_of_getElem? (i := 16) rfl)) (by decide +kernel) (by repeat (first | exact Upd.here | apply Upd.there)) (by repeat (first | exact UpdF.here | apply UpdF.there)) ?_
  refine W.iloadN K 45 d7_44 1 rfl rfl ?_
  refine W.i2l K 46 d7_45 ?_
  refine W.bipush K 48 d7_46 (16 : Int32) (by decide) ?_
  refine W.lshl K 49 d7_48 ?_
  refine W.iloadN K 50 d7_49 2 rfl rfl ?_
  refine W.i2l K 51 d7_50 ?_
  refine W.lor K 52 d7_51 ?_
  refine W.lastore 8 K 53 d7_52 (by repeat (first | exact Upd.here | apply Upd.there)) (by decide) (AF_at (by omega)) ?_
  rw [AF_set]
  refine W.aloadN K 54 d7_53 0 rfl rfl rfl ?_
  refine WP.pick a (by repeat (first | exact pickHere | apply pickThere)) ?_
  refine W.areturn K d7_54 ⟨_, rfl, rfl, na, _, rfl⟩
set_option maxRecDepth 65536 in
set_option maxHeartbeats 40000000 in
theorem spec_13 (l : Launch) (Z : State) (a0 : Array Value) (hw : ∀ d ∈ tables_1, d.before a0 Z = true) (a : Addr) (F : Nat → Int64) (rest : OS) : OMeets l Z (⟨"java/util/DualPivotQuicksort", "insertionSort", "([JII)V"⟩ : MethodName) jdk_2529_method_15_code 7 none ({ frames := 0, cells := 0, slots := 0, locals := 0 } : Room) [(.ref a), (.int 0), (.int 9)] ((a, ARR Z .long (AF Value.long 9 F)) :: rest) (RetN fun os' => ∃ G, os' = (a, ARR Z .long (AF Value.long 9 G)) :: rest ∧ own_same 9 F G ∧ own_sorted G 9) := by
  have e9 : (9 : Int32).toInt = 9 := by decide
  have e1 : (1 : Int32).toInt = 1 := by decide
  have e0 : (0 : Int32).toInt = ((0 : Nat) : Int) := by decide
  have em : (-1 : Int32).toInt = -1 := by decide
  refine OMeets.of_body [.val (.ref a), .val (.int 0), .val (.int 9), .unset, .unset, .unset, .unset] pn_13 (laid_eq _ _ rfl) ?_
  intro X K
  have L2 : ∀ (h : Nat) (i : Int32) (A : Nat → Int64) (k : Nat) (kz : Int32) (v : Int64), i.toInt = (h : Int) → h ≤ k → k < 9 → own_hole A (k + 1) h v → (∀ (i : Int32) (A' : Nat → Int64), own_sorted A' (k + 1) → own_same 9 (updA A h v) A' → WP X Z 0 0 (RetN fun os' => ∃ G, os' = (a, ARR Z .long (AF Value.long 9 G)) :: rest ∧ own_same 9 F G ∧ own_sorted G 9) 3 [.val (.ref a), .val (.int 0), .val (.int 9), .val (.int i), .val (.int kz), .val (.long v), .second] [] ((a, ARR Z .long (AF Value.long 9 A')) :: rest) 0 0) → WP X Z 0 0 (RetN fun os' => ∃ G, os' = (a, ARR Z .long (AF Value.long 9 G)) :: rest ∧ own_same 9 F G ∧ own_sorted G 9) 31 [.val (.ref a), .val (.int 0), .val (.int 9), .val (.int i), .val (.int kz), .val (.long v), .second] [] ((a, ARR Z .long (AF Value.long 9 A)) :: rest) 0 0 := by
    intro h
    induction h with
    | zero =>
      intro i A k kz v hi hk hk9 H kk
      have q1 : (i + -1).toInt = -1 := by rw [toInt_add32 hi em (by omega) (by omega)]; omega
      have q2 : (i + -1 + 1).toInt = ((0 : Nat) : Int) := by rw [toInt_add32 q1 e1 (by omega) (by omega)]; omega
      refine W.iinc K 34 d13_31 (-1 : Int32) (by decide) rfl (by repeat (first | apply setLS | exact setL0)) ?_
      refine W.iloadN K 35 d13_34 3 rfl rfl ?_
      refine W.iloadN K 36 d13_35 1 rfl rfl ?_
      refine W.icmp_lt K 59 39 d13_36 (fun h36 => ?_) (fun h36 => False.elim (by omega))
      refine W.aloadN K 60 d13_59 0 rfl rfl rfl ?_
      refine W.iloadN K 61 d13_60 3 rfl rfl ?_
      refine W.iconst K 62 d13_61 (1 : Int32) (by decide) ?_
      refine W.iadd K 63 d13_62 ?_
      refine W.lload K 65 d13_63 rfl ?_
      refine W.lastore 0 K 66 d13_65 (by repeat (first | exact Upd.here | apply Upd.there)) q2 (AF_at (by omega)) ?_
      rw [AF_set]
      refine W.goto K 3 d13_66 ?_
      exact kk _ _ (own_hole_end H (fun p hp => by omega)) (own_same_refl _ _)
    | succ h ih =>
      intro i A k kz v hi hk hk9 H kk
      have q1 : (i + -1).toInt = (h : Int) := by rw [toInt_add32 hi em (by omega) (by omega)]; omega
      have q2 : (i + -1 + 1).toInt = ((h + 1 : Nat) : Int) := by rw [toInt_add32 q1 e1 (by omega) (by omega)]; omega
      refine W.iinc K 34 d13_31 (-1 : Int32) (by decide) rfl (by repeat (first | apply setLS | exact setL0)) ?_
      refine W.iloadN K 35 d13_34 3 rfl rfl ?_
      refine W.iloadN K 36 d13_35 1 rfl rfl ?_
      refine W.icmp_lt K 59 39 d13_36 (fun h36 => False.elim (by omega)) (fun h36 => ?_)
      refine W.lload K 41 d13_39 rfl ?_
      refine W.aloadN K 42 d13_41 0 rfl rfl rfl ?_
      refine W.iloadN K 43 d13_42 3 rfl rfl ?_
      refine W.laload h K 44 d13_43 (by repeat (first | exact List.mem_cons_self | apply List.mem_cons_of_mem)) q1 (AF_at (by omega)) ?_
      refine W.lcmp_ge K 45 59 48 d13_44 d13_45 (fun h45 => ?_) (fun h45 => ?_)
      · refine W.aloadN K 60 d13_59 0 rfl rfl rfl ?_
        refine W.iloadN K 61 d13_60 3 rfl rfl ?_
        refine W.iconst K 62 d13_61 (1 : Int32) (by decide) ?_
        refine W.iadd K 63 d13_62 ?_
        refine W.lload K 65 d13_63 rfl ?_
        refine W.lastore (h + 1) K 66 d13_65 (by repeat (first | exact Upd.here | apply Upd.there)) q2 (AF_at (by omega)) ?_
        rw [AF_set]
        refine W.goto K 3 d13_66 ?_
        exact kk _ _ (own_hole_end H (own_hole_low H (by omega) h45)) (own_same_refl _ _)
      · refine W.aloadN K 49 d13_48 0 rfl rfl rfl ?_
        refine W.iloadN K 50 d13_49 3 rfl rfl ?_
        refine W.iconst K 51 d13_50 (1 : Int32) (by decide) ?_
        refine W.iadd K 52 d13_51 ?_
        refine W.aloadN K 53 d13_52 0 rfl rfl rfl ?_
        refine W.iloadN K 54 d13_53 3 rfl rfl ?_
        refine W.laload h K 55 d13_54 (by repeat (first | exact List.mem_cons_self | apply List.mem_cons_of_mem)) q1 (AF_at (by omega)) ?_
        refine W.lastore (h + 1) K 56 d13_55 (by repeat (first | exact Upd.here | apply Upd.there)) q2 (AF_at (by omega)) ?_
        rw [AF_set]
        refine W.goto K 31 d13_56 ?_
        exact ih (i + -1) _ k kz v q1 (by omega) hk9 (own_hole_step H (by omega) h45) (fun i' A' s1 s2 => kk i' A' s1 (own_same_trans (own_swap A v (by omega)) s2))
  have L1 : ∀ (m k : Nat) (kz : Int32) (w3 w5 w6 : Slot) (A : Nat → Int64), kz.toInt = (k : Int) → k + m = 8 → okS w3 = true → ((w5 = .unset ∧ w6 = .unset) ∨ ∃ u, w5 = .val (.long u) ∧ w6 = .second) → own_sorted A (k + 1) → own_same 9 F A → WP X Z 0 0 (RetN fun os' => ∃ G, os' = (a, ARR Z .long (AF Value.long 9 G)) :: rest ∧ own_same 9 F G ∧ own_sorted G 9) 3 [.val (.ref a), .val (.int 0), .val (.int 9), w3, .val (.int kz), w5, w6] [] ((a, ARR Z .long (AF Value.long 9 A)) :: rest) 0 0 := by
    intro m
    induction m with
    | zero =>
      intro k kz w3 w5 w6 A hk hm g3 g5 hS hO
      have q1 : (kz + 1).toInt = ((k + 1 : Nat) : Int) := by rw [toInt_add32 hk e1 (by omega) (by omega)]; omega
      refine W.iinc K 6 d13_3 (1 : Int32) (by decide) rfl (by repeat (first | apply setLS | exact setL0)) ?_
      refine W.iload K 8 d13_6 rfl ?_
      refine W.iloadN K 9 d13_8 2 rfl rfl ?_
      refine W.icmp_ge K 69 12 d13_9 (fun h9 => ?_) (fun h9 => False.elim (by omega))
      exact W.return K d13_69 ⟨rfl, A, rfl, hO, (show k + 1 = 9 by omega) ▸ hS⟩
    | succ m ih =>
      intro k kz w3 w5 w6 A hk hm g3 g5 hS hO
      have q1 : (kz + 1).toInt = ((k + 1 : Nat) : Int) := by rw [toInt_add32 hk e1 (by omega) (by omega)]; omega
      have q2 : (kz + 1 - 1).toInt = (k : Int) := by rw [toInt_sub32 q1 e1 (by omega) (by omega)]; omega
      refine W.iinc K 6 d13_3 (1 : Int32) (by decide) rfl (by repeat (first | apply setLS | exact setL0)) ?_
      refine W.iload K 8 d13_6 rfl ?_
      refine W.iloadN K 9 d13_8 2 rfl rfl ?_
      refine W.icmp_ge K 69 12 d13_9 (fun h9 => False.elim (by omega)) (fun h9 => ?_)
      refine W.aloadN K 13 d13_12 0 rfl rfl rfl ?_
      refine W.iload K 15 d13_13 rfl ?_
      refine W.dup K 16 d13_15 ?_
      refine W.istoreN K 17 d13_16 3 rfl (congrArg some g3) (by repeat (first | apply setLS | exact setL0)) ?_
      refine W.laload (k + 1) K 18 d13_17 (by repeat (first | exact List.mem_cons_self | apply List.mem_cons_of_mem)) q1 (AF_at (by omega)) ?_
      refine W.lstore K 20 d13_18 (by repeat (first | apply setLS | exact setL0)) (by repeat (first | apply setLS | exact setL0)) ?_ (by rcases g5 with ⟨rfl, rfl⟩ | ⟨u, rfl, rfl⟩ <;> rfl)
      refine W.lload K 22 d13_20 rfl ?_
      refine W.aloadN K 23 d13_22 0 rfl rfl rfl ?_
      refine W.iloadN K 24 d13_23 3 rfl rfl ?_
      refine W.iconst K 25 d13_24 (1 : Int32) (by decide) ?_
      refine W.isub K 26 d13_25 ?_
      refine W.laload k K 27 d13_26 (by repeat (first | exact List.mem_cons_self | apply List.mem_cons_of_mem)) q2 (AF_at (by omega)) ?_
      refine W.lcmp_ge K 28 66 31 d13_27 d13_28 (fun h28 => ?_) (fun h28 => ?_)
      · refine W.goto K 3 d13_66 ?_
        exact ih (k + 1) (kz + 1) _ _ _ A q1 (by omega) rfl (Or.inr ⟨_, rfl, rfl⟩) (own_sorted_last hS (by omega)) hO
      · exact L2 (k + 1) (kz + 1) A (k + 1) (kz + 1) (A (k + 1)) q1 (by omega) (by omega) (own_hole_start hS) (fun i' A' s1 s2 => ih (k + 1) (kz + 1) _ _ _ A' q1 (by omega) rfl (Or.inr ⟨_, rfl, rfl⟩) s1 (own_same_trans hO (by rw [own_same_id rfl] at s2; exact s2)))
  refine W.iloadN K 1 d13_0 1 rfl rfl ?_
  refine W.istore K 3 d13_1 rfl (by repeat (first | apply setLS | exact setL0)) ?_
  exact L1 8 0 0 .unset .unset .unset F e0 (by omega) rfl (Or.inl ⟨rfl, rfl⟩) (fun p q h1 h2 => by omega) (own_same_refl _ _)
set_option maxRecDepth 65536 in
set_option maxHeartbeats 40000000 in
theorem spec_12 (l : Launch) (Z : State) (a0 : Array Value) (hw : ∀ d ∈ tables_1, d.before a0 Z = true) (a : Addr) (F : Nat → Int64) (rest : OS) : OMeets l Z (⟨"java/util/DualPivotQuicksort", "sort", "(Ljava/util/DualPivotQuicksort$Sorter;[JIII)V"⟩ : MethodName) jdk_2529_method_13_code 25 none ({ frames := 1, cells := 0, slots := 0, locals := 18 } : Room) [.null, (.ref a), (.int 0), (.int 0), (.int 9)] ((a, ARR Z .long (AF Value.long 9 F)) :: rest) (RetN fun os' => ∃ G, os' = (a, ARR Z .long (AF Value.long 9 G)) :: rest ∧ own_same 9 F G ∧ own_sorted G 9) := by
  refine OMeets.of_body [.val .null, .val (.ref a), .val (.int 0), .val (.int 0), .val (.int 9), .unset, .unset, .unset, .unset, .unset, .unset, .unset, .unset, .unset, .unset, .unset, .unset, .unset, .unset, .unset, .unset, .unset, .unset, .unset, .unset] pn_12 (laid_eq _ _ rfl) ?_
  intro X K
  refine W.iload K 2 d12_0 rfl ?_
  refine W.iconst K 3 d12_2 (1 : Int32) (by decide) ?_
  refine W.isub K 4 d12_3 ?_
  refine W.istore K 6 d12_4 rfl (by repeat (first | apply setLS | exact setL0)) ?_
  refine W.iload K 8 d12_6 rfl ?_
  refine W.iloadN K 9 d12_8 3 rfl rfl ?_
  refine W.isub K 10 d12_9 ?_
  refine W.istore K 12 d12_10 rfl (by repeat (first | apply setLS | exact setL0)) ?_
  refine W.iload K 14 d12_12 rfl ?_
  refine W.bipush K 16 d12_14 (65 : Int32) (by decide) ?_
  refine W.iloadN K 17 d12_16 2 rfl rfl ?_
  refine W.iadd K 18 d12_17 ?_
  refine W.icmp_ge K 46 21 d12_18 (fun h18 => False.elim (absurd h18 (by decide))) (fun h18 => ?_)
  refine W.iloadN K 22 d12_21 2 rfl rfl ?_
  refine W.iconst K 23 d12_22 (1 : Int32) (by decide) ?_
  refine W.iand K 24 d12_23 ?_
  refine W.if_le K 46 27 d12_24 (fun h24 => ?_) (fun h24 => False.elim (absurd h24 (by decide)))
  refine W.iload K 48 d12_46 rfl ?_
  refine W.bipush K 50 d12_48 (44 : Int32) (by decide) ?_
  refine W.icmp_ge K 61 53 d12_50 (fun h50 => False.elim (absurd h50 (by decide))) (fun h50 => ?_)
  refine W.aloadN K 54 d12_53 1 rfl rfl rfl ?_
  refine W.iloadN K 55 d12_54 3 rfl rfl ?_
  refine W.iload K 57 d12_55 rfl ?_
  refine W.callSn3 K 60 d12_57 (hw _ (List.mem_of_getElem? (i := 58) rfl)) (hw _ (List.mem_of_getElem? (i := 59) rfl)) (hw _ (List.mem_of_getElem? (i := 53) rfl)) (hw _ (List.mem_of_getElem? (i := 60) rfl)) pd_13 (spec_13 l Z a0 hw _ _ _) (fun os1 hq => ?_)
  obtain ⟨G, rfl, hs1, hs2⟩ := hq
  exact W.return K d12_60 ⟨rfl, G, rfl, hs1, hs2⟩
set_option maxRecDepth 65536 in
set_option maxHeartbeats 40000000 in
theorem spec_11 (l : Launch) (Z : State) (a0 : Array Value) (hw : ∀ d ∈ tables_1, d.before a0 Z = true) (a : Addr) (F : Nat → Int64) (rest : OS) : OMeets l Z (⟨"java/util/DualPivotQuicksort", "sort", "([JIII)V"⟩ : MethodName) jdk_2529_method_12_code 7 none ({ frames := 2, cells := 0, slots := 0, locals := 54 } : Room) [(.ref a), (.int 0), (.int 0), (.int 9)] ((a, ARR Z .long (AF Value.long 9 F)) :: rest) (RetN fun os' => ∃ G, os' = (a, ARR Z .long (AF Value.long 9 G)) :: rest ∧ own_same 9 F G ∧ own_sorted G 9) := by
  refine OMeets.of_body [.val (.ref a), .val (.int 0), .val (.int 0), .val (.int 9), .unset, .unset, .unset] pn_11 (laid_eq _ _ rfl) ?_
  intro X K
  refine W.iloadN K 1 d11_0 3 rfl rfl ?_
  refine W.iloadN K 2 d11_1 2 rfl rfl ?_
  refine W.isub K 3 d11_2 ?_
  refine W.istore K 5 d11_3 rfl (by repeat (first | apply setLS | exact setL0)) ?_
  refine W.iloadN K 6 d11_5 1 rfl rfl ?_
  refine W.iconst K 7 d11_6 (1 : Int32) (by decide) ?_
  refine W.icmp_le K 68 10 d11_7 (fun h7 => ?_) (fun h7 => False.elim (absurd h7 (by decide)))
  refine W.aconst K 69 d11_68 ?_
  refine W.aloadN K 70 d11_69 0 rfl rfl rfl ?_
  refine W.iconst K 71 d11_70 (0 : Int32) (by decide) ?_
  refine W.iloadN K 72 d11_71 2 rfl rfl ?_
  refine W.iloadN K 73 d11_72 3 rfl rfl ?_
  refine W.callSn5 K 76 d11_73 (hw _ (List.mem_of_getElem? (i := 55) rfl)) (hw _ (List.mem_of_getElem? (i := 56) rfl)) (hw _ (List.mem_of_getElem? (i := 53) rfl)) (hw _ (List.mem_of_getElem? (i := 57) rfl)) pd_12 (spec_12 l Z a0 hw _ _ _) (fun os1 hq => ?_)
  obtain ⟨G, rfl, hs1, hs2⟩ := hq
  exact W.return K d11_76 ⟨rfl, G, rfl, hs1, hs2⟩
set_option maxRecDepth 65536 in
set_option maxHeartbeats 40000000 in
theorem spec_10 (l : Launch) (Z : State) (a0 : Array Value) (hw : ∀ d ∈ tables_1, d.before a0 Z = true) (a : Addr) (F : Nat → Int64) (rest : OS) : OMeets l Z (⟨"java/util/Arrays", "sort", "([J)V"⟩ : MethodName) jdk_65_method_4_code 1 none ({ frames := 3, cells := 0, slots := 0, locals := 72 } : Room) [(.ref a)] ((a, ARR Z .long (AF Value.long 9 F)) :: rest) (RetN fun os' => ∃ G, os' = (a, ARR Z .long (AF Value.long 9 G)) :: rest ∧ own_same 9 F G ∧ own_sorted G 9) := by
  refine OMeets.of_body [.val (.ref a)] pn_10 (laid_eq _ _ rfl) ?_
  intro X K
  refine W.aloadN K 1 d10_0 0 rfl rfl rfl ?_
  refine W.iconst K 2 d10_1 (0 : Int32) (by decide) ?_
  refine W.iconst K 3 d10_2 (0 : Int32) (by decide) ?_
  refine W.aloadN K 4 d10_3 0 rfl rfl rfl ?_
  refine W.arraylength 9 K 5 d10_4 (by repeat (first | exact List.mem_cons_self | apply List.mem_cons_of_mem)) (by rw [AF_len]; rfl) ?_
  refine W.callSn4 K 8 d10_5 (hw _ (List.mem_of_getElem? (i := 51) rfl)) (hw _ (List.mem_of_getElem? (i := 52) rfl)) (hw _ (List.mem_of_getElem? (i := 53) rfl)) (hw _ (List.mem_of_getElem? (i := 54) rfl)) pd_11 (spec_11 l Z a0 hw _ _ _) (fun os1 hq => ?_)
  obtain ⟨G, rfl, hs1, hs2⟩ := hq
  exact W.return K d10_8 ⟨rfl, G, rfl, hs1, hs2⟩
set_option maxRecDepth 65536 in
set_option maxHeartbeats 40000000 in
theorem spec_15 (l : Launch) (Z : State) (a0 : Array Value) (hw : ∀ d ∈ tables_1, d.before a0 Z = true) (a d : Addr) (v0 : Value) (rest : OS) : OMeets l Z (⟨"com/example/registrar/registrar/model/CodeUnits", "<init>", "([C)V"⟩ : MethodName) prog_5_method_1_code 2 none ({ frames := 1, cells := 0, slots := 0, locals := 12 } : Room) [(.ref a), (.ref d)] ((a, OBJ Z "com/example/registrar/registrar/model/CodeUnits" [("com/example/registrar/registrar/model/CodeUnits", "bounds", "[C", v0)]) :: rest) (RetN fun os' => os' = (a, OBJ Z "com/example/registrar/registrar/model/CodeUnits" [("com/example/registrar/registrar/model/CodeUnits", "bounds", "[C", .ref d)]) :: rest) := by
  refine OMeets.of_body [.val (.ref a), .val (.ref d)] pn_15 (laid_eq _ _ rfl) ?_
  intro X K
  refine W.aloadN K 1 d15_0 0 rfl rfl rfl ?_
  refine W.initO K 4 d15_1 (hw _ (List.mem_of_getElem? (i := 72) rfl)) (hw _ (List.mem_of_getElem? (i := 22) rfl)) (hw _ (List.mem_of_getElem? (i := 23) rfl)) ?_
  refine W.aloadN K 5 d15_4 0 rfl rfl rfl ?_
  refine W.aloadN K 6 d15_5 1 rfl rfl rfl ?_
  refine W.putFf (ty := (.array .char)) K 9 d15_6 (hw _ (List.mem_of_getElem? (i := 73) rfl)) (hw _ (List.mem_of_getElem? (i := 74) rfl)) (hw _ (List.mem_of_getElem? (i := 64) rfl)) (by decide +kernel) (by repeat (first | exact Upd.here | apply Upd.there)) (by repeat (first | exact UpdF.here | apply UpdF.there)) ?_
  exact W.return K d15_9 ⟨rfl, rfl⟩
set_option maxRecDepth 65536 in
set_option maxHeartbeats 40000000 in
theorem spec_9 (l : Launch) (Z : State) (a0 : Array Value) (hw : ∀ d ∈ tables_1, d.before a0 Z = true) (a ra : Addr) (F : Nat → Int64) (u0 u1 u2 : Int64) (hF : ∀ i, i < 9 → 0 ≤ (F i).toInt ∧ (F i).toInt < 4294967296 ∧ (F i).toInt / 65536 ≤ (F i).toInt % 65536) (h3 : ∀ i, i < 9 → F i = u0 ∨ F i = u1 ∨ F i = u2) (rest : OS) : OMeets l Z (⟨"com/example/registrar/registrar/model/CodeUnits$Builder", "build", "()Lcom/example/registrar/registrar/model/CodeUnits;"⟩ : MethodName) prog_6_method_4_code 11 (some (.object "com/example/registrar/registrar/model/CodeUnits")) ({ frames := 4, cells := 4, slots := 53, locals := 84 } : Room) [(.ref a)] ((a, OBJ Z "com/example/registrar/registrar/model/CodeUnits$Builder" [("com/example/registrar/registrar/model/CodeUnits$Builder", "ranges", "[J", .ref ra), ("com/example/registrar/registrar/model/CodeUnits$Builder", "size", "I", .int 9)]) :: (ra, ARR Z .long (AF Value.long 16 F)) :: rest) (RetV fun v os' => ∃ (cu z2 : Addr) (wz : Int32) (p : Nat) (C : Nat → Int32) (V : Nat → Int) (rest' : OS), v = .ref cu ∧ os' = (cu, OBJ Z "com/example/registrar/registrar/model/CodeUnits" [("com/example/registrar/registrar/model/CodeUnits", "bounds", "[C", .ref z2)]) :: (z2, ARR Z .char (AF Value.int (2 * p) C)) :: rest' ∧ wz.toInt = ((2 * p : Nat) : Int) ∧ p ≤ 9 ∧ own_J V C 9 p ∧ ∀ x : Int, (∃ i, i < 9 ∧ V i / 65536 ≤ x ∧ x ≤ V i % 65536) ↔ ∃ i, i < 9 ∧ (F i).toInt / 65536 ≤ x ∧ x ≤ (F i).toInt % 65536) := by
  have e9 : (9 : Int32).toInt = 9 := by decide
  have e1 : (1 : Int32).toInt = 1 := by decide
  have e0 : (0 : Int32).toInt = ((0 : Nat) : Int) := by decide
  refine OMeets.of_body [.val (.ref a), .unset, .unset, .unset, .unset, .unset, .unset, .unset, .unset, .unset, .unset] pn_9 (laid_eq _ _ rfl) ?_
  intro X K
  refine W.aloadN K 1 d9_0 0 rfl rfl rfl ?_
  refine W.getF K 4 d9_1 (hw _ (List.mem_of_getElem? (i := 25) rfl)) (by repeat (first | exact List.mem_cons_self | apply List.mem_cons_of_mem)) (by repeat (first | exact List.mem_cons_self | apply List.mem_cons_of_mem)) ?_
  refine W.aloadN K 5 d9_4 0 rfl rfl rfl ?_
  refine W.getF K 8 d9_5 (hw _ (List.mem_of_getElem? (i := 32) rfl)) (by repeat (first | exact List.mem_cons_self | apply List.mem_cons_of_mem)) (by repeat (first | exact List.mem_cons_self | apply List.mem_cons_of_mem)) ?_
  refine W.callSv2 K 11 d9_8 (hw _ (List.mem_of_getElem? (i := 34) rfl)) (hw _ (List.mem_of_getElem? (i := 35) rfl)) (hw _ (List.mem_of_getElem? (i := 36) rfl)) (hw _ (List.mem_of_getElem? (i := 37) rfl)) pd_8 (spec_8 l Z a0 hw ra 9 9 (by decide) (by omega) F _ (by repeat (first | exact List.mem_cons_self | apply List.mem_cons_of_mem))) (fun v os1 hq => ?_)
  obtain ⟨z, rfl, rfl⟩ := hq
  refine W.astoreN K 12 d9_11 1 rfl rfl rfl (by repeat (first | apply setLS | exact setL0)) ?_
  refine W.aloadN K 13 d9_12 1 rfl rfl rfl ?_
  refine W.callSn1 K 16 d9_13 (hw _ (List.mem_of_getElem? (i := 48) rfl)) (hw _ (List.mem_of_getElem? (i := 49) rfl)) (hw _ (List.mem_of_getElem? (i := 36) rfl)) (hw _ (List.mem_of_getElem? (i := 50) rfl)) pd_10 (spec_10 l Z a0 hw _ _ _) (fun os1 hq => ?_)
  obtain ⟨G, rfl, hsame, hsort⟩ := hq
  refine W.iconst K 17 d9_16 (2 : Int32) (by decide) ?_
  refine W.aloadN K 18 d9_17 0 rfl rfl rfl ?_
  refine W.getF K 21 d9_18 (hw _ (List.mem_of_getElem? (i := 32) rfl)) (by repeat (first | exact List.mem_cons_self | apply List.mem_cons_of_mem)) (by repeat (first | exact List.mem_cons_self | apply List.mem_cons_of_mem)) ?_
  refine W.imul K 22 d9_21 ?_
  refine W.newarray (ty := .char) 18 18 K 24 d9_22 (hw _ (List.mem_of_getElem? (i := 61) rfl)) (by decide) (by decide) (fun c0 => ?_)
  rw [AF_repC]
  refine W.astoreN K 25 d9_24 2 rfl rfl rfl (by repeat (first | apply setLS | exact setL0)) ?_
  refine W.iconst K 26 d9_25 (0 : Int32) (by decide) ?_
  refine W.istoreN K 27 d9_26 3 rfl rfl (by repeat (first | apply setLS | exact setL0)) ?_
  refine W.aloadN K 28 d9_27 1 rfl rfl rfl ?_
  refine W.astore K 30 d9_28 rfl rfl (by repeat (first | apply setLS | exact setL0)) ?_
  refine W.aload K 32 d9_30 rfl rfl ?_
  refine W.arraylength 9 K 33 d9_32 (by repeat (first | exact List.mem_cons_self | apply List.mem_cons_of_mem)) (by rw [AF_len]; rfl) ?_
  refine W.istore K 35 d9_33 rfl (by repeat (first | apply setLS | exact setL0)) ?_
  refine W.iconst K 36 d9_35 (0 : Int32) (by decide) ?_
  refine W.istore K 38 d9_36 rfl (by repeat (first | apply setLS | exact setL0)) ?_
  have hV : ∀ i, i < 9 → 0 ≤ (G i).toInt ∧ (G i).toInt < 4294967296 ∧ (G i).toInt / 65536 ≤ (G i).toInt % 65536 := fun i hi => by obtain ⟨j, hj, e⟩ := hsame.1 i hi; rw [e]; exact hF j hj
  have hs9 : ∀ i j, i < j → j < 9 → (G i).toInt ≤ (G j).toInt := fun i j h1 h2 => hsort i j h1 h2
  have h3V : ∀ i, i < 9 → (G i).toInt = u0.toInt ∨ (G i).toInt = u1.toInt ∨ (G i).toInt = u2.toInt := fun i hi => by obtain ⟨j, hj, e⟩ := hsame.1 i hi; rw [e]; rcases h3 j hj with e | e | e <;> simp [e]
  have L1 : ∀ (m t : Nat) (tz wz : Int32) (p : Nat) (C : Nat → Int32) (w7 w8 w9 w10 : Slot), tz.toInt = (t : Int) → wz.toInt = ((2 * p : Nat) : Int) → t + m = 9 → own_J (fun i => (G i).toInt) C t p → ((w7 = .unset ∧ w8 = .unset) ∨ ∃ u, w7 = .val (.long u) ∧ w8 = .second) → okS w9 = true → okS w10 = true → WP X Z 4 53 (RetV fun v os' => ∃ (cu z2 : Addr) (wz : Int32) (p : Nat) (C : Nat → Int32) (V : Nat → Int) (rest' : OS), v = .ref cu ∧ os' = (cu, OBJ Z "com/example/registrar/registrar/model/CodeUnits" [("com/example/registrar/registrar/model/CodeUnits", "bounds", "[C", .ref z2)]) :: (z2, ARR Z .char (AF Value.int (2 * p) C)) :: rest' ∧ wz.toInt = ((2 * p : Nat) : Int) ∧ p ≤ 9 ∧ own_J V C 9 p ∧ ∀ x : Int, (∃ i, i < 9 ∧ V i / 65536 ≤ x ∧ x ≤ V i % 65536) ↔ ∃ i, i < 9 ∧ (F i).toInt / 65536 ≤ x ∧ x ≤ (F i).toInt % 65536) 38 [.val (.ref a), .val (.ref z), .val (.ref c0), .val (.int wz), .val (.ref z), .val (.int 9), .val (.int tz), w7, w8, w9, w10] [] ((c0, ARR Z .char (AF Value.int 18 C)) :: (z, ARR Z .long (AF Value.long 9 G)) :: (a, OBJ Z "com/example/registrar/registrar/model/CodeUnits$Builder" [("com/example/registrar/registrar/model/CodeUnits$Builder", "ranges", "[J", .ref ra), ("com/example/registrar/registrar/model/CodeUnits$Builder", "size", "I", .int 9)]) :: (ra, ARR Z .long (AF Value.long 16 F)) :: rest) 2 34 := by
    intro m
    induction m with
    | zero =>
      intro t tz wz p C w7 w8 w9 w10 ht hwz hm J g7 g9 g10
      obtain rfl : t = 9 := by omega
      have hp9 := own_J_few J h3V
      refine W.iload K 40 d9_38 rfl ?_
      refine W.iload K 42 d9_40 rfl ?_
      refine W.icmp_ge K 124 45 d9_42 (fun h42 => ?_) (fun h42 => False.elim (by omega))
      refine W.new [("com/example/registrar/registrar/model/CodeUnits", "bounds", "[C", .null)] K 127 d9_124 (hw _ (List.mem_of_getElem? (i := 63) rfl)) (hw _ (List.mem_of_getElem? (i := 64) rfl)) (hw _ (List.mem_of_getElem? (i := 65) rfl)) ⟨⟨Or.inr (hw _ (List.mem_of_getElem? (i := 74) rfl)), (.array .char), by decide +kernel, rfl⟩, trivial⟩ (fun b124 => ?_)
      refine W.dup K 128 d9_127 ?_
      refine W.aloadN K 129 d9_128 2 rfl rfl rfl ?_
      refine W.iloadN K 130 d9_129 3 rfl rfl ?_
      refine W.callSv2 K 133 d9_130 (hw _ (List.mem_of_getElem? (i := 66) rfl)) (hw _ (List.mem_of_getElem? (i := 67) rfl)) (hw _ (List.mem_of_getElem? (i := 36) rfl)) (hw _ (List.mem_of_getElem? (i := 68) rfl)) pd_14 (spec_14 l Z a0 hw c0 wz (2 * p) hwz (by omega) C _ (List.mem_cons_of_mem _ List.mem_cons_self)) (fun v os1 hq => ?_)
      obtain ⟨z2, rfl, rfl⟩ := hq
      refine WP.pick b124 (by repeat (first | exact pickHere | apply pickThere)) ?_
      refine W.callInest (argsL := [.ref z2]) (S := [.ref b124]) K 136 d9_133 (hw _ (List.mem_of_getElem? (i := 69) rfl)) (hw _ (List.mem_of_getElem? (i := 70) rfl)) (hw _ (List.mem_of_getElem? (i := 65) rfl)) (hw _ (List.mem_of_getElem? (i := 71) rfl)) pd_15 (spec_15 l Z a0 hw b124 z2 _ _) (fun os1 hq => ?_)
      obtain rfl := hq
      refine W.areturn K d9_136 ⟨_, rfl, b124, z2, wz, p, C, _, _, rfl, rfl, hwz, by omega, J, fun x => ⟨fun ⟨i, hi, k⟩ => by obtain ⟨j, hj, e⟩ := hsame.1 i hi; exact ⟨j, hj, by rw [← e]; exact k⟩, fun ⟨i, hi, k⟩ => by obtain ⟨j, hj, e⟩ := hsame.2 i hi; exact ⟨j, hj, by show (G j).toInt / 65536 ≤ x ∧ x ≤ (G j).toInt % 65536; rw [← e]; exact k⟩⟩⟩
    | succ m ih =>
      intro t tz wz p C w7 w8 w9 w10 ht hwz hm J g7 g9 g10
      have hp0 := J.2.2.2.2.1
      have q1 : (tz + 1).toInt = ((t + 1 : Nat) : Int) := by rw [toInt_add32 ht e1 (by omega) (by omega)]; omega
      obtain ⟨v0, v1, v2⟩ := hV t (by omega)
      have r1 : (wz + 1).toInt = ((2 * p + 1 : Nat) : Int) := by rw [toInt_add32 hwz e1 (by omega) (by omega)]; omega
      have r2 : (wz + 1 + 1).toInt = ((2 * (p + 1) : Nat) : Int) := by rw [toInt_add32 r1 e1 (by omega) (by omega)]; omega
      refine W.iload K 40 d9_38 rfl ?_
      refine W.iload K 42 d9_40 rfl ?_
      refine W.icmp_ge K 124 45 d9_42 (fun h42 => False.elim (by omega)) (fun h42 => ?_)
      refine W.aload K 47 d9_45 rfl rfl ?_
      refine W.iload K 49 d9_47 rfl ?_
      refine W.laload t K 50 d9_49 (by repeat (first | exact List.mem_cons_self | apply List.mem_cons_of_mem)) ht (AF_at (by omega)) ?_
      refine W.lstore K 52 d9_50 (by repeat (first | apply setLS | exact setL0)) (by repeat (first | apply setLS | exact setL0)) ?_ (by rcases g7 with ⟨rfl, rfl⟩ | ⟨u, rfl, rfl⟩ <;> rfl)
      refine W.lload K 54 d9_52 rfl ?_
      refine W.bipush K 56 d9_54 (16 : Int32) (by decide) ?_
      refine W.lushr K 57 d9_56 ?_
      refine W.l2i K 58 d9_57 ?_
      refine W.i2c K 59 d9_58 ?_
      refine W.istore K 61 d9_59 (congrArg some g9) (by repeat (first | apply setLS | exact setL0)) ?_
      refine W.lload K 63 d9_61 rfl ?_
      refine W.l2i K 64 d9_63 ?_
      refine W.i2c K 65 d9_64 ?_
      refine W.istore K 67 d9_65 (congrArg some g10) (by repeat (first | apply setLS | exact setL0)) ?_
      have ha := own_v_lo (G t) v0 v1
      have hb := own_v_hi (G t) v0 v1
      generalize ((G t).toUInt64 >>> ((16 : Int32) &&& 0x3f).toInt64.toUInt64).toInt64.toInt32.toUInt32.toUInt16.toUInt32.toInt32 = ca at ha ⊢
      generalize (G t).toInt32.toUInt32.toUInt16.toUInt32.toInt32 = cb at hb ⊢
      refine W.iloadN K 68 d9_67 3 rfl rfl ?_
      refine W.if_le K 102 71 d9_68 (fun h68 => ?_) (fun h68 => ?_)
      · refine W.aloadN K 103 d9_102 2 rfl rfl rfl ?_
        refine W.iloadN K 104 d9_103 3 rfl rfl ?_
        refine W.iinc K 107 d9_104 (1 : Int32) (by decide) rfl (by repeat (first | apply setLS | exact setL0)) ?_
        refine W.iload K 109 d9_107 rfl ?_
        refine W.castore (2 * p) K 110 d9_109 (by repeat (first | exact Upd.here | apply Upd.there)) hwz (AF_at (by omega)) ?_
        rw [AF_set]
        refine W.aloadN K 111 d9_110 2 rfl rfl rfl ?_
        refine W.iloadN K 112 d9_111 3 rfl rfl ?_
        refine W.iinc K 115 d9_112 (1 : Int32) (by decide) rfl (by repeat (first | apply setLS | exact setL0)) ?_
        refine W.iload K 117 d9_115 rfl ?_
        refine W.castore (2 * p + 1) K 118 d9_117 (by repeat (first | exact Upd.here | apply Upd.there)) r1 (AF_at (by omega)) ?_
        rw [AF_set]
        refine W.iinc K 121 d9_118 (1 : Int32) (by decide) rfl (by repeat (first | apply setLS | exact setL0)) ?_
        refine W.goto K 38 d9_121 ?_
        exact ih (t + 1) (tz + 1) _ (p + 1) _ _ _ _ _ q1 r2 (by omega) (own_J_app J (by omega) hV hs9 (by rw [own_c16 (by omega) (by omega)]; exact ha) (by rw [own_c16 (by omega) (by omega)]; exact hb) (fun q hq => by omega)) (Or.inr ⟨_, rfl, rfl⟩) rfl rfl
      · obtain ⟨q, hpq⟩ : ∃ q, p = q + 1 := ⟨p - 1, by omega⟩
        have hwq : wz.toInt = ((2 * (q + 1) : Nat) : Int) := by rw [hwz, hpq]
        have J1 : own_J (fun i => (G i).toInt) C t (q + 1) := hpq ▸ J
        have r0 : (wz - 1).toInt = ((2 * q + 1 : Nat) : Int) := by rw [toInt_sub32 hwz e1 (by omega) (by omega)]; omega
        have hc := J.2.2.2.2.2.2.2 (2 * q + 1) (by omega)
        have r3 : (C (2 * q + 1) + 1).toInt = (C (2 * q + 1)).toInt + 1 := toInt_add32 rfl e1 (by omega) (by omega)
        refine W.iload K 73 d9_71 rfl ?_
        refine W.aloadN K 74 d9_73 2 rfl rfl rfl ?_
        refine W.iloadN K 75 d9_74 3 rfl rfl ?_
        refine W.iconst K 76 d9_75 (1 : Int32) (by decide) ?_
        refine W.isub K 77 d9_76 ?_
        refine W.caload (2 * q + 1) K 78 d9_77 (by repeat (first | exact List.mem_cons_self | apply List.mem_cons_of_mem)) r0 (AF_at (by omega)) ?_
        refine W.iconst K 79 d9_78 (1 : Int32) (by decide) ?_
        refine W.iadd K 80 d9_79 ?_
        refine W.icmp_gt K 102 83 d9_80 (fun h80 => ?_) (fun h80 => ?_)
        · refine W.aloadN K 103 d9_102 2 rfl rfl rfl ?_
          refine W.iloadN K 104 d9_103 3 rfl rfl ?_
          refine W.iinc K 107 d9_104 (1 : Int32) (by decide) rfl (by repeat (first | apply setLS | exact setL0)) ?_
          refine W.iload K 109 d9_107 rfl ?_
          refine W.castore (2 * p) K 110 d9_109 (by repeat (first | exact Upd.here | apply Upd.there)) hwz (AF_at (by omega)) ?_
          rw [AF_set]
          refine W.aloadN K 111 d9_110 2 rfl rfl rfl ?_
          refine W.iloadN K 112 d9_111 3 rfl rfl ?_
          refine W.iinc K 115 d9_112 (1 : Int32) (by decide) rfl (by repeat (first | apply setLS | exact setL0)) ?_
          refine W.iload K 117 d9_115 rfl ?_
          refine W.castore (2 * p + 1) K 118 d9_117 (by repeat (first | exact Upd.here | apply Upd.there)) r1 (AF_at (by omega)) ?_
          rw [AF_set]
          refine W.iinc K 121 d9_118 (1 : Int32) (by decide) rfl (by repeat (first | apply setLS | exact setL0)) ?_
          refine W.goto K 38 d9_121 ?_
          exact ih (t + 1) (tz + 1) _ (p + 1) _ _ _ _ _ q1 r2 (by omega) (own_J_app J (by omega) hV hs9 (by rw [own_c16 (by omega) (by omega)]; exact ha) (by rw [own_c16 (by omega) (by omega)]; exact hb) (fun q' hq => by have hqq : q' = q := (by omega); subst hqq; omega)) (Or.inr ⟨_, rfl, rfl⟩) rfl rfl
        · refine W.aloadN K 84 d9_83 2 rfl rfl rfl ?_
          refine W.iloadN K 85 d9_84 3 rfl rfl ?_
          refine W.iconst K 86 d9_85 (1 : Int32) (by decide) ?_
          refine W.isub K 87 d9_86 ?_
          refine W.aloadN K 88 d9_87 2 rfl rfl rfl ?_
          refine W.iloadN K 89 d9_88 3 rfl rfl ?_
          refine W.iconst K 90 d9_89 (1 : Int32) (by decide) ?_
          refine W.isub K 91 d9_90 ?_
          refine W.caload (2 * q + 1) K 92 d9_91 (by repeat (first | exact List.mem_cons_self | apply List.mem_cons_of_mem)) r0 (AF_at (by omega)) ?_
          refine W.iload K 94 d9_92 rfl ?_
          refine W.callSv2 K 97 d9_94 (hw _ (List.mem_of_getElem? (i := 62) rfl)) (hw _ (List.mem_of_getElem? (i := 13) rfl)) (hw _ (List.mem_of_getElem? (i := 7) rfl)) (hw _ (List.mem_of_getElem? (i := 14) rfl)) pd_4 (spec_4 l Z a0 hw _ _ _) (fun v os1 hq => ?_)
          obtain ⟨rfl, rfl⟩ := hq
          refine W.i2c K 98 d9_97 ?_
          refine W.castore (2 * q + 1) K 99 d9_98 (by repeat (first | exact Upd.here | apply Upd.there)) r0 (AF_at (by omega)) ?_
          rw [AF_set]
          have hbm : ((own_max (C (2 * q + 1)) cb).toUInt32.toUInt16.toUInt32.toInt32.toUInt32.toUInt16.toUInt32.toInt32).toInt = if (C (2 * q + 1)).toInt < (G t).toInt % 65536 then (G t).toInt % 65536 else (C (2 * q + 1)).toInt := by
            have hmx := own_maxI (C (2 * q + 1)) cb
            rw [hb] at hmx
            have hmr : 0 ≤ (own_max (C (2 * q + 1)) cb).toInt ∧ (own_max (C (2 * q + 1)) cb).toInt < 65536 := by rw [hmx]; split <;> omega
            have hq := own_c16 hmr.1 hmr.2
            rw [own_c16 (by omega) (by omega), hq, hmx]
          refine W.goto K 118 d9_99 ?_
          refine W.iinc K 121 d9_118 (1 : Int32) (by decide) rfl (by repeat (first | apply setLS | exact setL0)) ?_
          refine W.goto K 38 d9_121 ?_
          exact ih (t + 1) (tz + 1) _ (q + 1) _ _ _ _ _ q1 hwq (by omega) (own_J_mrg J1 (by omega) hV hs9 hbm (by omega)) (Or.inr ⟨_, rfl, rfl⟩) rfl rfl
  exact L1 9 0 0 0 0 _ .unset .unset .unset .unset e0 e0 (by omega) (own_J0 _ _) (Or.inl ⟨rfl, rfl⟩) rfl rfl
set_option maxRecDepth 65536 in
set_option maxHeartbeats 40000000 in
theorem spec_17 (l : Launch) (Z : State) (a0 : Array Value) (hw : ∀ d ∈ tables_1, d.before a0 Z = true) (cu z2 : Addr) (x nz : Int32) (p : Nat) (C : Nat → Int32) (V : Nat → Int) (hnz : nz.toInt = ((2 * p : Nat) : Int)) (hp : p ≤ 9) (J : own_J V C 9 p) (os : OS) (m1 : (cu, OBJ Z "com/example/registrar/registrar/model/CodeUnits" [("com/example/registrar/registrar/model/CodeUnits", "bounds", "[C", .ref z2)]) ∈ os) (m2 : (z2, ARR Z .char (AF Value.int (2 * p) C)) ∈ os) : OMeets l Z (⟨"com/example/registrar/registrar/model/CodeUnits", "contains", "(C)Z"⟩ : MethodName) prog_5_method_3_code 5 (some .boolean) ({ frames := 0, cells := 0, slots := 0, locals := 0 } : Room) [(.ref cu), (.int x)] os (RetV fun v os' => ∃ w : Int32, v = .int w ∧ os' = os ∧ (w = 0 ∨ w = 1) ∧ (w = 1 ↔ ∃ j, j < p ∧ (C (2 * j)).toInt ≤ x.toInt ∧ x.toInt ≤ (C (2 * j + 1)).toInt)) := by
  have e2 : (2 : Int32).toInt = 2 := by decide
  have e1 : (1 : Int32).toInt = 1 := by decide
  have e0 : (0 : Int32).toInt = 0 := by decide
  refine OMeets.of_body [.val (.ref cu), .val (.int x), .unset, .unset, .unset] pn_17 (laid_eq _ _ rfl) ?_
  intro X K
  have L1 : ∀ (m : Nat) (lz hz : Int32) (w4 : Slot), okS w4 = true → 0 ≤ lz.toInt → lz.toInt ≤ (p : Int) → hz.toInt < (p : Int) → -1 ≤ hz.toInt → hz.toInt - lz.toInt + 1 ≤ (m : Int) → own_in C p x.toInt lz.toInt hz.toInt → WP X Z 0 0 (RetV fun v os' => ∃ w : Int32, v = .int w ∧ os' = os ∧ (w = 0 ∨ w = 1) ∧ (w = 1 ↔ ∃ j, j < p ∧ (C (2 * j)).toInt ≤ x.toInt ∧ x.toInt ≤ (C (2 * j + 1)).toInt)) 12 [.val (.ref cu), .val (.int x), .val (.int lz), .val (.int hz), w4] [] os 0 0 := by
    intro m
    induction m with
    | zero =>
      intro lz hz w4 g4 l0 l1 h0 h1 hm I
      refine W.iloadN K 13 d17_12 2 rfl rfl ?_
      refine W.iloadN K 14 d17_13 3 rfl rfl ?_
      refine W.icmp_gt K 73 17 d17_14 (fun h14 => ?_) (fun h14 => False.elim (by omega))
      refine W.iconst K 74 d17_73 (0 : Int32) (by decide) ?_
      refine W.zreturn K d17_74 (Or.inl rfl) ⟨_, rfl, 0, rfl, rfl, Or.inl rfl, fun h => absurd h (by decide), fun ⟨j, hj, k1, k2⟩ => by have := I j hj k1 k2; omega⟩
    | succ m ih =>
      intro lz hz w4 g4 l0 l1 h0 h1 hm I
      refine W.iloadN K 13 d17_12 2 rfl rfl ?_
      refine W.iloadN K 14 d17_13 3 rfl rfl ?_
      refine W.icmp_gt K 73 17 d17_14 (fun h14 => ?_) (fun h14 => ?_)
      · refine W.iconst K 74 d17_73 (0 : Int32) (by decide) ?_
        refine W.zreturn K d17_74 (Or.inl rfl) ⟨_, rfl, 0, rfl, rfl, Or.inl rfl, fun h => absurd h (by decide), fun ⟨j, hj, k1, k2⟩ => by have := I j hj k1 k2; omega⟩
      · refine W.iloadN K 18 d17_17 2 rfl rfl ?_
        refine W.iloadN K 19 d17_18 3 rfl rfl ?_
        refine W.iadd K 20 d17_19 ?_
        refine W.iconst K 21 d17_20 (1 : Int32) (by decide) ?_
        refine W.iushr K 22 d17_21 ?_
        have s1 : (lz + hz).toInt = lz.toInt + hz.toInt := toInt_add32 rfl rfl (by omega) (by omega)
        have s2 := c_iushr (lz + hz) 1 1 (by decide) (by decide)
        have s3 : (((lz + hz).toUInt32 >>> ((1 : Int32) &&& 31).toUInt32).toInt32).toInt = (lz.toInt + hz.toInt) / 2 := by rw [s2, s1]; omega
        generalize ((lz + hz).toUInt32 >>> ((1 : Int32) &&& 31).toUInt32).toInt32 = mz at s3 ⊢
        obtain ⟨mid, hmid⟩ : ∃ k : Nat, mz.toInt = (k : Int) := ⟨mz.toInt.toNat, by omega⟩
        have hmp : mid < p := by omega
        have t1 := c_imul 2 mz
        have t1r := rng32 (2 * mz)
        have t2 : (2 * mz).toInt = ((2 * mid : Nat) : Int) := by rw [e2] at t1; omega
        have t3 : (2 * mz + 1).toInt = ((2 * mid + 1 : Nat) : Int) := by rw [toInt_add32 t2 e1 (by omega) (by omega)]; omega
        have m0 : (mz - 1).toInt = (mid : Int) - 1 := toInt_sub32 hmid e1 (by omega) (by omega)
        have m3 : (mz + 1).toInt = (mid : Int) + 1 := toInt_add32 hmid e1 (by omega) (by omega)
        refine W.istore K 24 d17_22 (congrArg some g4) (by repeat (first | apply setLS | exact setL0)) ?_
        refine W.iloadN K 25 d17_24 1 rfl rfl ?_
        refine W.aloadN K 26 d17_25 0 rfl rfl rfl ?_
        refine W.getF K 29 d17_26 (hw _ (List.mem_of_getElem? (i := 73) rfl)) m1 (by repeat (first | exact List.mem_cons_self | apply List.mem_cons_of_mem)) ?_
        refine W.iconst K 30 d17_29 (2 : Int32) (by decide) ?_
        refine W.iload K 32 d17_30 rfl ?_
        refine W.imul K 33 d17_32 ?_
        refine W.caload (2 * mid) K 34 d17_33 m2 t2 (AF_at (by omega)) ?_
        refine W.icmp_ge K 45 37 d17_34 (fun h34 => ?_) (fun h34 => ?_)
        · refine W.iloadN K 46 d17_45 1 rfl rfl ?_
          refine W.aloadN K 47 d17_46 0 rfl rfl rfl ?_
          refine W.getF K 50 d17_47 (hw _ (List.mem_of_getElem? (i := 73) rfl)) m1 (by repeat (first | exact List.mem_cons_self | apply List.mem_cons_of_mem)) ?_
          refine W.iconst K 51 d17_50 (2 : Int32) (by decide) ?_
          refine W.iload K 53 d17_51 rfl ?_
          refine W.imul K 54 d17_53 ?_
          refine W.iconst K 55 d17_54 (1 : Int32) (by decide) ?_
          refine W.iadd K 56 d17_55 ?_
          refine W.caload (2 * mid + 1) K 57 d17_56 m2 t3 (AF_at (by omega)) ?_
          refine W.icmp_le K 68 60 d17_57 (fun h57 => ?_) (fun h57 => ?_)
          · refine W.iconst K 69 d17_68 (1 : Int32) (by decide) ?_
            refine W.zreturn K d17_69 (Or.inr rfl) ⟨_, rfl, 1, rfl, rfl, Or.inr rfl, fun _ => ⟨mid, hmp, by omega, by omega⟩, fun _ => rfl⟩
          · refine W.iload K 62 d17_60 rfl ?_
            refine W.iconst K 63 d17_62 (1 : Int32) (by decide) ?_
            refine W.iadd K 64 d17_63 ?_
            refine W.istoreN K 65 d17_64 2 rfl rfl (by repeat (first | apply setLS | exact setL0)) ?_
            refine W.goto K 70 d17_65 ?_
            refine W.goto K 12 d17_70 ?_
            exact ih _ _ _ rfl (by omega) (by omega) (by omega) (by omega) (by omega) (by rw [m3]; exact own_in_r J I hmp (by omega))
        · refine W.iload K 39 d17_37 rfl ?_
          refine W.iconst K 40 d17_39 (1 : Int32) (by decide) ?_
          refine W.isub K 41 d17_40 ?_
          refine W.istoreN K 42 d17_41 3 rfl rfl (by repeat (first | apply setLS | exact setL0)) ?_
          refine W.goto K 70 d17_42 ?_
          refine W.goto K 12 d17_70 ?_
          exact ih _ _ _ rfl (by omega) (by omega) (by omega) (by omega) (by omega) (by rw [m0]; exact own_in_l J I hmp (by omega))
  refine W.iconst K 1 d17_0 (0 : Int32) (by decide) ?_
  refine W.istoreN K 2 d17_1 2 rfl rfl (by repeat (first | apply setLS | exact setL0)) ?_
  refine W.aloadN K 3 d17_2 0 rfl rfl rfl ?_
  refine W.getF K 6 d17_3 (hw _ (List.mem_of_getElem? (i := 73) rfl)) m1 (by repeat (first | exact List.mem_cons_self | apply List.mem_cons_of_mem)) ?_
  refine W.arraylength nz K 7 d17_6 m2 (AF_size hnz) ?_
  refine W.iconst K 8 d17_7 (2 : Int32) (by decide) ?_
  refine W.idiv K 9 d17_8 (by decide) ?_
  refine W.iconst K 10 d17_9 (1 : Int32) (by decide) ?_
  refine W.isub K 11 d17_10 ?_
  have d1 := (c_idiv nz 2 2 e2 (by decide)).1 (by omega)
  have d2 : (nz / 2).toInt = (p : Int) := by omega
  have d3 : (nz / 2 - 1).toInt = (p : Int) - 1 := toInt_sub32 d2 e1 (by omega) (by omega)
  refine W.istoreN K 12 d17_11 3 rfl rfl (by repeat (first | apply setLS | exact setL0)) ?_
  exact L1 (p + 1) 0 _ .unset rfl (by omega) (by omega) (by omega) (by omega) (by omega) (fun j hj _ _ => by omega)
set_option maxRecDepth 65536 in
set_option maxHeartbeats 40000000 in
theorem spec_16 (l : Launch) (Z : State) (a0 : Array Value) (hw : ∀ d ∈ tables_1, d.before a0 Z = true) (lo hi x : Int32) (os : OS) : OMeets l Z (⟨"com/example/registrar/registrar/model/BuilderAddPinLaw", "in", "(CCC)Z"⟩ : MethodName) method_5_code 3 (some .boolean) ({ frames := 0, cells := 0, slots := 0, locals := 0 } : Room) [(.int lo), (.int hi), (.int x)] os (RetV fun v os' => ∃ w : Int32, v = .int w ∧ os' = os ∧ (w ≠ 0 ↔ (lo.toInt ≤ x.toInt ∧ x.toInt ≤ hi.toInt))) := by
  refine OMeets.of_body [.val (.int lo), .val (.int hi), .val (.int x)] pn_16 (laid_eq _ _ rfl) ?_
  intro X K
  refine W.iloadN K 1 d16_0 0 rfl rfl ?_
  refine W.iloadN K 2 d16_1 2 rfl rfl ?_
  refine W.icmp_gt K 14 5 d16_2 (fun h2 => ?_) (fun h2 => ?_)
  · refine W.iconst K 15 d16_14 (0 : Int32) (by decide) ?_
    refine W.zreturn K d16_15 (Or.inl rfl) ⟨_, rfl, 0, rfl, rfl, fun h => absurd rfl h, fun h => by omega⟩
  · refine W.iloadN K 6 d16_5 2 rfl rfl ?_
    refine W.iloadN K 7 d16_6 1 rfl rfl ?_
    refine W.icmp_gt K 14 10 d16_7 (fun h7 => ?_) (fun h7 => ?_)
    · refine W.iconst K 15 d16_14 (0 : Int32) (by decide) ?_
      refine W.zreturn K d16_15 (Or.inl rfl) ⟨_, rfl, 0, rfl, rfl, fun h => absurd rfl h, fun h => by omega⟩
    · refine W.iconst K 11 d16_10 (1 : Int32) (by decide) ?_
      refine W.goto K 15 d16_11 ?_
      refine W.zreturn K d16_15 (Or.inr rfl) ⟨_, rfl, 1, rfl, rfl, fun _ => ⟨by omega, by omega⟩, fun _ => by decide⟩
theorem own_un {F : Nat → Int64} {l0 h0 l1 h1 l2 h2 x : Int32} (a0 : 0 ≤ l0.toInt) (b0 : l0.toInt ≤ h0.toInt) (c0 : h0.toInt < 65536) (a1 : 0 ≤ l1.toInt) (b1 : l1.toInt ≤ h1.toInt) (c1 : h1.toInt < 65536) (a2 : 0 ≤ l2.toInt) (b2 : l2.toInt ≤ h2.toInt) (c2 : h2.toInt < 65536)
    (h3 : ∀ i, i < 9 → F i = own_v l0 h0 ∨ F i = own_v l1 h1 ∨ F i = own_v l2 h2) (f0 : F 0 = own_v l0 h0) (f1 : F 1 = own_v l1 h1) (f2 : F 2 = own_v l2 h2) :
    (∃ i, i < 9 ∧ (F i).toInt / 65536 ≤ x.toInt ∧ x.toInt ≤ (F i).toInt % 65536) ↔ ((l0.toInt ≤ x.toInt ∧ x.toInt ≤ h0.toInt) ∨ (l1.toInt ≤ x.toInt ∧ x.toInt ≤ h1.toInt) ∨ (l2.toInt ≤ x.toInt ∧ x.toInt ≤ h2.toInt)) := by
  have v0 := own_v_eq a0 (by omega) (by omega) c0
  have v1 := own_v_eq a1 (by omega) (by omega) c1
  have v2 := own_v_eq a2 (by omega) (by omega) c2
  constructor
  · rintro ⟨i, hi, k1, k2⟩
    rcases h3 i hi with e | e | e
    · rw [e, v0] at k1 k2; exact Or.inl ⟨by omega, by omega⟩
    · rw [e, v1] at k1 k2; exact Or.inr (Or.inl ⟨by omega, by omega⟩)
    · rw [e, v2] at k1 k2; exact Or.inr (Or.inr ⟨by omega, by omega⟩)
  · rintro (⟨k1, k2⟩ | ⟨k1, k2⟩ | ⟨k1, k2⟩)
    · exact ⟨0, by omega, by rw [f0, v0]; omega, by rw [f0, v0]; omega⟩
    · exact ⟨1, by omega, by rw [f1, v1]; omega, by rw [f1, v1]; omega⟩
    · exact ⟨2, by omega, by rw [f2, v2]; omega, by rw [f2, v2]; omega⟩
theorem own_all {F : Nat → Int64} {l0 h0 l1 h1 l2 h2 : Int32} (a0 : 0 ≤ l0.toInt) (b0 : l0.toInt ≤ h0.toInt) (c0 : h0.toInt < 65536) (a1 : 0 ≤ l1.toInt) (b1 : l1.toInt ≤ h1.toInt) (c1 : h1.toInt < 65536) (a2 : 0 ≤ l2.toInt) (b2 : l2.toInt ≤ h2.toInt) (c2 : h2.toInt < 65536)
    (h3 : ∀ i, i < 9 → F i = own_v l0 h0 ∨ F i = own_v l1 h1 ∨ F i = own_v l2 h2) : ∀ i, i < 9 → 0 ≤ (F i).toInt ∧ (F i).toInt < 4294967296 ∧ (F i).toInt / 65536 ≤ (F i).toInt % 65536 := by
  have v0 := own_v_eq a0 (by omega) (by omega) c0
  have v1 := own_v_eq a1 (by omega) (by omega) c1
  have v2 := own_v_eq a2 (by omega) (by omega) c2
  intro i hi
  rcases h3 i hi with e | e | e
  · rw [e, v0]; omega
  · rw [e, v1]; omega
  · rw [e, v2]; omega
def own_add (F : Nat → Int64) (l0 h0 l1 h1 l2 h2 : Int32) : Nat → Int64 := updA (fun i => if i < 8 then (updA (updA (updA (updA (updA (updA (updA (updA F 0 (own_v l0 h0)) 1 (own_v l1 h1)) 2 (own_v l2 h2)) 3 (own_v l0 h0)) 4 (own_v l1 h1)) 5 (own_v l2 h2)) 6 (own_v l0 h0)) 7 (own_v l1 h1)) i else 0) 8 (own_v l2 h2)
theorem own_add3 (F : Nat → Int64) (l0 h0 l1 h1 l2 h2 : Int32) : ∀ i, i < 9 → own_add F l0 h0 l1 h1 l2 h2 i = own_v l0 h0 ∨ own_add F l0 h0 l1 h1 l2 h2 i = own_v l1 h1 ∨ own_add F l0 h0 l1 h1 l2 h2 i = own_v l2 h2 := by
  intro i hi
  have q : i = 0 ∨ i = 1 ∨ i = 2 ∨ i = 3 ∨ i = 4 ∨ i = 5 ∨ i = 6 ∨ i = 7 ∨ i = 8 := by omega
  rcases q with rfl | rfl | rfl | rfl | rfl | rfl | rfl | rfl | rfl
  · exact Or.inl rfl
  · exact Or.inr (Or.inl rfl)
  · exact Or.inr (Or.inr rfl)
  · exact Or.inl rfl
  · exact Or.inr (Or.inl rfl)
  · exact Or.inr (Or.inr rfl)
  · exact Or.inl rfl
  · exact Or.inr (Or.inl rfl)
  · exact Or.inr (Or.inr rfl)
set_option maxRecDepth 65536 in
set_option maxHeartbeats 40000000 in
theorem spec_0 (l : Launch) (Z : State) (a0 : Array Value) (hw : ∀ d ∈ tables_1, d.before a0 Z = true) (i0 i1 i2 i3 : Int32) : OMeets l Z x code maxLocals ret room_1 [(.int i0), (.int i1), (.int i2), (.int i3)] [] (RetV fun v _ => v = .int 1) := by
  refine OMeets.of_body [.val (.int i0), .val (.int i1), .val (.int i2), .val (.int i3), .unset, .unset, .unset, .unset, .unset, .unset, .unset, .unset, .unset, .unset, .unset] pn_0 (laid_eq _ _ rfl) ?_
  intro X K
  refine W.iloadN K 1 at_0 0 rfl rfl ?_
  refine W.callSv1 K 4 at_1 (hw _ (List.mem_of_getElem? (i := 0) rfl)) (hw _ (List.mem_of_getElem? (i := 1) rfl)) (hw _ (List.mem_of_getElem? (i := 2) rfl)) (hw _ (List.mem_of_getElem? (i := 3) rfl)) pd_1 (spec_1 l Z a0 hw _ _) (fun v os1 hq => ?_)
  obtain ⟨rfl, rfl⟩ := hq
  refine W.istore K 6 at_4 rfl (by repeat (first | apply setLS | exact setL0)) ?_
  refine W.iloadN K 7 at_6 0 rfl rfl ?_
  refine W.callSv1 K 10 at_7 (hw _ (List.mem_of_getElem? (i := 9) rfl)) (hw _ (List.mem_of_getElem? (i := 10) rfl)) (hw _ (List.mem_of_getElem? (i := 2) rfl)) (hw _ (List.mem_of_getElem? (i := 11) rfl)) pd_3 (spec_3 l Z a0 hw _ _) (fun v os1 hq => ?_)
  obtain ⟨rfl, rfl⟩ := hq
  refine W.istore K 12 at_10 rfl (by repeat (first | apply setLS | exact setL0)) ?_
  refine W.iloadN K 13 at_12 1 rfl rfl ?_
  refine W.callSv1 K 16 at_13 (hw _ (List.mem_of_getElem? (i := 0) rfl)) (hw _ (List.mem_of_getElem? (i := 1) rfl)) (hw _ (List.mem_of_getElem? (i := 2) rfl)) (hw _ (List.mem_of_getElem? (i := 3) rfl)) pd_1 (spec_1 l Z a0 hw _ _) (fun v os1 hq => ?_)
  obtain ⟨rfl, rfl⟩ := hq
  refine W.istore K 18 at_16 rfl (by repeat (first | apply setLS | exact setL0)) ?_
  refine W.iloadN K 19 at_18 1 rfl rfl ?_
  refine W.callSv1 K 22 at_19 (hw _ (List.mem_of_getElem? (i := 9) rfl)) (hw _ (List.mem_of_getElem? (i := 10) rfl)) (hw _ (List.mem_of_getElem? (i := 2) rfl)) (hw _ (List.mem_of_getElem? (i := 11) rfl)) pd_3 (spec_3 l Z a0 hw _ _) (fun v os1 hq => ?_)
  obtain ⟨rfl, rfl⟩ := hq
  refine W.istore K 24 at_22 rfl (by repeat (first | apply setLS | exact setL0)) ?_
  refine W.iloadN K 25 at_24 2 rfl rfl ?_
  refine W.callSv1 K 28 at_25 (hw _ (List.mem_of_getElem? (i := 0) rfl)) (hw _ (List.mem_of_getElem? (i := 1) rfl)) (hw _ (List.mem_of_getElem? (i := 2) rfl)) (hw _ (List.mem_of_getElem? (i := 3) rfl)) pd_1 (spec_1 l Z a0 hw _ _) (fun v os1 hq => ?_)
  obtain ⟨rfl, rfl⟩ := hq
  refine W.istore K 30 at_28 rfl (by repeat (first | apply setLS | exact setL0)) ?_
  refine W.iloadN K 31 at_30 2 rfl rfl ?_
  refine W.callSv1 K 34 at_31 (hw _ (List.mem_of_getElem? (i := 9) rfl)) (hw _ (List.mem_of_getElem? (i := 10) rfl)) (hw _ (List.mem_of_getElem? (i := 2) rfl)) (hw _ (List.mem_of_getElem? (i := 11) rfl)) pd_3 (spec_3 l Z a0 hw _ _) (fun v os1 hq => ?_)
  obtain ⟨rfl, rfl⟩ := hq
  refine W.istore K 36 at_34 rfl (by repeat (first | apply setLS | exact setL0)) ?_
  refine W.iloadN K 37 at_36 3 rfl rfl ?_
  refine W.ldcI K 39 at_37 (hw _ (List.mem_of_getElem? (i := 4) rfl)) ?_
  refine W.iand K 40 at_39 ?_
  refine W.i2c K 41 at_40 ?_
  refine W.istore K 43 at_41 rfl (by repeat (first | apply setLS | exact setL0)) ?_
  obtain ⟨p0, q0, r0⟩ := own_lohi i0
  generalize own_lo i0 = l0 at p0 q0 r0 ⊢
  generalize own_hi i0 = h0 at q0 r0 ⊢
  obtain ⟨p1, q1, r1⟩ := own_lohi i1
  generalize own_lo i1 = l1 at p1 q1 r1 ⊢
  generalize own_hi i1 = h1 at q1 r1 ⊢
  obtain ⟨p2, q2, r2⟩ := own_lohi i2
  generalize own_lo i2 = l2 at p2 q2 r2 ⊢
  generalize own_hi i2 = h2 at q2 r2 ⊢
  generalize (i3 &&& 65535).toUInt32.toUInt16.toUInt32.toInt32 = x
  refine W.new [("com/example/registrar/registrar/model/CodeUnits$Builder", "ranges", "[J", .null), ("com/example/registrar/registrar/model/CodeUnits$Builder", "size", "I", .int 0)] K 46 at_43 (hw _ (List.mem_of_getElem? (i := 15) rfl)) (hw _ (List.mem_of_getElem? (i := 16) rfl)) (hw _ (List.mem_of_getElem? (i := 17) rfl)) ⟨⟨Or.inl (hw _ (List.mem_of_getElem? (i := 26) rfl)), (.array .long), by decide +kernel, rfl⟩, ⟨Or.inl (hw _ (List.mem_of_getElem? (i := 33) rfl)), .int, by decide +kernel, rfl⟩, trivial⟩ (fun b43 => ?_)
  refine W.dup K 47 at_46 ?_
  refine W.callIn0 K 50 at_47 (hw _ (List.mem_of_getElem? (i := 18) rfl)) (hw _ (List.mem_of_getElem? (i := 19) rfl)) (hw _ (List.mem_of_getElem? (i := 17) rfl)) (hw _ (List.mem_of_getElem? (i := 20) rfl)) pd_5 (spec_5 l Z a0 hw _ _ _ _) (fun os1 hq => ?_)
  obtain ⟨ra, rfl⟩ := hq
  refine W.astore K 52 at_50 rfl rfl (by repeat (first | apply setLS | exact setL0)) ?_
  refine W.aload K 54 at_52 rfl rfl ?_
  refine W.iload K 56 at_54 rfl ?_
  refine W.iload K 58 at_56 rfl ?_
  refine W.callVv2 K 61 at_58 (hw _ (List.mem_of_getElem? (i := 27) rfl)) (hw _ (List.mem_of_getElem? (i := 28) rfl)) (hw _ (List.mem_of_getElem? (i := 30) rfl)) (hw _ (List.mem_of_getElem? (i := 29) rfl)) (hw _ (List.mem_of_getElem? (i := 17) rfl)) (hw _ (List.mem_of_getElem? (i := 31) rfl)) pd_7 (Rc.new (by repeat (first | exact List.mem_cons_self | apply List.mem_cons_of_mem))) (spec_7 l Z a0 hw b43 ra _ _ _ 0 (by decide) (by omega) _ []) (fun v os1 hq => ?_)
  obtain ⟨rfl, rfl⟩ := hq
  refine W.aload K 63 at_61 rfl rfl ?_
  refine W.acmp_ne K 70 66 at_63 (fun h63 => False.elim (h63 rfl)) (fun h63 => ?_)
  refine W.iconst K 67 at_66 (1 : Int32) (by decide) ?_
  refine W.goto K 71 at_67 ?_
  refine W.istore K 73 at_71 rfl (by repeat (first | apply setLS | exact setL0)) ?_
  refine W.iload K 75 at_73 rfl ?_
  refine W.if_eq K 96 78 at_75 (fun h75 => False.elim (absurd h75 (by decide))) (fun h75 => ?_)
  refine W.aload K 80 at_78 rfl rfl ?_
  refine W.iload K 82 at_80 rfl ?_
  refine W.iload K 84 at_82 rfl ?_
  refine W.callVv2 K 87 at_84 (hw _ (List.mem_of_getElem? (i := 27) rfl)) (hw _ (List.mem_of_getElem? (i := 28) rfl)) (hw _ (List.mem_of_getElem? (i := 30) rfl)) (hw _ (List.mem_of_getElem? (i := 29) rfl)) (hw _ (List.mem_of_getElem? (i := 17) rfl)) (hw _ (List.mem_of_getElem? (i := 31) rfl)) pd_7 (Rc.new (by repeat (first | exact List.mem_cons_self | apply List.mem_cons_of_mem))) (spec_7 l Z a0 hw b43 ra _ _ _ 1 (by decide) (by omega) _ []) (fun v os1 hq => ?_)
  obtain ⟨rfl, rfl⟩ := hq
  refine W.aload K 89 at_87 rfl rfl ?_
  refine W.acmp_ne K 96 92 at_89 (fun h89 => False.elim (h89 rfl)) (fun h89 => ?_)
  refine W.iconst K 93 at_92 (1 : Int32) (by decide) ?_
  refine W.goto K 97 at_93 ?_
  refine W.istore K 99 at_97 rfl (by repeat (first | apply setLS | exact setL0)) ?_
  refine W.iload K 101 at_99 rfl ?_
  refine W.if_eq K 122 104 at_101 (fun h101 => False.elim (absurd h101 (by decide))) (fun h101 => ?_)
  refine W.aload K 106 at_104 rfl rfl ?_
  refine W.iload K 108 at_106 rfl ?_
  refine W.iload K 110 at_108 rfl ?_
  refine W.callVv2 K 113 at_110 (hw _ (List.mem_of_getElem? (i := 27) rfl)) (hw _ (List.mem_of_getElem? (i := 28) rfl)) (hw _ (List.mem_of_getElem? (i := 30) rfl)) (hw _ (List.mem_of_getElem? (i := 29) rfl)) (hw _ (List.mem_of_getElem? (i := 17) rfl)) (hw _ (List.mem_of_getElem? (i := 31) rfl)) pd_7 (Rc.new (by repeat (first | exact List.mem_cons_self | apply List.mem_cons_of_mem))) (spec_7 l Z a0 hw b43 ra _ _ _ 2 (by decide) (by omega) _ []) (fun v os1 hq => ?_)
  obtain ⟨rfl, rfl⟩ := hq
  refine W.aload K 115 at_113 rfl rfl ?_
  refine W.acmp_ne K 122 118 at_115 (fun h115 => False.elim (h115 rfl)) (fun h115 => ?_)
  refine W.iconst K 119 at_118 (1 : Int32) (by decide) ?_
  refine W.goto K 123 at_119 ?_
  refine W.istore K 125 at_123 rfl (by repeat (first | apply setLS | exact setL0)) ?_
  refine W.iload K 127 at_125 rfl ?_
  refine W.if_eq K 148 130 at_127 (fun h127 => False.elim (absurd h127 (by decide))) (fun h127 => ?_)
  refine W.aload K 132 at_130 rfl rfl ?_
  refine W.iload K 134 at_132 rfl ?_
  refine W.iload K 136 at_134 rfl ?_
  refine W.callVv2 K 139 at_136 (hw _ (List.mem_of_getElem? (i := 27) rfl)) (hw _ (List.mem_of_getElem? (i := 28) rfl)) (hw _ (List.mem_of_getElem? (i := 30) rfl)) (hw _ (List.mem_of_getElem? (i := 29) rfl)) (hw _ (List.mem_of_getElem? (i := 17) rfl)) (hw _ (List.mem_of_getElem? (i := 31) rfl)) pd_7 (Rc.new (by repeat (first | exact List.mem_cons_self | apply List.mem_cons_of_mem))) (spec_7 l Z a0 hw b43 ra _ _ _ 3 (by decide) (by omega) _ []) (fun v os1 hq => ?_)
  obtain ⟨rfl, rfl⟩ := hq
  refine W.aload K 141 at_139 rfl rfl ?_
  refine W.acmp_ne K 148 144 at_141 (fun h141 => False.elim (h141 rfl)) (fun h141 => ?_)
  refine W.iconst K 145 at_144 (1 : Int32) (by decide) ?_
  refine W.goto K 149 at_145 ?_
  refine W.istore K 151 at_149 rfl (by repeat (first | apply setLS | exact setL0)) ?_
  refine W.iload K 153 at_151 rfl ?_
  refine W.if_eq K 174 156 at_153 (fun h153 => False.elim (absurd h153 (by decide))) (fun h153 => ?_)
  refine W.aload K 158 at_156 rfl rfl ?_
  refine W.iload K 160 at_158 rfl ?_
  refine W.iload K 162 at_160 rfl ?_
  refine W.callVv2 K 165 at_162 (hw _ (List.mem_of_getElem? (i := 27) rfl)) (hw _ (List.mem_of_getElem? (i := 28) rfl)) (hw _ (List.mem_of_getElem? (i := 30) rfl)) (hw _ (List.mem_of_getElem? (i := 29) rfl)) (hw _ (List.mem_of_getElem? (i := 17) rfl)) (hw _ (List.mem_of_getElem? (i := 31) rfl)) pd_7 (Rc.new (by repeat (first | exact List.mem_cons_self | apply List.mem_cons_of_mem))) (spec_7 l Z a0 hw b43 ra _ _ _ 4 (by decide) (by omega) _ []) (fun v os1 hq => ?_)
  obtain ⟨rfl, rfl⟩ := hq
  refine W.aload K 167 at_165 rfl rfl ?_
  refine W.acmp_ne K 174 170 at_167 (fun h167 => False.elim (h167 rfl)) (fun h167 => ?_)
  refine W.iconst K 171 at_170 (1 : Int32) (by decide) ?_
  refine W.goto K 175 at_171 ?_
  refine W.istore K 177 at_175 rfl (by repeat (first | apply setLS | exact setL0)) ?_
  refine W.iload K 179 at_177 rfl ?_
  refine W.if_eq K 200 182 at_179 (fun h179 => False.elim (absurd h179 (by decide))) (fun h179 => ?_)
  refine W.aload K 184 at_182 rfl rfl ?_
  refine W.iload K 186 at_184 rfl ?_
  refine W.iload K 188 at_186 rfl ?_
  refine W.callVv2 K 191 at_188 (hw _ (List.mem_of_getElem? (i := 27) rfl)) (hw _ (List.mem_of_getElem? (i := 28) rfl)) (hw _ (List.mem_of_getElem? (i := 30) rfl)) (hw _ (List.mem_of_getElem? (i := 29) rfl)) (hw _ (List.mem_of_getElem? (i := 17) rfl)) (hw _ (List.mem_of_getElem? (i := 31) rfl)) pd_7 (Rc.new (by repeat (first | exact List.mem_cons_self | apply List.mem_cons_of_mem))) (spec_7 l Z a0 hw b43 ra _ _ _ 5 (by decide) (by omega) _ []) (fun v os1 hq => ?_)
  obtain ⟨rfl, rfl⟩ := hq
  refine W.aload K 193 at_191 rfl rfl ?_
  refine W.acmp_ne K 200 196 at_193 (fun h193 => False.elim (h193 rfl)) (fun h193 => ?_)
  refine W.iconst K 197 at_196 (1 : Int32) (by decide) ?_
  refine W.goto K 201 at_197 ?_
  refine W.istore K 203 at_201 rfl (by repeat (first | apply setLS | exact setL0)) ?_
  refine W.iload K 205 at_203 rfl ?_
  refine W.if_eq K 226 208 at_205 (fun h205 => False.elim (absurd h205 (by decide))) (fun h205 => ?_)
  refine W.aload K 210 at_208 rfl rfl ?_
  refine W.iload K 212 at_210 rfl ?_
  refine W.iload K 214 at_212 rfl ?_
  refine W.callVv2 K 217 at_214 (hw _ (List.mem_of_getElem? (i := 27) rfl)) (hw _ (List.mem_of_getElem? (i := 28) rfl)) (hw _ (List.mem_of_getElem? (i := 30) rfl)) (hw _ (List.mem_of_getElem? (i := 29) rfl)) (hw _ (List.mem_of_getElem? (i := 17) rfl)) (hw _ (List.mem_of_getElem? (i := 31) rfl)) pd_7 (Rc.new (by repeat (first | exact List.mem_cons_self | apply List.mem_cons_of_mem))) (spec_7 l Z a0 hw b43 ra _ _ _ 6 (by decide) (by omega) _ []) (fun v os1 hq => ?_)
  obtain ⟨rfl, rfl⟩ := hq
  refine W.aload K 219 at_217 rfl rfl ?_
  refine W.acmp_ne K 226 222 at_219 (fun h219 => False.elim (h219 rfl)) (fun h219 => ?_)
  refine W.iconst K 223 at_222 (1 : Int32) (by decide) ?_
  refine W.goto K 227 at_223 ?_
  refine W.istore K 229 at_227 rfl (by repeat (first | apply setLS | exact setL0)) ?_
  refine W.iload K 231 at_229 rfl ?_
  refine W.if_eq K 252 234 at_231 (fun h231 => False.elim (absurd h231 (by decide))) (fun h231 => ?_)
  refine W.aload K 236 at_234 rfl rfl ?_
  refine W.iload K 238 at_236 rfl ?_
  refine W.iload K 240 at_238 rfl ?_
  refine W.callVv2 K 243 at_240 (hw _ (List.mem_of_getElem? (i := 27) rfl)) (hw _ (List.mem_of_getElem? (i := 28) rfl)) (hw _ (List.mem_of_getElem? (i := 30) rfl)) (hw _ (List.mem_of_getElem? (i := 29) rfl)) (hw _ (List.mem_of_getElem? (i := 17) rfl)) (hw _ (List.mem_of_getElem? (i := 31) rfl)) pd_7 (Rc.new (by repeat (first | exact List.mem_cons_self | apply List.mem_cons_of_mem))) (spec_7 l Z a0 hw b43 ra _ _ _ 7 (by decide) (by omega) _ []) (fun v os1 hq => ?_)
  obtain ⟨rfl, rfl⟩ := hq
  refine W.aload K 245 at_243 rfl rfl ?_
  refine W.acmp_ne K 252 248 at_245 (fun h245 => False.elim (h245 rfl)) (fun h245 => ?_)
  refine W.iconst K 249 at_248 (1 : Int32) (by decide) ?_
  refine W.goto K 253 at_249 ?_
  refine W.istore K 255 at_253 rfl (by repeat (first | apply setLS | exact setL0)) ?_
  refine W.iload K 257 at_255 rfl ?_
  refine W.if_eq K 278 260 at_257 (fun h257 => False.elim (absurd h257 (by decide))) (fun h257 => ?_)
  refine W.aload K 262 at_260 rfl rfl ?_
  refine W.iload K 264 at_262 rfl ?_
  refine W.iload K 266 at_264 rfl ?_
  refine W.callVv2 K 269 at_266 (hw _ (List.mem_of_getElem? (i := 27) rfl)) (hw _ (List.mem_of_getElem? (i := 28) rfl)) (hw _ (List.mem_of_getElem? (i := 30) rfl)) (hw _ (List.mem_of_getElem? (i := 29) rfl)) (hw _ (List.mem_of_getElem? (i := 17) rfl)) (hw _ (List.mem_of_getElem? (i := 31) rfl)) pd_7 (Rc.new (by repeat (first | exact List.mem_cons_self | apply List.mem_cons_of_mem))) (spec_7G l Z a0 hw b43 ra _ _ _ (by decide) _ []) (fun v os1 hq => ?_)
  obtain ⟨rfl, na, rest, rfl⟩ := hq
  refine W.aload K 271 at_269 rfl rfl ?_
  refine W.acmp_ne K 278 274 at_271 (fun h271 => False.elim (h271 rfl)) (fun h271 => ?_)
  refine W.iconst K 275 at_274 (1 : Int32) (by decide) ?_
  refine W.goto K 279 at_275 ?_
  refine W.istore K 281 at_279 rfl (by repeat (first | apply setLS | exact setL0)) ?_
  refine W.aload K 283 at_281 rfl rfl ?_
  refine W.callVv0 K 286 at_283 (hw _ (List.mem_of_getElem? (i := 43) rfl)) (hw _ (List.mem_of_getElem? (i := 44) rfl)) (hw _ (List.mem_of_getElem? (i := 46) rfl)) (hw _ (List.mem_of_getElem? (i := 45) rfl)) (hw _ (List.mem_of_getElem? (i := 17) rfl)) (hw _ (List.mem_of_getElem? (i := 47) rfl)) pd_9 (Rc.new (by repeat (first | exact List.mem_cons_self | apply List.mem_cons_of_mem))) (spec_9 l Z a0 hw b43 na (own_add (fun _ => 0) l0 h0 l1 h1 l2 h2) (own_v l0 h0) (own_v l1 h1) (own_v l2 h2) (own_all p0 q0 r0 p1 q1 r1 p2 q2 r2 (own_add3 _ _ _ _ _ _ _)) (own_add3 _ _ _ _ _ _ _) rest) (fun v os1 hq => ?_)
  obtain ⟨cu, z2, wz, p, C, V, rest', rfl, rfl, hwz, hp9, J, hU⟩ := hq
  refine W.astore K 288 at_286 rfl rfl (by repeat (first | apply setLS | exact setL0)) ?_
  refine W.joinI (S := []) (F := (l0.toInt ≤ x.toInt ∧ x.toInt ≤ h0.toInt) ∨ (l1.toInt ≤ x.toInt ∧ x.toInt ≤ h1.toInt) ∨ (l2.toInt ≤ x.toInt ∧ x.toInt ≤ h2.toInt)) 329 (fun kt kf => ?_) ?_
  · refine W.iload K 290 at_288 rfl ?_
    refine W.iload K 292 at_290 rfl ?_
    refine W.iload K 294 at_292 rfl ?_
    refine W.callSv3 K 297 at_294 (hw _ (List.mem_of_getElem? (i := 75) rfl)) (hw _ (List.mem_of_getElem? (i := 76) rfl)) (hw _ (List.mem_of_getElem? (i := 2) rfl)) (hw _ (List.mem_of_getElem? (i := 77) rfl)) pd_16 (spec_16 l Z a0 hw _ _ _ _) (fun v os1 hq => ?_)
    obtain ⟨w0, rfl, rfl, g0⟩ := hq
    refine W.if_ne K 324 300 at_297 (fun h297 => ?_) (fun h297 => ?_)
    · refine W.iconst K 325 at_324 (1 : Int32) (by decide) ?_
      refine W.goto K 329 at_325 ?_
      exact kt (by first | exact Or.inl (g0.mp h297) | exact Or.inr (Or.inl (g1.mp h309)) | exact Or.inr (Or.inr (g2.mp h321)))
    · refine W.iload K 302 at_300 rfl ?_
      refine W.iload K 304 at_302 rfl ?_
      refine W.iload K 306 at_304 rfl ?_
      refine W.callSv3 K 309 at_306 (hw _ (List.mem_of_getElem? (i := 75) rfl)) (hw _ (List.mem_of_getElem? (i := 76) rfl)) (hw _ (List.mem_of_getElem? (i := 2) rfl)) (hw _ (List.mem_of_getElem? (i := 77) rfl)) pd_16 (spec_16 l Z a0 hw _ _ _ _) (fun v os1 hq => ?_)
      obtain ⟨w1, rfl, rfl, g1⟩ := hq
      refine W.if_ne K 324 312 at_309 (fun h309 => ?_) (fun h309 => ?_)
      · refine W.iconst K 325 at_324 (1 : Int32) (by decide) ?_
        refine W.goto K 329 at_325 ?_
        exact kt (by first | exact Or.inl (g0.mp h297) | exact Or.inr (Or.inl (g1.mp h309)) | exact Or.inr (Or.inr (g2.mp h321)))
      · refine W.iload K 314 at_312 rfl ?_
        refine W.iload K 316 at_314 rfl ?_
        refine W.iload K 318 at_316 rfl ?_
        refine W.callSv3 K 321 at_318 (hw _ (List.mem_of_getElem? (i := 75) rfl)) (hw _ (List.mem_of_getElem? (i := 76) rfl)) (hw _ (List.mem_of_getElem? (i := 2) rfl)) (hw _ (List.mem_of_getElem? (i := 77) rfl)) pd_16 (spec_16 l Z a0 hw _ _ _ _) (fun v os1 hq => ?_)
        obtain ⟨w2, rfl, rfl, g2⟩ := hq
        refine W.if_eq K 328 324 at_321 (fun h321 => ?_) (fun h321 => ?_)
        · refine W.iconst K 329 at_328 (0 : Int32) (by decide) ?_
          exact kf (fun q => by rcases q with q | q | q; exact (g0.mpr q) h297; exact (g1.mpr q) h309; exact (g2.mpr q) h321)
        · refine W.iconst K 325 at_324 (1 : Int32) (by decide) ?_
          refine W.goto K 329 at_325 ?_
          exact kt (by first | exact Or.inl (g0.mp h297) | exact Or.inr (Or.inl (g1.mp h309)) | exact Or.inr (Or.inr (g2.mp h321)))
  refine W.istore K 331 at_329 rfl (by repeat (first | apply setLS | exact setL0)) ?_
  refine W.iload K 333 at_331 rfl ?_
  refine W.if_eq K 352 336 at_333 (fun h333 => False.elim (absurd h333 (by decide))) (fun h333 => ?_)
  refine W.aload K 338 at_336 rfl rfl ?_
  refine W.iload K 340 at_338 rfl ?_
  refine W.callVv1 K 343 at_340 (hw _ (List.mem_of_getElem? (i := 78) rfl)) (hw _ (List.mem_of_getElem? (i := 79) rfl)) (hw _ (List.mem_of_getElem? (i := 81) rfl)) (hw _ (List.mem_of_getElem? (i := 80) rfl)) (hw _ (List.mem_of_getElem? (i := 65) rfl)) (hw _ (List.mem_of_getElem? (i := 82) rfl)) pd_17 (Rc.new (by repeat (first | exact List.mem_cons_self | apply List.mem_cons_of_mem))) (spec_17 l Z a0 hw cu z2 x wz p C V hwz hp9 J _ (by repeat (first | exact List.mem_cons_self | apply List.mem_cons_of_mem)) (by repeat (first | exact List.mem_cons_self | apply List.mem_cons_of_mem))) (fun v os1 hq => ?_)
  obtain ⟨w, rfl, rfl, w01, wiff⟩ := hq
  refine W.iload K 345 at_343 rfl ?_
  refine W.icmp_ne K 352 348 at_345 (fun h345 => False.elim (h345 (own_fin w01 (wiff.trans ((J.2.2.2.1 x.toInt).trans (hU x.toInt))) (own_un p0 q0 r0 p1 q1 r1 p2 q2 r2 (own_add3 _ _ _ _ _ _ _) rfl rfl rfl)))) (fun h345 => ?_)
  refine W.iconst K 349 at_348 (1 : Int32) (by decide) ?_
  refine W.goto K 353 at_349 ?_
  refine W.zreturn K at_353 (Or.inr rfl) ⟨_, rfl, rfl⟩
set_option maxRecDepth 65536 in
set_option maxHeartbeats 40000000 in
theorem comes_1 {Post : Tables → Env → Array Value → State → Outcome → State → Prop} (hpost : ∀ tb e args s v u, (limb_1_1.after args s (.returned v) u = true ∧ limb_1_2.after args s (.returned v) u = true ∧ True) → FrameEnd s (.returned v) u (Jvm.fieldLocs frame_1_writes args s ++ Jvm.arrayLocs frame_1_arrays args s ++ Jvm.staticLocs frame_1_statics s) 24 192 → Post tb e args s (.returned v) u) :
    ArmFor flags0 classFile x code maxLocals ret World_1 tables_1 room_1 Calls_1 rest_1 Pre_1 Post := by
  intro l hfl _ _ p e ha hc hk s m args below hf hA hF happ hP
  obtain ⟨hcalls, hrest, hpre⟩ := hP
  obtain ⟨-, -, -, hnamed, -, -, -, hat⟩ := (Spec.applies_iff hf).mp happ
  obtain ⟨hg, hn⟩ := and_e (Cond.before_iff.mp (show (Jvm.Cond.and given_1 narrow_1).before args s = true from hpre))
  obtain ⟨gc, g0⟩ := and_e hg
  obtain ⟨k0, g1⟩ := and_e g0
  obtain ⟨k1, g2⟩ := and_e g1
  obtain ⟨k2, g3⟩ := and_e g2
  have k3 := g3
  obtain ⟨w0, w1, w2, w3, rfl⟩ : ∃ w0 w1 w2 w3 : Value, args = #[w0, w1, w2, w3] := by
    have hs : args.size = 4 := by simpa [Cond.value, given_1] using gc
    obtain ⟨L⟩ := args
    match L, hs with
    | [w0, w1, w2, w3], _ => exact ⟨w0, w1, w2, w3, rfl⟩
  have hw := fun d (hd : d ∈ tables_1) => atoms_spec (ws := Jvm.Cond.code x code maxLocals ret :: tables_1) hat d (List.mem_cons_of_mem _ hd)
  have hfit : Fit s := fun {y c} hc i hi => by
    obtain ⟨ha, rfl⟩ := Array.getElem?_eq_some_iff.mp hc
    have q := List.all_eq_true.mp ((Array.all_eq_true_iff_forall_mem.mp hF) _ (Array.getElem_mem ha)) i (List.mem_range.mpr hi)
    simpa [Array.getElem?_eq_getElem hi] using q
  obtain ⟨i0, ei0⟩ := is_v k0
  obtain rfl : w0 = (.int i0) := Option.some.inj ei0
  obtain ⟨i1, ei1⟩ := is_v k1
  obtain rfl : w1 = (.int i1) := Option.some.inj ei1
  obtain ⟨i2, ei2⟩ := is_v k2
  obtain rfl : w2 = (.int i2) := Option.some.inj ei2
  obtain ⟨i3, ei3⟩ := is_v k3
  obtain rfl : w3 = (.int i3) := Option.some.inj ei3
  obtain ⟨n, o, h1, h2, h3, _, L, rfl, ⟨os1, ⟨_, rfl, rfl⟩, -, N⟩, hq⟩ := spec_0 l s _ hw i0 i1 i2 i3 s.heap (Hp.nil s) tables_1 p e ha hc hk s m _ below hf ((Spec.applies_iff_loose hf).mp happ).1 ⟨rfl, State.Warmed39.refl s, rfl⟩ trivial
  refine ⟨n, _, h1, h2, h3, hpost _ _ _ _ _ _ ⟨Cond.after_iff.mpr rfl, Cond.after_iff.mpr (eq_i res_at (Term.int_eval (1)) rfl), trivial⟩ ⟨hq.1, hq.2.1, (hq.2.2.sift fun y hy => Or.inr (N y hy)).mono (by decide) (by decide)⟩⟩
theorem main_1_1 : Claimed_1_1 := comes_1 fun _ _ _ _ _ _ h hF => ⟨h.1, hF⟩
theorem main_1_2 : Claimed_1_2 := comes_1 fun _ _ _ _ _ _ h hF => ⟨h.2.1, hF⟩
end Jvm.Pilot.@@N@@
namespace Jvm.Pilot.@@N@@
open Jvm Jvm.ClassFile Sem Op Lib Jvm.Free Jvm.Stand Jvm.Pilot.@@N@@.Jvm.D
/-! MADE BY PROGRAM (witnessworld.py) out of the Statement's table words and the real class files: 16 classes; the members and pool entries that the words name. The judged class is class 1, her method 1. -/
namespace start1
open Jvm.ClassFile
def u (s : String) : CpInfo := .utf8 (stringToUtf16 s)
/-- a pool by its gaps: so many unusable entries, then the entry; so many at the end -/
def gap : Nat → List CpInfo → List CpInfo
  | 0, r => r
  | n + 1, r => .unusable :: gap n r
def poolList (es : List (Nat × CpInfo)) (last : Nat) : List CpInfo := es.foldr (fun e r => gap e.1 (e.2 :: r)) (gap last [])
def pool (es : List (Nat × CpInfo)) (last : Nat) : Array CpInfo := ⟨poolList es last⟩
def fileOf (pool : Array CpInfo) (this : Nat) (attrs : Array Attribute := #[]) (ms : Array MethodInfo := #[]) (fl : Nat := 33) (sup : Nat := 0) (ifs : Array Nat := #[]) (fds : Array FieldInfo := #[]) : ClassFile where
  minorVersion := 0
  majorVersion := 65
  constantPool := pool
  accessFlags := fl
  thisClass := this
  superClass := sup
  interfaces := ifs
  fields := fds
  methods := ms
  attributes := attrs
def plain (name : String) (sup : Option ClassId) : Class where
  name := name
  kind := .ordinary
  loader := none
  accessFlags := 33
  super := sup
  interfaces := #[]
  cf := none
  fields := #[]
  methods := #[]
  instanceTypes := #[]
  staticTypes := #[]
  resolved := #[]
  callSites := []
  init := .initialized
  statics := none
  mirror := none

def pool0 : Array CpInfo := pool [(5, u "<init>"), (0, u "()V"), (1, .class_ 10), (1, u "java/lang/Object")] 113

def k0c0 : Code := { maxStack := 0, maxLocals := 1, code := object_method_1_code, exceptionTable := #[], attributes := #[] }
def k0m0 : Method := { name := "<init>", desc := "()V", sig := { parameters := [], returnType := none }, accessFlags := 1, code := some k0c0 }
/-- java/lang/Object -/
def k0 : Class := { plain "java/lang/Object" none with
  accessFlags := 33
  interfaces := #[]
  cf := some (fileOf pool0 8 #[] #[{ accessFlags := 1, nameIndex := 5, descriptorIndex := 6, attributes := #[] }] 33 0 #[] #[])
  fields := #[]
  methods := #[k0m0]
  instanceTypes := #[]
  staticTypes := #[]
  resolved := Array.replicate 124 none
  statics := none }

def pool1 : Array CpInfo := pool [(2, .class_ 4), (0, .nameAndType 5 6), (0, u "java/lang/Object"), (0, u "<init>"), (0, u "()V"), (0, .methodref 8 9), (0, .class_ 10), (0, .nameAndType 11 12), (0, u "com/example/registrar/registrar/model/BuilderAddPinLaw"), (0, u "lo"), (0, u "(I)C"), (0, .methodref 8 14), (0, .nameAndType 15 12), (0, u "hi"), (0, .integer 65535), (0, .class_ 18), (0, u "com/example/registrar/registrar/model/CodeUnits$Builder"), (0, .methodref 17 3), (0, .methodref 17 21), (0, .nameAndType 22 23), (0, u "add"), (0, u "(CC)Lcom/example/registrar/registrar/model/CodeUnits$Builder;"), (0, .methodref 17 25), (0, .nameAndType 26 27), (0, u "build"), (0, u "()Lcom/example/registrar/registrar/model/CodeUnits;"), (0, .methodref 8 29), (0, .nameAndType 30 31), (0, u "in"), (0, u "(CCC)Z"), (0, .methodref 33 34), (0, .class_ 35), (0, .nameAndType 36 37), (0, u "com/example/registrar/registrar/model/CodeUnits"), (0, u "contains"), (0, u "(C)Z"), (0, .methodref 39 40), (0, .class_ 41), (0, .nameAndType 42 43), (0, u "java/lang/Math"), (0, u "min"), (0, u "(II)I"), (0, .methodref 39 45), (0, .nameAndType 46 43), (0, u "max"), (2, u "law"), (0, u "(IIII)Z")] 5

def k1m0 : Method := { name := "<init>", desc := "()V", sig := { parameters := [], returnType := none }, accessFlags := 1, code := none }
def k1c1 : Code := { maxStack := 3, maxLocals := 15, code := code, exceptionTable := #[], attributes := #[] }
def k1m1 : Method := { name := "law", desc := "(IIII)Z", sig := { parameters := [.int, .int, .int, .int], returnType := some .boolean }, accessFlags := 9, code := some k1c1 }
def k1c2 : Code := { maxStack := 3, maxLocals := 1, code := method_3_code, exceptionTable := #[], attributes := #[] }
def k1m2 : Method := { name := "lo", desc := "(I)C", sig := { parameters := [.int], returnType := some .char }, accessFlags := 10, code := some k1c2 }
def k1c3 : Code := { maxStack := 3, maxLocals := 1, code := method_4_code, exceptionTable := #[], attributes := #[] }
def k1m3 : Method := { name := "hi", desc := "(I)C", sig := { parameters := [.int], returnType := some .char }, accessFlags := 10, code := some k1c3 }
def k1c4 : Code := { maxStack := 2, maxLocals := 3, code := method_5_code, exceptionTable := #[], attributes := #[] }
def k1m4 : Method := { name := "in", desc := "(CCC)Z", sig := { parameters := [.char, .char, .char], returnType := some .boolean }, accessFlags := 10, code := some k1c4 }
/-- com/example/registrar/registrar/model/BuilderAddPinLaw -/
def k1 : Class := { plain "com/example/registrar/registrar/model/BuilderAddPinLaw" (some 0) with
  accessFlags := 49
  interfaces := #[]
  cf := some (fileOf pool1 8 #[] #[{ accessFlags := 1, nameIndex := 5, descriptorIndex := 6, attributes := #[] }, { accessFlags := 9, nameIndex := 49, descriptorIndex := 50, attributes := #[] }, { accessFlags := 10, nameIndex := 11, descriptorIndex := 12, attributes := #[] }, { accessFlags := 10, nameIndex := 15, descriptorIndex := 12, attributes := #[] }, { accessFlags := 10, nameIndex := 30, descriptorIndex := 31, attributes := #[] }] 49 2 #[] #[])
  fields := #[]
  methods := #[k1m0, k1m1, k1m2, k1m3, k1m4]
  instanceTypes := #[]
  staticTypes := #[]
  resolved := Array.replicate 56 none
  statics := none }

def pool2 : Array CpInfo := pool [(1, .class_ 2), (0, u "java/lang/Math"), (1, .class_ 6), (1, u "java/lang/Object"), (0, u "<init>"), (0, u "()V"), (89, .class_ 100), (1, u "java/lang/Math$RandomNumberGeneratorHolder"), (71, u "negativeZeroFloatBits"), (0, u "J"), (2, u "negativeZeroDoubleBits"), (21, u "max"), (2, u "min"), (43, u "$assertionsDisabled"), (0, u "Z"), (88, u "(II)I"), (2, u "twoToTheDoubleScaleDown"), (0, u "D"), (4, u "twoToTheDoubleScaleUp"), (9, u "E"), (3, u "PI"), (2, u "TAU"), (2, u "DEGREES_TO_RADIANS"), (0, u "RADIANS_TO_DEGREES")] 94

def k2m0 : Method := { name := "<init>", desc := "()V", sig := { parameters := [], returnType := none }, accessFlags := 2, code := none }
def k2c1 : Code := { maxStack := 2, maxLocals := 2, code := jdk_29_method_65_code, exceptionTable := #[], attributes := #[] }
def k2m1 : Method := { name := "max", desc := "(II)I", sig := { parameters := [.int, .int], returnType := some .int }, accessFlags := 9, code := some k2c1 }
def k2c2 : Code := { maxStack := 2, maxLocals := 2, code := jdk_29_method_69_code, exceptionTable := #[], attributes := #[] }
def k2m2 : Method := { name := "min", desc := "(II)I", sig := { parameters := [.int, .int], returnType := some .int }, accessFlags := 9, code := some k2c2 }
/-- java/lang/Math -/
def k2 : Class := { plain "java/lang/Math" (some 0) with
  accessFlags := 49
  interfaces := #[]
  cf := some (fileOf pool2 1 #[.nestMembers #[98]] #[{ accessFlags := 2, nameIndex := 7, descriptorIndex := 8, attributes := #[] }, { accessFlags := 9, nameIndex := 198, descriptorIndex := 335, attributes := #[] }, { accessFlags := 9, nameIndex := 201, descriptorIndex := 335, attributes := #[] }] 49 4 #[] #[{ accessFlags := 25, nameIndex := 354, descriptorIndex := 339, attributes := #[] }, { accessFlags := 25, nameIndex := 358, descriptorIndex := 339, attributes := #[] }, { accessFlags := 25, nameIndex := 361, descriptorIndex := 339, attributes := #[] }, { accessFlags := 26, nameIndex := 364, descriptorIndex := 339, attributes := #[] }, { accessFlags := 26, nameIndex := 365, descriptorIndex := 339, attributes := #[] }, { accessFlags := 26, nameIndex := 172, descriptorIndex := 173, attributes := #[] }, { accessFlags := 26, nameIndex := 176, descriptorIndex := 173, attributes := #[] }, { accessFlags := 8, nameIndex := 344, descriptorIndex := 339, attributes := #[] }, { accessFlags := 8, nameIndex := 338, descriptorIndex := 339, attributes := #[] }, { accessFlags := 4120, nameIndex := 245, descriptorIndex := 246, attributes := #[] }])
  fields := #[{ name := "E", type := .double, accessFlags := 25, slot := 0, constantValue := 0 }, { name := "PI", type := .double, accessFlags := 25, slot := 1, constantValue := 0 }, { name := "TAU", type := .double, accessFlags := 25, slot := 2, constantValue := 0 }, { name := "DEGREES_TO_RADIANS", type := .double, accessFlags := 26, slot := 3, constantValue := 0 }, { name := "RADIANS_TO_DEGREES", type := .double, accessFlags := 26, slot := 4, constantValue := 0 }, { name := "negativeZeroFloatBits", type := .long, accessFlags := 26, slot := 5, constantValue := 0 }, { name := "negativeZeroDoubleBits", type := .long, accessFlags := 26, slot := 6, constantValue := 0 }, { name := "twoToTheDoubleScaleUp", type := .double, accessFlags := 8, slot := 7, constantValue := 0 }, { name := "twoToTheDoubleScaleDown", type := .double, accessFlags := 8, slot := 8, constantValue := 0 }, { name := "$assertionsDisabled", type := .boolean, accessFlags := 4120, slot := 9, constantValue := 0 }]
  methods := #[k2m0, k2m1, k2m2]
  instanceTypes := #[]
  staticTypes := #[.double, .double, .double, .double, .double, .long, .long, .double, .double, .boolean]
  resolved := Array.replicate 460 none
  statics := none }

def pool3 : Array CpInfo := pool [(1, .methodref 2 3), (0, .class_ 4), (0, .nameAndType 5 6), (0, u "java/lang/Object"), (0, u "<init>"), (0, u "()V"), (0, .fieldref 8 9), (0, .class_ 10), (0, .nameAndType 11 12), (0, u "com/example/registrar/registrar/model/CodeUnits$Builder"), (0, u "ranges"), (0, u "[J"), (0, .fieldref 8 14), (0, .nameAndType 15 16), (0, u "size"), (0, u "I"), (0, .methodref 18 19), (0, .class_ 20), (0, .nameAndType 21 22), (0, u "java/util/Arrays"), (0, u "copyOf"), (0, u "([JI)[J"), (3, .class_ 28), (1, u "com/example/registrar/registrar/model/CodeUnits"), (4, u "add"), (0, u "(CC)Lcom/example/registrar/registrar/model/CodeUnits$Builder;"), (0, .methodref 18 36), (0, .nameAndType 37 38), (0, u "sort"), (0, u "([J)V"), (0, .methodref 40 41), (0, .class_ 42), (0, .nameAndType 43 44), (0, u "java/lang/Math"), (0, u "max"), (0, u "(II)I"), (0, .methodref 18 46), (0, .nameAndType 21 47), (0, u "([CI)[C"), (0, .methodref 26 49), (0, .nameAndType 5 50), (0, u "([C)V"), (4, u "build"), (0, u "()Lcom/example/registrar/registrar/model/CodeUnits;")] 7

def k3c0 : Code := { maxStack := 2, maxLocals := 1, code := prog_6_method_1_code, exceptionTable := #[], attributes := #[] }
def k3m0 : Method := { name := "<init>", desc := "()V", sig := { parameters := [], returnType := none }, accessFlags := 0, code := some k3c0 }
def k3c1 : Code := { maxStack := 6, maxLocals := 3, code := prog_6_method_2_code, exceptionTable := #[], attributes := #[] }
def k3m1 : Method := { name := "add", desc := "(CC)Lcom/example/registrar/registrar/model/CodeUnits$Builder;", sig := { parameters := [.char, .char], returnType := some (.object "com/example/registrar/registrar/model/CodeUnits$Builder") }, accessFlags := 0, code := some k3c1 }
def k3c2 : Code := { maxStack := 5, maxLocals := 11, code := prog_6_method_4_code, exceptionTable := #[], attributes := #[] }
def k3m2 : Method := { name := "build", desc := "()Lcom/example/registrar/registrar/model/CodeUnits;", sig := { parameters := [], returnType := some (.object "com/example/registrar/registrar/model/CodeUnits") }, accessFlags := 0, code := some k3c2 }
/-- com/example/registrar/registrar/model/CodeUnits$Builder -/
def k3 : Class := { plain "com/example/registrar/registrar/model/CodeUnits$Builder" (some 0) with
  accessFlags := 32
  interfaces := #[]
  cf := some (fileOf pool3 8 #[.nestHost 26] #[{ accessFlags := 0, nameIndex := 5, descriptorIndex := 6, attributes := #[] }, { accessFlags := 0, nameIndex := 33, descriptorIndex := 34, attributes := #[] }, { accessFlags := 0, nameIndex := 55, descriptorIndex := 56, attributes := #[] }] 32 2 #[] #[{ accessFlags := 2, nameIndex := 11, descriptorIndex := 12, attributes := #[] }, { accessFlags := 2, nameIndex := 15, descriptorIndex := 16, attributes := #[] }])
  fields := #[{ name := "ranges", type := (.array .long), accessFlags := 2, slot := 0, constantValue := 0 }, { name := "size", type := .int, accessFlags := 2, slot := 1, constantValue := 0 }]
  methods := #[k3m0, k3m1, k3m2]
  instanceTypes := #[(.array .long), .int]
  staticTypes := #[]
  resolved := Array.replicate 64 none
  statics := none }

def pool4 : Array CpInfo := pool [(2, .class_ 4), (1, u "java/lang/Object"), (0, u "<init>"), (0, u "()V"), (1, .class_ 10), (1, u "java/util/DualPivotQuicksort"), (0, u "sort"), (2, .class_ 16), (1, u "java/util/Arrays"), (2, .methodref 8 20), (0, .nameAndType 11 21), (0, u "([JIII)V"), (52, .class_ 76), (1, u "java/util/Arrays$NaturalOrder"), (36, .class_ 115), (1, u "java/util/Arrays$LegacyMergeSort"), (1, u "Z"), (32, .methodref 151 152), (0, .class_ 153), (0, .nameAndType 154 155), (0, u "java/lang/System"), (0, u "arraycopy"), (0, u "(Ljava/lang/Object;ILjava/lang/Object;II)V"), (146, u "copyOf"), (1, .methodref 305 306), (0, .class_ 307), (0, .nameAndType 308 309), (0, u "java/lang/Math"), (0, u "min"), (0, u "(II)I"), (65, .class_ 376), (0, u "java/util/Arrays$ArrayList"), (68, u "$assertionsDisabled"), (269, u "MIN_ARRAY_SORT_GRAN"), (0, u "I"), (2, u "INSERTIONSORT_THRESHOLD"), (11, u "([J)V"), (140, u "([JI)[J"), (0, u "([CI)[C"), (101, .class_ 976), (0, u "java/util/Arrays$ArrayItr")] 52

def k4m0 : Method := { name := "<init>", desc := "()V", sig := { parameters := [], returnType := none }, accessFlags := 2, code := none }
def k4c1 : Code := { maxStack := 4, maxLocals := 1, code := jdk_65_method_4_code, exceptionTable := #[], attributes := #[] }
def k4m1 : Method := { name := "sort", desc := "([J)V", sig := { parameters := [(.array .long)], returnType := none }, accessFlags := 9, code := some k4c1 }
def k4c2 : Code := { maxStack := 6, maxLocals := 3, code := jdk_65_method_124_code, exceptionTable := #[], attributes := #[] }
def k4m2 : Method := { name := "copyOf", desc := "([JI)[J", sig := { parameters := [(.array .long), .int], returnType := some (.array .long) }, accessFlags := 9, code := some k4c2 }
def k4c3 : Code := { maxStack := 6, maxLocals := 3, code := jdk_65_method_125_code, exceptionTable := #[], attributes := #[] }
def k4m3 : Method := { name := "copyOf", desc := "([CI)[C", sig := { parameters := [(.array .char), .int], returnType := some (.array .char) }, accessFlags := 9, code := some k4c3 }
/-- java/util/Arrays -/
def k4 : Class := { plain "java/util/Arrays" (some 0) with
  accessFlags := 49
  interfaces := #[]
  cf := some (fileOf pool4 14 #[.nestMembers #[975, 375, 113, 74]] #[{ accessFlags := 2, nameIndex := 5, descriptorIndex := 6, attributes := #[] }, { accessFlags := 9, nameIndex := 11, descriptorIndex := 731, attributes := #[] }, { accessFlags := 9, nameIndex := 302, descriptorIndex := 872, attributes := #[] }, { accessFlags := 9, nameIndex := 302, descriptorIndex := 873, attributes := #[] }] 49 2 #[] #[{ accessFlags := 26, nameIndex := 715, descriptorIndex := 716, attributes := #[] }, { accessFlags := 26, nameIndex := 719, descriptorIndex := 716, attributes := #[] }, { accessFlags := 4120, nameIndex := 445, descriptorIndex := 117, attributes := #[] }])
  fields := #[{ name := "MIN_ARRAY_SORT_GRAN", type := .int, accessFlags := 26, slot := 0, constantValue := 0 }, { name := "INSERTIONSORT_THRESHOLD", type := .int, accessFlags := 26, slot := 1, constantValue := 0 }, { name := "$assertionsDisabled", type := .boolean, accessFlags := 4120, slot := 2, constantValue := 0 }]
  methods := #[k4m0, k4m1, k4m2, k4m3]
  instanceTypes := #[]
  staticTypes := #[.int, .int, .boolean]
  resolved := Array.replicate 1029 none
  statics := none }

def pool5 : Array CpInfo := pool [(2, .class_ 4), (1, u "java/lang/Object"), (0, u "<init>"), (0, u "()V"), (1, .class_ 10), (1, u "java/lang/System"), (0, u "allowSecurityManager"), (0, u "I"), (16, u "cons"), (0, u "Ljava/io/Console;"), (77, .class_ 110), (1, u "java/lang/System$CallersHolder"), (43, u "initialErrStream"), (0, u "Ljava/io/PrintStream;"), (19, u "security"), (0, u "Ljava/lang/SecurityManager;"), (31, .class_ 209), (0, u "java/lang/System$1"), (7, u "props"), (0, u "Ljava/util/Properties;"), (2, u "lineSeparator"), (0, u "Ljava/lang/String;"), (96, .class_ 321), (1, u "java/lang/System$LoggerFinder"), (5, .class_ 328), (0, u "java/lang/System$Logger"), (67, u "err"), (2, u "out"), (91, u "notSupportedJnuEncoding"), (15, u "in"), (17, u "initialIn"), (0, u "Ljava/io/InputStream;"), (35, u "bootLayer"), (0, u "Ljava/lang/ModuleLayer;"), (99, .class_ 664), (0, u "java/lang/System$2"), (9, u "NEVER"), (2, u "MAYBE"), (49, u "arraycopy"), (0, u "(Ljava/lang/Object;ILjava/lang/Object;II)V"), (72, .class_ 802), (0, u "java/lang/System$Logger$Level")] 31

def k5m0 : Method := { name := "<init>", desc := "()V", sig := { parameters := [], returnType := none }, accessFlags := 2, code := none }
def k5m1 : Method := { name := "arraycopy", desc := "(Ljava/lang/Object;ILjava/lang/Object;II)V", sig := { parameters := [(.object "java/lang/Object"), .int, (.object "java/lang/Object"), .int, .int], returnType := none }, accessFlags := 265, code := none }
/-- java/lang/System -/
def k5 : Class := { plain "java/lang/System" (some 0) with
  accessFlags := 49
  interfaces := #[]
  cf := some (fileOf pool5 8 #[.nestMembers #[319, 327, 801, 108, 663, 208]] #[{ accessFlags := 2, nameIndex := 5, descriptorIndex := 6, attributes := #[] }, { accessFlags := 265, nameIndex := 727, descriptorIndex := 728, attributes := #[] }] 49 2 #[] #[{ accessFlags := 25, nameIndex := 507, descriptorIndex := 526, attributes := #[] }, { accessFlags := 25, nameIndex := 399, descriptorIndex := 155, attributes := #[] }, { accessFlags := 25, nameIndex := 396, descriptorIndex := 155, attributes := #[] }, { accessFlags := 10, nameIndex := 525, descriptorIndex := 526, attributes := #[] }, { accessFlags := 26, nameIndex := 674, descriptorIndex := 12, attributes := #[] }, { accessFlags := 26, nameIndex := 677, descriptorIndex := 12, attributes := #[] }, { accessFlags := 10, nameIndex := 11, descriptorIndex := 12, attributes := #[] }, { accessFlags := 74, nameIndex := 175, descriptorIndex := 176, attributes := #[] }, { accessFlags := 10, nameIndex := 491, descriptorIndex := 222, attributes := #[] }, { accessFlags := 74, nameIndex := 29, descriptorIndex := 30, attributes := #[] }, { accessFlags := 74, nameIndex := 154, descriptorIndex := 155, attributes := #[] }, { accessFlags := 10, nameIndex := 217, descriptorIndex := 218, attributes := #[] }, { accessFlags := 10, nameIndex := 221, descriptorIndex := 222, attributes := #[] }, { accessFlags := 8, nameIndex := 562, descriptorIndex := 563, attributes := #[] }])
  fields := #[{ name := "in", type := (.object "java/io/InputStream"), accessFlags := 25, slot := 0, constantValue := 0 }, { name := "out", type := (.object "java/io/PrintStream"), accessFlags := 25, slot := 1, constantValue := 0 }, { name := "err", type := (.object "java/io/PrintStream"), accessFlags := 25, slot := 2, constantValue := 0 }, { name := "initialIn", type := (.object "java/io/InputStream"), accessFlags := 10, slot := 3, constantValue := 0 }, { name := "NEVER", type := .int, accessFlags := 26, slot := 4, constantValue := 0 }, { name := "MAYBE", type := .int, accessFlags := 26, slot := 5, constantValue := 0 }, { name := "allowSecurityManager", type := .int, accessFlags := 10, slot := 6, constantValue := 0 }, { name := "security", type := (.object "java/lang/SecurityManager"), accessFlags := 74, slot := 7, constantValue := 0 }, { name := "notSupportedJnuEncoding", type := (.object "java/lang/String"), accessFlags := 10, slot := 8, constantValue := 0 }, { name := "cons", type := (.object "java/io/Console"), accessFlags := 74, slot := 9, constantValue := 0 }, { name := "initialErrStream", type := (.object "java/io/PrintStream"), accessFlags := 74, slot := 10, constantValue := 0 }, { name := "props", type := (.object "java/util/Properties"), accessFlags := 10, slot := 11, constantValue := 0 }, { name := "lineSeparator", type := (.object "java/lang/String"), accessFlags := 10, slot := 12, constantValue := 0 }, { name := "bootLayer", type := (.object "java/lang/ModuleLayer"), accessFlags := 8, slot := 13, constantValue := 0 }]
  methods := #[k5m0, k5m1]
  instanceTypes := #[]
  staticTypes := #[(.object "java/io/InputStream"), (.object "java/io/PrintStream"), (.object "java/io/PrintStream"), (.object "java/io/InputStream"), .int, .int, .int, (.object "java/lang/SecurityManager"), (.object "java/lang/String"), (.object "java/io/Console"), (.object "java/io/PrintStream"), (.object "java/util/Properties"), (.object "java/lang/String"), (.object "java/lang/ModuleLayer")]
  resolved := Array.replicate 834 none
  statics := none }

def pool6 : Array CpInfo := pool [(1, .class_ 2), (0, u "java/util/DualPivotQuicksort"), (5, .class_ 10), (1, u "java/lang/Object"), (0, u "<init>"), (0, u "()V"), (4, .class_ 18), (0, u "java/util/DualPivotQuicksort$Sorter"), (9, u "sort"), (7, u "insertionSort"), (31, u "I"), (4, .class_ 74), (0, u "java/util/DualPivotQuicksort$RunMerger"), (10, .class_ 86), (0, u "java/util/DualPivotQuicksort$Merger"), (12, .methodref 1 100), (0, .nameAndType 28 101), (0, u "(Ljava/util/DualPivotQuicksort$Sorter;[JIII)V"), (2, u "([JIII)V"), (0, .methodref 1 106), (0, .nameAndType 36 107), (0, u "([JII)V"), (106, u "MAX_MIXED_INSERTION_SORT_SIZE"), (2, u "MAX_INSERTION_SORT_SIZE"), (1, u "MIN_PARALLEL_SORT_SIZE"), (1, u "MIN_TRY_MERGE_SIZE"), (0, u "MIN_FIRST_RUN_SIZE"), (1, u "MIN_FIRST_RUNS_FACTOR"), (1, u "MAX_RUN_CAPACITY"), (1, u "MIN_RUN_COUNT"), (1, u "MIN_PARALLEL_MERGE_PARTS_SIZE"), (0, u "MIN_BYTE_COUNTING_SORT_SIZE"), (1, u "MIN_SHORT_OR_CHAR_COUNTING_SORT_SIZE"), (1, u "DELTA"), (1, u "MAX_RECURSION_DEPTH"), (1, u "NUM_BYTE_VALUES"), (1, u "MAX_BYTE_INDEX"), (0, u "NUM_CHAR_VALUES"), (0, u "NUM_SHORT_VALUES"), (0, u "MAX_SHORT_INDEX")] 86

def k6m0 : Method := { name := "<init>", desc := "()V", sig := { parameters := [], returnType := none }, accessFlags := 2, code := none }
def k6c1 : Code := { maxStack := 9, maxLocals := 7, code := jdk_2529_method_12_code, exceptionTable := #[], attributes := #[] }
def k6m1 : Method := { name := "sort", desc := "([JIII)V", sig := { parameters := [(.array .long), .int, .int, .int], returnType := none }, accessFlags := 8, code := some k6c1 }
def k6c2 : Code := { maxStack := 6, maxLocals := 25, code := jdk_2529_method_13_code, exceptionTable := #[], attributes := #[] }
def k6m2 : Method := { name := "sort", desc := "(Ljava/util/DualPivotQuicksort$Sorter;[JIII)V", sig := { parameters := [(.object "java/util/DualPivotQuicksort$Sorter"), (.array .long), .int, .int, .int], returnType := none }, accessFlags := 8, code := some k6c2 }
def k6c3 : Code := { maxStack := 5, maxLocals := 7, code := jdk_2529_method_15_code, exceptionTable := #[], attributes := #[] }
def k6m3 : Method := { name := "insertionSort", desc := "([JII)V", sig := { parameters := [(.array .long), .int, .int], returnType := none }, accessFlags := 10, code := some k6c3 }
/-- java/util/DualPivotQuicksort -/
def k6 : Class := { plain "java/util/DualPivotQuicksort" (some 0) with
  accessFlags := 48
  interfaces := #[]
  cf := some (fileOf pool6 1 #[.nestMembers #[73, 85, 17]] #[{ accessFlags := 2, nameIndex := 11, descriptorIndex := 12, attributes := #[] }, { accessFlags := 8, nameIndex := 28, descriptorIndex := 104, attributes := #[] }, { accessFlags := 8, nameIndex := 28, descriptorIndex := 101, attributes := #[] }, { accessFlags := 10, nameIndex := 36, descriptorIndex := 107, attributes := #[] }] 48 8 #[] #[{ accessFlags := 26, nameIndex := 214, descriptorIndex := 68, attributes := #[] }, { accessFlags := 26, nameIndex := 217, descriptorIndex := 68, attributes := #[] }, { accessFlags := 26, nameIndex := 219, descriptorIndex := 68, attributes := #[] }, { accessFlags := 26, nameIndex := 221, descriptorIndex := 68, attributes := #[] }, { accessFlags := 26, nameIndex := 222, descriptorIndex := 68, attributes := #[] }, { accessFlags := 26, nameIndex := 224, descriptorIndex := 68, attributes := #[] }, { accessFlags := 26, nameIndex := 226, descriptorIndex := 68, attributes := #[] }, { accessFlags := 26, nameIndex := 228, descriptorIndex := 68, attributes := #[] }, { accessFlags := 26, nameIndex := 230, descriptorIndex := 68, attributes := #[] }, { accessFlags := 26, nameIndex := 231, descriptorIndex := 68, attributes := #[] }, { accessFlags := 26, nameIndex := 233, descriptorIndex := 68, attributes := #[] }, { accessFlags := 26, nameIndex := 235, descriptorIndex := 68, attributes := #[] }, { accessFlags := 26, nameIndex := 237, descriptorIndex := 68, attributes := #[] }, { accessFlags := 26, nameIndex := 239, descriptorIndex := 68, attributes := #[] }, { accessFlags := 26, nameIndex := 241, descriptorIndex := 68, attributes := #[] }, { accessFlags := 26, nameIndex := 242, descriptorIndex := 68, attributes := #[] }, { accessFlags := 26, nameIndex := 243, descriptorIndex := 68, attributes := #[] }, { accessFlags := 26, nameIndex := 244, descriptorIndex := 68, attributes := #[] }])
  fields := #[{ name := "MAX_MIXED_INSERTION_SORT_SIZE", type := .int, accessFlags := 26, slot := 0, constantValue := 0 }, { name := "MAX_INSERTION_SORT_SIZE", type := .int, accessFlags := 26, slot := 1, constantValue := 0 }, { name := "MIN_PARALLEL_SORT_SIZE", type := .int, accessFlags := 26, slot := 2, constantValue := 0 }, { name := "MIN_TRY_MERGE_SIZE", type := .int, accessFlags := 26, slot := 3, constantValue := 0 }, { name := "MIN_FIRST_RUN_SIZE", type := .int, accessFlags := 26, slot := 4, constantValue := 0 }, { name := "MIN_FIRST_RUNS_FACTOR", type := .int, accessFlags := 26, slot := 5, constantValue := 0 }, { name := "MAX_RUN_CAPACITY", type := .int, accessFlags := 26, slot := 6, constantValue := 0 }, { name := "MIN_RUN_COUNT", type := .int, accessFlags := 26, slot := 7, constantValue := 0 }, { name := "MIN_PARALLEL_MERGE_PARTS_SIZE", type := .int, accessFlags := 26, slot := 8, constantValue := 0 }, { name := "MIN_BYTE_COUNTING_SORT_SIZE", type := .int, accessFlags := 26, slot := 9, constantValue := 0 }, { name := "MIN_SHORT_OR_CHAR_COUNTING_SORT_SIZE", type := .int, accessFlags := 26, slot := 10, constantValue := 0 }, { name := "DELTA", type := .int, accessFlags := 26, slot := 11, constantValue := 0 }, { name := "MAX_RECURSION_DEPTH", type := .int, accessFlags := 26, slot := 12, constantValue := 0 }, { name := "NUM_BYTE_VALUES", type := .int, accessFlags := 26, slot := 13, constantValue := 0 }, { name := "MAX_BYTE_INDEX", type := .int, accessFlags := 26, slot := 14, constantValue := 0 }, { name := "NUM_CHAR_VALUES", type := .int, accessFlags := 26, slot := 15, constantValue := 0 }, { name := "NUM_SHORT_VALUES", type := .int, accessFlags := 26, slot := 16, constantValue := 0 }, { name := "MAX_SHORT_INDEX", type := .int, accessFlags := 26, slot := 17, constantValue := 0 }]
  methods := #[k6m0, k6m1, k6m2, k6m3]
  instanceTypes := #[]
  staticTypes := #[.int, .int, .int, .int, .int, .int, .int, .int, .int, .int, .int, .int, .int, .int, .int, .int, .int, .int]
  resolved := Array.replicate 331 none
  statics := none }

def pool7 : Array CpInfo := pool [(1, .methodref 2 3), (0, .class_ 4), (0, .nameAndType 5 6), (0, u "java/lang/Object"), (0, u "<init>"), (0, u "()V"), (0, .fieldref 8 9), (0, .class_ 10), (0, .nameAndType 11 12), (0, u "com/example/registrar/registrar/model/CodeUnits"), (0, u "bounds"), (0, u "[C"), (2, u "([C)V"), (1, .class_ 19), (1, u "com/example/registrar/registrar/model/CodeUnits$CaseFolding"), (10, u "contains"), (0, u "(C)Z"), (0, .class_ 33), (0, u "com/example/registrar/registrar/model/CodeUnits$Builder"), (23, u "ALL"), (0, u "Lcom/example/registrar/registrar/model/CodeUnits;"), (2, u "LINE_TERMINATORS"), (5, u "NOT_LINE_TERMINATORS"), (2, u "DIGITS"), (2, u "WORD"), (5, u "WHITE_SPACE")] 13

def k7c0 : Code := { maxStack := 2, maxLocals := 2, code := prog_5_method_1_code, exceptionTable := #[], attributes := #[] }
def k7m0 : Method := { name := "<init>", desc := "([C)V", sig := { parameters := [(.array .char)], returnType := none }, accessFlags := 2, code := some k7c0 }
def k7c1 : Code := { maxStack := 4, maxLocals := 5, code := prog_5_method_3_code, exceptionTable := #[], attributes := #[] }
def k7m1 : Method := { name := "contains", desc := "(C)Z", sig := { parameters := [.char], returnType := some .boolean }, accessFlags := 0, code := some k7c1 }
/-- com/example/registrar/registrar/model/CodeUnits -/
def k7 : Class := { plain "com/example/registrar/registrar/model/CodeUnits" (some 0) with
  accessFlags := 32
  interfaces := #[]
  cf := some (fileOf pool7 8 #[.nestMembers #[17, 32]] #[{ accessFlags := 2, nameIndex := 5, descriptorIndex := 15, attributes := #[] }, { accessFlags := 0, nameIndex := 30, descriptorIndex := 31, attributes := #[] }] 32 2 #[] #[{ accessFlags := 24, nameIndex := 57, descriptorIndex := 58, attributes := #[] }, { accessFlags := 24, nameIndex := 61, descriptorIndex := 58, attributes := #[] }, { accessFlags := 24, nameIndex := 67, descriptorIndex := 58, attributes := #[] }, { accessFlags := 24, nameIndex := 70, descriptorIndex := 58, attributes := #[] }, { accessFlags := 24, nameIndex := 73, descriptorIndex := 58, attributes := #[] }, { accessFlags := 24, nameIndex := 79, descriptorIndex := 58, attributes := #[] }, { accessFlags := 18, nameIndex := 11, descriptorIndex := 12, attributes := #[] }])
  fields := #[{ name := "ALL", type := (.object "com/example/registrar/registrar/model/CodeUnits"), accessFlags := 24, slot := 0, constantValue := 0 }, { name := "LINE_TERMINATORS", type := (.object "com/example/registrar/registrar/model/CodeUnits"), accessFlags := 24, slot := 1, constantValue := 0 }, { name := "NOT_LINE_TERMINATORS", type := (.object "com/example/registrar/registrar/model/CodeUnits"), accessFlags := 24, slot := 2, constantValue := 0 }, { name := "DIGITS", type := (.object "com/example/registrar/registrar/model/CodeUnits"), accessFlags := 24, slot := 3, constantValue := 0 }, { name := "WORD", type := (.object "com/example/registrar/registrar/model/CodeUnits"), accessFlags := 24, slot := 4, constantValue := 0 }, { name := "WHITE_SPACE", type := (.object "com/example/registrar/registrar/model/CodeUnits"), accessFlags := 24, slot := 5, constantValue := 0 }, { name := "bounds", type := (.array .char), accessFlags := 18, slot := 0, constantValue := 0 }]
  methods := #[k7m0, k7m1]
  instanceTypes := #[(.array .char)]
  staticTypes := #[(.object "com/example/registrar/registrar/model/CodeUnits"), (.object "com/example/registrar/registrar/model/CodeUnits"), (.object "com/example/registrar/registrar/model/CodeUnits"), (.object "com/example/registrar/registrar/model/CodeUnits"), (.object "com/example/registrar/registrar/model/CodeUnits"), (.object "com/example/registrar/registrar/model/CodeUnits")]
  resolved := Array.replicate 93 none
  statics := none }

def pool8 : Array CpInfo := pool [(1, u "java/lang/Cloneable"), (0, .class_ 1), (0, u "java/lang/Object"), (0, .class_ 3)] 3

/-- java/lang/Cloneable -/
def k8 : Class := { plain "java/lang/Cloneable" (some 0) with
  accessFlags := 1537
  interfaces := #[]
  cf := some (fileOf pool8 2 #[] #[] 1537 4 #[] #[])
  fields := #[]
  methods := #[]
  instanceTypes := #[]
  staticTypes := #[]
  resolved := Array.replicate 8 none
  statics := none }

def pool9 : Array CpInfo := pool [(1, u "java/io/Serializable"), (0, .class_ 1), (0, u "java/lang/Object"), (0, .class_ 3)] 3

/-- java/io/Serializable -/
def k9 : Class := { plain "java/io/Serializable" (some 0) with
  accessFlags := 1537
  interfaces := #[]
  cf := some (fileOf pool9 2 #[] #[] 1537 4 #[] #[])
  fields := #[]
  methods := #[]
  instanceTypes := #[]
  staticTypes := #[]
  resolved := Array.replicate 8 none
  statics := none }

/-- the primitive byte -/
def k10 : Class := { plain "byte" none with kind := .primitive 'B', accessFlags := 0x411 }
/-- [B -/
def k11 : Class := { plain "[B" (some 0) with kind := .array 10 .byte, interfaces := #[8, 9], accessFlags := 1041 }

/-- the primitive char -/
def k12 : Class := { plain "char" none with kind := .primitive 'C', accessFlags := 0x411 }
/-- [C -/
def k13 : Class := { plain "[C" (some 0) with kind := .array 12 .char, interfaces := #[8, 9], accessFlags := 1041 }

/-- the primitive long -/
def k14 : Class := { plain "long" none with kind := .primitive 'J', accessFlags := 0x411 }
/-- [J -/
def k15 : Class := { plain "[J" (some 0) with kind := .array 14 .long, interfaces := #[8, 9], accessFlags := 1041 }

def heap : Heap := #[]
def classes : Array Class := #[k0, k1, k2, k3, k4, k5, k6, k7, k8, k9, k10, k11, k12, k13, k14, k15]
def interned : List (Array UInt16 × Addr) := []
def slotsUsed : Nat := 0
def theMethod : MethodId := ⟨1, 1⟩
def args0 : Array Value := #[.int 1, .int 2, .int 3, .int 4]
def aboutOver (below : List Frame) : State where
  vm := { classes := classes, interned := interned.toArray }
  heap := heap
  slotsUsed := slotsUsed
  threads := #[{ frames := .invoking theMethod args0 :: below }]
def below0 : List Frame := [.native { method := ⟨0, 0⟩, args := #[] }]
def about1 : State := aboutOver below0
def p0 : Program := .bare "" "" ""
def e0 : Env := launch0.env 0 0 0
theorem w_frames : about1.frames = Frame.invoking theMethod args0 :: below0 := rfl
set_option maxRecDepth 65536 in
theorem w_args : argsFit about1.vm theMethod args0 = true := by decide +kernel
set_option maxRecDepth 65536 in
theorem w_heap : heapFits about1 = true := by decide +kernel
set_option maxRecDepth 65536 in
theorem w_runnable : about1.curStatus? = some .runnable := by decide +kernel
set_option maxRecDepth 65536 in
theorem w_alone : about1.alone = true := by decide +kernel
set_option maxRecDepth 65536 in
theorem w_named : about1.methodNamed? x = some theMethod := by decide +kernel
set_option maxRecDepth 65536 in
theorem w_hears : about1.hears theMethod below0 = true := by decide +kernel
set_option maxRecDepth 65536 in
theorem w_ripe : about1.ripe theMethod args0 below0 = true := by decide +kernel
theorem w_running : about1.status = .running := rfl
set_option maxRecDepth 65536 in
theorem w_room : about1.hasRoom e0.platform room_1 = true :=
  launch0.hasRoom_least _ room_1 (by decide +kernel) (by decide +kernel) (by decide +kernel) (by decide +kernel) (by decide +kernel) (by decide +kernel)
theorem allAtoms_all (ts : List Jvm.Cond) (a : Array Jvm.Value) (st : Jvm.State) : (allAtoms ts).before a st = ts.all (fun c => c.before a st) := by
  induction ts with
  | nil => rfl
  | cons c t ih =>
    show (Jvm.Cond.and c (allAtoms t)).before a st = _
    rw [Jvm.Cond.before_and, ih, List.all_cons]
def words1 : List Jvm.Cond := Jvm.Cond.code x code maxLocals ret :: tables_1
/-- a 'code' word, met by the world's own term for the bytes: nothing is compared byte by byte -/
theorem code_word {y : MethodName} {bytes : ByteArray} {mx : Nat} {rt : Option FieldType} {a : Array Value} {s : State} {m : MethodId} {meth : Method} {c : Code} (h1 : s.methodNamed? y = some m) (h2 : s.vm.method? m = some meth) (h3 : meth.code = some c) (h4 : c.code = bytes)
    (h5 : (c.maxLocals == mx && c.exceptionTable.isEmpty && decide (c.maxStack ≤ mostOperands) && decide (meth.sig.returnType = rt) && !meth.locks && decide (parseMethodDescriptor y.desc = some meth.sig)) = true) : (Jvm.Cond.code y bytes mx rt).before a s = true := by
  simp only [Bool.and_eq_true, beq_iff_eq, Bool.not_eq_true', decide_eq_true_eq] at h5
  obtain ⟨⟨⟨⟨⟨g1, g2⟩, g3⟩, g4⟩, g5⟩, g6⟩ := h5
  simp [Cond.before, Cond.holds, Cond.value, h1, h2, h3, h4, g1, g2, g3, g4, g5, g6]
def isCode : Jvm.Cond → Bool
  | .code _ _ _ _ => true
  | _ => false
theorem all_split {L : List Jvm.Cond} {P : Jvm.Cond → Bool} (h1 : L.all (fun c => isCode c || P c) = true) (h2 : ∀ c ∈ L.filter isCode, P c = true) : L.all P = true := by
  refine List.all_eq_true.mpr fun c hc => ?_
  have h := List.all_eq_true.mp h1 c hc
  rcases Bool.eq_false_or_eq_true (isCode c) with hi | hi
  · exact h2 c (List.mem_filter.mpr ⟨hc, hi⟩)
  · simpa [hi] using h
set_option maxRecDepth 65536 in
theorem w_c0 : (Jvm.Cond.code x code maxLocals ret).before args0 about1 = true := code_word (m := ⟨1, 1⟩) (meth := k1m1) (c := k1c1) (by decide +kernel) rfl rfl rfl (by decide +kernel)
set_option maxRecDepth 65536 in
theorem w_c1 : (Jvm.Cond.code ({ cls := "com/example/registrar/registrar/model/BuilderAddPinLaw", name := "lo", desc := "(I)C" } : Jvm.MethodName) method_3_code (1 : Nat) (Option.some Jvm.ClassFile.FieldType.char)).before args0 about1 = true := code_word (m := ⟨1, 2⟩) (meth := k1m2) (c := k1c2) (by decide +kernel) rfl rfl rfl (by decide +kernel)
set_option maxRecDepth 65536 in
theorem w_c2 : (Jvm.Cond.code ({ cls := "java/lang/Math", name := "min", desc := "(II)I" } : Jvm.MethodName) jdk_29_method_69_code (2 : Nat) (Option.some Jvm.ClassFile.FieldType.int)).before args0 about1 = true := code_word (m := ⟨2, 2⟩) (meth := k2m2) (c := k2c2) (by decide +kernel) rfl rfl rfl (by decide +kernel)
set_option maxRecDepth 65536 in
theorem w_c3 : (Jvm.Cond.code ({ cls := "com/example/registrar/registrar/model/BuilderAddPinLaw", name := "hi", desc := "(I)C" } : Jvm.MethodName) method_4_code (1 : Nat) (Option.some Jvm.ClassFile.FieldType.char)).before args0 about1 = true := code_word (m := ⟨1, 3⟩) (meth := k1m3) (c := k1c3) (by decide +kernel) rfl rfl rfl (by decide +kernel)
set_option maxRecDepth 65536 in
theorem w_c4 : (Jvm.Cond.code ({ cls := "java/lang/Math", name := "max", desc := "(II)I" } : Jvm.MethodName) jdk_29_method_65_code (2 : Nat) (Option.some Jvm.ClassFile.FieldType.int)).before args0 about1 = true := code_word (m := ⟨2, 1⟩) (meth := k2m1) (c := k2c1) (by decide +kernel) rfl rfl rfl (by decide +kernel)
set_option maxRecDepth 65536 in
theorem w_c5 : (Jvm.Cond.code ({ cls := "com/example/registrar/registrar/model/CodeUnits$Builder", name := "<init>", desc := "()V" } : Jvm.MethodName) prog_6_method_1_code (1 : Nat) (Option.none : Option Jvm.ClassFile.FieldType)).before args0 about1 = true := code_word (m := ⟨3, 0⟩) (meth := k3m0) (c := k3c0) (by decide +kernel) rfl rfl rfl (by decide +kernel)
set_option maxRecDepth 65536 in
theorem w_c6 : (Jvm.Cond.code ({ cls := "java/lang/Object", name := "<init>", desc := "()V" } : Jvm.MethodName) object_method_1_code (1 : Nat) (Option.none : Option Jvm.ClassFile.FieldType)).before args0 about1 = true := code_word (m := ⟨0, 0⟩) (meth := k0m0) (c := k0c0) (by decide +kernel) rfl rfl rfl (by decide +kernel)
set_option maxRecDepth 65536 in
theorem w_c7 : (Jvm.Cond.code ({ cls := "com/example/registrar/registrar/model/CodeUnits$Builder", name := "add", desc := "(CC)Lcom/example/registrar/registrar/model/CodeUnits$Builder;" } : Jvm.MethodName) prog_6_method_2_code (3 : Nat) (Option.some (Jvm.ClassFile.FieldType.object "com/example/registrar/registrar/model/CodeUnits$Builder"))).before args0 about1 = true := code_word (m := ⟨3, 1⟩) (meth := k3m1) (c := k3c1) (by decide +kernel) rfl rfl rfl (by decide +kernel)
set_option maxRecDepth 65536 in
theorem w_c8 : (Jvm.Cond.code ({ cls := "java/util/Arrays", name := "copyOf", desc := "([JI)[J" } : Jvm.MethodName) jdk_65_method_124_code (3 : Nat) (Option.some (Jvm.ClassFile.FieldType.array Jvm.ClassFile.FieldType.long))).before args0 about1 = true := code_word (m := ⟨4, 2⟩) (meth := k4m2) (c := k4c2) (by decide +kernel) rfl rfl rfl (by decide +kernel)
set_option maxRecDepth 65536 in
theorem w_c9 : (Jvm.Cond.code ({ cls := "com/example/registrar/registrar/model/CodeUnits$Builder", name := "build", desc := "()Lcom/example/registrar/registrar/model/CodeUnits;" } : Jvm.MethodName) prog_6_method_4_code (11 : Nat) (Option.some (Jvm.ClassFile.FieldType.object "com/example/registrar/registrar/model/CodeUnits"))).before args0 about1 = true := code_word (m := ⟨3, 2⟩) (meth := k3m2) (c := k3c2) (by decide +kernel) rfl rfl rfl (by decide +kernel)
set_option maxRecDepth 65536 in
theorem w_c10 : (Jvm.Cond.code ({ cls := "java/util/Arrays", name := "sort", desc := "([J)V" } : Jvm.MethodName) jdk_65_method_4_code (1 : Nat) (Option.none : Option Jvm.ClassFile.FieldType)).before args0 about1 = true := code_word (m := ⟨4, 1⟩) (meth := k4m1) (c := k4c1) (by decide +kernel) rfl rfl rfl (by decide +kernel)
set_option maxRecDepth 65536 in
theorem w_c11 : (Jvm.Cond.code ({ cls := "java/util/DualPivotQuicksort", name := "sort", desc := "([JIII)V" } : Jvm.MethodName) jdk_2529_method_12_code (7 : Nat) (Option.none : Option Jvm.ClassFile.FieldType)).before args0 about1 = true := code_word (m := ⟨6, 1⟩) (meth := k6m1) (c := k6c1) (by decide +kernel) rfl rfl rfl (by decide +kernel)
set_option maxRecDepth 65536 in
theorem w_c12 : (Jvm.Cond.code ({ cls := "java/util/DualPivotQuicksort", name := "sort", desc := "(Ljava/util/DualPivotQuicksort$Sorter;[JIII)V" } : Jvm.MethodName) jdk_2529_method_13_code (25 : Nat) (Option.none : Option Jvm.ClassFile.FieldType)).before args0 about1 = true := code_word (m := ⟨6, 2⟩) (meth := k6m2) (c := k6c2) (by decide +kernel) rfl rfl rfl (by decide +kernel)
set_option maxRecDepth 65536 in
theorem w_c13 : (Jvm.Cond.code ({ cls := "java/util/DualPivotQuicksort", name := "insertionSort", desc := "([JII)V" } : Jvm.MethodName) jdk_2529_method_15_code (7 : Nat) (Option.none : Option Jvm.ClassFile.FieldType)).before args0 about1 = true := code_word (m := ⟨6, 3⟩) (meth := k6m3) (c := k6c3) (by decide +kernel) rfl rfl rfl (by decide +kernel)
set_option maxRecDepth 65536 in
theorem w_c14 : (Jvm.Cond.code ({ cls := "java/util/Arrays", name := "copyOf", desc := "([CI)[C" } : Jvm.MethodName) jdk_65_method_125_code (3 : Nat) (Option.some (Jvm.ClassFile.FieldType.array Jvm.ClassFile.FieldType.char))).before args0 about1 = true := code_word (m := ⟨4, 3⟩) (meth := k4m3) (c := k4c3) (by decide +kernel) rfl rfl rfl (by decide +kernel)
set_option maxRecDepth 65536 in
theorem w_c15 : (Jvm.Cond.code ({ cls := "com/example/registrar/registrar/model/CodeUnits", name := "<init>", desc := "([C)V" } : Jvm.MethodName) prog_5_method_1_code (2 : Nat) (Option.none : Option Jvm.ClassFile.FieldType)).before args0 about1 = true := code_word (m := ⟨7, 0⟩) (meth := k7m0) (c := k7c0) (by decide +kernel) rfl rfl rfl (by decide +kernel)
set_option maxRecDepth 65536 in
theorem w_c16 : (Jvm.Cond.code ({ cls := "com/example/registrar/registrar/model/BuilderAddPinLaw", name := "in", desc := "(CCC)Z" } : Jvm.MethodName) method_5_code (3 : Nat) (Option.some Jvm.ClassFile.FieldType.boolean)).before args0 about1 = true := code_word (m := ⟨1, 4⟩) (meth := k1m4) (c := k1c4) (by decide +kernel) rfl rfl rfl (by decide +kernel)
set_option maxRecDepth 65536 in
theorem w_c17 : (Jvm.Cond.code ({ cls := "com/example/registrar/registrar/model/CodeUnits", name := "contains", desc := "(C)Z" } : Jvm.MethodName) prog_5_method_3_code (5 : Nat) (Option.some Jvm.ClassFile.FieldType.boolean)).before args0 about1 = true := code_word (m := ⟨7, 1⟩) (meth := k7m1) (c := k7c1) (by decide +kernel) rfl rfl rfl (by decide +kernel)
def codes1 : List Jvm.Cond := [Jvm.Cond.code x code maxLocals ret, Jvm.Cond.code ({ cls := "com/example/registrar/registrar/model/BuilderAddPinLaw", name := "lo", desc := "(I)C" } : Jvm.MethodName) method_3_code (1 : Nat) (Option.some Jvm.ClassFile.FieldType.char), Jvm.Cond.code ({ cls := "java/lang/Math", name := "min", desc := "(II)I" } : Jvm.MethodName) jdk_29_method_69_code (2 : Nat) (Option.some Jvm.ClassFile.FieldType.int), Jvm.Cond.code ({ cls := "com/example/registrar/registrar/model/BuilderAddPinLaw", name := "hi", desc := "(I)C" } : Jvm.MethodName) method_4_code (1 : Nat) (Option.some Jvm.ClassFile.FieldType.char), Jvm.Cond.code ({ cls := "java/lang/Math", name := "max", desc := "(II)I" } : Jvm.MethodName) jdk_29_method_65_code (2 : Nat) (Option.some Jvm.ClassFile.FieldType.int), Jvm.Cond.code ({ cls := "com/example/registrar/registrar/model/CodeUnits$Builder", name := "<init>", desc := "()V" } : Jvm.MethodName) prog_6_method_1_code (1 : Nat) (Option.none : Option Jvm.ClassFile.FieldType), Jvm.Cond.code ({ cls := "java/lang/Object", name := "<init>", desc := "()V" } : Jvm.MethodName) object_method_1_code (1 : Nat) (Option.none : Option Jvm.ClassFile.FieldType), Jvm.Cond.code ({ cls := "com/example/registrar/registrar/model/CodeUnits$Builder", name := "add", desc := "(CC)Lcom/example/registrar/registrar/model/CodeUnits$Builder;" } : Jvm.MethodName) prog_6_method_2_code (3 : Nat) (Option.some (Jvm.ClassFile.FieldType.object "com/example/registrar/registrar/model/CodeUnits$Builder")), Jvm.Cond.code ({ cls := "java/util/Arrays", name := "copyOf", desc := "([JI)[J" } : Jvm.MethodName) jdk_65_method_124_code (3 : Nat) (Option.some (Jvm.ClassFile.FieldType.array Jvm.ClassFile.FieldType.long)), Jvm.Cond.code ({ cls := "com/example/registrar/registrar/model/CodeUnits$Builder", name := "build", desc := "()Lcom/example/registrar/registrar/model/CodeUnits;" } : Jvm.MethodName) prog_6_method_4_code (11 : Nat) (Option.some (Jvm.ClassFile.FieldType.object "com/example/registrar/registrar/model/CodeUnits")), Jvm.Cond.code ({ cls := "java/util/Arrays", name := "sort", desc := "([J)V" } : Jvm.MethodName) jdk_65_method_4_code (1 : Nat) (Option.none : Option Jvm.ClassFile.FieldType), Jvm.Cond.code ({ cls := "java/util/DualPivotQuicksort", name := "sort", desc := "([JIII)V" } : Jvm.MethodName) jdk_2529_method_12_code (7 : Nat) (Option.none : Option Jvm.ClassFile.FieldType), Jvm.Cond.code ({ cls := "java/util/DualPivotQuicksort", name := "sort", desc := "(Ljava/util/DualPivotQuicksort$Sorter;[JIII)V" } : Jvm.MethodName) jdk_2529_method_13_code (25 : Nat) (Option.none : Option Jvm.ClassFile.FieldType), Jvm.Cond.code ({ cls := "java/util/DualPivotQuicksort", name := "insertionSort", desc := "([JII)V" } : Jvm.MethodName) jdk_2529_method_15_code (7 : Nat) (Option.none : Option Jvm.ClassFile.FieldType), Jvm.Cond.code ({ cls := "java/util/Arrays", name := "copyOf", desc := "([CI)[C" } : Jvm.MethodName) jdk_65_method_125_code (3 : Nat) (Option.some (Jvm.ClassFile.FieldType.array Jvm.ClassFile.FieldType.char)), Jvm.Cond.code ({ cls := "com/example/registrar/registrar/model/CodeUnits", name := "<init>", desc := "([C)V" } : Jvm.MethodName) prog_5_method_1_code (2 : Nat) (Option.none : Option Jvm.ClassFile.FieldType), Jvm.Cond.code ({ cls := "com/example/registrar/registrar/model/BuilderAddPinLaw", name := "in", desc := "(CCC)Z" } : Jvm.MethodName) method_5_code (3 : Nat) (Option.some Jvm.ClassFile.FieldType.boolean), Jvm.Cond.code ({ cls := "com/example/registrar/registrar/model/CodeUnits", name := "contains", desc := "(C)Z" } : Jvm.MethodName) prog_5_method_3_code (5 : Nat) (Option.some Jvm.ClassFile.FieldType.boolean)]
set_option maxRecDepth 65536 in
theorem codes_eq : words1.filter isCode = codes1 := rfl
theorem w_codes : ∀ c ∈ words1.filter isCode, c.before args0 about1 = true := by
  rw [codes_eq]
  intro c hc
  simp only [codes1, List.mem_cons, List.not_mem_nil, or_false] at hc
  rcases hc with rfl | rfl | rfl | rfl | rfl | rfl | rfl | rfl | rfl | rfl | rfl | rfl | rfl | rfl | rfl | rfl | rfl | rfl
  · exact w_c0
  · exact w_c1
  · exact w_c2
  · exact w_c3
  · exact w_c4
  · exact w_c5
  · exact w_c6
  · exact w_c7
  · exact w_c8
  · exact w_c9
  · exact w_c10
  · exact w_c11
  · exact w_c12
  · exact w_c13
  · exact w_c14
  · exact w_c15
  · exact w_c16
  · exact w_c17
set_option maxRecDepth 65536 in
theorem w_t1 : (words1.take 24).all (fun c => isCode c || c.before args0 about1) = true := by decide +kernel
set_option maxRecDepth 65536 in
theorem w_t2 : ((words1.drop 24).take 24).all (fun c => isCode c || c.before args0 about1) = true := by decide +kernel
set_option maxRecDepth 65536 in
theorem w_t3 : (((words1.drop 24).drop 24).take 24).all (fun c => isCode c || c.before args0 about1) = true := by decide +kernel
set_option maxRecDepth 65536 in
theorem w_t4 : (((words1.drop 24).drop 24).drop 24).all (fun c => isCode c || c.before args0 about1) = true := by decide +kernel
theorem w_tables : (allAtoms (Jvm.Cond.code x code maxLocals ret :: tables_1)).before args0 about1 = true := by
  rw [allAtoms_all]
  show words1.all (fun c => c.before args0 about1) = true
  refine all_split ?_ w_codes
  rw [← List.take_append_drop 24 words1, List.all_append, w_t1, ← List.take_append_drop 24 (words1.drop 24), List.all_append, w_t2, ← List.take_append_drop 24 ((words1.drop 24).drop 24), List.all_append, w_t3, w_t4]
  rfl
set_option maxRecDepth 65536 in
theorem w_case : (Jvm.Cond.and given_1 narrow_1).before args0 about1 = true := by decide +kernel
theorem w_applies : (headSpec (Jvm.Cond.code x code maxLocals ret :: tables_1) room_1).applies x e0.platform about1 = true :=
  (Spec.applies_iff w_frames).mpr ⟨w_running, w_runnable, w_alone, w_named, w_hears, w_ripe, w_room, w_tables⟩
theorem atStart : AtStart classFile x code maxLocals ret World_1 tables_1 room_1 Calls_1 rest_1 Pre_1 launch0 p0 e0 about1 theMethod args0 below0 :=
  ⟨lists_1, trivial, launch0.admits_env _ _ _, launch0.least_env, fairChoices_fair.cas, fairChoices_fair.clock, w_frames, w_args, w_heap, w_applies, trivial, trivial, w_case⟩
end start1
theorem witness_1 : WitnessClaimed_1 := ⟨start1.p0, start1.e0, start1.about1, start1.theMethod, start1.args0, start1.below0, start1.atStart⟩
end Jvm.Pilot.@@N@@
