import JvmDerived
import JvmDerived.Pilot.@@N@@Statement
import JvmDerived.Pilot.@@N@@Code
set_option linter.unusedVariables false
set_option linter.unusedSimpArgs false
namespace Jvm.OwnW
open Sem ClassFile Op Lib Jvm.Stand Jvm.Free Jvm.LawKit Jvm.RoadKit
/-! THE OWN LAYER: a walk as a backward reckoning over an abstract heap. -/
abbrev OS := List (Addr × (Cell → Prop))
abbrev FV := String × String × String × Value
abbrev Cx := Program × Launch × Env × Room × State × MethodId × Array Value × List Frame × Method × Code
/-- what the walk knows of a heap: the start's cells stand in it unchanged; the listed cells are new, lie apart, and are as described -/
def Hp (Z : State) (h : Heap) (os : OS) : Prop :=
  Ext Z.heap h ∧ (os.map Prod.fst).Nodup ∧ ∀ (k : Nat) (x : Addr × (Cell → Prop)), os[k]? = some x → Z.heap.size ≤ x.1 ∧ ∃ c, h[x.1]? = some c ∧ x.2 c
def FldC (Z : State) (c : Cell) (f : FV) : Prop := ∃ (cf : ClassId) (k : Class) (i : Nat) (fd : Field), Z.fieldFound? f.1 f.2.1 f.2.2.1 = some (cf, k, i, fd) ∧ fd.isStatic = false ∧ c.vm ≠ .unknown ∧ c.vm.isStatics = false ∧ Z.vm.assignable c.cls cf = true ∧ c.slots[fd.slot]? = some f.2.2.2
def ExaC (Z : State) (C : String) (c : Cell) : Prop := ∃ k : Class, Z.vm.findClass C = some c.cls ∧ Z.vm.classes[c.cls]? = some k ∧ c.vm.isStatics = false ∧ (k.kind = .ordinary → c.slots.size = k.instanceTypes.size)
def sl3 (Z : State) (f : FV) : Nat := RoadKit.slotOf Z f.1 f.2.1 f.2.2.1
/-- an object of just the class C with these fields -/
def OBJ (Z : State) (C : String) (fs : List FV) (c : Cell) : Prop := ExaC Z C c ∧ (fs.map (sl3 Z)).Nodup ∧ ∀ f ∈ fs, FldC Z c f
/-- an array of this component kind with these values -/
def ARR (Z : State) (ty : FieldType) (vs : List Value) (c : Cell) : Prop := Z.isArrayOf c ty ∧ c.vm ≠ .unknown ∧ c.slots = vs.toArray ∧ (∀ v ∈ vs, fits ty v = true) ∧ vs.length < 2 ^ 31

section Heap
variable {Z : State} {h h' : Heap} {os os' : OS} {a b : Addr} {P P' : Cell → Prop} {C O n d : String} {fs fs' : List FV} {v w : Value} {ty : FieldType} {vs : List Value} {c : Cell}
theorem Hp.nil (Z : State) : Hp Z Z.heap [] := ⟨⟨Nat.le_refl _, fun _ _ q => q⟩, List.nodup_nil, fun k x hx => by simp at hx⟩
theorem Hp.get (H : Hp Z h os) (hm : (a, P) ∈ os) : Z.heap.size ≤ a ∧ ∃ c, h[a]? = some c ∧ P c := by
  obtain ⟨k, hk⟩ := List.getElem?_of_mem hm
  exact H.2.2 k _ hk
theorem OBJ.exa (hc : h[a]? = some c) (q : OBJ Z C fs c) : Exa Z h a C := by
  obtain ⟨⟨k, h1, h2, h3, h4⟩, -⟩ := q
  exact ⟨c, k, hc, h1, h2, h3, h4⟩
theorem OBJ.fld (hc : h[a]? = some c) (q : OBJ Z C fs c) (hm : (O, n, d, v) ∈ fs) : Fld Z h a O n d v := by
  obtain ⟨cf, k, i, fd, h1, h2, h3, h4, h5, h6⟩ := q.2.2 _ hm
  exact ⟨c, cf, k, i, fd, hc, h1, h2, h3, h4, h5, h6⟩
theorem Hp.ne (H : Hp Z h os) {i j : Nat} {P P' : Cell → Prop} (hi : os[i]? = some (a, P)) (hj : os[j]? = some (b, P')) (hn : i ≠ j) : a ≠ b := by
  intro e
  subst e
  have h1 : (os.map Prod.fst)[i]? = some a := by simp [hi]
  have h2 : (os.map Prod.fst)[j]? = some a := by simp [hj]
  exact hn ((List.getElem?_inj (List.getElem?_eq_some_iff.mp h1).1 H.2.1).mp (h1.trans h2.symm))
theorem Hp.upd (H : Hp Z h os) {i : Nat} (hi : os[i]? = some (a, P)) {sl : Nat} (W : Wr h h' a sl v) (q : ∀ c c', h[a]? = some c → P c → h'[a]? = some c' → c' = c.setSlot sl v → P' c') : Hp Z h' (os.set i (a, P')) := by
  obtain ⟨ha, ca, hca, hPa⟩ := H.2.2 i _ hi
  refine ⟨⟨by rw [W.size]; exact H.1.1, fun x cx hx => ?_⟩, ?_, fun k x hx => ?_⟩
  · obtain ⟨cx', e1, -, -, -, e5, -⟩ := wr_at W (H.1.2 x cx hx)
    have ne : x ≠ a := fun e => by
      subst e
      exact absurd (Array.getElem?_eq_some_iff.mp hx).1 (Nat.not_lt.mpr ha)
    rw [e5 ne] at e1; exact e1
  · have e : (os.set i (a, P')).map Prod.fst = os.map Prod.fst := by
      apply List.ext_getElem?
      intro k
      simp only [List.getElem?_map, List.getElem?_set]
      split
      · rename_i e; subst e
        rw [if_pos (List.getElem?_eq_some_iff.mp hi).1, hi]; rfl
      · rfl
    rw [e]; exact H.2.1
  · rw [List.getElem?_set] at hx
    split at hx
    · rename_i e; subst e
      split at hx
      · cases hx
        obtain ⟨c', e1, -, -, -, -, -, e7⟩ := wr_at W hca
        exact ⟨ha, c', e1, q ca c' hca hPa e1 (e7 rfl).1⟩
      · cases hx
    · rename_i hne
      obtain ⟨g1, cx, g2, g3⟩ := H.2.2 k x hx
      obtain ⟨c', e1, -, -, -, e5, -⟩ := wr_at W g2
      have ne : x.1 ≠ a := H.ne (i := k) (j := i) (P := x.2) hx hi (fun e => hne e.symm)
      rw [e5 ne] at e1
      exact ⟨g1, cx, e1, g3⟩
theorem Hp.new (H : Hp Z h os) (E : Ext h h') (hc : h'[h.size]? = some c) (hP : P c) : Hp Z h' ((h.size, P) :: os) := by
  refine ⟨⟨Nat.le_trans H.1.1 E.1, fun x cx q => E.2 _ _ (H.1.2 _ _ q)⟩, ?_, fun k x hx => ?_⟩
  · rw [List.map_cons, List.nodup_cons]
    refine ⟨fun hm => ?_, H.2.1⟩
    obtain ⟨⟨y1, y2⟩, hy, he⟩ := List.mem_map.mp hm
    obtain ⟨-, cy, hcy, -⟩ := H.get hy
    have := (Array.getElem?_eq_some_iff.mp hcy).1
    dsimp at he
    rw [he] at this; exact Nat.lt_irrefl _ this
  · cases k with
    | zero => cases hx; exact ⟨H.1.1, c, hc, hP⟩
    | succ k =>
      obtain ⟨g1, cx, g2, g3⟩ := H.2.2 k x hx
      exact ⟨g1, cx, E.2 _ _ g2, g3⟩
theorem Hp.ext (H : Hp Z h os) (E : Ext h h') : Hp Z h' os :=
  ⟨⟨Nat.le_trans H.1.1 E.1, fun x cx q => E.2 _ _ (H.1.2 _ _ q)⟩, H.2.1, fun k x hx => by
    obtain ⟨g1, cx, g2, g3⟩ := H.2.2 k x hx; exact ⟨g1, cx, E.2 _ _ g2, g3⟩⟩
theorem Hp.perm (H : Hp Z h os) (p : os.Perm os') : Hp Z h os' :=
  ⟨H.1, (p.map Prod.fst).nodup_iff.mp H.2.1, fun k x hx => by
    obtain ⟨k', hk'⟩ := List.getElem?_of_mem (p.symm.subset (List.mem_of_getElem? hx))
    exact H.2.2 k' x hk'⟩
theorem Hp.sub (H : Hp Z h os) (p : List.Sublist os' os) : Hp Z h os' :=
  ⟨H.1, H.2.1.sublist (p.map Prod.fst), fun k x hx => by
    obtain ⟨k', hk'⟩ := List.getElem?_of_mem (p.subset (List.mem_of_getElem? hx))
    exact H.2.2 k' x hk'⟩
theorem Hp.imp (H : Hp Z h ((a, P) :: os)) (q : ∀ c, P c → P' c) : Hp Z h ((a, P') :: os) :=
  ⟨H.1, H.2.1, fun k x hx => by
    cases k with
    | zero => cases hx; obtain ⟨g1, c, g2, g3⟩ := H.2.2 0 (a, P) rfl; exact ⟨g1, c, g2, q c g3⟩
    | succ k => exact H.2.2 (k + 1) x hx⟩
/-- the list os with the entry at a turned from P to P' is os' -/
def Upd (os : OS) (a : Addr) (P P' : Cell → Prop) (os' : OS) : Prop := ∃ i : Nat, os[i]? = some (a, P) ∧ os' = os.set i (a, P')
theorem Upd.here {r : OS} : Upd ((a, P) :: r) a P P' ((a, P') :: r) := ⟨0, rfl, rfl⟩
theorem Upd.there {r r' : OS} {x : Addr × (Cell → Prop)} (u : Upd r a P P' r') : Upd (x :: r) a P P' (x :: r') := by
  obtain ⟨i, h1, rfl⟩ := u; exact ⟨i + 1, h1, rfl⟩
/-- the fields fs with (O, n, d) now at v are fs' -/
def UpdF (fs : List FV) (O n d : String) (w v : Value) (fs' : List FV) : Prop := ∃ i : Nat, fs[i]? = some (O, n, d, w) ∧ fs' = fs.set i (O, n, d, v)
theorem UpdF.here {r : List FV} : UpdF ((O, n, d, w) :: r) O n d w v ((O, n, d, v) :: r) := ⟨0, rfl, rfl⟩
theorem UpdF.there {r r' : List FV} {x : FV} (u : UpdF r O n d w v r') : UpdF (x :: r) O n d w v (x :: r') := by
  obtain ⟨i, h1, rfl⟩ := u; exact ⟨i + 1, h1, rfl⟩
theorem OBJ.put {c : Cell} (q : OBJ Z C fs c) (u : UpdF fs O n d w v fs') : OBJ Z C fs' (c.setSlot (RoadKit.slotOf Z O n d) v) := by
  obtain ⟨i, hi, rfl⟩ := u
  obtain ⟨⟨k, e1, e2, e3, e4⟩, nd, ff⟩ := q
  have hslots : ∀ j : Nat, (c.setSlot (RoadKit.slotOf Z O n d) v).slots[j]? = if RoadKit.slotOf Z O n d = j then (if j < c.slots.size then some v else none) else c.slots[j]? := fun j => by
    simp only [Cell.setSlot, Array.getElem?_setIfInBounds]
    by_cases e : RoadKit.slotOf Z O n d = j
    · rw [if_pos e, if_pos e, e]
    · rw [if_neg e, if_neg e]
  have hes : ∀ x ∈ fs, ∃ fd : Field, sl3 Z x = fd.slot ∧ ∃ cf k' i', Z.fieldFound? x.1 x.2.1 x.2.2.1 = some (cf, k', i', fd) := fun x hx => by
    obtain ⟨cf, k', i', fd, g1, -⟩ := ff x hx
    exact ⟨fd, by simp [sl3, RoadKit.slotOf, g1], cf, k', i', g1⟩
  refine ⟨⟨k, e1, e2, e3, fun z => by rw [show (c.setSlot (RoadKit.slotOf Z O n d) v).slots.size = c.slots.size by simp [Cell.setSlot]]; exact e4 z⟩, ?_, fun x hx => ?_⟩
  · have e : (fs.set i (O, n, d, v)).map (sl3 Z) = fs.map (sl3 Z) := by
      apply List.ext_getElem?
      intro k
      simp only [List.getElem?_map, List.getElem?_set]
      split
      · rename_i e; subst e
        rw [if_pos (List.getElem?_eq_some_iff.mp hi).1, hi]; rfl
      · rfl
    rw [e]; exact nd
  · obtain ⟨m, hm⟩ := List.getElem?_of_mem hx
    rw [List.getElem?_set] at hm
    split at hm
    · split at hm
      · cases hm
        obtain ⟨cf, k', i', fd, g1, g2, g3, g4, g5, g6⟩ := ff _ (List.mem_of_getElem? hi)
        refine ⟨cf, k', i', fd, g1, g2, g3, g4, g5, ?_⟩
        have es : RoadKit.slotOf Z O n d = fd.slot := by have g1' : Z.fieldFound? O n d = some (cf, k', i', fd) := g1; simp [RoadKit.slotOf, g1']
        rw [hslots, if_pos es, if_pos (Array.getElem?_eq_some_iff.mp g6).1]
      · cases hm
    · rename_i hne
      obtain ⟨cf, k', i', fd, g1, g2, g3, g4, g5, g6⟩ := ff x (List.mem_of_getElem? hm)
      refine ⟨cf, k', i', fd, g1, g2, g3, g4, g5, ?_⟩
      have es : sl3 Z x = fd.slot := by simp [sl3, RoadKit.slotOf, g1]
      have ne : RoadKit.slotOf Z O n d ≠ fd.slot := fun e => by
        have h1 : (fs.map (sl3 Z))[i]? = some fd.slot := by simp [hi, sl3, e]
        have h2 : (fs.map (sl3 Z))[m]? = some fd.slot := by simp [hm, es]
        exact hne ((List.getElem?_inj (List.getElem?_eq_some_iff.mp h1).1 nd).mp (h1.trans h2.symm))
      rw [hslots, if_neg ne]; exact g6
theorem ARR.put {c : Cell} (q : ARR Z ty vs c) {k : Nat} (hv : fits ty v = true) : ARR Z ty (vs.set k v) (c.setSlot k v) := by
  obtain ⟨h1, h2, h3, h4, h5⟩ := q
  refine ⟨h1, h2, by simp [Cell.setSlot, h3], fun x hx => ?_, by simpa using h5⟩
  rcases List.mem_or_eq_of_mem_set hx with g | g
  · exact h4 x g
  · rw [g]; exact hv
/-- the sheet's words on the fields of a class, and their first values -/
def Laids (Z : State) (a0 : Array Value) (C : String) : List FV → Prop
  | [] => True
  | f :: r => (Laid Z a0 C f.1 f.2.1 f.2.2.1 ∧ ∃ ty, parseFieldDescriptor f.2.2.1 = some ty ∧ defaultValue ty = f.2.2.2) ∧ Laids Z a0 C r
theorem Laids.mem {a0 : Array Value} : ∀ {fs : List FV}, Laids Z a0 C fs → ∀ f ∈ fs, Laid Z a0 C f.1 f.2.1 f.2.2.1 ∧ ∃ ty, parseFieldDescriptor f.2.2.1 = some ty ∧ defaultValue ty = f.2.2.2
  | [], _, f, hf => nomatch hf
  | g :: r, q, f, hf => by
    rcases List.mem_cons.mp hf with rfl | hf
    · exact q.1
    · exact Laids.mem q.2 f hf
theorem Laids.nodup {a0 : Array Value} : ∀ {fs : List FV}, Laids Z a0 C fs → (fs.map (fun f => f.2.1)).Nodup → (fs.map (sl3 Z)).Nodup
  | [], _, _ => List.nodup_nil
  | g :: r, q, nd => by
    rw [List.map_cons, List.nodup_cons] at nd ⊢
    refine ⟨fun hm => ?_, Laids.nodup q.2 nd.2⟩
    obtain ⟨x, hx, he⟩ := List.mem_map.mp hm
    obtain ⟨l1, t1, p1, -⟩ := q.1
    obtain ⟨l2, t2, p2, -⟩ := Laids.mem q.2 x hx
    exact RoadKit.slot_ne l2 l1 (fun e => nd.1 (List.mem_map.mpr ⟨x, hx, e⟩)) p2 p1 he
theorem OBJ.new {a0 : Array Value} (E : Exa Z h a C) (D : ∀ {O nm d : String} {ty : FieldType}, Laid Z a0 C O nm d → parseFieldDescriptor d = some ty → Fld Z h a O nm d (defaultValue ty)) (q : Laids Z a0 C fs) (nd : (fs.map (fun f => f.2.1)).Nodup) :
    ∃ c, h[a]? = some c ∧ OBJ Z C fs c := by
  obtain ⟨c, k, h1, h2, h3, h4, h5⟩ := E
  refine ⟨c, h1, ⟨k, h2, h3, h4, h5⟩, q.nodup nd, fun f hf => ?_⟩
  obtain ⟨l1, ty, p1, e1⟩ := q.mem f hf
  obtain ⟨c', cf, k', i, fd, g1, g2, g3, g4, g5, g6, g7⟩ := D l1 p1
  cases h1.symm.trans g1
  exact ⟨cf, k', i, fd, g2, g3, g4, g5, g6, by rw [← e1]; exact g7⟩
end Heap
end Jvm.OwnW
namespace Jvm.OwnW
open Sem ClassFile Op Lib Jvm.Stand Jvm.Free Jvm.LawKit Jvm.RoadKit
def Stn (X : Cx) (T : State) (locs : List Loc) (ce sl : Nat) : Prop := Stand X.1 X.2.1 X.2.2.1 X.2.2.2.1 X.2.2.2.2.1 X.2.2.2.2.2.1 X.2.2.2.2.2.2.1 X.2.2.2.2.2.2.2.1 X.2.2.2.2.2.2.2.2.1 X.2.2.2.2.2.2.2.2.2 T locs ce sl
/-- from here the run comes to the method's end, and there Q holds -/
def Fn (X : Cx) (Z : State) (rc rs : Nat) (Q : Option Value → OS → Prop) (start : State) : Prop :=
  ∃ s₂ o, Steps X.1.tables X.2.2.1 X.2.2.2.2.2.2.2.1 start s₂ ∧ s₂.status = .running ∧ Ended s₂ X.2.2.2.2.2.2.2.1 o ∧ ∃ v L, o = .returned v ∧ (∃ os', Q v os' ∧ Hp Z s₂.heap os' ∧ Fr Z.heap.size L) ∧ FrameEnd X.2.2.2.2.1 o s₂ L rc rs
def WP (X : Cx) (Z : State) (rc rs : Nat) (Q : Option Value → OS → Prop) (pc : Nat) (L : List Slot) (S : List Value) (os : OS) (ce sl : Nat) : Prop :=
  ∀ T locs, Stn X T locs ce sl → Hp Z T.heap os → Fr Z.heap.size locs → Fn X Z rc rs Q (T.setTop (mkF X.2.2.2.2.2.1 pc L.toArray S))
def Ctx (X : Cx) (l : Launch) (Z : State) (R : Room) (y : MethodName) (code : ByteArray) (maxL : Nat) (ret : Option FieldType) : Prop :=
  X.2.1 = l ∧ X.2.2.2.1 = R ∧ X.1.tables.exec = Jvm.exec ∧ Z.Warmed39 X.2.2.2.2.1.vm ∧ X.2.2.2.2.2.2.2.2.2.code = code ∧ X.2.2.2.2.2.2.2.2.2.maxLocals = maxL ∧ X.2.2.2.2.1.vm.findClass y.cls = some X.2.2.2.2.2.1.cls ∧ X.2.2.2.2.2.2.2.2.1.name = y.name ∧ X.2.2.2.2.2.2.2.2.1.sig.returnType = ret ∧ X.2.2.2.2.2.2.2.2.1.locks = false
/-- the contract of a method, called with these arguments over this abstract heap -/
def OMeets (l : Launch) (Z : State) (y : MethodName) (bytes : ByteArray) (maxL : Nat) (ret : Option FieldType) (rm : Room) (as : List Value) (os : OS) (Q : Option Value → OS → Prop) : Prop :=
  ∀ h0, Hp Z h0 os → ∀ ws : List Jvm.Cond, MetFree l y (head1 (Jvm.Cond.code y bytes maxL ret :: ws) rm) (fun a U => a = as.toArray ∧ Z.Warmed39 U.vm ∧ U.heap = h0) (fun _ _ _ _ _ => True)
    (fun _ U o U' => ∃ v L, o = .returned v ∧ (∃ os', Q v os' ∧ Hp Z U'.heap os' ∧ Fr Z.heap.size L) ∧ FrameEnd U o U' L rm.cells rm.slots)
def RetV (q : Value → OS → Prop) : Option Value → OS → Prop := fun v os => ∃ x, v = some x ∧ q x os
def RetN (q : OS → Prop) : Option Value → OS → Prop := fun v os => v = none ∧ q os
def laid : List Value → List Slot
  | [] => []
  | v :: r => match v.category with
    | 2 => .val v :: .second :: laid r
    | _ => .val v :: laid r
theorem laid_fold : ∀ (as : List Value) (acc : Array Slot), as.foldl (fun acc v => if v.category = 2 then (acc.push (.val v)).push .second else acc.push (.val v)) acc = acc ++ (laid as).toArray
  | [], acc => by simp [laid]
  | v :: r, acc => by
    rw [List.foldl_cons, laid_fold r]
    have hv : v.category = 2 ∨ v.category = 1 := by cases v <;> simp [Value.category]
    rcases hv with h | h
    · rw [if_pos h]
      simp only [laid, h]
      apply Array.ext'
      simp
    · rw [if_neg (by rw [h]; decide)]
      simp only [laid, h]
      apply Array.ext'
      simp
theorem laid_eq (as : List Value) (n : Nat) {L : List Slot} (h : laid as ++ List.replicate (n - (laid as).length) .unset = L) : argsToLocals as.toArray n = L.toArray := by
  subst h
  unfold argsToLocals
  rw [List.foldl_toArray, laid_fold]
  apply Array.ext'
  simp
theorem OMeets.of_body {l : Launch} {Z : State} {y : MethodName} {bytes : ByteArray} {maxL : Nat} {ret : Option FieldType} {rm : Room} {as : List Value} {os : OS} {Q : Option Value → OS → Prop} (L : List Slot)
    (hpn : plainFor y = true) (hef : argsToLocals as.toArray maxL = L.toArray) (hk : ∀ X : Cx, Ctx X l Z rm y bytes maxL ret → WP X Z rm.cells rm.slots Q 0 L [] os 0 0) : OMeets l Z y bytes maxL ret rm as os Q := by
  intro h0 H ws
  refine MetFree.of_bodySF hpn hisR ?_
  intro p e s m args below meth c s₁ Bd hml0 hP hK
  obtain ⟨rfl, hZ, hh⟩ := hP
  have X0 : Stand p l e rm s m as.toArray below meth c s₁ [] 0 0 := Stand.of_body Bd
  have e0 : s₁.heap = h0 := by rw [← hh, Bd.state]; rfl
  obtain ⟨s2, o, st, r⟩ := hk (p, l, e, rm, s, m, as.toArray, below, meth, c) ⟨rfl, rfl, Bd.exec, hZ, Bd.bytes, hml0, findClass_of_methodNamed Bd.named, (name_of_methodNamed Bd.named Bd.method).1, Bd.returns, Bd.notSynchronized⟩ s₁ [] X0 (by rw [e0]; exact H) (Fr.nil _)
  refine ⟨s2, o, castTop (g' := mkF m 0 L.toArray []) ?_ st, r⟩
  simp only [entryFrame, mkF, hef]
theorem OMeets.weaken {l : Launch} {Z : State} {y : MethodName} {bytes : ByteArray} {maxL : Nat} {ret : Option FieldType} {rm : Room} {as : List Value} {os : OS} {Q Q' : Option Value → OS → Prop}
    (h : OMeets l Z y bytes maxL ret rm as os Q) (q : ∀ v os', Q v os' → Q' v os') : OMeets l Z y bytes maxL ret rm as os Q' := by
  intro h0 H ws p e ha hc hk s m args below hf happ hP hK
  obtain ⟨n, o, h1, h2, h3, v, L, h4, ⟨os', h5, h6⟩, h7⟩ := h h0 H ws p e ha hc hk s m args below hf happ hP hK
  exact ⟨n, o, h1, h2, h3, v, L, h4, ⟨os', q v os' h5, h6⟩, h7⟩
section Ops
variable {X : Cx} {l : Launch} {Z : State} {R : Room} {y : MethodName} {code : ByteArray} {maxL : Nat} {ret : Option FieldType} {rc rs : Nat} {Q : Option Value → OS → Prop} {pc : Nat} {L : List Slot} {S : List Value} {os os' : OS} {ce sl : Nat} {a0 : Array Value}
theorem WP.perm (p : os.Perm os') (k : WP X Z rc rs Q pc L S os' ce sl) : WP X Z rc rs Q pc L S os ce sl := fun T locs hT hH hF => k T locs hT (hH.perm p) hF
theorem WP.sub (p : List.Sublist os' os) (k : WP X Z rc rs Q pc L S os' ce sl) : WP X Z rc rs Q pc L S os ce sl := fun T locs hT hH hF => k T locs hT (hH.sub p) hF
/-- a fact out of the abstract heap -/
theorem WP.fact {F : Prop} (f : ∀ h, Hp Z h os → F) (k : F → WP X Z rc rs Q pc L S os ce sl) : WP X Z rc rs Q pc L S os ce sl := fun T locs hT hH hF => k (f _ hH) T locs hT hH hF
theorem perm_front {α : Type} {x : α} : ∀ {os : List α} (i : Nat), os[i]? = some x → os.Perm (x :: os.eraseIdx i)
  | [], i, h => by simp at h
  | y :: r, 0, h => by cases h; exact List.Perm.refl _
  | y :: r, i + 1, h => ((perm_front (os := r) i h).cons y).trans (List.Perm.swap x y _)
theorem pickHere {α : Type} {x : α} {r : List α} : (x :: r).Perm (x :: r) := List.Perm.refl _
theorem pickThere {α : Type} {x z : α} {r r' : List α} (h : r.Perm (x :: r')) : (z :: r).Perm (x :: z :: r') := (h.cons z).trans (List.Perm.swap x z r')
/-- the entry of address a comes to the front -/
theorem WP.pick {P : Cell → Prop} (a : Addr) (p : os.Perm ((a, P) :: os')) (k : WP X Z rc rs Q pc L S ((a, P) :: os') ce sl) : WP X Z rc rs Q pc L S os ce sl := WP.perm p k
theorem WP.imp0 {a : Addr} {P P2 : Cell → Prop} {r : OS} (q : ∀ c, P c → P2 c) (k : WP X Z rc rs Q pc L S ((a, P2) :: r) ce sl) : WP X Z rc rs Q pc L S ((a, P) :: r) ce sl := fun T locs hT hH hF => k T locs hT (hH.imp q) hF
/-- more cells and slots booked than were used -/
theorem WP.book {ce' sl' : Nat} (hc : ce ≤ ce') (hs : sl ≤ sl') (k : WP X Z rc rs Q pc L S os ce' sl') : WP X Z rc rs Q pc L S os ce sl := by
  intro T locs hT hH hF
  refine k T locs ?_ hH hF
  obtain ⟨h1, h2, h3, h4, h5, h6, h7, h8, h9, h10, h11, h12, h13, h14⟩ := hT
  exact ⟨h1, h2, h3, h4, h5, h6, h7, h8, h9, h10, h11, h12, h13, h14.mono hc hs⟩

theorem W.iadd {x z : Int32} (K : Ctx X l Z R y code maxL ret) (pc' : Nat) (hd : decode code pc = .ok (.iadd, 1)) (k : WP X Z rc rs Q pc' L (.int (x + z) :: S) os ce sl) (hp : pc + 1 = pc' := by rfl) : WP X Z rc rs Q pc L (.int z :: .int x :: S) os ce sl := by
  obtain ⟨p, l', e, R', s, m, args, below, meth, c⟩ := X
  obtain ⟨h1, h2, hx, hZ, hby, hml, hown, hnm, hret, hlk⟩ := K
  have h2' : R' = R := h2
  subst h2'
  subst hp
  intro T locs hT0 hH hF
  have hT : Stand p l' e R' s m args below meth c T locs ce sl := hT0
  obtain ⟨s2, o, st, r⟩ := k T locs hT hH hF
  exact ⟨s2, o, XS.iadd (Stand.here hT) hx rfl (hb hby hd) rfl st, r⟩
theorem W.isub {x z : Int32} (K : Ctx X l Z R y code maxL ret) (pc' : Nat) (hd : decode code pc = .ok (.isub, 1)) (k : WP X Z rc rs Q pc' L (.int (x - z) :: S) os ce sl) (hp : pc + 1 = pc' := by rfl) : WP X Z rc rs Q pc L (.int z :: .int x :: S) os ce sl := by
  obtain ⟨p, l', e, R', s, m, args, below, meth, c⟩ := X
  obtain ⟨h1, h2, hx, hZ, hby, hml, hown, hnm, hret, hlk⟩ := K
  have h2' : R' = R := h2
  subst h2'
  subst hp
  intro T locs hT0 hH hF
  have hT : Stand p l' e R' s m args below meth c T locs ce sl := hT0
  obtain ⟨s2, o, st, r⟩ := k T locs hT hH hF
  exact ⟨s2, o, XS.isub (Stand.here hT) hx rfl (hb hby hd) rfl st, r⟩
theorem W.imul {x z : Int32} (K : Ctx X l Z R y code maxL ret) (pc' : Nat) (hd : decode code pc = .ok (.imul, 1)) (k : WP X Z rc rs Q pc' L (.int (x * z) :: S) os ce sl) (hp : pc + 1 = pc' := by rfl) : WP X Z rc rs Q pc L (.int z :: .int x :: S) os ce sl := by
  obtain ⟨p, l', e, R', s, m, args, below, meth, c⟩ := X
  obtain ⟨h1, h2, hx, hZ, hby, hml, hown, hnm, hret, hlk⟩ := K
  have h2' : R' = R := h2
  subst h2'
  subst hp
  intro T locs hT0 hH hF
  have hT : Stand p l' e R' s m args below meth c T locs ce sl := hT0
  obtain ⟨s2, o, st, r⟩ := k T locs hT hH hF
  exact ⟨s2, o, XS.imul (Stand.here hT) hx rfl (hb hby hd) rfl st, r⟩
theorem W.iand {x z : Int32} (K : Ctx X l Z R y code maxL ret) (pc' : Nat) (hd : decode code pc = .ok (.iand, 1)) (k : WP X Z rc rs Q pc' L (.int (x &&& z) :: S) os ce sl) (hp : pc + 1 = pc' := by rfl) : WP X Z rc rs Q pc L (.int z :: .int x :: S) os ce sl := by
  obtain ⟨p, l', e, R', s, m, args, below, meth, c⟩ := X
  obtain ⟨h1, h2, hx, hZ, hby, hml, hown, hnm, hret, hlk⟩ := K
  have h2' : R' = R := h2
  subst h2'
  subst hp
  intro T locs hT0 hH hF
  have hT : Stand p l' e R' s m args below meth c T locs ce sl := hT0
  obtain ⟨s2, o, st, r⟩ := k T locs hT hH hF
  exact ⟨s2, o, XS.iand (Stand.here hT) hx rfl (hb hby hd) rfl st, r⟩
theorem W.ior {x z : Int32} (K : Ctx X l Z R y code maxL ret) (pc' : Nat) (hd : decode code pc = .ok (.ior, 1)) (k : WP X Z rc rs Q pc' L (.int (x ||| z) :: S) os ce sl) (hp : pc + 1 = pc' := by rfl) : WP X Z rc rs Q pc L (.int z :: .int x :: S) os ce sl := by
  obtain ⟨p, l', e, R', s, m, args, below, meth, c⟩ := X
  obtain ⟨h1, h2, hx, hZ, hby, hml, hown, hnm, hret, hlk⟩ := K
  have h2' : R' = R := h2
  subst h2'
  subst hp
  intro T locs hT0 hH hF
  have hT : Stand p l' e R' s m args below meth c T locs ce sl := hT0
  obtain ⟨s2, o, st, r⟩ := k T locs hT hH hF
  exact ⟨s2, o, XS.ior (Stand.here hT) hx rfl (hb hby hd) rfl st, r⟩
theorem W.ixor {x z : Int32} (K : Ctx X l Z R y code maxL ret) (pc' : Nat) (hd : decode code pc = .ok (.ixor, 1)) (k : WP X Z rc rs Q pc' L (.int (x ^^^ z) :: S) os ce sl) (hp : pc + 1 = pc' := by rfl) : WP X Z rc rs Q pc L (.int z :: .int x :: S) os ce sl := by
  obtain ⟨p, l', e, R', s, m, args, below, meth, c⟩ := X
  obtain ⟨h1, h2, hx, hZ, hby, hml, hown, hnm, hret, hlk⟩ := K
  have h2' : R' = R := h2
  subst h2'
  subst hp
  intro T locs hT0 hH hF
  have hT : Stand p l' e R' s m args below meth c T locs ce sl := hT0
  obtain ⟨s2, o, st, r⟩ := k T locs hT hH hF
  exact ⟨s2, o, XS.ixor (Stand.here hT) hx rfl (hb hby hd) rfl st, r⟩
theorem W.ishl {x z : Int32} (K : Ctx X l Z R y code maxL ret) (pc' : Nat) (hd : decode code pc = .ok (.ishl, 1)) (k : WP X Z rc rs Q pc' L (.int (x <<< (z &&& 31)) :: S) os ce sl) (hp : pc + 1 = pc' := by rfl) : WP X Z rc rs Q pc L (.int z :: .int x :: S) os ce sl := by
  obtain ⟨p, l', e, R', s, m, args, below, meth, c⟩ := X
  obtain ⟨h1, h2, hx, hZ, hby, hml, hown, hnm, hret, hlk⟩ := K
  have h2' : R' = R := h2
  subst h2'
  subst hp
  intro T locs hT0 hH hF
  have hT : Stand p l' e R' s m args below meth c T locs ce sl := hT0
  obtain ⟨s2, o, st, r⟩ := k T locs hT hH hF
  exact ⟨s2, o, XS.ishl (Stand.here hT) hx rfl (hb hby hd) rfl st, r⟩
theorem W.ishr {x z : Int32} (K : Ctx X l Z R y code maxL ret) (pc' : Nat) (hd : decode code pc = .ok (.ishr, 1)) (k : WP X Z rc rs Q pc' L (.int (x >>> (z &&& 31)) :: S) os ce sl) (hp : pc + 1 = pc' := by rfl) : WP X Z rc rs Q pc L (.int z :: .int x :: S) os ce sl := by
  obtain ⟨p, l', e, R', s, m, args, below, meth, c⟩ := X
  obtain ⟨h1, h2, hx, hZ, hby, hml, hown, hnm, hret, hlk⟩ := K
  have h2' : R' = R := h2
  subst h2'
  subst hp
  intro T locs hT0 hH hF
  have hT : Stand p l' e R' s m args below meth c T locs ce sl := hT0
  obtain ⟨s2, o, st, r⟩ := k T locs hT hH hF
  exact ⟨s2, o, XS.ishr (Stand.here hT) hx rfl (hb hby hd) rfl st, r⟩
theorem W.iushr {x z : Int32} (K : Ctx X l Z R y code maxL ret) (pc' : Nat) (hd : decode code pc = .ok (.iushr, 1)) (k : WP X Z rc rs Q pc' L (.int ((x.toUInt32 >>> (z &&& 31).toUInt32).toInt32) :: S) os ce sl) (hp : pc + 1 = pc' := by rfl) : WP X Z rc rs Q pc L (.int z :: .int x :: S) os ce sl := by
  obtain ⟨p, l', e, R', s, m, args, below, meth, c⟩ := X
  obtain ⟨h1, h2, hx, hZ, hby, hml, hown, hnm, hret, hlk⟩ := K
  have h2' : R' = R := h2
  subst h2'
  subst hp
  intro T locs hT0 hH hF
  have hT : Stand p l' e R' s m args below meth c T locs ce sl := hT0
  obtain ⟨s2, o, st, r⟩ := k T locs hT hH hF
  exact ⟨s2, o, XS.iushr (Stand.here hT) hx rfl (hb hby hd) rfl st, r⟩
theorem W.ladd {x z : Int64} (K : Ctx X l Z R y code maxL ret) (pc' : Nat) (hd : decode code pc = .ok (.ladd, 1)) (k : WP X Z rc rs Q pc' L (.long (x + z) :: S) os ce sl) (hp : pc + 1 = pc' := by rfl) : WP X Z rc rs Q pc L (.long z :: .long x :: S) os ce sl := by
  obtain ⟨p, l', e, R', s, m, args, below, meth, c⟩ := X
  obtain ⟨h1, h2, hx, hZ, hby, hml, hown, hnm, hret, hlk⟩ := K
  have h2' : R' = R := h2
  subst h2'
  subst hp
  intro T locs hT0 hH hF
  have hT : Stand p l' e R' s m args below meth c T locs ce sl := hT0
  obtain ⟨s2, o, st, r⟩ := k T locs hT hH hF
  exact ⟨s2, o, XS.ladd (Stand.here hT) hx rfl (hb hby hd) rfl st, r⟩
theorem W.lsub {x z : Int64} (K : Ctx X l Z R y code maxL ret) (pc' : Nat) (hd : decode code pc = .ok (.lsub, 1)) (k : WP X Z rc rs Q pc' L (.long (x - z) :: S) os ce sl) (hp : pc + 1 = pc' := by rfl) : WP X Z rc rs Q pc L (.long z :: .long x :: S) os ce sl := by
  obtain ⟨p, l', e, R', s, m, args, below, meth, c⟩ := X
  obtain ⟨h1, h2, hx, hZ, hby, hml, hown, hnm, hret, hlk⟩ := K
  have h2' : R' = R := h2
  subst h2'
  subst hp
  intro T locs hT0 hH hF
  have hT : Stand p l' e R' s m args below meth c T locs ce sl := hT0
  obtain ⟨s2, o, st, r⟩ := k T locs hT hH hF
  exact ⟨s2, o, XS.lsub (Stand.here hT) hx rfl (hb hby hd) rfl st, r⟩
theorem W.lmul {x z : Int64} (K : Ctx X l Z R y code maxL ret) (pc' : Nat) (hd : decode code pc = .ok (.lmul, 1)) (k : WP X Z rc rs Q pc' L (.long (x * z) :: S) os ce sl) (hp : pc + 1 = pc' := by rfl) : WP X Z rc rs Q pc L (.long z :: .long x :: S) os ce sl := by
  obtain ⟨p, l', e, R', s, m, args, below, meth, c⟩ := X
  obtain ⟨h1, h2, hx, hZ, hby, hml, hown, hnm, hret, hlk⟩ := K
  have h2' : R' = R := h2
  subst h2'
  subst hp
  intro T locs hT0 hH hF
  have hT : Stand p l' e R' s m args below meth c T locs ce sl := hT0
  obtain ⟨s2, o, st, r⟩ := k T locs hT hH hF
  exact ⟨s2, o, XS.lmul (Stand.here hT) hx rfl (hb hby hd) rfl st, r⟩
theorem W.land {x z : Int64} (K : Ctx X l Z R y code maxL ret) (pc' : Nat) (hd : decode code pc = .ok (.land, 1)) (k : WP X Z rc rs Q pc' L (.long (x &&& z) :: S) os ce sl) (hp : pc + 1 = pc' := by rfl) : WP X Z rc rs Q pc L (.long z :: .long x :: S) os ce sl := by
  obtain ⟨p, l', e, R', s, m, args, below, meth, c⟩ := X
  obtain ⟨h1, h2, hx, hZ, hby, hml, hown, hnm, hret, hlk⟩ := K
  have h2' : R' = R := h2
  subst h2'
  subst hp
  intro T locs hT0 hH hF
  have hT : Stand p l' e R' s m args below meth c T locs ce sl := hT0
  obtain ⟨s2, o, st, r⟩ := k T locs hT hH hF
  exact ⟨s2, o, XS.land (Stand.here hT) hx rfl (hb hby hd) rfl st, r⟩
theorem W.lor {x z : Int64} (K : Ctx X l Z R y code maxL ret) (pc' : Nat) (hd : decode code pc = .ok (.lor, 1)) (k : WP X Z rc rs Q pc' L (.long (x ||| z) :: S) os ce sl) (hp : pc + 1 = pc' := by rfl) : WP X Z rc rs Q pc L (.long z :: .long x :: S) os ce sl := by
  obtain ⟨p, l', e, R', s, m, args, below, meth, c⟩ := X
  obtain ⟨h1, h2, hx, hZ, hby, hml, hown, hnm, hret, hlk⟩ := K
  have h2' : R' = R := h2
  subst h2'
  subst hp
  intro T locs hT0 hH hF
  have hT : Stand p l' e R' s m args below meth c T locs ce sl := hT0
  obtain ⟨s2, o, st, r⟩ := k T locs hT hH hF
  exact ⟨s2, o, XS.lor (Stand.here hT) hx rfl (hb hby hd) rfl st, r⟩
theorem W.lxor {x z : Int64} (K : Ctx X l Z R y code maxL ret) (pc' : Nat) (hd : decode code pc = .ok (.lxor, 1)) (k : WP X Z rc rs Q pc' L (.long (x ^^^ z) :: S) os ce sl) (hp : pc + 1 = pc' := by rfl) : WP X Z rc rs Q pc L (.long z :: .long x :: S) os ce sl := by
  obtain ⟨p, l', e, R', s, m, args, below, meth, c⟩ := X
  obtain ⟨h1, h2, hx, hZ, hby, hml, hown, hnm, hret, hlk⟩ := K
  have h2' : R' = R := h2
  subst h2'
  subst hp
  intro T locs hT0 hH hF
  have hT : Stand p l' e R' s m args below meth c T locs ce sl := hT0
  obtain ⟨s2, o, st, r⟩ := k T locs hT hH hF
  exact ⟨s2, o, XS.lxor (Stand.here hT) hx rfl (hb hby hd) rfl st, r⟩
theorem W.lshl {x : Int64} {z : Int32} (K : Ctx X l Z R y code maxL ret) (pc' : Nat) (hd : decode code pc = .ok (.lshl, 1)) (k : WP X Z rc rs Q pc' L (.long (x <<< (z &&& 0x3f).toInt64) :: S) os ce sl) (hp : pc + 1 = pc' := by rfl) : WP X Z rc rs Q pc L (.int z :: .long x :: S) os ce sl := by
  obtain ⟨p, l', e, R', s, m, args, below, meth, c⟩ := X
  obtain ⟨h1, h2, hx, hZ, hby, hml, hown, hnm, hret, hlk⟩ := K
  have h2' : R' = R := h2
  subst h2'
  subst hp
  intro T locs hT0 hH hF
  have hT : Stand p l' e R' s m args below meth c T locs ce sl := hT0
  obtain ⟨s2, o, st, r⟩ := k T locs hT hH hF
  exact ⟨s2, o, XS.lshl (Stand.here hT) hx rfl (hb hby hd) rfl st, r⟩
theorem W.lshr {x : Int64} {z : Int32} (K : Ctx X l Z R y code maxL ret) (pc' : Nat) (hd : decode code pc = .ok (.lshr, 1)) (k : WP X Z rc rs Q pc' L (.long (x >>> (z &&& 0x3f).toInt64) :: S) os ce sl) (hp : pc + 1 = pc' := by rfl) : WP X Z rc rs Q pc L (.int z :: .long x :: S) os ce sl := by
  obtain ⟨p, l', e, R', s, m, args, below, meth, c⟩ := X
  obtain ⟨h1, h2, hx, hZ, hby, hml, hown, hnm, hret, hlk⟩ := K
  have h2' : R' = R := h2
  subst h2'
  subst hp
  intro T locs hT0 hH hF
  have hT : Stand p l' e R' s m args below meth c T locs ce sl := hT0
  obtain ⟨s2, o, st, r⟩ := k T locs hT hH hF
  exact ⟨s2, o, XS.lshr (Stand.here hT) hx rfl (hb hby hd) rfl st, r⟩
theorem W.lushr {x : Int64} {z : Int32} (K : Ctx X l Z R y code maxL ret) (pc' : Nat) (hd : decode code pc = .ok (.lushr, 1)) (k : WP X Z rc rs Q pc' L (.long ((x.toUInt64 >>> (z &&& 0x3f).toInt64.toUInt64).toInt64) :: S) os ce sl) (hp : pc + 1 = pc' := by rfl) : WP X Z rc rs Q pc L (.int z :: .long x :: S) os ce sl := by
  obtain ⟨p, l', e, R', s, m, args, below, meth, c⟩ := X
  obtain ⟨h1, h2, hx, hZ, hby, hml, hown, hnm, hret, hlk⟩ := K
  have h2' : R' = R := h2
  subst h2'
  subst hp
  intro T locs hT0 hH hF
  have hT : Stand p l' e R' s m args below meth c T locs ce sl := hT0
  obtain ⟨s2, o, st, r⟩ := k T locs hT hH hF
  exact ⟨s2, o, XS.lushr (Stand.here hT) hx rfl (hb hby hd) rfl st, r⟩
theorem W.ineg {x : Int32} (K : Ctx X l Z R y code maxL ret) (pc' : Nat) (hd : decode code pc = .ok (.ineg, 1)) (k : WP X Z rc rs Q pc' L (.int (-x) :: S) os ce sl) (hp : pc + 1 = pc' := by rfl) : WP X Z rc rs Q pc L (.int x :: S) os ce sl := by
  obtain ⟨p, l', e, R', s, m, args, below, meth, c⟩ := X
  obtain ⟨h1, h2, hx, hZ, hby, hml, hown, hnm, hret, hlk⟩ := K
  have h2' : R' = R := h2
  subst h2'
  subst hp
  intro T locs hT0 hH hF
  have hT : Stand p l' e R' s m args below meth c T locs ce sl := hT0
  obtain ⟨s2, o, st, r⟩ := k T locs hT hH hF
  exact ⟨s2, o, XS.ineg (Stand.here hT) hx rfl (hb hby hd) rfl st, r⟩
theorem W.lneg {x : Int64} (K : Ctx X l Z R y code maxL ret) (pc' : Nat) (hd : decode code pc = .ok (.lneg, 1)) (k : WP X Z rc rs Q pc' L (.long (-x) :: S) os ce sl) (hp : pc + 1 = pc' := by rfl) : WP X Z rc rs Q pc L (.long x :: S) os ce sl := by
  obtain ⟨p, l', e, R', s, m, args, below, meth, c⟩ := X
  obtain ⟨h1, h2, hx, hZ, hby, hml, hown, hnm, hret, hlk⟩ := K
  have h2' : R' = R := h2
  subst h2'
  subst hp
  intro T locs hT0 hH hF
  have hT : Stand p l' e R' s m args below meth c T locs ce sl := hT0
  obtain ⟨s2, o, st, r⟩ := k T locs hT hH hF
  exact ⟨s2, o, XS.lneg (Stand.here hT) hx rfl (hb hby hd) rfl st, r⟩
theorem W.i2l {x : Int32} (K : Ctx X l Z R y code maxL ret) (pc' : Nat) (hd : decode code pc = .ok (.i2l, 1)) (k : WP X Z rc rs Q pc' L (.long x.toInt64 :: S) os ce sl) (hp : pc + 1 = pc' := by rfl) : WP X Z rc rs Q pc L (.int x :: S) os ce sl := by
  obtain ⟨p, l', e, R', s, m, args, below, meth, c⟩ := X
  obtain ⟨h1, h2, hx, hZ, hby, hml, hown, hnm, hret, hlk⟩ := K
  have h2' : R' = R := h2
  subst h2'
  subst hp
  intro T locs hT0 hH hF
  have hT : Stand p l' e R' s m args below meth c T locs ce sl := hT0
  obtain ⟨s2, o, st, r⟩ := k T locs hT hH hF
  exact ⟨s2, o, XS.i2l (Stand.here hT) hx rfl (hb hby hd) rfl st, r⟩
theorem W.l2i {x : Int64} (K : Ctx X l Z R y code maxL ret) (pc' : Nat) (hd : decode code pc = .ok (.l2i, 1)) (k : WP X Z rc rs Q pc' L (.int x.toInt32 :: S) os ce sl) (hp : pc + 1 = pc' := by rfl) : WP X Z rc rs Q pc L (.long x :: S) os ce sl := by
  obtain ⟨p, l', e, R', s, m, args, below, meth, c⟩ := X
  obtain ⟨h1, h2, hx, hZ, hby, hml, hown, hnm, hret, hlk⟩ := K
  have h2' : R' = R := h2
  subst h2'
  subst hp
  intro T locs hT0 hH hF
  have hT : Stand p l' e R' s m args below meth c T locs ce sl := hT0
  obtain ⟨s2, o, st, r⟩ := k T locs hT hH hF
  exact ⟨s2, o, XS.l2i (Stand.here hT) hx rfl (hb hby hd) rfl st, r⟩
theorem W.i2b {x : Int32} (K : Ctx X l Z R y code maxL ret) (pc' : Nat) (hd : decode code pc = .ok (.i2b, 1)) (k : WP X Z rc rs Q pc' L (.int x.toInt8.toInt32 :: S) os ce sl) (hp : pc + 1 = pc' := by rfl) : WP X Z rc rs Q pc L (.int x :: S) os ce sl := by
  obtain ⟨p, l', e, R', s, m, args, below, meth, c⟩ := X
  obtain ⟨h1, h2, hx, hZ, hby, hml, hown, hnm, hret, hlk⟩ := K
  have h2' : R' = R := h2
  subst h2'
  subst hp
  intro T locs hT0 hH hF
  have hT : Stand p l' e R' s m args below meth c T locs ce sl := hT0
  obtain ⟨s2, o, st, r⟩ := k T locs hT hH hF
  exact ⟨s2, o, XS.i2b (Stand.here hT) hx rfl (hb hby hd) rfl st, r⟩
theorem W.i2c {x : Int32} (K : Ctx X l Z R y code maxL ret) (pc' : Nat) (hd : decode code pc = .ok (.i2c, 1)) (k : WP X Z rc rs Q pc' L (.int x.toUInt32.toUInt16.toUInt32.toInt32 :: S) os ce sl) (hp : pc + 1 = pc' := by rfl) : WP X Z rc rs Q pc L (.int x :: S) os ce sl := by
  obtain ⟨p, l', e, R', s, m, args, below, meth, c⟩ := X
  obtain ⟨h1, h2, hx, hZ, hby, hml, hown, hnm, hret, hlk⟩ := K
  have h2' : R' = R := h2
  subst h2'
  subst hp
  intro T locs hT0 hH hF
  have hT : Stand p l' e R' s m args below meth c T locs ce sl := hT0
  obtain ⟨s2, o, st, r⟩ := k T locs hT hH hF
  exact ⟨s2, o, XS.i2c (Stand.here hT) hx rfl (hb hby hd) rfl st, r⟩
theorem W.i2s {x : Int32} (K : Ctx X l Z R y code maxL ret) (pc' : Nat) (hd : decode code pc = .ok (.i2s, 1)) (k : WP X Z rc rs Q pc' L (.int x.toInt16.toInt32 :: S) os ce sl) (hp : pc + 1 = pc' := by rfl) : WP X Z rc rs Q pc L (.int x :: S) os ce sl := by
  obtain ⟨p, l', e, R', s, m, args, below, meth, c⟩ := X
  obtain ⟨h1, h2, hx, hZ, hby, hml, hown, hnm, hret, hlk⟩ := K
  have h2' : R' = R := h2
  subst h2'
  subst hp
  intro T locs hT0 hH hF
  have hT : Stand p l' e R' s m args below meth c T locs ce sl := hT0
  obtain ⟨s2, o, st, r⟩ := k T locs hT hH hF
  exact ⟨s2, o, XS.i2s (Stand.here hT) hx rfl (hb hby hd) rfl st, r⟩
theorem W.idiv {x z : Int32} (K : Ctx X l Z R y code maxL ret) (pc' : Nat) (hd : decode code pc = .ok (.idiv, 1)) (hz : z ≠ 0) (k : WP X Z rc rs Q pc' L (.int (x / z) :: S) os ce sl) (hp : pc + 1 = pc' := by rfl) : WP X Z rc rs Q pc L (.int z :: .int x :: S) os ce sl := by
  obtain ⟨p, l', e, R', s, m, args, below, meth, c⟩ := X
  obtain ⟨h1, h2, hx, hZ, hby, hml, hown, hnm, hret, hlk⟩ := K
  have h2' : R' = R := h2
  subst h2'
  subst hp
  intro T locs hT0 hH hF
  have hT : Stand p l' e R' s m args below meth c T locs ce sl := hT0
  obtain ⟨s2, o, st, r⟩ := k T locs hT hH hF
  exact ⟨s2, o, XS.idiv (Stand.here hT) hx rfl (hb hby hd) rfl hz st, r⟩
theorem W.ldiv {x z : Int64} (K : Ctx X l Z R y code maxL ret) (pc' : Nat) (hd : decode code pc = .ok (.ldiv, 1)) (hz : z ≠ 0) (k : WP X Z rc rs Q pc' L (.long (x / z) :: S) os ce sl) (hp : pc + 1 = pc' := by rfl) : WP X Z rc rs Q pc L (.long z :: .long x :: S) os ce sl := by
  obtain ⟨p, l', e, R', s, m, args, below, meth, c⟩ := X
  obtain ⟨h1, h2, hx, hZ, hby, hml, hown, hnm, hret, hlk⟩ := K
  have h2' : R' = R := h2
  subst h2'
  subst hp
  intro T locs hT0 hH hF
  have hT : Stand p l' e R' s m args below meth c T locs ce sl := hT0
  obtain ⟨s2, o, st, r⟩ := k T locs hT hH hF
  exact ⟨s2, o, XS.ldiv (Stand.here hT) hx rfl (hb hby hd) rfl hz st, r⟩
theorem W.irem {x z : Int32} (K : Ctx X l Z R y code maxL ret) (pc' : Nat) (hd : decode code pc = .ok (.irem, 1)) (hz : z ≠ 0) (k : WP X Z rc rs Q pc' L (.int (x % z) :: S) os ce sl) (hp : pc + 1 = pc' := by rfl) : WP X Z rc rs Q pc L (.int z :: .int x :: S) os ce sl := by
  obtain ⟨p, l', e, R', s, m, args, below, meth, c⟩ := X
  obtain ⟨h1, h2, hx, hZ, hby, hml, hown, hnm, hret, hlk⟩ := K
  have h2' : R' = R := h2
  subst h2'
  subst hp
  intro T locs hT0 hH hF
  have hT : Stand p l' e R' s m args below meth c T locs ce sl := hT0
  obtain ⟨s2, o, st, r⟩ := k T locs hT hH hF
  exact ⟨s2, o, iremM hT hx rfl (hb hby hd) rfl hz st, r⟩
theorem W.dup {x : Value} (K : Ctx X l Z R y code maxL ret) (pc' : Nat) (hd : decode code pc = .ok (.dup, 1)) (k : WP X Z rc rs Q pc' L (x :: x :: S) os ce sl) (hc : x.category = 1 := by rfl) (hp : pc + 1 = pc' := by rfl) : WP X Z rc rs Q pc L (x :: S) os ce sl := by
  obtain ⟨p, l', e, R', s, m, args, below, meth, c⟩ := X
  obtain ⟨h1, h2, hx, hZ, hby, hml, hown, hnm, hret, hlk⟩ := K
  have h2' : R' = R := h2
  subst h2'
  subst hp
  intro T locs hT0 hH hF
  have hT : Stand p l' e R' s m args below meth c T locs ce sl := hT0
  obtain ⟨s2, o, st, r⟩ := k T locs hT hH hF
  exact ⟨s2, o, XS.dup (Stand.here hT) hx rfl (hb hby hd) rfl hc st, r⟩
theorem W.popx {x : Value} (K : Ctx X l Z R y code maxL ret) (pc' : Nat) (hd : decode code pc = .ok (.pop, 1)) (k : WP X Z rc rs Q pc' L S os ce sl) (hc : x.category = 1 := by rfl) (hp : pc + 1 = pc' := by rfl) : WP X Z rc rs Q pc L (x :: S) os ce sl := by
  obtain ⟨p, l', e, R', s, m, args, below, meth, c⟩ := X
  obtain ⟨h1, h2, hx, hZ, hby, hml, hown, hnm, hret, hlk⟩ := K
  have h2' : R' = R := h2
  subst h2'
  subst hp
  intro T locs hT0 hH hF
  have hT : Stand p l' e R' s m args below meth c T locs ce sl := hT0
  obtain ⟨s2, o, st, r⟩ := k T locs hT hH hF
  exact ⟨s2, o, XS.pop (Stand.here hT) hx rfl (hb hby hd) rfl hc st, r⟩
theorem W.dupX1 {x z : Value} (K : Ctx X l Z R y code maxL ret) (pc' : Nat) (hd : decode code pc = .ok (.dup_x1, 1)) (k : WP X Z rc rs Q pc' L (x :: z :: x :: S) os ce sl) (hc : x.category = 1 := by rfl) (hc2 : z.category = 1 := by rfl) (hp : pc + 1 = pc' := by rfl) : WP X Z rc rs Q pc L (x :: z :: S) os ce sl := by
  obtain ⟨p, l', e, R', s, m, args, below, meth, c⟩ := X
  obtain ⟨h1, h2, hx, hZ, hby, hml, hown, hnm, hret, hlk⟩ := K
  have h2' : R' = R := h2
  subst h2'
  subst hp
  intro T locs hT0 hH hF
  have hT : Stand p l' e R' s m args below meth c T locs ce sl := hT0
  obtain ⟨s2, o, st, r⟩ := k T locs hT hH hF
  exact ⟨s2, o, XS.dupX1 (Stand.here hT) hx rfl (hb hby hd) rfl hc hc2 st, r⟩
theorem W.dup2 {x z : Value} (K : Ctx X l Z R y code maxL ret) (pc' : Nat) (hd : decode code pc = .ok (.dup2, 1)) (k : WP X Z rc rs Q pc' L (x :: z :: x :: z :: S) os ce sl) (hc : x.category = 1 := by rfl) (hc2 : z.category = 1 := by rfl) (hp : pc + 1 = pc' := by rfl) : WP X Z rc rs Q pc L (x :: z :: S) os ce sl := by
  obtain ⟨p, l', e, R', s, m, args, below, meth, c⟩ := X
  obtain ⟨h1, h2, hx, hZ, hby, hml, hown, hnm, hret, hlk⟩ := K
  have h2' : R' = R := h2
  subst h2'
  subst hp
  intro T locs hT0 hH hF
  have hT : Stand p l' e R' s m args below meth c T locs ce sl := hT0
  obtain ⟨s2, o, st, r⟩ := k T locs hT hH hF
  exact ⟨s2, o, XT.dup2 (Stand.here hT) hx rfl (hb hby hd) rfl hc hc2 st, r⟩
theorem W.dup2L {x : Int64} (K : Ctx X l Z R y code maxL ret) (pc' : Nat) (hd : decode code pc = .ok (.dup2, 1)) (k : WP X Z rc rs Q pc' L (.long x :: .long x :: S) os ce sl)  (hp : pc + 1 = pc' := by rfl) : WP X Z rc rs Q pc L (.long x :: S) os ce sl := by
  obtain ⟨p, l', e, R', s, m, args, below, meth, c⟩ := X
  obtain ⟨h1, h2, hx, hZ, hby, hml, hown, hnm, hret, hlk⟩ := K
  have h2' : R' = R := h2
  subst h2'
  subst hp
  intro T locs hT0 hH hF
  have hT : Stand p l' e R' s m args below meth c T locs ce sl := hT0
  obtain ⟨s2, o, st, r⟩ := k T locs hT hH hF
  exact ⟨s2, o, XT.dup2L (Stand.here hT) hx rfl (hb hby hd) rfl st, r⟩
theorem W.iconst {i : Int} (K : Ctx X l Z R y code maxL ret) (pc' : Nat) (hd : decode code pc = .ok (.iconst i, 1)) (v : Int32) (hv : Int32.ofInt i = v) (k : WP X Z rc rs Q pc' L (.int v :: S) os ce sl) (hp : pc + 1 = pc' := by rfl) : WP X Z rc rs Q pc L S os ce sl := by
  obtain ⟨p, l', e, R', s, m, args, below, meth, c⟩ := X
  obtain ⟨h1, h2, hx, hZ, hby, hml, hown, hnm, hret, hlk⟩ := K
  have h2' : R' = R := h2
  subst h2'
  subst hp
  intro T locs hT0 hH hF
  have hT : Stand p l' e R' s m args below meth c T locs ce sl := hT0
  obtain ⟨s2, o, st, r⟩ := k T locs hT hH hF
  exact ⟨s2, o, XS.iconst (Stand.here hT) hx rfl (hb hby hd) (hv ▸ st), r⟩
theorem W.bipush {i : Int} (K : Ctx X l Z R y code maxL ret) (pc' : Nat) (hd : decode code pc = .ok (.bipush i, 2)) (v : Int32) (hv : (Int8.ofInt i).toInt32 = v) (k : WP X Z rc rs Q pc' L (.int v :: S) os ce sl) (hp : pc + 2 = pc' := by rfl) : WP X Z rc rs Q pc L S os ce sl := by
  obtain ⟨p, l', e, R', s, m, args, below, meth, c⟩ := X
  obtain ⟨h1, h2, hx, hZ, hby, hml, hown, hnm, hret, hlk⟩ := K
  have h2' : R' = R := h2
  subst h2'
  subst hp
  intro T locs hT0 hH hF
  have hT : Stand p l' e R' s m args below meth c T locs ce sl := hT0
  obtain ⟨s2, o, st, r⟩ := k T locs hT hH hF
  exact ⟨s2, o, XS.bipush (Stand.here hT) hx rfl (hb hby hd) (hv ▸ st), r⟩
theorem W.sipush {i : Int} (K : Ctx X l Z R y code maxL ret) (pc' : Nat) (hd : decode code pc = .ok (.sipush i, 3)) (v : Int32) (hv : (Int16.ofInt i).toInt32 = v) (k : WP X Z rc rs Q pc' L (.int v :: S) os ce sl) (hp : pc + 3 = pc' := by rfl) : WP X Z rc rs Q pc L S os ce sl := by
  obtain ⟨p, l', e, R', s, m, args, below, meth, c⟩ := X
  obtain ⟨h1, h2, hx, hZ, hby, hml, hown, hnm, hret, hlk⟩ := K
  have h2' : R' = R := h2
  subst h2'
  subst hp
  intro T locs hT0 hH hF
  have hT : Stand p l' e R' s m args below meth c T locs ce sl := hT0
  obtain ⟨s2, o, st, r⟩ := k T locs hT hH hF
  exact ⟨s2, o, XS.sipush (Stand.here hT) hx rfl (hb hby hd) (hv ▸ st), r⟩
theorem W.lconst {i : Fin 2} (K : Ctx X l Z R y code maxL ret) (pc' : Nat) (hd : decode code pc = .ok (.lconst i, 1)) (v : Int64) (hv : Int64.ofNat i = v) (k : WP X Z rc rs Q pc' L (.long v :: S) os ce sl) (hp : pc + 1 = pc' := by rfl) : WP X Z rc rs Q pc L S os ce sl := by
  obtain ⟨p, l', e, R', s, m, args, below, meth, c⟩ := X
  obtain ⟨h1, h2, hx, hZ, hby, hml, hown, hnm, hret, hlk⟩ := K
  have h2' : R' = R := h2
  subst h2'
  subst hp
  intro T locs hT0 hH hF
  have hT : Stand p l' e R' s m args below meth c T locs ce sl := hT0
  obtain ⟨s2, o, st, r⟩ := k T locs hT hH hF
  exact ⟨s2, o, XS.lconst (Stand.here hT) hx rfl (hb hby hd) (hv ▸ st), r⟩
theorem W.aconst  (K : Ctx X l Z R y code maxL ret) (pc' : Nat) (hd : decode code pc = .ok (.aconst_null, 1)) (k : WP X Z rc rs Q pc' L (.null :: S) os ce sl) (hp : pc + 1 = pc' := by rfl) : WP X Z rc rs Q pc L S os ce sl := by
  obtain ⟨p, l', e, R', s, m, args, below, meth, c⟩ := X
  obtain ⟨h1, h2, hx, hZ, hby, hml, hown, hnm, hret, hlk⟩ := K
  have h2' : R' = R := h2
  subst h2'
  subst hp
  intro T locs hT0 hH hF
  have hT : Stand p l' e R' s m args below meth c T locs ce sl := hT0
  obtain ⟨s2, o, st, r⟩ := k T locs hT hH hF
  exact ⟨s2, o, XS.aconstNull (Stand.here hT) hx rfl (hb hby hd) st, r⟩
theorem W.iload {n : Nat} {v : Int32} (K : Ctx X l Z R y code maxL ret) (pc' : Nat) (hd : decode code pc = .ok (.iload n, 2)) (hl : L[n]? = some (.val (.int v))) (k : WP X Z rc rs Q pc' L (.int v :: S) os ce sl) (hp : pc + 2 = pc' := by rfl) : WP X Z rc rs Q pc L S os ce sl := by
  obtain ⟨p, l', e, R', s, m, args, below, meth, c⟩ := X
  obtain ⟨h1, h2, hx, hZ, hby, hml, hown, hnm, hret, hlk⟩ := K
  have h2' : R' = R := h2
  subst h2'
  subst hp
  intro T locs hT0 hH hF
  have hT : Stand p l' e R' s m args below meth c T locs ce sl := hT0
  obtain ⟨s2, o, st, r⟩ := k T locs hT hH hF
  exact ⟨s2, o, XS.iload (Stand.here hT) hx rfl (hb hby hd) (by simpa using hl) st, r⟩
theorem W.iloadN {n : Fin 4} {v : Int32} (K : Ctx X l Z R y code maxL ret) (pc' : Nat) (hd : decode code pc = .ok (.iload_n n, 1)) (i : Nat) (hi : n.val = i) (hl : L[i]? = some (.val (.int v))) (k : WP X Z rc rs Q pc' L (.int v :: S) os ce sl) (hp : pc + 1 = pc' := by rfl) : WP X Z rc rs Q pc L S os ce sl := by
  obtain ⟨p, l', e, R', s, m, args, below, meth, c⟩ := X
  obtain ⟨h1, h2, hx, hZ, hby, hml, hown, hnm, hret, hlk⟩ := K
  have h2' : R' = R := h2
  subst h2'
  subst hp
  intro T locs hT0 hH hF
  have hT : Stand p l' e R' s m args below meth c T locs ce sl := hT0
  obtain ⟨s2, o, st, r⟩ := k T locs hT hH hF
  exact ⟨s2, o, XS.iloadN (Stand.here hT) hx rfl (hb hby hd) (by rw [hi]; simpa using hl) st, r⟩
theorem W.lload {n : Nat} {v : Int64} (K : Ctx X l Z R y code maxL ret) (pc' : Nat) (hd : decode code pc = .ok (.lload n, 2)) (hl : L[n]? = some (.val (.long v))) (k : WP X Z rc rs Q pc' L (.long v :: S) os ce sl) (hp : pc + 2 = pc' := by rfl) : WP X Z rc rs Q pc L S os ce sl := by
  obtain ⟨p, l', e, R', s, m, args, below, meth, c⟩ := X
  obtain ⟨h1, h2, hx, hZ, hby, hml, hown, hnm, hret, hlk⟩ := K
  have h2' : R' = R := h2
  subst h2'
  subst hp
  intro T locs hT0 hH hF
  have hT : Stand p l' e R' s m args below meth c T locs ce sl := hT0
  obtain ⟨s2, o, st, r⟩ := k T locs hT hH hF
  exact ⟨s2, o, XS.lload (Stand.here hT) hx rfl (hb hby hd) (by simpa using hl) st, r⟩
theorem W.lloadN {n : Fin 4} {v : Int64} (K : Ctx X l Z R y code maxL ret) (pc' : Nat) (hd : decode code pc = .ok (.lload_n n, 1)) (i : Nat) (hi : n.val = i) (hl : L[i]? = some (.val (.long v))) (k : WP X Z rc rs Q pc' L (.long v :: S) os ce sl) (hp : pc + 1 = pc' := by rfl) : WP X Z rc rs Q pc L S os ce sl := by
  obtain ⟨p, l', e, R', s, m, args, below, meth, c⟩ := X
  obtain ⟨h1, h2, hx, hZ, hby, hml, hown, hnm, hret, hlk⟩ := K
  have h2' : R' = R := h2
  subst h2'
  subst hp
  intro T locs hT0 hH hF
  have hT : Stand p l' e R' s m args below meth c T locs ce sl := hT0
  obtain ⟨s2, o, st, r⟩ := k T locs hT hH hF
  exact ⟨s2, o, XS.lloadN (Stand.here hT) hx rfl (hb hby hd) (by rw [hi]; simpa using hl) st, r⟩
theorem W.aload {n : Nat} {v : Value} (K : Ctx X l Z R y code maxL ret) (pc' : Nat) (hd : decode code pc = .ok (.aload n, 2)) (hl : L[n]? = some (.val v)) (hv : v.isRef = true) (k : WP X Z rc rs Q pc' L (v :: S) os ce sl) (hp : pc + 2 = pc' := by rfl) : WP X Z rc rs Q pc L S os ce sl := by
  obtain ⟨p, l', e, R', s, m, args, below, meth, c⟩ := X
  obtain ⟨h1, h2, hx, hZ, hby, hml, hown, hnm, hret, hlk⟩ := K
  have h2' : R' = R := h2
  subst h2'
  subst hp
  intro T locs hT0 hH hF
  have hT : Stand p l' e R' s m args below meth c T locs ce sl := hT0
  obtain ⟨s2, o, st, r⟩ := k T locs hT hH hF
  exact ⟨s2, o, XS.aload (Stand.here hT) hx rfl (hb hby hd) (by simpa using hl) hv st, r⟩
theorem W.aloadN {n : Fin 4} {v : Value} (K : Ctx X l Z R y code maxL ret) (pc' : Nat) (hd : decode code pc = .ok (.aload_n n, 1)) (i : Nat) (hi : n.val = i) (hl : L[i]? = some (.val v)) (hv : v.isRef = true) (k : WP X Z rc rs Q pc' L (v :: S) os ce sl) (hp : pc + 1 = pc' := by rfl) : WP X Z rc rs Q pc L S os ce sl := by
  obtain ⟨p, l', e, R', s, m, args, below, meth, c⟩ := X
  obtain ⟨h1, h2, hx, hZ, hby, hml, hown, hnm, hret, hlk⟩ := K
  have h2' : R' = R := h2
  subst h2'
  subst hp
  intro T locs hT0 hH hF
  have hT : Stand p l' e R' s m args below meth c T locs ce sl := hT0
  obtain ⟨s2, o, st, r⟩ := k T locs hT hH hF
  exact ⟨s2, o, XS.aloadN (Stand.here hT) hx rfl (hb hby hd) (by rw [hi]; simpa using hl) hv st, r⟩
theorem setL0 {α : Type} {x z : α} {r : List α} : (z :: r).set 0 x = x :: r := rfl
theorem setLS {α : Type} {x z : α} {r r' : List α} {n : Nat} (h : r.set n x = r') : (z :: r).set (n + 1) x = z :: r' := by rw [List.set_cons_succ, h]
def okS : Slot → Bool
  | .unset => true
  | .val v => v.category == 1
  | .second => false
theorem okS_one {L : List Slot} {n : Nat} {v : Value} (ho : (L[n]?.map okS) = some true) (hv : v.category = 1) : storeLocals L.toArray n v = some (L.set n (.val v)).toArray := by
  cases hq : L[n]? with
  | none => simp [hq] at ho
  | some o =>
    rw [hq] at ho
    have h := XS.store1 (l := L.toArray) (i := n) (v := v) (o := o) (by simpa using hq) (by
      cases o with
      | unset => exact Or.inl rfl
      | second => simp [okS] at ho
      | val w => exact Or.inr ⟨w, rfl, by simpa [okS] using ho⟩) hv
    rw [h]; simp

theorem W.istore {n : Nat} {x : Int32} {L' : List Slot} (K : Ctx X l Z R y code maxL ret) (pc' : Nat) (hd : decode code pc = .ok (.istore n, 2)) (ho : (L[n]?.map okS) = some true) (hL : L.set n (.val (.int x)) = L') (k : WP X Z rc rs Q pc' L' S os ce sl) (hp : pc + 2 = pc' := by rfl) : WP X Z rc rs Q pc L (.int x :: S) os ce sl := by
  obtain ⟨p, l', e, R', s, m, args, below, meth, c⟩ := X
  obtain ⟨h1, h2, hx, hZ, hby, hml, hown, hnm, hret, hlk⟩ := K
  have h2' : R' = R := h2
  subst h2'
  subst hp
  intro T locs hT0 hH hF
  have hT : Stand p l' e R' s m args below meth c T locs ce sl := hT0
  obtain ⟨s2, o, st, r⟩ := k T locs hT hH hF
  exact ⟨s2, o, XS.istore (Stand.here hT) hx rfl (hb hby hd) rfl (okS_one ho rfl) (hL ▸ st), r⟩
theorem W.istoreN {n : Fin 4} {x : Int32} {L' : List Slot} (K : Ctx X l Z R y code maxL ret) (pc' : Nat) (hd : decode code pc = .ok (.istore_n n, 1)) (i : Nat) (hi : n.val = i) (ho : (L[i]?.map okS) = some true) (hL : L.set i (.val (.int x)) = L') (k : WP X Z rc rs Q pc' L' S os ce sl) (hp : pc + 1 = pc' := by rfl) : WP X Z rc rs Q pc L (.int x :: S) os ce sl := by
  obtain ⟨p, l', e, R', s, m, args, below, meth, c⟩ := X
  obtain ⟨h1, h2, hx, hZ, hby, hml, hown, hnm, hret, hlk⟩ := K
  have h2' : R' = R := h2
  subst h2'
  subst hp
  intro T locs hT0 hH hF
  have hT : Stand p l' e R' s m args below meth c T locs ce sl := hT0
  obtain ⟨s2, o, st, r⟩ := k T locs hT hH hF
  exact ⟨s2, o, XS.istoreN (Stand.here hT) hx rfl (hb hby hd) rfl (by rw [hi]; exact okS_one ho rfl) (hL ▸ st), r⟩
theorem W.astore {n : Nat} {x : Value} {L' : List Slot} (K : Ctx X l Z R y code maxL ret) (pc' : Nat) (hd : decode code pc = .ok (.astore n, 2)) (hv : x.isRef = true) (ho : (L[n]?.map okS) = some true) (hL : L.set n (.val x) = L') (k : WP X Z rc rs Q pc' L' S os ce sl) (hp : pc + 2 = pc' := by rfl) : WP X Z rc rs Q pc L (x :: S) os ce sl := by
  obtain ⟨p, l', e, R', s, m, args, below, meth, c⟩ := X
  obtain ⟨h1, h2, hx, hZ, hby, hml, hown, hnm, hret, hlk⟩ := K
  have h2' : R' = R := h2
  subst h2'
  subst hp
  intro T locs hT0 hH hF
  have hT : Stand p l' e R' s m args below meth c T locs ce sl := hT0
  obtain ⟨s2, o, st, r⟩ := k T locs hT hH hF
  exact ⟨s2, o, XS.astore (Stand.here hT) hx rfl (hb hby hd) rfl hv (okS_one ho (XT.cat1 hv)) (hL ▸ st), r⟩
theorem W.astoreN {n : Fin 4} {x : Value} {L' : List Slot} (K : Ctx X l Z R y code maxL ret) (pc' : Nat) (hd : decode code pc = .ok (.astore_n n, 1)) (i : Nat) (hi : n.val = i) (hv : x.isRef = true) (ho : (L[i]?.map okS) = some true) (hL : L.set i (.val x) = L') (k : WP X Z rc rs Q pc' L' S os ce sl) (hp : pc + 1 = pc' := by rfl) : WP X Z rc rs Q pc L (x :: S) os ce sl := by
  obtain ⟨p, l', e, R', s, m, args, below, meth, c⟩ := X
  obtain ⟨h1, h2, hx, hZ, hby, hml, hown, hnm, hret, hlk⟩ := K
  have h2' : R' = R := h2
  subst h2'
  subst hp
  intro T locs hT0 hH hF
  have hT : Stand p l' e R' s m args below meth c T locs ce sl := hT0
  obtain ⟨s2, o, st, r⟩ := k T locs hT hH hF
  exact ⟨s2, o, XS.astoreN (Stand.here hT) hx rfl (hb hby hd) rfl hv (by rw [hi]; exact okS_one ho (XT.cat1 hv)) (hL ▸ st), r⟩
theorem W.lstore {n : Nat} {x : Int64} {L1 L' : List Slot} (K : Ctx X l Z R y code maxL ret) (pc' : Nat) (hd : decode code pc = .ok (.lstore n, 2)) (hL1 : L.set n (.val (.long x)) = L1) (hL2 : L1.set (n + 1) .second = L') (k : WP X Z rc rs Q pc' L' S os ce sl) (ho : storeLocals L.toArray n (.long x) = some L'.toArray := by rfl) (hp : pc + 2 = pc' := by rfl) : WP X Z rc rs Q pc L (.long x :: S) os ce sl := by
  obtain ⟨p, l', e, R', s, m, args, below, meth, c⟩ := X
  obtain ⟨h1, h2, hx, hZ, hby, hml, hown, hnm, hret, hlk⟩ := K
  have h2' : R' = R := h2
  subst h2'
  subst hp
  intro T locs hT0 hH hF
  have hT : Stand p l' e R' s m args below meth c T locs ce sl := hT0
  obtain ⟨s2, o, st, r⟩ := k T locs hT hH hF
  exact ⟨s2, o, XS.lstore (Stand.here hT) hx rfl (hb hby hd) rfl ho st, r⟩
theorem W.lstoreN {n : Fin 4} {x : Int64} {L1 L' : List Slot} (K : Ctx X l Z R y code maxL ret) (pc' : Nat) (hd : decode code pc = .ok (.lstore_n n, 1)) (i : Nat) (hi : n.val = i) (hL1 : L.set i (.val (.long x)) = L1) (hL2 : L1.set (i + 1) .second = L') (k : WP X Z rc rs Q pc' L' S os ce sl) (ho : storeLocals L.toArray i (.long x) = some L'.toArray := by rfl) (hp : pc + 1 = pc' := by rfl) : WP X Z rc rs Q pc L (.long x :: S) os ce sl := by
  obtain ⟨p, l', e, R', s, m, args, below, meth, c⟩ := X
  obtain ⟨h1, h2, hx, hZ, hby, hml, hown, hnm, hret, hlk⟩ := K
  have h2' : R' = R := h2
  subst h2'
  subst hp
  intro T locs hT0 hH hF
  have hT : Stand p l' e R' s m args below meth c T locs ce sl := hT0
  obtain ⟨s2, o, st, r⟩ := k T locs hT hH hF
  exact ⟨s2, o, XS.lstoreN (Stand.here hT) hx rfl (hb hby hd) rfl (by rw [hi]; exact ho) st, r⟩
theorem W.iinc {n : Nat} {i : Int} {x : Int32} {L' : List Slot} (K : Ctx X l Z R y code maxL ret) (pc' : Nat) (hd : decode code pc = .ok (.iinc n i, 3)) (v : Int32) (hv : Int32.ofInt i = v) (hl : L[n]? = some (.val (.int x))) (hL : L.set n (.val (.int (x + v))) = L') (k : WP X Z rc rs Q pc' L' S os ce sl) (hp : pc + 3 = pc' := by rfl) : WP X Z rc rs Q pc L S os ce sl := by
  obtain ⟨p, l', e, R', s, m, args, below, meth, c⟩ := X
  obtain ⟨h1, h2, hx, hZ, hby, hml, hown, hnm, hret, hlk⟩ := K
  have h2' : R' = R := h2
  subst h2'
  subst hp
  intro T locs hT0 hH hF
  have hT : Stand p l' e R' s m args below meth c T locs ce sl := hT0
  obtain ⟨s2, o, st, r⟩ := k T locs hT hH hF
  exact ⟨s2, o, XS.iinc (Stand.here hT) hx rfl (hb hby hd) (by simpa using hl) (okS_one (by rw [hl]; rfl) rfl) (by subst hv; exact hL ▸ st), r⟩
theorem W.goto {o : Int} (K : Ctx X l Z R y code maxL ret) (pc' : Nat) (hd : decode code pc = .ok (.goto o, 3)) (k : WP X Z rc rs Q pc' L S os ce sl) (hp : (pc : Int) + o = (pc' : Int) := by decide) : WP X Z rc rs Q pc L S os ce sl := by
  obtain ⟨p, l', e, R', s, m, args, below, meth, c⟩ := X
  obtain ⟨h1, h2, hx, hZ, hby, hml, hown, hnm, hret, hlk⟩ := K
  have h2' : R' = R := h2
  subst h2'
  intro T locs hT0 hH hF
  have hT : Stand p l' e R' s m args below meth c T locs ce sl := hT0
  obtain ⟨s2, o', st, r⟩ := k T locs hT hH hF
  exact ⟨s2, o', XS.goto (Stand.here hT) hx rfl (pc0 := pc) rfl (hb hby hd) (by rw [hp]; exact Int.natCast_nonneg _) (by rw [hp]; rfl) st, r⟩
theorem W.icmp {cd : ClassFile.Cond} {o : Int} {x z : Int32} {F : Prop} (ht : F → if_icmp.holds cd x z = true) (hf : ¬ F → if_icmp.holds cd x z = false) (K : Ctx X l Z R y code maxL ret) (pt pf : Nat) (hd : decode code pc = .ok (.if_icmp cd o, 3)) (kt : F → WP X Z rc rs Q pt L S os ce sl) (kf : ¬ F → WP X Z rc rs Q pf L S os ce sl)
    (hp : (pc : Int) + o = (pt : Int)) (hq : pc + 3 = pf) : WP X Z rc rs Q pc L (.int z :: .int x :: S) os ce sl := by
  obtain ⟨p, l', e, R', s, m, args, below, meth, c⟩ := X
  obtain ⟨h1, h2, hx, hZ, hby, hml, hown, hnm, hret, hlk⟩ := K
  have h2' : R' = R := h2
  subst h2'
  subst hq
  intro T locs hT0 hH hF
  have hT : Stand p l' e R' s m args below meth c T locs ce sl := hT0
  by_cases h : F
  · obtain ⟨s2, o', st, r⟩ := kt h T locs hT hH hF
    exact ⟨s2, o', XS.icmpYes (Stand.here hT) hx rfl (pc0 := pc) rfl (hb hby hd) rfl (ht h) (by rw [hp]; exact Int.natCast_nonneg _) (by rw [hp]; rfl) st, r⟩
  · obtain ⟨s2, o', st, r⟩ := kf h T locs hT hH hF
    exact ⟨s2, o', XS.icmpNo (Stand.here hT) hx rfl (hb hby hd) rfl (hf h) st, r⟩
theorem W.ifc {cd : ClassFile.Cond} {o : Int} {x : Int32} {F : Prop} (ht : F → ifCond.holds cd x = true) (hf : ¬ F → ifCond.holds cd x = false) (K : Ctx X l Z R y code maxL ret) (pt pf : Nat) (hd : decode code pc = .ok (.ifCond cd o, 3)) (kt : F → WP X Z rc rs Q pt L S os ce sl) (kf : ¬ F → WP X Z rc rs Q pf L S os ce sl)
    (hp : (pc : Int) + o = (pt : Int)) (hq : pc + 3 = pf) : WP X Z rc rs Q pc L (.int x :: S) os ce sl := by
  obtain ⟨p, l', e, R', s, m, args, below, meth, c⟩ := X
  obtain ⟨h1, h2, hx, hZ, hby, hml, hown, hnm, hret, hlk⟩ := K
  have h2' : R' = R := h2
  subst h2'
  subst hq
  intro T locs hT0 hH hF
  have hT : Stand p l' e R' s m args below meth c T locs ce sl := hT0
  by_cases h : F
  · obtain ⟨s2, o', st, r⟩ := kt h T locs hT hH hF
    exact ⟨s2, o', XS.ifYes (Stand.here hT) hx rfl (pc0 := pc) rfl (hb hby hd) rfl (ht h) (by rw [hp]; exact Int.natCast_nonneg _) (by rw [hp]; rfl) st, r⟩
  · obtain ⟨s2, o', st, r⟩ := kf h T locs hT hH hF
    exact ⟨s2, o', XS.ifNo (Stand.here hT) hx rfl (hb hby hd) rfl (hf h) st, r⟩
theorem W.lcmpc {cd : ClassFile.Cond} {o : Int} {x z : Int64} {F : Prop} (ht : F → ifCond.holds cd (lcmpW x z) = true) (hf : ¬ F → ifCond.holds cd (lcmpW x z) = false) (K : Ctx X l Z R y code maxL ret) (pc1 pt pf : Nat) (hd0 : decode code pc = .ok (.lcmp, 1)) (hd : decode code pc1 = .ok (.ifCond cd o, 3)) (kt : F → WP X Z rc rs Q pt L S os ce sl) (kf : ¬ F → WP X Z rc rs Q pf L S os ce sl)
    (h1' : pc + 1 = pc1) (hp : (pc1 : Int) + o = (pt : Int)) (hq : pc1 + 3 = pf) : WP X Z rc rs Q pc L (.long z :: .long x :: S) os ce sl := by
  have k1 : WP X Z rc rs Q pc1 L (.int (lcmpW x z) :: S) os ce sl := W.ifc ht hf K pt pf hd kt kf hp hq
  obtain ⟨p, l', e, R', s, m, args, below, meth, c⟩ := X
  obtain ⟨h1, h2, hx, hZ, hby, hml, hown, hnm, hret, hlk⟩ := K
  have h2' : R' = R := h2
  subst h2'
  subst h1'
  intro T locs hT0 hH hF
  have hT : Stand p l' e R' s m args below meth c T locs ce sl := hT0
  obtain ⟨s2, o', st, r⟩ := k1 T locs hT hH hF
  exact ⟨s2, o', XS.lcmp (Stand.here hT) hx rfl (hb hby hd0) rfl st, r⟩
theorem W.icmp_eq {o : Int} {x z : Int32} (K : Ctx X l Z R y code maxL ret) (pt pf : Nat) (hd : decode code pc = .ok (.if_icmp .eq o, 3)) (kt : x = z → WP X Z rc rs Q pt L S os ce sl) (kf : ¬ (x = z) → WP X Z rc rs Q pf L S os ce sl) (hp : (pc : Int) + o = (pt : Int) := by decide) (hq : pc + 3 = pf := by rfl) : WP X Z rc rs Q pc L (.int z :: .int x :: S) os ce sl :=
  W.icmp (F := x = z) (fun h => XT.ii_eq_t h) (fun h => XT.ii_eq_f h) K pt pf hd kt (fun h => kf h) hp hq
theorem W.if_eq {o : Int} {x : Int32} (K : Ctx X l Z R y code maxL ret) (pt pf : Nat) (hd : decode code pc = .ok (.ifCond .eq o, 3)) (kt : x = 0 → WP X Z rc rs Q pt L S os ce sl) (kf : ¬ (x = 0) → WP X Z rc rs Q pf L S os ce sl) (hp : (pc : Int) + o = (pt : Int) := by decide) (hq : pc + 3 = pf := by rfl) : WP X Z rc rs Q pc L (.int x :: S) os ce sl :=
  W.ifc (F := x = 0) (fun h => XT.i0_eq_t h) (fun h => XT.i0_eq_f h) K pt pf hd kt (fun h => kf h) hp hq
theorem W.lcmp_eq {o : Int} {x z : Int64} (K : Ctx X l Z R y code maxL ret) (pc1 pt pf : Nat) (hd0 : decode code pc = .ok (.lcmp, 1)) (hd : decode code pc1 = .ok (.ifCond .eq o, 3)) (kt : x = z → WP X Z rc rs Q pt L S os ce sl) (kf : ¬ (x = z) → WP X Z rc rs Q pf L S os ce sl) (h1' : pc + 1 = pc1 := by rfl) (hp : (pc1 : Int) + o = (pt : Int) := by decide) (hq : pc1 + 3 = pf := by rfl) : WP X Z rc rs Q pc L (.long z :: .long x :: S) os ce sl :=
  W.lcmpc (F := x = z) (fun h => XT.ll_eq_t h) (fun h => XT.ll_eq_f h) K pc1 pt pf hd0 hd kt (fun h => kf h) h1' hp hq
theorem W.icmp_ne {o : Int} {x z : Int32} (K : Ctx X l Z R y code maxL ret) (pt pf : Nat) (hd : decode code pc = .ok (.if_icmp .ne o, 3)) (kt : ¬ (x = z) → WP X Z rc rs Q pt L S os ce sl) (kf : x = z → WP X Z rc rs Q pf L S os ce sl) (hp : (pc : Int) + o = (pt : Int) := by decide) (hq : pc + 3 = pf := by rfl) : WP X Z rc rs Q pc L (.int z :: .int x :: S) os ce sl :=
  W.icmp (F := ¬ (x = z)) (fun h => XT.ii_ne_t h) (fun h => XT.ii_ne_f (Classical.not_not.mp h)) K pt pf hd kt (fun h => kf (Classical.not_not.mp h)) hp hq
theorem W.if_ne {o : Int} {x : Int32} (K : Ctx X l Z R y code maxL ret) (pt pf : Nat) (hd : decode code pc = .ok (.ifCond .ne o, 3)) (kt : ¬ (x = 0) → WP X Z rc rs Q pt L S os ce sl) (kf : x = 0 → WP X Z rc rs Q pf L S os ce sl) (hp : (pc : Int) + o = (pt : Int) := by decide) (hq : pc + 3 = pf := by rfl) : WP X Z rc rs Q pc L (.int x :: S) os ce sl :=
  W.ifc (F := ¬ (x = 0)) (fun h => XT.i0_ne_t h) (fun h => XT.i0_ne_f (Classical.not_not.mp h)) K pt pf hd kt (fun h => kf (Classical.not_not.mp h)) hp hq
theorem W.lcmp_ne {o : Int} {x z : Int64} (K : Ctx X l Z R y code maxL ret) (pc1 pt pf : Nat) (hd0 : decode code pc = .ok (.lcmp, 1)) (hd : decode code pc1 = .ok (.ifCond .ne o, 3)) (kt : ¬ (x = z) → WP X Z rc rs Q pt L S os ce sl) (kf : x = z → WP X Z rc rs Q pf L S os ce sl) (h1' : pc + 1 = pc1 := by rfl) (hp : (pc1 : Int) + o = (pt : Int) := by decide) (hq : pc1 + 3 = pf := by rfl) : WP X Z rc rs Q pc L (.long z :: .long x :: S) os ce sl :=
  W.lcmpc (F := ¬ (x = z)) (fun h => XT.ll_ne_t h) (fun h => XT.ll_ne_f (Classical.not_not.mp h)) K pc1 pt pf hd0 hd kt (fun h => kf (Classical.not_not.mp h)) h1' hp hq
theorem W.icmp_lt {o : Int} {x z : Int32} (K : Ctx X l Z R y code maxL ret) (pt pf : Nat) (hd : decode code pc = .ok (.if_icmp .lt o, 3)) (kt : x.toInt < z.toInt → WP X Z rc rs Q pt L S os ce sl) (kf : ¬ (x.toInt < z.toInt) → WP X Z rc rs Q pf L S os ce sl) (hp : (pc : Int) + o = (pt : Int) := by decide) (hq : pc + 3 = pf := by rfl) : WP X Z rc rs Q pc L (.int z :: .int x :: S) os ce sl :=
  W.icmp (F := x.toInt < z.toInt) (fun h => XT.ii_lt_t (Int32.lt_iff_toInt_lt.mpr h)) (fun h => XT.ii_lt_f (fun q => h (Int32.lt_iff_toInt_lt.mp q))) K pt pf hd kt (fun h => kf h) hp hq
theorem W.if_lt {o : Int} {x : Int32} (K : Ctx X l Z R y code maxL ret) (pt pf : Nat) (hd : decode code pc = .ok (.ifCond .lt o, 3)) (kt : x.toInt < 0 → WP X Z rc rs Q pt L S os ce sl) (kf : ¬ (x.toInt < 0) → WP X Z rc rs Q pf L S os ce sl) (hp : (pc : Int) + o = (pt : Int) := by decide) (hq : pc + 3 = pf := by rfl) : WP X Z rc rs Q pc L (.int x :: S) os ce sl :=
  W.ifc (F := x.toInt < 0) (fun h => XT.i0_lt_t (Int32.lt_iff_toInt_lt.mpr (by simpa using h))) (fun h => XT.i0_lt_f (fun q => h (by have q2 := Int32.lt_iff_toInt_lt.mp q; simpa using q2))) K pt pf hd kt (fun h => kf h) hp hq
theorem W.lcmp_lt {o : Int} {x z : Int64} (K : Ctx X l Z R y code maxL ret) (pc1 pt pf : Nat) (hd0 : decode code pc = .ok (.lcmp, 1)) (hd : decode code pc1 = .ok (.ifCond .lt o, 3)) (kt : x.toInt < z.toInt → WP X Z rc rs Q pt L S os ce sl) (kf : ¬ (x.toInt < z.toInt) → WP X Z rc rs Q pf L S os ce sl) (h1' : pc + 1 = pc1 := by rfl) (hp : (pc1 : Int) + o = (pt : Int) := by decide) (hq : pc1 + 3 = pf := by rfl) : WP X Z rc rs Q pc L (.long z :: .long x :: S) os ce sl :=
  W.lcmpc (F := x.toInt < z.toInt) (fun h => XT.ll_lt_t (Int64.lt_iff_toInt_lt.mpr h)) (fun h => XT.ll_lt_f (fun q => h (Int64.lt_iff_toInt_lt.mp q))) K pc1 pt pf hd0 hd kt (fun h => kf h) h1' hp hq
theorem W.icmp_ge {o : Int} {x z : Int32} (K : Ctx X l Z R y code maxL ret) (pt pf : Nat) (hd : decode code pc = .ok (.if_icmp .ge o, 3)) (kt : ¬ (x.toInt < z.toInt) → WP X Z rc rs Q pt L S os ce sl) (kf : x.toInt < z.toInt → WP X Z rc rs Q pf L S os ce sl) (hp : (pc : Int) + o = (pt : Int) := by decide) (hq : pc + 3 = pf := by rfl) : WP X Z rc rs Q pc L (.int z :: .int x :: S) os ce sl :=
  W.icmp (F := ¬ (x.toInt < z.toInt)) (fun h => XT.ii_ge_t (fun q => h (Int32.lt_iff_toInt_lt.mp q))) (fun h => XT.ii_ge_f (Int32.lt_iff_toInt_lt.mpr (Classical.not_not.mp h))) K pt pf hd kt (fun h => kf (Classical.not_not.mp h)) hp hq
theorem W.if_ge {o : Int} {x : Int32} (K : Ctx X l Z R y code maxL ret) (pt pf : Nat) (hd : decode code pc = .ok (.ifCond .ge o, 3)) (kt : ¬ (x.toInt < 0) → WP X Z rc rs Q pt L S os ce sl) (kf : x.toInt < 0 → WP X Z rc rs Q pf L S os ce sl) (hp : (pc : Int) + o = (pt : Int) := by decide) (hq : pc + 3 = pf := by rfl) : WP X Z rc rs Q pc L (.int x :: S) os ce sl :=
  W.ifc (F := ¬ (x.toInt < 0)) (fun h => XT.i0_ge_t (fun q => h (by have q2 := Int32.lt_iff_toInt_lt.mp q; simpa using q2))) (fun h => XT.i0_ge_f (Int32.lt_iff_toInt_lt.mpr (by simpa using (Classical.not_not.mp h)))) K pt pf hd kt (fun h => kf (Classical.not_not.mp h)) hp hq
theorem W.lcmp_ge {o : Int} {x z : Int64} (K : Ctx X l Z R y code maxL ret) (pc1 pt pf : Nat) (hd0 : decode code pc = .ok (.lcmp, 1)) (hd : decode code pc1 = .ok (.ifCond .ge o, 3)) (kt : ¬ (x.toInt < z.toInt) → WP X Z rc rs Q pt L S os ce sl) (kf : x.toInt < z.toInt → WP X Z rc rs Q pf L S os ce sl) (h1' : pc + 1 = pc1 := by rfl) (hp : (pc1 : Int) + o = (pt : Int) := by decide) (hq : pc1 + 3 = pf := by rfl) : WP X Z rc rs Q pc L (.long z :: .long x :: S) os ce sl :=
  W.lcmpc (F := ¬ (x.toInt < z.toInt)) (fun h => XT.ll_ge_t (fun q => h (Int64.lt_iff_toInt_lt.mp q))) (fun h => XT.ll_ge_f (Int64.lt_iff_toInt_lt.mpr (Classical.not_not.mp h))) K pc1 pt pf hd0 hd kt (fun h => kf (Classical.not_not.mp h)) h1' hp hq
theorem W.icmp_gt {o : Int} {x z : Int32} (K : Ctx X l Z R y code maxL ret) (pt pf : Nat) (hd : decode code pc = .ok (.if_icmp .gt o, 3)) (kt : z.toInt < x.toInt → WP X Z rc rs Q pt L S os ce sl) (kf : ¬ (z.toInt < x.toInt) → WP X Z rc rs Q pf L S os ce sl) (hp : (pc : Int) + o = (pt : Int) := by decide) (hq : pc + 3 = pf := by rfl) : WP X Z rc rs Q pc L (.int z :: .int x :: S) os ce sl :=
  W.icmp (F := z.toInt < x.toInt) (fun h => XT.ii_gt_t (Int32.lt_iff_toInt_lt.mpr h)) (fun h => XT.ii_gt_f (fun q => h (Int32.lt_iff_toInt_lt.mp q))) K pt pf hd kt (fun h => kf h) hp hq
theorem W.if_gt {o : Int} {x : Int32} (K : Ctx X l Z R y code maxL ret) (pt pf : Nat) (hd : decode code pc = .ok (.ifCond .gt o, 3)) (kt : 0 < x.toInt → WP X Z rc rs Q pt L S os ce sl) (kf : ¬ (0 < x.toInt) → WP X Z rc rs Q pf L S os ce sl) (hp : (pc : Int) + o = (pt : Int) := by decide) (hq : pc + 3 = pf := by rfl) : WP X Z rc rs Q pc L (.int x :: S) os ce sl :=
  W.ifc (F := 0 < x.toInt) (fun h => XT.i0_gt_t (Int32.lt_iff_toInt_lt.mpr (by simpa using h))) (fun h => XT.i0_gt_f (fun q => h (by have q2 := Int32.lt_iff_toInt_lt.mp q; simpa using q2))) K pt pf hd kt (fun h => kf h) hp hq
theorem W.lcmp_gt {o : Int} {x z : Int64} (K : Ctx X l Z R y code maxL ret) (pc1 pt pf : Nat) (hd0 : decode code pc = .ok (.lcmp, 1)) (hd : decode code pc1 = .ok (.ifCond .gt o, 3)) (kt : z.toInt < x.toInt → WP X Z rc rs Q pt L S os ce sl) (kf : ¬ (z.toInt < x.toInt) → WP X Z rc rs Q pf L S os ce sl) (h1' : pc + 1 = pc1 := by rfl) (hp : (pc1 : Int) + o = (pt : Int) := by decide) (hq : pc1 + 3 = pf := by rfl) : WP X Z rc rs Q pc L (.long z :: .long x :: S) os ce sl :=
  W.lcmpc (F := z.toInt < x.toInt) (fun h => XT.ll_gt_t (Int64.lt_iff_toInt_lt.mpr h)) (fun h => XT.ll_gt_f (fun q => h (Int64.lt_iff_toInt_lt.mp q))) K pc1 pt pf hd0 hd kt (fun h => kf h) h1' hp hq
theorem W.icmp_le {o : Int} {x z : Int32} (K : Ctx X l Z R y code maxL ret) (pt pf : Nat) (hd : decode code pc = .ok (.if_icmp .le o, 3)) (kt : ¬ (z.toInt < x.toInt) → WP X Z rc rs Q pt L S os ce sl) (kf : z.toInt < x.toInt → WP X Z rc rs Q pf L S os ce sl) (hp : (pc : Int) + o = (pt : Int) := by decide) (hq : pc + 3 = pf := by rfl) : WP X Z rc rs Q pc L (.int z :: .int x :: S) os ce sl :=
  W.icmp (F := ¬ (z.toInt < x.toInt)) (fun h => XT.ii_le_t (fun q => h (Int32.lt_iff_toInt_lt.mp q))) (fun h => XT.ii_le_f (Int32.lt_iff_toInt_lt.mpr (Classical.not_not.mp h))) K pt pf hd kt (fun h => kf (Classical.not_not.mp h)) hp hq
theorem W.if_le {o : Int} {x : Int32} (K : Ctx X l Z R y code maxL ret) (pt pf : Nat) (hd : decode code pc = .ok (.ifCond .le o, 3)) (kt : ¬ (0 < x.toInt) → WP X Z rc rs Q pt L S os ce sl) (kf : 0 < x.toInt → WP X Z rc rs Q pf L S os ce sl) (hp : (pc : Int) + o = (pt : Int) := by decide) (hq : pc + 3 = pf := by rfl) : WP X Z rc rs Q pc L (.int x :: S) os ce sl :=
  W.ifc (F := ¬ (0 < x.toInt)) (fun h => XT.i0_le_t (fun q => h (by have q2 := Int32.lt_iff_toInt_lt.mp q; simpa using q2))) (fun h => XT.i0_le_f (Int32.lt_iff_toInt_lt.mpr (by simpa using (Classical.not_not.mp h)))) K pt pf hd kt (fun h => kf (Classical.not_not.mp h)) hp hq
theorem W.lcmp_le {o : Int} {x z : Int64} (K : Ctx X l Z R y code maxL ret) (pc1 pt pf : Nat) (hd0 : decode code pc = .ok (.lcmp, 1)) (hd : decode code pc1 = .ok (.ifCond .le o, 3)) (kt : ¬ (z.toInt < x.toInt) → WP X Z rc rs Q pt L S os ce sl) (kf : z.toInt < x.toInt → WP X Z rc rs Q pf L S os ce sl) (h1' : pc + 1 = pc1 := by rfl) (hp : (pc1 : Int) + o = (pt : Int) := by decide) (hq : pc1 + 3 = pf := by rfl) : WP X Z rc rs Q pc L (.long z :: .long x :: S) os ce sl :=
  W.lcmpc (F := ¬ (z.toInt < x.toInt)) (fun h => XT.ll_le_t (fun q => h (Int64.lt_iff_toInt_lt.mp q))) (fun h => XT.ll_le_f (Int64.lt_iff_toInt_lt.mpr (Classical.not_not.mp h))) K pc1 pt pf hd0 hd kt (fun h => kf (Classical.not_not.mp h)) h1' hp hq
theorem W.ifnullY {o : Int} (K : Ctx X l Z R y code maxL ret) (pt : Nat) (hd : decode code pc = .ok (.ifnull o, 3)) (k : WP X Z rc rs Q pt L S os ce sl) (hp : (pc : Int) + o = (pt : Int) := by decide) : WP X Z rc rs Q pc L (.null :: S) os ce sl := by
  obtain ⟨p, l', e, R', s, m, args, below, meth, c⟩ := X
  obtain ⟨h1, h2, hx, hZ, hby, hml, hown, hnm, hret, hlk⟩ := K
  have h2' : R' = R := h2
  subst h2'
  intro T locs hT0 hH hF
  have hT : Stand p l' e R' s m args below meth c T locs ce sl := hT0
  obtain ⟨s2, o', st, r⟩ := k T locs hT hH hF
  exact ⟨s2, o', XS.ifnullYes (Stand.here hT) hx rfl (pc0 := pc) rfl (hb hby hd) rfl (by rw [hp]; exact Int.natCast_nonneg _) (by rw [hp]; rfl) st, r⟩
theorem W.ifnonnullY {o : Int} {a : Addr} (K : Ctx X l Z R y code maxL ret) (pt : Nat) (hd : decode code pc = .ok (.ifnonnull o, 3)) (k : WP X Z rc rs Q pt L S os ce sl) (hp : (pc : Int) + o = (pt : Int) := by decide) : WP X Z rc rs Q pc L (.ref a :: S) os ce sl := by
  obtain ⟨p, l', e, R', s, m, args, below, meth, c⟩ := X
  obtain ⟨h1, h2, hx, hZ, hby, hml, hown, hnm, hret, hlk⟩ := K
  have h2' : R' = R := h2
  subst h2'
  intro T locs hT0 hH hF
  have hT : Stand p l' e R' s m args below meth c T locs ce sl := hT0
  obtain ⟨s2, o', st, r⟩ := k T locs hT hH hF
  exact ⟨s2, o', XT.nonnullYes (Stand.here hT) hx rfl (pc0 := pc) rfl (hb hby hd) rfl rfl (by simp) (by rw [hp]; exact Int.natCast_nonneg _) (by rw [hp]; rfl) st, r⟩
theorem W.ifnullN {o : Int} {a : Addr} (K : Ctx X l Z R y code maxL ret) (pc' : Nat) (hd : decode code pc = .ok (.ifnull o, 3)) (k : WP X Z rc rs Q pc' L S os ce sl) (hp : pc + 3 = pc' := by rfl) : WP X Z rc rs Q pc L (.ref a :: S) os ce sl := by
  obtain ⟨p, l', e, R', s, m, args, below, meth, c⟩ := X
  obtain ⟨h1, h2, hx, hZ, hby, hml, hown, hnm, hret, hlk⟩ := K
  have h2' : R' = R := h2
  subst h2'
  subst hp
  intro T locs hT0 hH hF
  have hT : Stand p l' e R' s m args below meth c T locs ce sl := hT0
  obtain ⟨s2, o, st, r⟩ := k T locs hT hH hF
  exact ⟨s2, o, XS.ifnullNo (Stand.here hT) hx rfl (hb hby hd) rfl st, r⟩
theorem W.ifnonnullN {o : Int} (K : Ctx X l Z R y code maxL ret) (pc' : Nat) (hd : decode code pc = .ok (.ifnonnull o, 3)) (k : WP X Z rc rs Q pc' L S os ce sl) (hp : pc + 3 = pc' := by rfl) : WP X Z rc rs Q pc L (.null :: S) os ce sl := by
  obtain ⟨p, l', e, R', s, m, args, below, meth, c⟩ := X
  obtain ⟨h1, h2, hx, hZ, hby, hml, hown, hnm, hret, hlk⟩ := K
  have h2' : R' = R := h2
  subst h2'
  subst hp
  intro T locs hT0 hH hF
  have hT : Stand p l' e R' s m args below meth c T locs ce sl := hT0
  obtain ⟨s2, o, st, r⟩ := k T locs hT hH hF
  exact ⟨s2, o, XT.nonnullNo (Stand.here hT) hx rfl (hb hby hd) rfl rfl st, r⟩
theorem W.acmp_eq {o : Int} {x z : Value} (K : Ctx X l Z R y code maxL ret) (pt pf : Nat) (hd : decode code pc = .ok (.if_acmp .eq o, 3)) (kt : x = z → WP X Z rc rs Q pt L S os ce sl) (kf : ¬ x = z → WP X Z rc rs Q pf L S os ce sl) (hr1 : x.isRef = true := by rfl) (hr2 : z.isRef = true := by rfl) (hp : (pc : Int) + o = (pt : Int) := by decide) (hq : pc + 3 = pf := by rfl) : WP X Z rc rs Q pc L (z :: x :: S) os ce sl := by
  obtain ⟨p, l', e, R', s, m, args, below, meth, c⟩ := X
  obtain ⟨h1, h2, hx, hZ, hby, hml, hown, hnm, hret, hlk⟩ := K
  have h2' : R' = R := h2
  subst h2'
  subst hq
  intro T locs hT0 hH hF
  have hT : Stand p l' e R' s m args below meth c T locs ce sl := hT0
  by_cases h : x = z
  · obtain ⟨s2, o', st, r⟩ := kt h T locs hT hH hF
    exact ⟨s2, o', XT.acmpYes (Stand.here hT) hx rfl (pc0 := pc) rfl (hb hby hd) rfl hr1 hr2 (XT.aa_eq_t h) (by rw [hp]; exact Int.natCast_nonneg _) (by rw [hp]; rfl) st, r⟩
  · obtain ⟨s2, o', st, r⟩ := kf h T locs hT hH hF
    exact ⟨s2, o', XT.acmpNo (Stand.here hT) hx rfl (hb hby hd) rfl hr1 hr2 (XT.aa_eq_f h) st, r⟩
theorem W.acmp_ne {o : Int} {x z : Value} (K : Ctx X l Z R y code maxL ret) (pt pf : Nat) (hd : decode code pc = .ok (.if_acmp .ne o, 3)) (kt : ¬ x = z → WP X Z rc rs Q pt L S os ce sl) (kf : x = z → WP X Z rc rs Q pf L S os ce sl) (hr1 : x.isRef = true := by rfl) (hr2 : z.isRef = true := by rfl) (hp : (pc : Int) + o = (pt : Int) := by decide) (hq : pc + 3 = pf := by rfl) : WP X Z rc rs Q pc L (z :: x :: S) os ce sl := by
  obtain ⟨p, l', e, R', s, m, args, below, meth, c⟩ := X
  obtain ⟨h1, h2, hx, hZ, hby, hml, hown, hnm, hret, hlk⟩ := K
  have h2' : R' = R := h2
  subst h2'
  subst hq
  intro T locs hT0 hH hF
  have hT : Stand p l' e R' s m args below meth c T locs ce sl := hT0
  by_cases h : x = z
  · obtain ⟨s2, o', st, r⟩ := kf h T locs hT hH hF
    exact ⟨s2, o', XT.acmpNo (Stand.here hT) hx rfl (hb hby hd) rfl hr1 hr2 (XT.aa_ne_f h) st, r⟩
  · obtain ⟨s2, o', st, r⟩ := kt h T locs hT hH hF
    exact ⟨s2, o', XT.acmpYes (Stand.here hT) hx rfl (pc0 := pc) rfl (hb hby hd) rfl hr1 hr2 (XT.aa_ne_t h) (by rw [hp]; exact Int.natCast_nonneg _) (by rw [hp]; rfl) st, r⟩
theorem W.bool {A B : Prop} [Decidable A] {o : Int} {i1 i0 : Int} {pt pf pg : Nat} {S0 : List Value} (pj : Nat) (v1 v0 : Int32) (K : Ctx X l Z R y code maxL ret) (br : (A → WP X Z rc rs Q pt L S os ce sl) → (B → WP X Z rc rs Q pf L S os ce sl) → WP X Z rc rs Q pc L S0 os ce sl)
    (d1 : decode code pf = .ok (.iconst i1, 1)) (d2 : decode code pg = .ok (.goto o, 3)) (d3 : decode code pt = .ok (.iconst i0, 1)) (k : WP X Z rc rs Q pj L (.int (if A then v0 else v1) :: S) os ce sl)
    (hAB : B → ¬ A := by first | exact id | exact fun h h' => h' h) (e1 : Int32.ofInt i1 = v1 := by rfl) (e0 : Int32.ofInt i0 = v0 := by rfl) (q1 : pf + 1 = pg := by rfl) (q2 : (pg : Int) + o = (pj : Int) := by decide) (q3 : pt + 1 = pj := by rfl) : WP X Z rc rs Q pc L S0 os ce sl := by
  refine br (fun h => ?_) (fun h => ?_)
  · refine W.iconst K pj d3 v0 e0 ?_ q3
    rw [if_pos h] at k; exact k
  · refine W.iconst K pg d1 v1 e1 ?_ q1
    refine W.goto K pj d2 ?_ q2
    rw [if_neg (hAB h)] at k; exact k
theorem W.sel {A B : Prop} [Decidable A] {pt pf : Nat} {S0 : List Value} {vt vf : Value} (pj : Nat) (br : (A → WP X Z rc rs Q pt L S os ce sl) → (B → WP X Z rc rs Q pf L S os ce sl) → WP X Z rc rs Q pc L S0 os ce sl)
    (kt : WP X Z rc rs Q pj L (vt :: S) os ce sl → WP X Z rc rs Q pt L S os ce sl) (kf : WP X Z rc rs Q pj L (vf :: S) os ce sl → WP X Z rc rs Q pf L S os ce sl) (k : WP X Z rc rs Q pj L ((if A then vt else vf) :: S) os ce sl) (hAB : B → ¬ A := by first | exact id | exact fun h h' => h' h) : WP X Z rc rs Q pc L S0 os ce sl :=
  br (fun h => kt (by rw [if_pos h] at k; exact k)) (fun h => kf (by rw [if_neg (hAB h)] at k; exact k))
theorem W.selI {A B : Prop} [Decidable A] {pt pf : Nat} {S0 : List Value} {vt vf : Int32} (pj : Nat) (br : (A → WP X Z rc rs Q pt L S os ce sl) → (B → WP X Z rc rs Q pf L S os ce sl) → WP X Z rc rs Q pc L S0 os ce sl)
    (kt : WP X Z rc rs Q pj L (.int vt :: S) os ce sl → WP X Z rc rs Q pt L S os ce sl) (kf : WP X Z rc rs Q pj L (.int vf :: S) os ce sl → WP X Z rc rs Q pf L S os ce sl) (k : WP X Z rc rs Q pj L (.int (if A then vt else vf) :: S) os ce sl) (hAB : B → ¬ A := by first | exact id | exact fun h h' => h' h) : WP X Z rc rs Q pc L S0 os ce sl :=
  br (fun h => kt (by rw [if_pos h] at k; exact k)) (fun h => kf (by rw [if_neg (hAB h)] at k; exact k))
theorem W.selL {A B : Prop} [Decidable A] {pt pf : Nat} {S0 : List Value} {vt vf : Int64} (pj : Nat) (br : (A → WP X Z rc rs Q pt L S os ce sl) → (B → WP X Z rc rs Q pf L S os ce sl) → WP X Z rc rs Q pc L S0 os ce sl)
    (kt : WP X Z rc rs Q pj L (.long vt :: S) os ce sl → WP X Z rc rs Q pt L S os ce sl) (kf : WP X Z rc rs Q pj L (.long vf :: S) os ce sl → WP X Z rc rs Q pf L S os ce sl) (k : WP X Z rc rs Q pj L (.long (if A then vt else vf) :: S) os ce sl) (hAB : B → ¬ A := by first | exact id | exact fun h h' => h' h) : WP X Z rc rs Q pc L S0 os ce sl :=
  br (fun h => kt (by rw [if_pos h] at k; exact k)) (fun h => kf (by rw [if_neg (hAB h)] at k; exact k))
theorem W.joinI {F : Prop} [Decidable F] {S0 : List Value} (pj : Nat) (tree : (F → WP X Z rc rs Q pj L (.int 1 :: S) os ce sl) → (¬ F → WP X Z rc rs Q pj L (.int 0 :: S) os ce sl) → WP X Z rc rs Q pc L S0 os ce sl) (k : WP X Z rc rs Q pj L (.int (if F then 1 else 0) :: S) os ce sl) : WP X Z rc rs Q pc L S0 os ce sl :=
  tree (fun h => by rw [if_pos h] at k; exact k) (fun h => by rw [if_neg h] at k; exact k)
theorem W.cutI {G : Int32 → Prop} {S0 : List Value} (pj n : Nat) (tree : (∀ v, G v → WP X Z rc rs Q pj (L.set n (.val (.int v))) S os ce sl) → WP X Z rc rs Q pc L S0 os ce sl) (k : ∀ v, G v → WP X Z rc rs Q pj (L.set n (.val (.int v))) S os ce sl) : WP X Z rc rs Q pc L S0 os ce sl := tree k
theorem W.cutV {G : Value → Prop} {S0 : List Value} (pj n : Nat) (tree : (∀ v, G v → WP X Z rc rs Q pj (L.set n (.val v)) S os ce sl) → WP X Z rc rs Q pc L S0 os ce sl) (k : ∀ v, G v → WP X Z rc rs Q pj (L.set n (.val v)) S os ce sl) : WP X Z rc rs Q pc L S0 os ce sl := tree k
theorem W.cutO {G : OS → Prop} {S0 : List Value} (pj : Nat) (tree : (∀ os', G os' → WP X Z rc rs Q pj L S os' ce sl) → WP X Z rc rs Q pc L S0 os ce sl) (k : ∀ os', G os' → WP X Z rc rs Q pj L S os' ce sl) : WP X Z rc rs Q pc L S0 os ce sl := tree k
theorem W.cutIO {G : Int32 → OS → Prop} {S0 : List Value} (pj n : Nat) (tree : (∀ v os', G v os' → WP X Z rc rs Q pj (L.set n (.val (.int v))) S os' ce sl) → WP X Z rc rs Q pc L S0 os ce sl) (k : ∀ v os', G v os' → WP X Z rc rs Q pj (L.set n (.val (.int v))) S os' ce sl) : WP X Z rc rs Q pc L S0 os ce sl := tree k
theorem W.cutL {G : List Slot → Prop} {S0 : List Value} (pj : Nat) (tree : (∀ L', G L' → WP X Z rc rs Q pj L' S os ce sl) → WP X Z rc rs Q pc L S0 os ce sl) (k : ∀ L', G L' → WP X Z rc rs Q pj L' S os ce sl) : WP X Z rc rs Q pc L S0 os ce sl := tree k
theorem W.cutLO {G : List Slot → OS → Prop} {S0 : List Value} (pj : Nat) (tree : (∀ L' os', G L' os' → WP X Z rc rs Q pj L' S os' ce sl) → WP X Z rc rs Q pc L S0 os ce sl) (k : ∀ L' os', G L' os' → WP X Z rc rs Q pj L' S os' ce sl) : WP X Z rc rs Q pc L S0 os ce sl := tree k
theorem W.cut0 {S0 : List Value} (pj : Nat) (tree : WP X Z rc rs Q pj L S os ce sl → WP X Z rc rs Q pc L S0 os ce sl) (k : WP X Z rc rs Q pj L S os ce sl) : WP X Z rc rs Q pc L S0 os ce sl := tree k
theorem W.cutS {G : Value → Prop} {S0 : List Value} (pj : Nat) (tree : (∀ v, G v → WP X Z rc rs Q pj L (v :: S) os ce sl) → WP X Z rc rs Q pc L S0 os ce sl) (k : ∀ v, G v → WP X Z rc rs Q pj L (v :: S) os ce sl) : WP X Z rc rs Q pc L S0 os ce sl := tree k
theorem W.ldcI {idx : Nat} {v : Int32} (K : Ctx X l Z R y code maxL ret) (pc' : Nat) (hd : decode code pc = .ok (.ldc idx, 2)) (w : (Jvm.Cond.constant y.cls idx v).before a0 Z = true) (k : WP X Z rc rs Q pc' L (.int v :: S) os ce sl) (hp : pc + 2 = pc' := by rfl) : WP X Z rc rs Q pc L S os ce sl := by
  obtain ⟨p, l', e, R', s, m, args, below, meth, c⟩ := X
  obtain ⟨h1, h2, hx, hZ, hby, hml, hown, hnm, hret, hlk⟩ := K
  have h2' : R' = R := h2
  subst h2'
  subst hp
  intro T locs hT0 hH hF
  have hT : Stand p l' e R' s m args below meth c T locs ce sl := hT0
  obtain ⟨s2, o, st, r⟩ := k T locs hT hH hF
  exact ⟨s2, o, Stand.ldcInt hT hx hown (mvT hZ w) (g := mkF m pc L.toArray S) rfl (hb hby hd) _ st, r⟩
theorem W.ldc2 {idx : Nat} {v : Int64} (K : Ctx X l Z R y code maxL ret) (pc' : Nat) (hd : decode code pc = .ok (.ldc2_w idx, 3)) (w : (Jvm.Cond.constantLong y.cls idx v).before a0 Z = true) (k : WP X Z rc rs Q pc' L (.long v :: S) os ce sl) (hp : pc + 3 = pc' := by rfl) : WP X Z rc rs Q pc L S os ce sl := by
  obtain ⟨p, l', e, R', s, m, args, below, meth, c⟩ := X
  obtain ⟨h1, h2, hx, hZ, hby, hml, hown, hnm, hret, hlk⟩ := K
  have h2' : R' = R := h2
  subst h2'
  subst hp
  intro T locs hT0 hH hF
  have hT : Stand p l' e R' s m args below meth c T locs ce sl := hT0
  obtain ⟨s2, o, st, r⟩ := k T locs hT hH hF
  exact ⟨s2, o, Stand.ldc2Long hT hx hown (mvT hZ w) (g := mkF m pc L.toArray S) rfl (hb hby hd) _ st, r⟩
theorem idx_ok {vs : List Value} {c : Cell} {j : Int32} {k : Nat} {v : Value} (hs : c.slots = vs.toArray) (hj : j.toInt = (k : Int)) (hv : vs[k]? = some v) : ¬ (j < 0 ∨ c.slots.size ≤ j.toNatClampNeg) ∧ j.toNatClampNeg = k ∧ c.slots[j.toNatClampNeg]? = some v := by
  have e : j.toNatClampNeg = k := by show j.toInt.toNat = k; rw [hj]; rfl
  have hk := (List.getElem?_eq_some_iff.mp hv).1
  refine ⟨?_, e, by rw [e, hs]; simpa using hv⟩
  rw [Int32.lt_iff_toInt_lt, e, hs]
  simp only [List.size_toArray]
  intro q
  rcases q with q | q
  · rw [hj] at q
    exact absurd q (Int.not_lt.mpr (Int.natCast_nonneg k))
  · omega
theorem W.iaload {a : Addr} {vs : List Value} {j : Int32} {v : Value} (i : Nat) (K : Ctx X l Z R y code maxL ret) (pc' : Nat) (hd : decode code pc = .ok (.iaload, 1)) (hm : (a, ARR Z .int vs) ∈ os) (hj : j.toInt = (i : Int)) (hv : vs[i]? = some v) (k : WP X Z rc rs Q pc' L (v :: S) os ce sl) (hp : pc + 1 = pc' := by rfl) : WP X Z rc rs Q pc L (.int j :: .ref a :: S) os ce sl := by
  obtain ⟨p, l', e, R', s, m, args, below, meth, c⟩ := X
  obtain ⟨h1, h2, hx, hZ, hby, hml, hown, hnm, hret, hlk⟩ := K
  have h2' : R' = R := h2
  subst h2'
  subst hp
  intro T locs hT0 hH hF
  have hT : Stand p l' e R' s m args below meth c T locs ce sl := hT0
  obtain ⟨s2, o, st, r⟩ := k T locs hT hH hF
  obtain ⟨-, cl, hcl, q1, q2, q3, q4, q5⟩ := hH.get hm
  obtain ⟨e1, e2, e3⟩ := idx_ok q3 hj hv
  exact ⟨s2, o, Stand.iaload hT hx hcl (State.isArrayOf_alike hZ.alike q1) q2 e1 e3 (g := mkF m pc L.toArray (.int j :: .ref a :: S)) rfl rfl (hb hby hd) _ st, r⟩
theorem W.laload {a : Addr} {vs : List Value} {j : Int32} {v : Value} (i : Nat) (K : Ctx X l Z R y code maxL ret) (pc' : Nat) (hd : decode code pc = .ok (.laload, 1)) (hm : (a, ARR Z .long vs) ∈ os) (hj : j.toInt = (i : Int)) (hv : vs[i]? = some v) (k : WP X Z rc rs Q pc' L (v :: S) os ce sl) (hp : pc + 1 = pc' := by rfl) : WP X Z rc rs Q pc L (.int j :: .ref a :: S) os ce sl := by
  obtain ⟨p, l', e, R', s, m, args, below, meth, c⟩ := X
  obtain ⟨h1, h2, hx, hZ, hby, hml, hown, hnm, hret, hlk⟩ := K
  have h2' : R' = R := h2
  subst h2'
  subst hp
  intro T locs hT0 hH hF
  have hT : Stand p l' e R' s m args below meth c T locs ce sl := hT0
  obtain ⟨s2, o, st, r⟩ := k T locs hT hH hF
  obtain ⟨-, cl, hcl, q1, q2, q3, q4, q5⟩ := hH.get hm
  obtain ⟨e1, e2, e3⟩ := idx_ok q3 hj hv
  exact ⟨s2, o, Stand.laload hT hx hcl (State.isArrayOf_alike hZ.alike q1) q2 e1 e3 (g := mkF m pc L.toArray (.int j :: .ref a :: S)) rfl rfl (hb hby hd) _ st, r⟩
theorem W.caload {a : Addr} {vs : List Value} {j : Int32} {v : Value} (i : Nat) (K : Ctx X l Z R y code maxL ret) (pc' : Nat) (hd : decode code pc = .ok (.caload, 1)) (hm : (a, ARR Z .char vs) ∈ os) (hj : j.toInt = (i : Int)) (hv : vs[i]? = some v) (k : WP X Z rc rs Q pc' L (v :: S) os ce sl) (hp : pc + 1 = pc' := by rfl) : WP X Z rc rs Q pc L (.int j :: .ref a :: S) os ce sl := by
  obtain ⟨p, l', e, R', s, m, args, below, meth, c⟩ := X
  obtain ⟨h1, h2, hx, hZ, hby, hml, hown, hnm, hret, hlk⟩ := K
  have h2' : R' = R := h2
  subst h2'
  subst hp
  intro T locs hT0 hH hF
  have hT : Stand p l' e R' s m args below meth c T locs ce sl := hT0
  obtain ⟨s2, o, st, r⟩ := k T locs hT hH hF
  obtain ⟨-, cl, hcl, q1, q2, q3, q4, q5⟩ := hH.get hm
  obtain ⟨e1, e2, e3⟩ := idx_ok q3 hj hv
  exact ⟨s2, o, Stand.caload hT hx hcl (State.isArrayOf_alike hZ.alike q1) q2 e1 e3 (g := mkF m pc L.toArray (.int j :: .ref a :: S)) rfl rfl (hb hby hd) _ st, r⟩
theorem W.baload {a : Addr} {vs : List Value} {j : Int32} {v : Value} (i : Nat) (K : Ctx X l Z R y code maxL ret) (pc' : Nat) (hd : decode code pc = .ok (.baload, 1)) (hm : (a, ARR Z .byte vs) ∈ os) (hj : j.toInt = (i : Int)) (hv : vs[i]? = some v) (k : WP X Z rc rs Q pc' L (v :: S) os ce sl) (hp : pc + 1 = pc' := by rfl) : WP X Z rc rs Q pc L (.int j :: .ref a :: S) os ce sl := by
  obtain ⟨p, l', e, R', s, m, args, below, meth, c⟩ := X
  obtain ⟨h1, h2, hx, hZ, hby, hml, hown, hnm, hret, hlk⟩ := K
  have h2' : R' = R := h2
  subst h2'
  subst hp
  intro T locs hT0 hH hF
  have hT : Stand p l' e R' s m args below meth c T locs ce sl := hT0
  obtain ⟨s2, o, st, r⟩ := k T locs hT hH hF
  obtain ⟨-, cl, hcl, q1, q2, q3, q4, q5⟩ := hH.get hm
  obtain ⟨e1, e2, e3⟩ := idx_ok q3 hj hv
  exact ⟨s2, o, Stand.baloadBytes hT hx hcl (State.isArrayOf_alike hZ.alike q1) q2 e1 e3 (g := mkF m pc L.toArray (.int j :: .ref a :: S)) rfl rfl (hb hby hd) _ st, r⟩
theorem W.aaload {a : Addr} {vs : List Value} {j : Int32} {v : Value} {ty : FieldType} (i : Nat) (K : Ctx X l Z R y code maxL ret) (pc' : Nat) (hd : decode code pc = .ok (.aaload, 1)) (hm : (a, ARR Z ty vs) ∈ os) (hj : j.toInt = (i : Int)) (hv : vs[i]? = some v) (hty : ty.isReference = true) (k : WP X Z rc rs Q pc' L (v :: S) os ce sl) (hp : pc + 1 = pc' := by rfl) : WP X Z rc rs Q pc L (.int j :: .ref a :: S) os ce sl := by
  obtain ⟨p, l', e, R', s, m, args, below, meth, c⟩ := X
  obtain ⟨h1, h2, hx, hZ, hby, hml, hown, hnm, hret, hlk⟩ := K
  have h2' : R' = R := h2
  subst h2'
  subst hp
  intro T locs hT0 hH hF
  have hT : Stand p l' e R' s m args below meth c T locs ce sl := hT0
  obtain ⟨s2, o, st, r⟩ := k T locs hT hH hF
  obtain ⟨-, cl, hcl, q1, q2, q3, q4, q5⟩ := hH.get hm
  obtain ⟨e1, e2, e3⟩ := idx_ok q3 hj hv
  exact ⟨s2, o, Stand.aaload hT hx hcl (State.isArrayOf_alike hZ.alike q1) hty q2 e1 e3 (g := mkF m pc L.toArray (.int j :: .ref a :: S)) rfl rfl (hb hby hd) _ st, r⟩
theorem W.arraylength {a : Addr} {vs : List Value} {ty : FieldType} (z : Int32) (K : Ctx X l Z R y code maxL ret) (pc' : Nat) (hd : decode code pc = .ok (.arraylength, 1)) (hm : (a, ARR Z ty vs) ∈ os) (hz : vs.length.toInt32 = z) (k : WP X Z rc rs Q pc' L (.int z :: S) os ce sl) (hp : pc + 1 = pc' := by rfl) : WP X Z rc rs Q pc L (.ref a :: S) os ce sl := by
  obtain ⟨p, l', e, R', s, m, args, below, meth, c⟩ := X
  obtain ⟨h1, h2, hx, hZ, hby, hml, hown, hnm, hret, hlk⟩ := K
  have h2' : R' = R := h2
  subst h2'
  subst hp
  intro T locs hT0 hH hF
  have hT : Stand p l' e R' s m args below meth c T locs ce sl := hT0
  obtain ⟨s2, o, st, r⟩ := k T locs hT hH hF
  obtain ⟨-, cl, hcl, q1, q2, q3, q4, q5⟩ := hH.get hm
  have e : cl.slots.size.toInt32 = z := by rw [q3]; simpa using hz
  rw [← e] at st
  exact ⟨s2, o, Stand.arraylength hT hx hcl (State.isArrayOf_alike hZ.alike q1) (g := mkF m pc L.toArray (.ref a :: S)) rfl rfl (hb hby hd) _ st, r⟩
theorem W.iastore {a : Addr} {vs : List Value} {j : Int32} {x : Int32} {w : Value} (i : Nat) (K : Ctx X l Z R y code maxL ret) (pc' : Nat) (hd : decode code pc = .ok (.iastore, 1)) (hm : Upd os a (ARR Z .int vs) (ARR Z .int (vs.set i (.int x))) os') (hj : j.toInt = (i : Int)) (hv : vs[i]? = some w) (k : WP X Z rc rs Q pc' L S os' ce sl) (hp : pc + 1 = pc' := by rfl) : WP X Z rc rs Q pc L (.int x :: .int j :: .ref a :: S) os ce sl := by
  obtain ⟨p, l', e, R', s, m, args, below, meth, c⟩ := X
  obtain ⟨h1, h2, hx, hZ, hby, hml, hown, hnm, hret, hlk⟩ := K
  have h2' : R' = R := h2
  subst h2'
  subst hp
  intro T locs hT0 hH hF
  have hT : Stand p l' e R' s m args below meth c T locs ce sl := hT0
  obtain ⟨ii, hm, rfl⟩ := hm
  obtain ⟨ha, cl, hcl, q1, q2, q3, q4, q5⟩ := hH.2.2 ii _ hm
  obtain ⟨e1, e2, e3⟩ := idx_ok q3 hj hv
  obtain ⟨T', h', X', e', W', st'⟩ := RoadKit.stI hT hx hZ rfl ⟨hcl, q1, q2⟩ (x := x) e1 (g := mkF m pc L.toArray (.int x :: .int j :: .ref a :: S)) rfl rfl (hb hby hd)
  rw [e2] at W'
  obtain ⟨s2, o, st, r⟩ := k T' _ X' (by rw [e']; exact hH.upd hm W' (fun c c' g1 g2 g3 g4 => by rw [g4]; exact ARR.put g2 (rfl))) (Fr.snoc X' hF ha)
  exact ⟨s2, o, st' _ st, r⟩
theorem W.lastore {a : Addr} {vs : List Value} {j : Int32} {x : Int64} {w : Value} (i : Nat) (K : Ctx X l Z R y code maxL ret) (pc' : Nat) (hd : decode code pc = .ok (.lastore, 1)) (hm : Upd os a (ARR Z .long vs) (ARR Z .long (vs.set i (.long x))) os') (hj : j.toInt = (i : Int)) (hv : vs[i]? = some w) (k : WP X Z rc rs Q pc' L S os' ce sl) (hp : pc + 1 = pc' := by rfl) : WP X Z rc rs Q pc L (.long x :: .int j :: .ref a :: S) os ce sl := by
  obtain ⟨p, l', e, R', s, m, args, below, meth, c⟩ := X
  obtain ⟨h1, h2, hx, hZ, hby, hml, hown, hnm, hret, hlk⟩ := K
  have h2' : R' = R := h2
  subst h2'
  subst hp
  intro T locs hT0 hH hF
  have hT : Stand p l' e R' s m args below meth c T locs ce sl := hT0
  obtain ⟨ii, hm, rfl⟩ := hm
  obtain ⟨ha, cl, hcl, q1, q2, q3, q4, q5⟩ := hH.2.2 ii _ hm
  obtain ⟨e1, e2, e3⟩ := idx_ok q3 hj hv
  obtain ⟨T', h', X', e', W', st'⟩ := RoadKit.stJ hT hx hZ rfl ⟨hcl, q1, q2⟩ (x := x) e1 (g := mkF m pc L.toArray (.long x :: .int j :: .ref a :: S)) rfl rfl (hb hby hd)
  rw [e2] at W'
  obtain ⟨s2, o, st, r⟩ := k T' _ X' (by rw [e']; exact hH.upd hm W' (fun c c' g1 g2 g3 g4 => by rw [g4]; exact ARR.put g2 (rfl))) (Fr.snoc X' hF ha)
  exact ⟨s2, o, st' _ st, r⟩
theorem W.bastore {a : Addr} {vs : List Value} {j : Int32} {x : Int32} {w : Value} (i : Nat) (K : Ctx X l Z R y code maxL ret) (pc' : Nat) (hd : decode code pc = .ok (.bastore, 1)) (hm : Upd os a (ARR Z .byte vs) (ARR Z .byte (vs.set i (.int x.toInt8.toInt32))) os') (hj : j.toInt = (i : Int)) (hv : vs[i]? = some w) (k : WP X Z rc rs Q pc' L S os' ce sl) (hp : pc + 1 = pc' := by rfl) : WP X Z rc rs Q pc L (.int x :: .int j :: .ref a :: S) os ce sl := by
  obtain ⟨p, l', e, R', s, m, args, below, meth, c⟩ := X
  obtain ⟨h1, h2, hx, hZ, hby, hml, hown, hnm, hret, hlk⟩ := K
  have h2' : R' = R := h2
  subst h2'
  subst hp
  intro T locs hT0 hH hF
  have hT : Stand p l' e R' s m args below meth c T locs ce sl := hT0
  obtain ⟨ii, hm, rfl⟩ := hm
  obtain ⟨ha, cl, hcl, q1, q2, q3, q4, q5⟩ := hH.2.2 ii _ hm
  obtain ⟨e1, e2, e3⟩ := idx_ok q3 hj hv
  obtain ⟨T', h', X', e', W', st'⟩ := RoadKit.stB hT hx hZ rfl ⟨hcl, q1, q2⟩ (x := x) e1 (g := mkF m pc L.toArray (.int x :: .int j :: .ref a :: S)) rfl rfl (hb hby hd)
  rw [e2] at W'
  obtain ⟨s2, o, st, r⟩ := k T' _ X' (by rw [e']; exact hH.upd hm W' (fun c c' g1 g2 g3 g4 => by rw [g4]; exact ARR.put g2 (fits_nar_byte x))) (Fr.snoc X' hF ha)
  exact ⟨s2, o, st' _ st, r⟩
theorem W.castore {a : Addr} {vs : List Value} {j : Int32} {x : Int32} {w : Value} (i : Nat) (K : Ctx X l Z R y code maxL ret) (pc' : Nat) (hd : decode code pc = .ok (.castore, 1)) (hm : Upd os a (ARR Z .char vs) (ARR Z .char (vs.set i (.int x.toUInt32.toUInt16.toUInt32.toInt32))) os') (hj : j.toInt = (i : Int)) (hv : vs[i]? = some w) (k : WP X Z rc rs Q pc' L S os' ce sl) (hp : pc + 1 = pc' := by rfl) : WP X Z rc rs Q pc L (.int x :: .int j :: .ref a :: S) os ce sl := by
  obtain ⟨p, l', e, R', s, m, args, below, meth, c⟩ := X
  obtain ⟨h1, h2, hx, hZ, hby, hml, hown, hnm, hret, hlk⟩ := K
  have h2' : R' = R := h2
  subst h2'
  subst hp
  intro T locs hT0 hH hF
  have hT : Stand p l' e R' s m args below meth c T locs ce sl := hT0
  obtain ⟨ii, hm, rfl⟩ := hm
  obtain ⟨ha, cl, hcl, q1, q2, q3, q4, q5⟩ := hH.2.2 ii _ hm
  obtain ⟨e1, e2, e3⟩ := idx_ok q3 hj hv
  obtain ⟨T', h', X', e', W', st'⟩ := RoadKit.stC hT hx hZ rfl ⟨hcl, q1, q2⟩ (x := x) e1 (g := mkF m pc L.toArray (.int x :: .int j :: .ref a :: S)) rfl rfl (hb hby hd)
  rw [e2] at W'
  obtain ⟨s2, o, st, r⟩ := k T' _ X' (by rw [e']; exact hH.upd hm W' (fun c c' g1 g2 g3 g4 => by rw [g4]; exact ARR.put g2 (fits_nar_char x))) (Fr.snoc X' hF ha)
  exact ⟨s2, o, st' _ st, r⟩
theorem W.getF {a : Addr} {O n d C : String} {v : Value} {fs : List FV} {idx : Nat} (K : Ctx X l Z R y code maxL ret) (pc' : Nat) (hd : decode code pc = .ok (.getfield idx, 3)) (w : (Jvm.Cond.fieldLink y.cls idx O n d).before a0 Z = true) (hm : (a, OBJ Z C fs) ∈ os) (hf : (O, n, d, v) ∈ fs) (k : WP X Z rc rs Q pc' L (v :: S) os ce sl) (hp : pc + 3 = pc' := by rfl) : WP X Z rc rs Q pc L (.ref a :: S) os ce sl := by
  obtain ⟨p, l', e, R', s, m, args, below, meth, c⟩ := X
  obtain ⟨h1, h2, hx, hZ, hby, hml, hown, hnm, hret, hlk⟩ := K
  have h2' : R' = R := h2
  subst h2'
  subst hp
  intro T locs hT0 hH hF
  have hT : Stand p l' e R' s m args below meth c T locs ce sl := hT0
  obtain ⟨-, cl, hcl, hO⟩ := hH.get hm
  obtain ⟨T', X', e', st'⟩ := RoadKit.getF hT hx hZ hown (host := "") (Or.inl w) Via.refl rfl (hO.fld hcl hf) (g := mkF m pc L.toArray (.ref a :: S)) rfl rfl (hb hby hd)
  obtain ⟨s2, o, st, r⟩ := k T' locs X' (by rw [e']; exact hH) hF
  exact ⟨s2, o, st' _ st, r⟩
theorem W.getFN {a : Addr} {O n d C host : String} {v : Value} {fs : List FV} {idx : Nat} (K : Ctx X l Z R y code maxL ret) (pc' : Nat) (hd : decode code pc = .ok (.getfield idx, 3)) (w : (Jvm.Cond.fieldLinkNest y.cls idx O n d host).before a0 Z = true) (hm : (a, OBJ Z C fs) ∈ os) (hf : (O, n, d, v) ∈ fs) (k : WP X Z rc rs Q pc' L (v :: S) os ce sl) (hp : pc + 3 = pc' := by rfl) : WP X Z rc rs Q pc L (.ref a :: S) os ce sl := by
  obtain ⟨p, l', e, R', s, m, args, below, meth, c⟩ := X
  obtain ⟨h1, h2, hx, hZ, hby, hml, hown, hnm, hret, hlk⟩ := K
  have h2' : R' = R := h2
  subst h2'
  subst hp
  intro T locs hT0 hH hF
  have hT : Stand p l' e R' s m args below meth c T locs ce sl := hT0
  obtain ⟨-, cl, hcl, hO⟩ := hH.get hm
  obtain ⟨T', X', e', st'⟩ := RoadKit.getF hT hx hZ hown (host := host) (Or.inr w) Via.refl rfl (hO.fld hcl hf) (g := mkF m pc L.toArray (.ref a :: S)) rfl rfl (hb hby hd)
  obtain ⟨s2, o, st, r⟩ := k T' locs X' (by rw [e']; exact hH) hF
  exact ⟨s2, o, st' _ st, r⟩
theorem W.getFo {a : Addr} {O n d : String} {v : Value} {idx : Nat} (K : Ctx X l Z R y code maxL ret) (pc' : Nat) (hd : decode code pc = .ok (.getfield idx, 3)) (w : (Jvm.Cond.fieldLink y.cls idx O n d).before a0 Z = true) (F : Fld Z Z.heap a O n d v) (k : WP X Z rc rs Q pc' L (v :: S) os ce sl) (hp : pc + 3 = pc' := by rfl) : WP X Z rc rs Q pc L (.ref a :: S) os ce sl := by
  obtain ⟨p, l', e, R', s, m, args, below, meth, c⟩ := X
  obtain ⟨h1, h2, hx, hZ, hby, hml, hown, hnm, hret, hlk⟩ := K
  have h2' : R' = R := h2
  subst h2'
  subst hp
  intro T locs hT0 hH hF
  have hT : Stand p l' e R' s m args below meth c T locs ce sl := hT0
  obtain ⟨T', X', e', st'⟩ := RoadKit.getF hT hx hZ hown (host := "") (Or.inl w) Via.refl rfl (F.ext hH.1) (g := mkF m pc L.toArray (.ref a :: S)) rfl rfl (hb hby hd)
  obtain ⟨s2, o, st, r⟩ := k T' locs X' (by rw [e']; exact hH) hF
  exact ⟨s2, o, st' _ st, r⟩
theorem W.getFR {a : Addr} {O n d C : String} {v : Value} {fs : List FV} {idx : Nat} (K : Ctx X l Z R y code maxL ret) (pc' : Nat) (hd : decode code pc = .ok (.getfield idx, 3)) (w : (Jvm.Cond.fieldRef y.cls idx O n d).before a0 Z = true) (hm : (a, OBJ Z C fs) ∈ os) (hf : (O, n, d, v) ∈ fs) (k : WP X Z rc rs Q pc' L (v :: S) os ce sl) (hp : pc + 3 = pc' := by rfl) : WP X Z rc rs Q pc L (.ref a :: S) os ce sl := by
  obtain ⟨p, l', e, R', s, m, args, below, meth, c⟩ := X
  obtain ⟨h1, h2, hx, hZ, hby, hml, hown, hnm, hret, hlk⟩ := K
  have h2' : R' = R := h2
  subst h2'
  subst hp
  intro T locs hT0 hH hF
  have hT : Stand p l' e R' s m args below meth c T locs ce sl := hT0
  obtain ⟨-, cl, hcl, hO⟩ := hH.get hm
  obtain ⟨s2, o, st, r⟩ := k T locs hT hH hF
  obtain ⟨cell, cf, kf, i, f, f1, f2, f3, f4, f5, f6, f7⟩ := hO.fld hcl hf
  cases hcl.symm.trans f1
  have hZT : Z.Warmed39 T.vm := wtrans hZ (Stand.warmed hT)
  have w1 := Cond.fieldRef_warmed39 hZT w
  have hcur : (Z.setVm T.vm).vm.findClass y.cls = some m.cls := by
    have q := (Stand.warmed hT).alike.findClass y.cls
    show T.vm.findClass y.cls = some m.cls
    rw [q]; exact hown
  obtain ⟨c1, k1, i1, fd1, g1, g2⟩ := Cond.fieldRef_spec hcur w1
  obtain ⟨k2, g3, -⟩ := State.fieldFound?_setVm (s := Z) hZT.alike f2
  cases g1.symm.trans g3
  refine ⟨s2, o, ?_, r⟩
  have hX := Stand.here hT
  have hdg := hb hby hd
  jvm_step hX [hX.top, hx, hdg, getfield.wp_ready (e := e) (s := T) (f := mkF m pc L.toArray (.ref a :: S)) hX.top g2 f3 rfl f1 f4 f7]
  exact st
theorem W.putFg {a : Addr} {O n d C host : String} {v old : Value} {fs fs' : List FV} {idx kk : Nat} {ty : FieldType} (K : Ctx X l Z R y code maxL ret) (pc' : Nat) (hd : decode code pc = .ok (.putfield idx, 3)) (w : (Jvm.Cond.fieldLink y.cls idx O n d).before a0 Z = true ∨ (Jvm.Cond.fieldLinkNest y.cls idx O n d host).before a0 Z = true)
    (hL : (Jvm.Cond.lays C O n d).before a0 Z = true ∨ ((Jvm.Cond.laysFinal C O n d).before a0 Z = true ∧ y.cls = O ∧ y.name = "<init>")) (wi : (Jvm.Cond.instantiable C kk).before a0 Z = true) (hty : parseFieldDescriptor d = some ty) (hn : narrow ty v = v) (hfit : fits ty v = true)
    (hm : Upd os a (OBJ Z C fs) (OBJ Z C fs') os') (hf : UpdF fs O n d old v fs') (k : WP X Z rc rs Q pc' L S os' ce sl) (hp : pc + 3 = pc' := by rfl) : WP X Z rc rs Q pc L (v :: .ref a :: S) os ce sl := by
  obtain ⟨p, l', e, R', s, m, args, below, meth, c⟩ := X
  obtain ⟨h1, h2, hx, hZ, hby, hml, hown, hnm, hret, hlk⟩ := K
  have h2' : R' = R := h2
  subst h2'
  subst hp
  intro T locs hT0 hH hF
  have hT : Stand p l' e R' s m args below meth c T locs ce sl := hT0
  obtain ⟨ii, hm, rfl⟩ := hm
  obtain ⟨ha, cl, hcl, hO⟩ := hH.2.2 ii _ hm
  have hmem : (O, n, d, old) ∈ fs := by obtain ⟨jj, hj, -⟩ := hf; exact List.mem_of_getElem? hj
  obtain ⟨T', h', X', e', W', st'⟩ := RoadKit.putF hT hx hZ hown w Via.refl rfl (hO.fld hcl hmem) (hO.exa hcl) (hL.imp id (fun q => ⟨q.1, q.2.1, by rw [hnm]; exact q.2.2⟩)) wi hty hn hfit (g := mkF m pc L.toArray (v :: .ref a :: S)) rfl rfl (hb hby hd)
  obtain ⟨s2, o, st, r⟩ := k T' _ X' (by rw [e']; exact hH.upd hm W' (fun c c' g1 g2 g3 g4 => by rw [g4]; exact OBJ.put g2 hf)) (Fr.snoc X' hF ha)
  exact ⟨s2, o, st' _ st, r⟩
theorem W.putF {a : Addr} {O n d C : String} {v old : Value} {fs fs' : List FV} {idx kk : Nat} {ty : FieldType} (K : Ctx X l Z R y code maxL ret) (pc' : Nat) (hd : decode code pc = .ok (.putfield idx, 3)) (w : (Jvm.Cond.fieldLink y.cls idx O n d).before a0 Z = true)
    (hL : (Jvm.Cond.lays C O n d).before a0 Z = true) (wi : (Jvm.Cond.instantiable C kk).before a0 Z = true) (hty : parseFieldDescriptor d = some ty) (hm : Upd os a (OBJ Z C fs) (OBJ Z C fs') os') (hf : UpdF fs O n d old v fs') (k : WP X Z rc rs Q pc' L S os' ce sl) (hn : narrow ty v = v := by rfl) (hfit : fits ty v = true := by rfl)
    (hp : pc + 3 = pc' := by rfl) : WP X Z rc rs Q pc L (v :: .ref a :: S) os ce sl := W.putFg (host := "") K pc' hd (Or.inl w) (Or.inl hL) wi hty hn hfit hm hf k hp
theorem W.putFf {a : Addr} {O n d C : String} {v old : Value} {fs fs' : List FV} {idx kk : Nat} {ty : FieldType} (K : Ctx X l Z R y code maxL ret) (pc' : Nat) (hd : decode code pc = .ok (.putfield idx, 3)) (w : (Jvm.Cond.fieldLink y.cls idx O n d).before a0 Z = true)
    (hL : (Jvm.Cond.laysFinal C O n d).before a0 Z = true) (wi : (Jvm.Cond.instantiable C kk).before a0 Z = true) (hty : parseFieldDescriptor d = some ty) (hm : Upd os a (OBJ Z C fs) (OBJ Z C fs') os') (hf : UpdF fs O n d old v fs') (k : WP X Z rc rs Q pc' L S os' ce sl) (hn : narrow ty v = v := by rfl) (hfit : fits ty v = true := by rfl)
    (hy1 : y.cls = O := by rfl) (hy2 : y.name = "<init>" := by rfl) (hp : pc + 3 = pc' := by rfl) : WP X Z rc rs Q pc L (v :: .ref a :: S) os ce sl := W.putFg (host := "") K pc' hd (Or.inl w) (Or.inr ⟨hL, hy1, hy2⟩) wi hty hn hfit hm hf k hp
theorem W.getS {O n d : String} {v : Value} {idx : Nat} (K : Ctx X l Z R y code maxL ret) (pc' : Nat) (hd : decode code pc = .ok (.getstatic idx, 3)) (w : (Jvm.Cond.fieldLink y.cls idx O n d).before a0 Z = true) (F : Sta Z Z.heap O n d v) (k : WP X Z rc rs Q pc' L (v :: S) os ce sl) (hp : pc + 3 = pc' := by rfl) : WP X Z rc rs Q pc L S os ce sl := by
  obtain ⟨p, l', e, R', s, m, args, below, meth, c⟩ := X
  obtain ⟨h1, h2, hx, hZ, hby, hml, hown, hnm, hret, hlk⟩ := K
  have h2' : R' = R := h2
  subst h2'
  subst hp
  intro T locs hT0 hH hF
  have hT : Stand p l' e R' s m args below meth c T locs ce sl := hT0
  obtain ⟨T', X', e', st'⟩ := RoadKit.getS hT hx hZ (host := "") hown w Via.refl rfl (F.ext hH.1) (g := mkF m pc L.toArray S) rfl (hb hby hd)
  obtain ⟨s2, o, st, r⟩ := k T' locs X' (by rw [e']; exact hH) hF
  exact ⟨s2, o, st' _ st, r⟩
theorem W.new {C : String} {idx n : Nat} (fs : List FV) (K : Ctx X l Z R y code maxL ret) (pc' : Nat) (hd : decode code pc = .ok (.new idx, 3)) (w : (Jvm.Cond.classLink y.cls idx C).before a0 Z = true) (wi : (Jvm.Cond.instantiable C n).before a0 Z = true) (wz : (Jvm.Cond.initialized C).before a0 Z = true)
    (q : Laids Z a0 C fs) (k : ∀ a, WP X Z rc rs Q pc' L (.ref a :: S) ((a, OBJ Z C fs) :: os) (ce + 1) (sl + n)) (hc : ce + 1 ≤ R.cells := by decide) (hl : sl + n ≤ R.slots := by decide) (nd : (fs.map (fun f => f.2.1)).Nodup := by decide) (hp : pc + 3 = pc' := by rfl) : WP X Z rc rs Q pc L S os ce sl := by
  obtain ⟨p, l', e, R', s, m, args, below, meth, c⟩ := X
  obtain ⟨h1, h2, hx, hZ, hby, hml, hown, hnm, hret, hlk⟩ := K
  have h2' : R' = R := h2
  subst h2'
  subst hp
  intro T locs hT0 hH hF
  have hT : Stand p l' e R' s m args below meth c T locs ce sl := hT0
  obtain ⟨T', h', X', e', E', A', D', -, st'⟩ := RoadKit.newO hT hx hZ hown w wi wz rfl (g := mkF m pc L.toArray S) rfl (hb hby hd) (hc) (hl)
  obtain ⟨c0, hc0, hO⟩ := OBJ.new A' D' q nd
  obtain ⟨s2, o, st, r⟩ := k T.heap.size T' locs X' (by rw [e']; exact hH.new E' hc0 hO) hF
  exact ⟨s2, o, st' _ st, r⟩
theorem fits_dflt {ty : FieldType} (h : ty = .int ∨ ty = .long ∨ ty = .byte ∨ ty = .char ∨ ty = .boolean ∨ ty = .short) : fits ty (defaultValue ty) = true := by
  rcases h with rfl | rfl | rfl | rfl | rfl | rfl <;> rfl
theorem W.newarray {aty : ArrayType} {ty : FieldType} {z : Int32} (i cap : Nat) (K : Ctx X l Z R y code maxL ret) (pc' : Nat) (hd : decode code pc = .ok (.newarray aty, 2)) (w : (Jvm.Cond.arrayClass ty).before a0 Z = true) (hz : z.toInt = (i : Int)) (hi : i ≤ cap)
    (k : ∀ a, WP X Z rc rs Q pc' L (.ref a :: S) ((a, ARR Z ty (List.replicate i (defaultValue ty))) :: os) (ce + 1) (sl + cap)) (ht : newarray.typeOf aty = ty := by rfl) (htt : ty = .int ∨ ty = .long ∨ ty = .byte ∨ ty = .char ∨ ty = .boolean ∨ ty = .short := by simp) (hb8 : cap * 8 ≤ 536870912 := by decide) (hc : ce + 1 ≤ R.cells := by decide) (hl : sl + cap ≤ R.slots := by decide) (hp : pc + 2 = pc' := by rfl) :
    WP X Z rc rs Q pc L (.int z :: S) os ce sl := by
  obtain ⟨p, l', e, R', s, m, args, below, meth, c⟩ := X
  obtain ⟨h1, h2, hx, hZ, hby, hml, hown, hnm, hret, hlk⟩ := K
  have h2' : R' = R := h2
  subst h2'
  subst hp
  intro T locs hT0 hH hF
  have hT : Stand p l' e R' s m args below meth c T locs ce sl := hT0
  subst ht
  have ez : z.toNatClampNeg = i := by show z.toInt.toNat = i; rw [hz]; rfl
  obtain ⟨T', h', cA, X', e', E', A', st'⟩ := RoadKit.newP hT hx hZ w rfl (g := mkF m pc L.toArray (.int z :: S)) rfl (hb hby hd) rfl (by rw [Int32.lt_iff_toInt_lt, hz]; exact Int.not_lt.mpr (Int.natCast_nonneg i)) (cap := cap) (by rw [ez]; exact hi) hb8 (hc) (hl)
  have hA : ARR Z (newarray.typeOf aty) (List.replicate i (defaultValue (newarray.typeOf aty))) (newA cA (newarray.typeOf aty) z) := by
    refine ⟨A'.2.1, A'.2.2, by simp [newA, ez], fun v hv => ?_, by simp; omega⟩
    rw [(List.mem_replicate.mp hv).2]; exact fits_dflt htt
  obtain ⟨s2, o, st, r⟩ := k T.heap.size T' locs X' (by rw [e']; exact hH.new E' A'.1 hA) hF
  exact ⟨s2, o, st' _ st, r⟩
theorem W.initO {a : Addr} {idx : Nat} (K : Ctx X l Z R y code maxL ret) (pc' : Nat) (hd : decode code pc = .ok (.invokespecial idx, 3)) (w1 : (Jvm.Cond.methodLink y.cls idx Lib.objectInit).before a0 Z = true) (w2 : (Jvm.Cond.instanceMethod Lib.objectInit).before a0 Z = true) (w3 : (Jvm.Cond.code Lib.objectInit ⟨#[0xb1]⟩ 1 none).before a0 Z = true)
    (k : WP X Z rc rs Q pc' L S os ce sl) (hsz : L.length = maxL := by rfl) (hf : 1 ≤ R.frames := by decide) (hl : (S.map fun v => v.category).sum + 12 ≤ R.locals := by exact Nat.le_of_ble_eq_true rfl) (hp : pc + 3 = pc' := by rfl) : WP X Z rc rs Q pc L (.ref a :: S) os ce sl := by
  obtain ⟨p, l', e, R', s, m, args, below, meth, c⟩ := X
  obtain ⟨h1, h2, hx, hZ, hby, hml, hown, hnm, hret, hlk⟩ := K
  have h2' : R' = R := h2
  subst h2'
  subst hp
  intro T locs hT0 hH hF
  have hT : Stand p l' e R' s m args below meth c T locs ce sl := hT0
  obtain ⟨T', X', e', st'⟩ := RoadKit.initO hT hx hZ hown w1 w2 w3 rfl (g := mkF m pc L.toArray (.ref a :: S)) rfl (by rw [hml]; simpa using hsz) rfl (hb hby hd) (hf) (W := (S.map fun v => v.category).sum) (by show 2 * 0 + _ ≤ _; omega) (hl)
  obtain ⟨s2, o, st, r⟩ := k T' locs X' (by rw [e']; exact hH) hF
  exact ⟨s2, o, st' _ st, r⟩

theorem W.retG {w : Value} {t : FieldType} {i : Instr} (K : Ctx X l Z R y code maxL (some t)) (hn : narrow t w = w)
    (hi : (i = .ireturn ∧ (t = .int ∨ t = .boolean ∨ t = .byte ∨ t = .char ∨ t = .short) ∧ ∃ z, w = .int z) ∨ (i = .lreturn ∧ t = .long ∧ ∃ z, w = .long z) ∨ (i = .dreturn ∧ t = .double ∧ ∃ z, w = .double z) ∨ (i = .freturn ∧ t = .float ∧ ∃ z, w = .float z) ∨ (i = .areturn ∧ t.isReference = true ∧ w.isRef = true))
    (hd : decode code pc = .ok (i, 1)) (q : Q (some w) os) (hc : ce ≤ rc) (hs : sl ≤ rs) : WP X Z rc rs Q pc L (w :: S) os ce sl := by
  obtain ⟨p, l', e, R', s, m, args, below, meth, c⟩ := X
  obtain ⟨h1, h2, hx, hZ, hby, hml, hown, hnm, hret, hlk⟩ := K
  have h2' : R' = R := h2
  subst h2'
  intro T locs hT0 hH hF
  have hT : Stand p l' e R' s m args below meth c T locs ce sl := hT0
  have hret' : meth.sig.returnType = some t := hret
  obtain ⟨fs, hr, hrun, hended, hW, hsame⟩ := Stand.leave hT (v := some w) (fun h => by rw [hret'] at h; cases h) hlk
  exact ⟨_, _, retOut hT hx hret hn hi (hb hby hd) hr, hrun, hended, _, _, rfl, ⟨os, q, hH, hF⟩, ⟨_, rfl⟩, hW, hsame.mono hc hs⟩
theorem W.ireturn {z : Int32} (K : Ctx X l Z R y code maxL (some .int)) (hd : decode code pc = .ok (.ireturn, 1)) (q : Q (some (.int z)) os) (hc : ce ≤ rc := by decide) (hs : sl ≤ rs := by decide) : WP X Z rc rs Q pc L (.int z :: S) os ce sl := W.retG K rfl (Or.inl ⟨rfl, Or.inl rfl, z, rfl⟩) hd q hc hs
theorem W.lreturn {z : Int64} (K : Ctx X l Z R y code maxL (some .long)) (hd : decode code pc = .ok (.lreturn, 1)) (q : Q (some (.long z)) os) (hc : ce ≤ rc := by decide) (hs : sl ≤ rs := by decide) : WP X Z rc rs Q pc L (.long z :: S) os ce sl := W.retG K rfl (Or.inr (Or.inl ⟨rfl, rfl, z, rfl⟩)) hd q hc hs
theorem W.areturn {w : Value} {t : FieldType} (K : Ctx X l Z R y code maxL (some t)) (hd : decode code pc = .ok (.areturn, 1)) (q : Q (some w) os) (hw : w.isRef = true := by rfl) (ht : t.isReference = true := by rfl) (hc : ce ≤ rc := by decide) (hs : sl ≤ rs := by decide) : WP X Z rc rs Q pc L (w :: S) os ce sl :=
  W.retG K (by cases t <;> first | rfl | (cases w <;> first | rfl | cases ht | cases hw)) (Or.inr (Or.inr (Or.inr (Or.inr ⟨rfl, ht, hw⟩)))) hd q hc hs
theorem W.zreturn {z : Int32} (K : Ctx X l Z R y code maxL (some .boolean)) (hd : decode code pc = .ok (.ireturn, 1)) (hz : z = 0 ∨ z = 1) (q : Q (some (.int z)) os) (hc : ce ≤ rc := by decide) (hs : sl ≤ rs := by decide) : WP X Z rc rs Q pc L (.int z :: S) os ce sl :=
  W.retG K (by rcases hz with rfl | rfl <;> rfl) (Or.inl ⟨rfl, Or.inr (Or.inl rfl), z, rfl⟩) hd q hc hs
theorem W.creturn {z : Int32} (K : Ctx X l Z R y code maxL (some .char)) (hd : decode code pc = .ok (.ireturn, 1)) (hz : narrow .char (.int z) = .int z) (q : Q (some (.int z)) os) (hc : ce ≤ rc := by decide) (hs : sl ≤ rs := by decide) : WP X Z rc rs Q pc L (.int z :: S) os ce sl :=
  W.retG K hz (Or.inl ⟨rfl, Or.inr (Or.inr (Or.inr (Or.inl rfl))), z, rfl⟩) hd q hc hs
theorem W.breturn {z : Int32} (K : Ctx X l Z R y code maxL (some .byte)) (hd : decode code pc = .ok (.ireturn, 1)) (hz : narrow .byte (.int z) = .int z) (q : Q (some (.int z)) os) (hc : ce ≤ rc := by decide) (hs : sl ≤ rs := by decide) : WP X Z rc rs Q pc L (.int z :: S) os ce sl :=
  W.retG K hz (Or.inl ⟨rfl, Or.inr (Or.inr (Or.inl rfl)), z, rfl⟩) hd q hc hs
theorem W.return (K : Ctx X l Z R y code maxL none) (hd : decode code pc = .ok (.return_, 1)) (q : Q none os) (hc : ce ≤ rc := by decide) (hs : sl ≤ rs := by decide) : WP X Z rc rs Q pc L [] os ce sl := by
  obtain ⟨p, l', e, R', s, m, args, below, meth, c⟩ := X
  obtain ⟨h1, h2, hx, hZ, hby, hml, hown, hnm, hret, hlk⟩ := K
  have h2' : R' = R := h2
  subst h2'
  intro T locs hT0 hH hF
  have hT : Stand p l' e R' s m args below meth c T locs ce sl := hT0
  obtain ⟨fs, hr, hrun, hended, hW, hsame⟩ := Stand.leave hT (v := none) (fun _ => rfl) hlk
  exact ⟨_, _, Stand.returnOut hT hx hret (hb hby hd) hr, hrun, hended, _, _, rfl, ⟨os, q, hH, hF⟩, ⟨_, rfl⟩, hW, hsame.mono hc hs⟩

theorem W.callS {idx mx : Nat} {z : MethodName} {bytes : ByteArray} {rt : Option FieldType} {rm : Room} {argsL : List Value} {S0 : List Value} {ps : List FieldType} {rr : Option FieldType} {Q' : Option Value → OS → Prop} (K : Ctx X l Z R y code maxL ret) (pc' : Nat) (hd : decode code pc = .ok (.invokestatic idx, 3)) (w1 : (Jvm.Cond.methodLink y.cls idx z).before a0 Z = true) (w2 : (Jvm.Cond.static z).before a0 Z = true) (w3 : (Jvm.Cond.initialized z.cls).before a0 Z = true) (w4 : (Jvm.Cond.code z bytes mx rt).before a0 Z = true)
    (hsig : parseMethodDescriptor z.desc = some ⟨ps, rr⟩) (hM : OMeets l Z z bytes mx rt rm argsL os Q') (k : ∀ v os', Q' v os' → WP X Z rc rs Q pc' L (v.toList ++ S) os' (ce + rm.cells) (sl + rm.slots)) (hst : S0 = argsL.reverse ++ S := by rfl) (hlen : argsL.length = ps.length := by rfl) (hsz : L.length = maxL := by rfl) (hf : rm.frames + 1 ≤ R.frames := by decide) (hl : (S.map fun v => v.category).sum + (mx + 11) + rm.locals ≤ R.locals := by exact Nat.le_of_ble_eq_true rfl)
    (hc : ce + rm.cells ≤ R.cells := by decide) (hs : sl + rm.slots ≤ R.slots := by decide) (hy : z.cls ≠ "java/lang/invoke/MethodHandle" ∧ z.cls ≠ "java/lang/invoke/VarHandle" := by decide) (hp : pc + 3 = pc' := by rfl) : WP X Z rc rs Q pc L S0 os ce sl := by
  obtain ⟨p, l', e, R', s, m, args, below, meth, c⟩ := X
  obtain ⟨rfl, h2, hx, hZ, hby, hml, hown, hnm, hret, hlk⟩ := K
  have h2' : R' = R := h2
  subst h2'
  subst hp
  intro T locs hT0 hH hF
  have hT : Stand p l' e R' s m args below meth c T locs ce sl := hT0
  obtain ⟨v, vm1, ⟨T', L', k', n'⟩, -, X', ⟨Lc, ⟨os1, hQ1, hH1, hF1⟩, e1, e2, e3⟩, st'⟩ := Jvm.LawKit.callS hT hx (y := z) hown (mvT hZ w1) (mvT hZ w2) (mvT hZ w3) (mvT hZ w4) hy (backOf (W := (S.map fun v => v.category).sum) (Q := fun v h L => ∃ os', Q' v os' ∧ Hp Z h os' ∧ Fr Z.heap.size L) (hM _ hH []) hZ w4 w3 (hf) (hl)) (g := mkF m pc L.toArray S0) rfl (by rw [hml]; simpa using hsz) (argsL := argsL) (rest := S) (lenOf hsig hlen) hst (by show 2 * 0 + _ ≤ _; omega) (hb hby hd) (fun _ _ => ⟨rfl, rfl, hc, hs⟩)
  dsimp only [Pt.U, Pt.locs, Pt.cells, Pt.slots] at X' e1 e2 e3 st' hH1
  subst e1 e2 e3
  obtain ⟨s2, o, st, r⟩ := k v os1 hQ1 T' _ X' hH1 (Fr.app hF hF1)
  exact ⟨s2, o, st' _ st, r⟩
theorem W.callSv {idx mx : Nat} {z : MethodName} {bytes : ByteArray} {rt : Option FieldType} {rm : Room} {argsL : List Value} {S0 : List Value} {ps : List FieldType} {rr : Option FieldType} {q : Value → OS → Prop} (K : Ctx X l Z R y code maxL ret) (pc' : Nat) (hd : decode code pc = .ok (.invokestatic idx, 3)) (w1 : (Jvm.Cond.methodLink y.cls idx z).before a0 Z = true) (w2 : (Jvm.Cond.static z).before a0 Z = true) (w3 : (Jvm.Cond.initialized z.cls).before a0 Z = true) (w4 : (Jvm.Cond.code z bytes mx rt).before a0 Z = true)
    (hsig : parseMethodDescriptor z.desc = some ⟨ps, rr⟩) (hM : OMeets l Z z bytes mx rt rm argsL os (RetV q)) (k : ∀ v os', q v os' → WP X Z rc rs Q pc' L (v :: S) os' (ce + rm.cells) (sl + rm.slots)) (hst : S0 = argsL.reverse ++ S := by rfl) (hlen : argsL.length = ps.length := by rfl) (hsz : L.length = maxL := by rfl) (hf : rm.frames + 1 ≤ R.frames := by decide) (hl : (S.map fun v => v.category).sum + (mx + 11) + rm.locals ≤ R.locals := by exact Nat.le_of_ble_eq_true rfl)
    (hc : ce + rm.cells ≤ R.cells := by decide) (hs : sl + rm.slots ≤ R.slots := by decide) (hy : z.cls ≠ "java/lang/invoke/MethodHandle" ∧ z.cls ≠ "java/lang/invoke/VarHandle" := by decide) (hp : pc + 3 = pc' := by rfl) : WP X Z rc rs Q pc L S0 os ce sl :=
  W.callS K pc' hd w1 w2 w3 w4 hsig hM (fun v os' hq => by obtain ⟨x, rfl, hq⟩ := hq; exact k x os' hq) hst hlen hsz hf hl hc hs hy hp
theorem W.callSn {idx mx : Nat} {z : MethodName} {bytes : ByteArray} {rt : Option FieldType} {rm : Room} {argsL : List Value} {S0 : List Value} {ps : List FieldType} {rr : Option FieldType} {q : OS → Prop} (K : Ctx X l Z R y code maxL ret) (pc' : Nat) (hd : decode code pc = .ok (.invokestatic idx, 3)) (w1 : (Jvm.Cond.methodLink y.cls idx z).before a0 Z = true) (w2 : (Jvm.Cond.static z).before a0 Z = true) (w3 : (Jvm.Cond.initialized z.cls).before a0 Z = true) (w4 : (Jvm.Cond.code z bytes mx rt).before a0 Z = true)
    (hsig : parseMethodDescriptor z.desc = some ⟨ps, rr⟩) (hM : OMeets l Z z bytes mx rt rm argsL os (RetN q)) (k : ∀ os', q os' → WP X Z rc rs Q pc' L S os' (ce + rm.cells) (sl + rm.slots)) (hst : S0 = argsL.reverse ++ S := by rfl) (hlen : argsL.length = ps.length := by rfl) (hsz : L.length = maxL := by rfl) (hf : rm.frames + 1 ≤ R.frames := by decide) (hl : (S.map fun v => v.category).sum + (mx + 11) + rm.locals ≤ R.locals := by exact Nat.le_of_ble_eq_true rfl)
    (hc : ce + rm.cells ≤ R.cells := by decide) (hs : sl + rm.slots ≤ R.slots := by decide) (hy : z.cls ≠ "java/lang/invoke/MethodHandle" ∧ z.cls ≠ "java/lang/invoke/VarHandle" := by decide) (hp : pc + 3 = pc' := by rfl) : WP X Z rc rs Q pc L S0 os ce sl :=
  W.callS K pc' hd w1 w2 w3 w4 hsig hM (fun v os' hq => by obtain ⟨rfl, hq⟩ := hq; exact k os' hq) hst hlen hsz hf hl hc hs hy hp
theorem W.callI {idx mx : Nat} {z : MethodName} {bytes : ByteArray}  {rm : Room} {argsL : List Value} {S0 : List Value} {ps : List FieldType} {rr : Option FieldType} {b : Addr} {Q' : Option Value → OS → Prop} (K : Ctx X l Z R y code maxL ret) (pc' : Nat) (hd : decode code pc = .ok (.invokespecial idx, 3)) (w1 : (Jvm.Cond.methodLink y.cls idx z).before a0 Z = true) (w2 : (Jvm.Cond.instanceMethod z).before a0 Z = true) (w3 : (Jvm.Cond.initialized z.cls).before a0 Z = true) (w4 : (Jvm.Cond.code z bytes mx none).before a0 Z = true)
    (hsig : parseMethodDescriptor z.desc = some ⟨ps, rr⟩) (hM : OMeets l Z z bytes mx none rm (.ref b :: argsL) os Q') (k : ∀ v os', Q' v os' → WP X Z rc rs Q pc' L (v.toList ++ S) os' (ce + rm.cells) (sl + rm.slots)) (hz1 : z.name = "<init>" := by rfl) (hst : S0 = argsL.reverse ++ .ref b :: S := by rfl) (hlen : argsL.length = ps.length := by rfl) (hsz : L.length = maxL := by rfl) (hf : rm.frames + 1 ≤ R.frames := by decide) (hl : (S.map fun v => v.category).sum + (mx + 11) + rm.locals ≤ R.locals := by exact Nat.le_of_ble_eq_true rfl)
    (hc : ce + rm.cells ≤ R.cells := by decide) (hs : sl + rm.slots ≤ R.slots := by decide) (hy : z.cls ≠ "java/lang/invoke/MethodHandle" ∧ z.cls ≠ "java/lang/invoke/VarHandle" := by decide) (hp : pc + 3 = pc' := by rfl) : WP X Z rc rs Q pc L S0 os ce sl := by
  obtain ⟨p, l', e, R', s, m, args, below, meth, c⟩ := X
  obtain ⟨rfl, h2, hx, hZ, hby, hml, hown, hnm, hret, hlk⟩ := K
  have h2' : R' = R := h2
  subst h2'
  subst hp
  intro T locs hT0 hH hF
  have hT : Stand p l' e R' s m args below meth c T locs ce sl := hT0
  obtain ⟨v, vm1, ⟨T', L', k', n'⟩, -, X', ⟨Lc, ⟨os1, hQ1, hH1, hF1⟩, e1, e2, e3⟩, st'⟩ := Stand.specialBack hT hx (y := z) hz1 hown (mvT hZ w1) (mvT hZ w2) (mvT hZ w4) hy (backOf (W := (S.map fun v => v.category).sum) (Q := fun v h L => ∃ os', Q' v os' ∧ Hp Z h os' ∧ Fr Z.heap.size L) (hM _ hH []) hZ w4 w3 (hf) (hl)) (g := mkF m pc L.toArray S0) rfl (by rw [hml]; simpa using hsz) (Steps.refl _) (a := b) (argsL := argsL) (rest := S) (lenOf hsig hlen) hst (by show 2 * 0 + _ ≤ _; omega) (hb hby hd) (fun _ _ => ⟨rfl, rfl, hc, hs⟩)
  dsimp only [Pt.U, Pt.locs, Pt.cells, Pt.slots] at X' e1 e2 e3 st' hH1
  subst e1 e2 e3
  obtain ⟨s2, o, st, r⟩ := k v os1 hQ1 T' _ X' hH1 (Fr.app hF hF1)
  exact ⟨s2, o, st'.trans st, r⟩
theorem W.callIn {idx mx : Nat} {z : MethodName} {bytes : ByteArray}  {rm : Room} {argsL : List Value} {S0 : List Value} {ps : List FieldType} {rr : Option FieldType} {b : Addr} {q : OS → Prop} (K : Ctx X l Z R y code maxL ret) (pc' : Nat) (hd : decode code pc = .ok (.invokespecial idx, 3)) (w1 : (Jvm.Cond.methodLink y.cls idx z).before a0 Z = true) (w2 : (Jvm.Cond.instanceMethod z).before a0 Z = true) (w3 : (Jvm.Cond.initialized z.cls).before a0 Z = true) (w4 : (Jvm.Cond.code z bytes mx none).before a0 Z = true)
    (hsig : parseMethodDescriptor z.desc = some ⟨ps, rr⟩) (hM : OMeets l Z z bytes mx none rm (.ref b :: argsL) os (RetN q)) (k : ∀ os', q os' → WP X Z rc rs Q pc' L S os' (ce + rm.cells) (sl + rm.slots)) (hz1 : z.name = "<init>" := by rfl) (hst : S0 = argsL.reverse ++ .ref b :: S := by rfl) (hlen : argsL.length = ps.length := by rfl) (hsz : L.length = maxL := by rfl) (hf : rm.frames + 1 ≤ R.frames := by decide) (hl : (S.map fun v => v.category).sum + (mx + 11) + rm.locals ≤ R.locals := by exact Nat.le_of_ble_eq_true rfl)
    (hc : ce + rm.cells ≤ R.cells := by decide) (hs : sl + rm.slots ≤ R.slots := by decide) (hy : z.cls ≠ "java/lang/invoke/MethodHandle" ∧ z.cls ≠ "java/lang/invoke/VarHandle" := by decide) (hp : pc + 3 = pc' := by rfl) : WP X Z rc rs Q pc L S0 os ce sl :=
  W.callI K pc' hd w1 w2 w3 w4 hsig hM (fun v os' hq => by obtain ⟨rfl, hq⟩ := hq; exact k os' hq) hz1 hst hlen hsz hf hl hc hs hy hp
theorem W.callV {idx mx : Nat} {z : MethodName} {bytes : ByteArray} {rt : Option FieldType} {C : String} {rm : Room} {argsL : List Value} {S0 : List Value} {ps : List FieldType} {rr : Option FieldType} {b : Addr} {Q' : Option Value → OS → Prop} (K : Ctx X l Z R y code maxL ret) (pc' : Nat) (hd : decode code pc = .ok (.invokevirtual idx, 3)) (w1 : (Jvm.Cond.methodLink y.cls idx z).before a0 Z = true) (w2 : (Jvm.Cond.declares z).before a0 Z = true) (w5 : (Jvm.Cond.selects C z z).before a0 Z = true) (w6 : (Jvm.Cond.instanceMethod z).before a0 Z = true) (w3 : (Jvm.Cond.initialized z.cls).before a0 Z = true) (w4 : (Jvm.Cond.code z bytes mx rt).before a0 Z = true)
    (hsig : parseMethodDescriptor z.desc = some ⟨ps, rr⟩) (hrc : ∀ h, Hp Z h os → Exa Z h b C) (hM : OMeets l Z z bytes mx rt rm (.ref b :: argsL) os Q') (k : ∀ v os', Q' v os' → WP X Z rc rs Q pc' L (v.toList ++ S) os' (ce + rm.cells) (sl + rm.slots)) (hst : S0 = argsL.reverse ++ .ref b :: S := by rfl) (hlen : argsL.length = ps.length := by rfl) (hsz : L.length = maxL := by rfl) (hf : rm.frames + 1 ≤ R.frames := by decide) (hl : (S.map fun v => v.category).sum + (mx + 11) + rm.locals ≤ R.locals := by exact Nat.le_of_ble_eq_true rfl)
    (hc : ce + rm.cells ≤ R.cells := by decide) (hs : sl + rm.slots ≤ R.slots := by decide) (hy : z.cls ≠ "java/lang/invoke/MethodHandle" ∧ z.cls ≠ "java/lang/invoke/VarHandle" := by decide) (hp : pc + 3 = pc' := by rfl) : WP X Z rc rs Q pc L S0 os ce sl := by
  obtain ⟨p, l', e, R', s, m, args, below, meth, c⟩ := X
  obtain ⟨rfl, h2, hx, hZ, hby, hml, hown, hnm, hret, hlk⟩ := K
  have h2' : R' = R := h2
  subst h2'
  subst hp
  intro T locs hT0 hH hF
  have hT : Stand p l' e R' s m args below meth c T locs ce sl := hT0
  obtain ⟨cq7, kq7, q7a, q7b, q7c⟩ := isOf (T := T) hZ rfl (hrc T.heap hH)
  obtain ⟨v, vm1, ⟨T', L', k', n'⟩, -, X', ⟨Lc, ⟨os1, hQ1, hH1, hF1⟩, e1, e2, e3⟩, st'⟩ := Stand.virtualBack hT hx (y := z) (z := z) hown (mvT hZ w1) (mvT hZ w2) (notFace_of_selects (args := #[]) (mvT hZ w5)) (mvT hZ w5) (mvT hZ w6) hy (backOf (W := (S.map fun v => v.category).sum) (Q := fun v h L => ∃ os', Q' v os' ∧ Hp Z h os' ∧ Fr Z.heap.size L) (hM _ hH []) hZ w4 w3 (hf) (hl)) q7a q7c (g := mkF m pc L.toArray S0) rfl (by rw [hml]; simpa using hsz) (Steps.refl _) (argsL := argsL) (rest := S) (lenOf hsig hlen) hst (by show 2 * 0 + _ ≤ _; omega) (hb hby hd) (fun _ _ => ⟨rfl, rfl, hc, hs⟩)
  dsimp only [Pt.U, Pt.locs, Pt.cells, Pt.slots] at X' e1 e2 e3 st' hH1
  subst e1 e2 e3
  obtain ⟨s2, o, st, r⟩ := k v os1 hQ1 T' _ X' hH1 (Fr.app hF hF1)
  exact ⟨s2, o, st'.trans st, r⟩
theorem W.callVv {idx mx : Nat} {z : MethodName} {bytes : ByteArray} {rt : Option FieldType} {C : String} {rm : Room} {argsL : List Value} {S0 : List Value} {ps : List FieldType} {rr : Option FieldType} {b : Addr} {q : Value → OS → Prop} (K : Ctx X l Z R y code maxL ret) (pc' : Nat) (hd : decode code pc = .ok (.invokevirtual idx, 3)) (w1 : (Jvm.Cond.methodLink y.cls idx z).before a0 Z = true) (w2 : (Jvm.Cond.declares z).before a0 Z = true) (w5 : (Jvm.Cond.selects C z z).before a0 Z = true) (w6 : (Jvm.Cond.instanceMethod z).before a0 Z = true) (w3 : (Jvm.Cond.initialized z.cls).before a0 Z = true) (w4 : (Jvm.Cond.code z bytes mx rt).before a0 Z = true)
    (hsig : parseMethodDescriptor z.desc = some ⟨ps, rr⟩) (hrc : ∀ h, Hp Z h os → Exa Z h b C) (hM : OMeets l Z z bytes mx rt rm (.ref b :: argsL) os (RetV q)) (k : ∀ v os', q v os' → WP X Z rc rs Q pc' L (v :: S) os' (ce + rm.cells) (sl + rm.slots)) (hst : S0 = argsL.reverse ++ .ref b :: S := by rfl) (hlen : argsL.length = ps.length := by rfl) (hsz : L.length = maxL := by rfl) (hf : rm.frames + 1 ≤ R.frames := by decide) (hl : (S.map fun v => v.category).sum + (mx + 11) + rm.locals ≤ R.locals := by exact Nat.le_of_ble_eq_true rfl)
    (hc : ce + rm.cells ≤ R.cells := by decide) (hs : sl + rm.slots ≤ R.slots := by decide) (hy : z.cls ≠ "java/lang/invoke/MethodHandle" ∧ z.cls ≠ "java/lang/invoke/VarHandle" := by decide) (hp : pc + 3 = pc' := by rfl) : WP X Z rc rs Q pc L S0 os ce sl :=
  W.callV K pc' hd w1 w2 w5 w6 w3 w4 hsig hrc hM (fun v os' hq => by obtain ⟨x, rfl, hq⟩ := hq; exact k x os' hq) hst hlen hsz hf hl hc hs hy hp
theorem W.callVn {idx mx : Nat} {z : MethodName} {bytes : ByteArray} {rt : Option FieldType} {C : String} {rm : Room} {argsL : List Value} {S0 : List Value} {ps : List FieldType} {rr : Option FieldType} {b : Addr} {q : OS → Prop} (K : Ctx X l Z R y code maxL ret) (pc' : Nat) (hd : decode code pc = .ok (.invokevirtual idx, 3)) (w1 : (Jvm.Cond.methodLink y.cls idx z).before a0 Z = true) (w2 : (Jvm.Cond.declares z).before a0 Z = true) (w5 : (Jvm.Cond.selects C z z).before a0 Z = true) (w6 : (Jvm.Cond.instanceMethod z).before a0 Z = true) (w3 : (Jvm.Cond.initialized z.cls).before a0 Z = true) (w4 : (Jvm.Cond.code z bytes mx rt).before a0 Z = true)
    (hsig : parseMethodDescriptor z.desc = some ⟨ps, rr⟩) (hrc : ∀ h, Hp Z h os → Exa Z h b C) (hM : OMeets l Z z bytes mx rt rm (.ref b :: argsL) os (RetN q)) (k : ∀ os', q os' → WP X Z rc rs Q pc' L S os' (ce + rm.cells) (sl + rm.slots)) (hst : S0 = argsL.reverse ++ .ref b :: S := by rfl) (hlen : argsL.length = ps.length := by rfl) (hsz : L.length = maxL := by rfl) (hf : rm.frames + 1 ≤ R.frames := by decide) (hl : (S.map fun v => v.category).sum + (mx + 11) + rm.locals ≤ R.locals := by exact Nat.le_of_ble_eq_true rfl)
    (hc : ce + rm.cells ≤ R.cells := by decide) (hs : sl + rm.slots ≤ R.slots := by decide) (hy : z.cls ≠ "java/lang/invoke/MethodHandle" ∧ z.cls ≠ "java/lang/invoke/VarHandle" := by decide) (hp : pc + 3 = pc' := by rfl) : WP X Z rc rs Q pc L S0 os ce sl :=
  W.callV K pc' hd w1 w2 w5 w6 w3 w4 hsig hrc hM (fun v os' hq => by obtain ⟨rfl, hq⟩ := hq; exact k os' hq) hst hlen hsz hf hl hc hs hy hp
theorem W.callSv0 {idx mx : Nat} {z : MethodName} {bytes : ByteArray} {rt : Option FieldType} {rm : Room} {ps : List FieldType} {rr : Option FieldType} {q : Value → OS → Prop} (K : Ctx X l Z R y code maxL ret) (pc' : Nat) (hd : decode code pc = .ok (.invokestatic idx, 3)) (w1 : (Jvm.Cond.methodLink y.cls idx z).before a0 Z = true) (w2 : (Jvm.Cond.static z).before a0 Z = true) (w3 : (Jvm.Cond.initialized z.cls).before a0 Z = true) (w4 : (Jvm.Cond.code z bytes mx rt).before a0 Z = true)
    (hsig : parseMethodDescriptor z.desc = some ⟨ps, rr⟩) (hM : OMeets l Z z bytes mx rt rm [] os (RetV q)) (k : ∀ v os', q v os' → WP X Z rc rs Q pc' L (v :: S) os' (ce + rm.cells) (sl + rm.slots)) (hlen : ([] : List Value).length = ps.length := by rfl) (hsz : L.length = maxL := by rfl) (hf : rm.frames + 1 ≤ R.frames := by decide) (hl : (S.map fun v => v.category).sum + (mx + 11) + rm.locals ≤ R.locals := by exact Nat.le_of_ble_eq_true rfl)
    (hc : ce + rm.cells ≤ R.cells := by decide) (hs : sl + rm.slots ≤ R.slots := by decide) (hy : z.cls ≠ "java/lang/invoke/MethodHandle" ∧ z.cls ≠ "java/lang/invoke/VarHandle" := by decide) (hp : pc + 3 = pc' := by rfl) : WP X Z rc rs Q pc L (S) os ce sl :=
  W.callSv (argsL := []) (S := S) K pc' hd w1 w2 w3 w4 hsig hM k rfl hlen hsz hf hl hc hs hy hp
theorem W.callSv1 {idx mx : Nat} {z : MethodName} {bytes : ByteArray} {rt : Option FieldType} {rm : Room} {ps : List FieldType} {rr : Option FieldType} {x1 : Value} {q : Value → OS → Prop} (K : Ctx X l Z R y code maxL ret) (pc' : Nat) (hd : decode code pc = .ok (.invokestatic idx, 3)) (w1 : (Jvm.Cond.methodLink y.cls idx z).before a0 Z = true) (w2 : (Jvm.Cond.static z).before a0 Z = true) (w3 : (Jvm.Cond.initialized z.cls).before a0 Z = true) (w4 : (Jvm.Cond.code z bytes mx rt).before a0 Z = true)
    (hsig : parseMethodDescriptor z.desc = some ⟨ps, rr⟩) (hM : OMeets l Z z bytes mx rt rm [x1] os (RetV q)) (k : ∀ v os', q v os' → WP X Z rc rs Q pc' L (v :: S) os' (ce + rm.cells) (sl + rm.slots)) (hlen : ([x1] : List Value).length = ps.length := by rfl) (hsz : L.length = maxL := by rfl) (hf : rm.frames + 1 ≤ R.frames := by decide) (hl : (S.map fun v => v.category).sum + (mx + 11) + rm.locals ≤ R.locals := by exact Nat.le_of_ble_eq_true rfl)
    (hc : ce + rm.cells ≤ R.cells := by decide) (hs : sl + rm.slots ≤ R.slots := by decide) (hy : z.cls ≠ "java/lang/invoke/MethodHandle" ∧ z.cls ≠ "java/lang/invoke/VarHandle" := by decide) (hp : pc + 3 = pc' := by rfl) : WP X Z rc rs Q pc L (x1 :: S) os ce sl :=
  W.callSv (argsL := [x1]) (S := S) K pc' hd w1 w2 w3 w4 hsig hM k rfl hlen hsz hf hl hc hs hy hp
theorem W.callSv2 {idx mx : Nat} {z : MethodName} {bytes : ByteArray} {rt : Option FieldType} {rm : Room} {ps : List FieldType} {rr : Option FieldType} {x1 x2 : Value} {q : Value → OS → Prop} (K : Ctx X l Z R y code maxL ret) (pc' : Nat) (hd : decode code pc = .ok (.invokestatic idx, 3)) (w1 : (Jvm.Cond.methodLink y.cls idx z).before a0 Z = true) (w2 : (Jvm.Cond.static z).before a0 Z = true) (w3 : (Jvm.Cond.initialized z.cls).before a0 Z = true) (w4 : (Jvm.Cond.code z bytes mx rt).before a0 Z = true)
    (hsig : parseMethodDescriptor z.desc = some ⟨ps, rr⟩) (hM : OMeets l Z z bytes mx rt rm [x1, x2] os (RetV q)) (k : ∀ v os', q v os' → WP X Z rc rs Q pc' L (v :: S) os' (ce + rm.cells) (sl + rm.slots)) (hlen : ([x1, x2] : List Value).length = ps.length := by rfl) (hsz : L.length = maxL := by rfl) (hf : rm.frames + 1 ≤ R.frames := by decide) (hl : (S.map fun v => v.category).sum + (mx + 11) + rm.locals ≤ R.locals := by exact Nat.le_of_ble_eq_true rfl)
    (hc : ce + rm.cells ≤ R.cells := by decide) (hs : sl + rm.slots ≤ R.slots := by decide) (hy : z.cls ≠ "java/lang/invoke/MethodHandle" ∧ z.cls ≠ "java/lang/invoke/VarHandle" := by decide) (hp : pc + 3 = pc' := by rfl) : WP X Z rc rs Q pc L (x2 :: x1 :: S) os ce sl :=
  W.callSv (argsL := [x1, x2]) (S := S) K pc' hd w1 w2 w3 w4 hsig hM k rfl hlen hsz hf hl hc hs hy hp
theorem W.callSv3 {idx mx : Nat} {z : MethodName} {bytes : ByteArray} {rt : Option FieldType} {rm : Room} {ps : List FieldType} {rr : Option FieldType} {x1 x2 x3 : Value} {q : Value → OS → Prop} (K : Ctx X l Z R y code maxL ret) (pc' : Nat) (hd : decode code pc = .ok (.invokestatic idx, 3)) (w1 : (Jvm.Cond.methodLink y.cls idx z).before a0 Z = true) (w2 : (Jvm.Cond.static z).before a0 Z = true) (w3 : (Jvm.Cond.initialized z.cls).before a0 Z = true) (w4 : (Jvm.Cond.code z bytes mx rt).before a0 Z = true)
    (hsig : parseMethodDescriptor z.desc = some ⟨ps, rr⟩) (hM : OMeets l Z z bytes mx rt rm [x1, x2, x3] os (RetV q)) (k : ∀ v os', q v os' → WP X Z rc rs Q pc' L (v :: S) os' (ce + rm.cells) (sl + rm.slots)) (hlen : ([x1, x2, x3] : List Value).length = ps.length := by rfl) (hsz : L.length = maxL := by rfl) (hf : rm.frames + 1 ≤ R.frames := by decide) (hl : (S.map fun v => v.category).sum + (mx + 11) + rm.locals ≤ R.locals := by exact Nat.le_of_ble_eq_true rfl)
    (hc : ce + rm.cells ≤ R.cells := by decide) (hs : sl + rm.slots ≤ R.slots := by decide) (hy : z.cls ≠ "java/lang/invoke/MethodHandle" ∧ z.cls ≠ "java/lang/invoke/VarHandle" := by decide) (hp : pc + 3 = pc' := by rfl) : WP X Z rc rs Q pc L (x3 :: x2 :: x1 :: S) os ce sl :=
  W.callSv (argsL := [x1, x2, x3]) (S := S) K pc' hd w1 w2 w3 w4 hsig hM k rfl hlen hsz hf hl hc hs hy hp
theorem W.callSv4 {idx mx : Nat} {z : MethodName} {bytes : ByteArray} {rt : Option FieldType} {rm : Room} {ps : List FieldType} {rr : Option FieldType} {x1 x2 x3 x4 : Value} {q : Value → OS → Prop} (K : Ctx X l Z R y code maxL ret) (pc' : Nat) (hd : decode code pc = .ok (.invokestatic idx, 3)) (w1 : (Jvm.Cond.methodLink y.cls idx z).before a0 Z = true) (w2 : (Jvm.Cond.static z).before a0 Z = true) (w3 : (Jvm.Cond.initialized z.cls).before a0 Z = true) (w4 : (Jvm.Cond.code z bytes mx rt).before a0 Z = true)
    (hsig : parseMethodDescriptor z.desc = some ⟨ps, rr⟩) (hM : OMeets l Z z bytes mx rt rm [x1, x2, x3, x4] os (RetV q)) (k : ∀ v os', q v os' → WP X Z rc rs Q pc' L (v :: S) os' (ce + rm.cells) (sl + rm.slots)) (hlen : ([x1, x2, x3, x4] : List Value).length = ps.length := by rfl) (hsz : L.length = maxL := by rfl) (hf : rm.frames + 1 ≤ R.frames := by decide) (hl : (S.map fun v => v.category).sum + (mx + 11) + rm.locals ≤ R.locals := by exact Nat.le_of_ble_eq_true rfl)
    (hc : ce + rm.cells ≤ R.cells := by decide) (hs : sl + rm.slots ≤ R.slots := by decide) (hy : z.cls ≠ "java/lang/invoke/MethodHandle" ∧ z.cls ≠ "java/lang/invoke/VarHandle" := by decide) (hp : pc + 3 = pc' := by rfl) : WP X Z rc rs Q pc L (x4 :: x3 :: x2 :: x1 :: S) os ce sl :=
  W.callSv (argsL := [x1, x2, x3, x4]) (S := S) K pc' hd w1 w2 w3 w4 hsig hM k rfl hlen hsz hf hl hc hs hy hp
theorem W.callSv5 {idx mx : Nat} {z : MethodName} {bytes : ByteArray} {rt : Option FieldType} {rm : Room} {ps : List FieldType} {rr : Option FieldType} {x1 x2 x3 x4 x5 : Value} {q : Value → OS → Prop} (K : Ctx X l Z R y code maxL ret) (pc' : Nat) (hd : decode code pc = .ok (.invokestatic idx, 3)) (w1 : (Jvm.Cond.methodLink y.cls idx z).before a0 Z = true) (w2 : (Jvm.Cond.static z).before a0 Z = true) (w3 : (Jvm.Cond.initialized z.cls).before a0 Z = true) (w4 : (Jvm.Cond.code z bytes mx rt).before a0 Z = true)
    (hsig : parseMethodDescriptor z.desc = some ⟨ps, rr⟩) (hM : OMeets l Z z bytes mx rt rm [x1, x2, x3, x4, x5] os (RetV q)) (k : ∀ v os', q v os' → WP X Z rc rs Q pc' L (v :: S) os' (ce + rm.cells) (sl + rm.slots)) (hlen : ([x1, x2, x3, x4, x5] : List Value).length = ps.length := by rfl) (hsz : L.length = maxL := by rfl) (hf : rm.frames + 1 ≤ R.frames := by decide) (hl : (S.map fun v => v.category).sum + (mx + 11) + rm.locals ≤ R.locals := by exact Nat.le_of_ble_eq_true rfl)
    (hc : ce + rm.cells ≤ R.cells := by decide) (hs : sl + rm.slots ≤ R.slots := by decide) (hy : z.cls ≠ "java/lang/invoke/MethodHandle" ∧ z.cls ≠ "java/lang/invoke/VarHandle" := by decide) (hp : pc + 3 = pc' := by rfl) : WP X Z rc rs Q pc L (x5 :: x4 :: x3 :: x2 :: x1 :: S) os ce sl :=
  W.callSv (argsL := [x1, x2, x3, x4, x5]) (S := S) K pc' hd w1 w2 w3 w4 hsig hM k rfl hlen hsz hf hl hc hs hy hp
theorem W.callSv6 {idx mx : Nat} {z : MethodName} {bytes : ByteArray} {rt : Option FieldType} {rm : Room} {ps : List FieldType} {rr : Option FieldType} {x1 x2 x3 x4 x5 x6 : Value} {q : Value → OS → Prop} (K : Ctx X l Z R y code maxL ret) (pc' : Nat) (hd : decode code pc = .ok (.invokestatic idx, 3)) (w1 : (Jvm.Cond.methodLink y.cls idx z).before a0 Z = true) (w2 : (Jvm.Cond.static z).before a0 Z = true) (w3 : (Jvm.Cond.initialized z.cls).before a0 Z = true) (w4 : (Jvm.Cond.code z bytes mx rt).before a0 Z = true)
    (hsig : parseMethodDescriptor z.desc = some ⟨ps, rr⟩) (hM : OMeets l Z z bytes mx rt rm [x1, x2, x3, x4, x5, x6] os (RetV q)) (k : ∀ v os', q v os' → WP X Z rc rs Q pc' L (v :: S) os' (ce + rm.cells) (sl + rm.slots)) (hlen : ([x1, x2, x3, x4, x5, x6] : List Value).length = ps.length := by rfl) (hsz : L.length = maxL := by rfl) (hf : rm.frames + 1 ≤ R.frames := by decide) (hl : (S.map fun v => v.category).sum + (mx + 11) + rm.locals ≤ R.locals := by exact Nat.le_of_ble_eq_true rfl)
    (hc : ce + rm.cells ≤ R.cells := by decide) (hs : sl + rm.slots ≤ R.slots := by decide) (hy : z.cls ≠ "java/lang/invoke/MethodHandle" ∧ z.cls ≠ "java/lang/invoke/VarHandle" := by decide) (hp : pc + 3 = pc' := by rfl) : WP X Z rc rs Q pc L (x6 :: x5 :: x4 :: x3 :: x2 :: x1 :: S) os ce sl :=
  W.callSv (argsL := [x1, x2, x3, x4, x5, x6]) (S := S) K pc' hd w1 w2 w3 w4 hsig hM k rfl hlen hsz hf hl hc hs hy hp
theorem W.callSv7 {idx mx : Nat} {z : MethodName} {bytes : ByteArray} {rt : Option FieldType} {rm : Room} {ps : List FieldType} {rr : Option FieldType} {x1 x2 x3 x4 x5 x6 x7 : Value} {q : Value → OS → Prop} (K : Ctx X l Z R y code maxL ret) (pc' : Nat) (hd : decode code pc = .ok (.invokestatic idx, 3)) (w1 : (Jvm.Cond.methodLink y.cls idx z).before a0 Z = true) (w2 : (Jvm.Cond.static z).before a0 Z = true) (w3 : (Jvm.Cond.initialized z.cls).before a0 Z = true) (w4 : (Jvm.Cond.code z bytes mx rt).before a0 Z = true)
    (hsig : parseMethodDescriptor z.desc = some ⟨ps, rr⟩) (hM : OMeets l Z z bytes mx rt rm [x1, x2, x3, x4, x5, x6, x7] os (RetV q)) (k : ∀ v os', q v os' → WP X Z rc rs Q pc' L (v :: S) os' (ce + rm.cells) (sl + rm.slots)) (hlen : ([x1, x2, x3, x4, x5, x6, x7] : List Value).length = ps.length := by rfl) (hsz : L.length = maxL := by rfl) (hf : rm.frames + 1 ≤ R.frames := by decide) (hl : (S.map fun v => v.category).sum + (mx + 11) + rm.locals ≤ R.locals := by exact Nat.le_of_ble_eq_true rfl)
    (hc : ce + rm.cells ≤ R.cells := by decide) (hs : sl + rm.slots ≤ R.slots := by decide) (hy : z.cls ≠ "java/lang/invoke/MethodHandle" ∧ z.cls ≠ "java/lang/invoke/VarHandle" := by decide) (hp : pc + 3 = pc' := by rfl) : WP X Z rc rs Q pc L (x7 :: x6 :: x5 :: x4 :: x3 :: x2 :: x1 :: S) os ce sl :=
  W.callSv (argsL := [x1, x2, x3, x4, x5, x6, x7]) (S := S) K pc' hd w1 w2 w3 w4 hsig hM k rfl hlen hsz hf hl hc hs hy hp
theorem W.callSn0 {idx mx : Nat} {z : MethodName} {bytes : ByteArray} {rt : Option FieldType} {rm : Room} {ps : List FieldType} {rr : Option FieldType} {q : OS → Prop} (K : Ctx X l Z R y code maxL ret) (pc' : Nat) (hd : decode code pc = .ok (.invokestatic idx, 3)) (w1 : (Jvm.Cond.methodLink y.cls idx z).before a0 Z = true) (w2 : (Jvm.Cond.static z).before a0 Z = true) (w3 : (Jvm.Cond.initialized z.cls).before a0 Z = true) (w4 : (Jvm.Cond.code z bytes mx rt).before a0 Z = true)
    (hsig : parseMethodDescriptor z.desc = some ⟨ps, rr⟩) (hM : OMeets l Z z bytes mx rt rm [] os (RetN q)) (k : ∀ os', q os' → WP X Z rc rs Q pc' L S os' (ce + rm.cells) (sl + rm.slots)) (hlen : ([] : List Value).length = ps.length := by rfl) (hsz : L.length = maxL := by rfl) (hf : rm.frames + 1 ≤ R.frames := by decide) (hl : (S.map fun v => v.category).sum + (mx + 11) + rm.locals ≤ R.locals := by exact Nat.le_of_ble_eq_true rfl)
    (hc : ce + rm.cells ≤ R.cells := by decide) (hs : sl + rm.slots ≤ R.slots := by decide) (hy : z.cls ≠ "java/lang/invoke/MethodHandle" ∧ z.cls ≠ "java/lang/invoke/VarHandle" := by decide) (hp : pc + 3 = pc' := by rfl) : WP X Z rc rs Q pc L (S) os ce sl :=
  W.callSn (argsL := []) (S := S) K pc' hd w1 w2 w3 w4 hsig hM k rfl hlen hsz hf hl hc hs hy hp
theorem W.callSn1 {idx mx : Nat} {z : MethodName} {bytes : ByteArray} {rt : Option FieldType} {rm : Room} {ps : List FieldType} {rr : Option FieldType} {x1 : Value} {q : OS → Prop} (K : Ctx X l Z R y code maxL ret) (pc' : Nat) (hd : decode code pc = .ok (.invokestatic idx, 3)) (w1 : (Jvm.Cond.methodLink y.cls idx z).before a0 Z = true) (w2 : (Jvm.Cond.static z).before a0 Z = true) (w3 : (Jvm.Cond.initialized z.cls).before a0 Z = true) (w4 : (Jvm.Cond.code z bytes mx rt).before a0 Z = true)
    (hsig : parseMethodDescriptor z.desc = some ⟨ps, rr⟩) (hM : OMeets l Z z bytes mx rt rm [x1] os (RetN q)) (k : ∀ os', q os' → WP X Z rc rs Q pc' L S os' (ce + rm.cells) (sl + rm.slots)) (hlen : ([x1] : List Value).length = ps.length := by rfl) (hsz : L.length = maxL := by rfl) (hf : rm.frames + 1 ≤ R.frames := by decide) (hl : (S.map fun v => v.category).sum + (mx + 11) + rm.locals ≤ R.locals := by exact Nat.le_of_ble_eq_true rfl)
    (hc : ce + rm.cells ≤ R.cells := by decide) (hs : sl + rm.slots ≤ R.slots := by decide) (hy : z.cls ≠ "java/lang/invoke/MethodHandle" ∧ z.cls ≠ "java/lang/invoke/VarHandle" := by decide) (hp : pc + 3 = pc' := by rfl) : WP X Z rc rs Q pc L (x1 :: S) os ce sl :=
  W.callSn (argsL := [x1]) (S := S) K pc' hd w1 w2 w3 w4 hsig hM k rfl hlen hsz hf hl hc hs hy hp
theorem W.callSn2 {idx mx : Nat} {z : MethodName} {bytes : ByteArray} {rt : Option FieldType} {rm : Room} {ps : List FieldType} {rr : Option FieldType} {x1 x2 : Value} {q : OS → Prop} (K : Ctx X l Z R y code maxL ret) (pc' : Nat) (hd : decode code pc = .ok (.invokestatic idx, 3)) (w1 : (Jvm.Cond.methodLink y.cls idx z).before a0 Z = true) (w2 : (Jvm.Cond.static z).before a0 Z = true) (w3 : (Jvm.Cond.initialized z.cls).before a0 Z = true) (w4 : (Jvm.Cond.code z bytes mx rt).before a0 Z = true)
    (hsig : parseMethodDescriptor z.desc = some ⟨ps, rr⟩) (hM : OMeets l Z z bytes mx rt rm [x1, x2] os (RetN q)) (k : ∀ os', q os' → WP X Z rc rs Q pc' L S os' (ce + rm.cells) (sl + rm.slots)) (hlen : ([x1, x2] : List Value).length = ps.length := by rfl) (hsz : L.length = maxL := by rfl) (hf : rm.frames + 1 ≤ R.frames := by decide) (hl : (S.map fun v => v.category).sum + (mx + 11) + rm.locals ≤ R.locals := by exact Nat.le_of_ble_eq_true rfl)
    (hc : ce + rm.cells ≤ R.cells := by decide) (hs : sl + rm.slots ≤ R.slots := by decide) (hy : z.cls ≠ "java/lang/invoke/MethodHandle" ∧ z.cls ≠ "java/lang/invoke/VarHandle" := by decide) (hp : pc + 3 = pc' := by rfl) : WP X Z rc rs Q pc L (x2 :: x1 :: S) os ce sl :=
  W.callSn (argsL := [x1, x2]) (S := S) K pc' hd w1 w2 w3 w4 hsig hM k rfl hlen hsz hf hl hc hs hy hp
theorem W.callSn3 {idx mx : Nat} {z : MethodName} {bytes : ByteArray} {rt : Option FieldType} {rm : Room} {ps : List FieldType} {rr : Option FieldType} {x1 x2 x3 : Value} {q : OS → Prop} (K : Ctx X l Z R y code maxL ret) (pc' : Nat) (hd : decode code pc = .ok (.invokestatic idx, 3)) (w1 : (Jvm.Cond.methodLink y.cls idx z).before a0 Z = true) (w2 : (Jvm.Cond.static z).before a0 Z = true) (w3 : (Jvm.Cond.initialized z.cls).before a0 Z = true) (w4 : (Jvm.Cond.code z bytes mx rt).before a0 Z = true)
    (hsig : parseMethodDescriptor z.desc = some ⟨ps, rr⟩) (hM : OMeets l Z z bytes mx rt rm [x1, x2, x3] os (RetN q)) (k : ∀ os', q os' → WP X Z rc rs Q pc' L S os' (ce + rm.cells) (sl + rm.slots)) (hlen : ([x1, x2, x3] : List Value).length = ps.length := by rfl) (hsz : L.length = maxL := by rfl) (hf : rm.frames + 1 ≤ R.frames := by decide) (hl : (S.map fun v => v.category).sum + (mx + 11) + rm.locals ≤ R.locals := by exact Nat.le_of_ble_eq_true rfl)
    (hc : ce + rm.cells ≤ R.cells := by decide) (hs : sl + rm.slots ≤ R.slots := by decide) (hy : z.cls ≠ "java/lang/invoke/MethodHandle" ∧ z.cls ≠ "java/lang/invoke/VarHandle" := by decide) (hp : pc + 3 = pc' := by rfl) : WP X Z rc rs Q pc L (x3 :: x2 :: x1 :: S) os ce sl :=
  W.callSn (argsL := [x1, x2, x3]) (S := S) K pc' hd w1 w2 w3 w4 hsig hM k rfl hlen hsz hf hl hc hs hy hp
theorem W.callSn4 {idx mx : Nat} {z : MethodName} {bytes : ByteArray} {rt : Option FieldType} {rm : Room} {ps : List FieldType} {rr : Option FieldType} {x1 x2 x3 x4 : Value} {q : OS → Prop} (K : Ctx X l Z R y code maxL ret) (pc' : Nat) (hd : decode code pc = .ok (.invokestatic idx, 3)) (w1 : (Jvm.Cond.methodLink y.cls idx z).before a0 Z = true) (w2 : (Jvm.Cond.static z).before a0 Z = true) (w3 : (Jvm.Cond.initialized z.cls).before a0 Z = true) (w4 : (Jvm.Cond.code z bytes mx rt).before a0 Z = true)
    (hsig : parseMethodDescriptor z.desc = some ⟨ps, rr⟩) (hM : OMeets l Z z bytes mx rt rm [x1, x2, x3, x4] os (RetN q)) (k : ∀ os', q os' → WP X Z rc rs Q pc' L S os' (ce + rm.cells) (sl + rm.slots)) (hlen : ([x1, x2, x3, x4] : List Value).length = ps.length := by rfl) (hsz : L.length = maxL := by rfl) (hf : rm.frames + 1 ≤ R.frames := by decide) (hl : (S.map fun v => v.category).sum + (mx + 11) + rm.locals ≤ R.locals := by exact Nat.le_of_ble_eq_true rfl)
    (hc : ce + rm.cells ≤ R.cells := by decide) (hs : sl + rm.slots ≤ R.slots := by decide) (hy : z.cls ≠ "java/lang/invoke/MethodHandle" ∧ z.cls ≠ "java/lang/invoke/VarHandle" := by decide) (hp : pc + 3 = pc' := by rfl) : WP X Z rc rs Q pc L (x4 :: x3 :: x2 :: x1 :: S) os ce sl :=
  W.callSn (argsL := [x1, x2, x3, x4]) (S := S) K pc' hd w1 w2 w3 w4 hsig hM k rfl hlen hsz hf hl hc hs hy hp
theorem W.callSn5 {idx mx : Nat} {z : MethodName} {bytes : ByteArray} {rt : Option FieldType} {rm : Room} {ps : List FieldType} {rr : Option FieldType} {x1 x2 x3 x4 x5 : Value} {q : OS → Prop} (K : Ctx X l Z R y code maxL ret) (pc' : Nat) (hd : decode code pc = .ok (.invokestatic idx, 3)) (w1 : (Jvm.Cond.methodLink y.cls idx z).before a0 Z = true) (w2 : (Jvm.Cond.static z).before a0 Z = true) (w3 : (Jvm.Cond.initialized z.cls).before a0 Z = true) (w4 : (Jvm.Cond.code z bytes mx rt).before a0 Z = true)
    (hsig : parseMethodDescriptor z.desc = some ⟨ps, rr⟩) (hM : OMeets l Z z bytes mx rt rm [x1, x2, x3, x4, x5] os (RetN q)) (k : ∀ os', q os' → WP X Z rc rs Q pc' L S os' (ce + rm.cells) (sl + rm.slots)) (hlen : ([x1, x2, x3, x4, x5] : List Value).length = ps.length := by rfl) (hsz : L.length = maxL := by rfl) (hf : rm.frames + 1 ≤ R.frames := by decide) (hl : (S.map fun v => v.category).sum + (mx + 11) + rm.locals ≤ R.locals := by exact Nat.le_of_ble_eq_true rfl)
    (hc : ce + rm.cells ≤ R.cells := by decide) (hs : sl + rm.slots ≤ R.slots := by decide) (hy : z.cls ≠ "java/lang/invoke/MethodHandle" ∧ z.cls ≠ "java/lang/invoke/VarHandle" := by decide) (hp : pc + 3 = pc' := by rfl) : WP X Z rc rs Q pc L (x5 :: x4 :: x3 :: x2 :: x1 :: S) os ce sl :=
  W.callSn (argsL := [x1, x2, x3, x4, x5]) (S := S) K pc' hd w1 w2 w3 w4 hsig hM k rfl hlen hsz hf hl hc hs hy hp
theorem W.callSn6 {idx mx : Nat} {z : MethodName} {bytes : ByteArray} {rt : Option FieldType} {rm : Room} {ps : List FieldType} {rr : Option FieldType} {x1 x2 x3 x4 x5 x6 : Value} {q : OS → Prop} (K : Ctx X l Z R y code maxL ret) (pc' : Nat) (hd : decode code pc = .ok (.invokestatic idx, 3)) (w1 : (Jvm.Cond.methodLink y.cls idx z).before a0 Z = true) (w2 : (Jvm.Cond.static z).before a0 Z = true) (w3 : (Jvm.Cond.initialized z.cls).before a0 Z = true) (w4 : (Jvm.Cond.code z bytes mx rt).before a0 Z = true)
    (hsig : parseMethodDescriptor z.desc = some ⟨ps, rr⟩) (hM : OMeets l Z z bytes mx rt rm [x1, x2, x3, x4, x5, x6] os (RetN q)) (k : ∀ os', q os' → WP X Z rc rs Q pc' L S os' (ce + rm.cells) (sl + rm.slots)) (hlen : ([x1, x2, x3, x4, x5, x6] : List Value).length = ps.length := by rfl) (hsz : L.length = maxL := by rfl) (hf : rm.frames + 1 ≤ R.frames := by decide) (hl : (S.map fun v => v.category).sum + (mx + 11) + rm.locals ≤ R.locals := by exact Nat.le_of_ble_eq_true rfl)
    (hc : ce + rm.cells ≤ R.cells := by decide) (hs : sl + rm.slots ≤ R.slots := by decide) (hy : z.cls ≠ "java/lang/invoke/MethodHandle" ∧ z.cls ≠ "java/lang/invoke/VarHandle" := by decide) (hp : pc + 3 = pc' := by rfl) : WP X Z rc rs Q pc L (x6 :: x5 :: x4 :: x3 :: x2 :: x1 :: S) os ce sl :=
  W.callSn (argsL := [x1, x2, x3, x4, x5, x6]) (S := S) K pc' hd w1 w2 w3 w4 hsig hM k rfl hlen hsz hf hl hc hs hy hp
theorem W.callSn7 {idx mx : Nat} {z : MethodName} {bytes : ByteArray} {rt : Option FieldType} {rm : Room} {ps : List FieldType} {rr : Option FieldType} {x1 x2 x3 x4 x5 x6 x7 : Value} {q : OS → Prop} (K : Ctx X l Z R y code maxL ret) (pc' : Nat) (hd : decode code pc = .ok (.invokestatic idx, 3)) (w1 : (Jvm.Cond.methodLink y.cls idx z).before a0 Z = true) (w2 : (Jvm.Cond.static z).before a0 Z = true) (w3 : (Jvm.Cond.initialized z.cls).before a0 Z = true) (w4 : (Jvm.Cond.code z bytes mx rt).before a0 Z = true)
    (hsig : parseMethodDescriptor z.desc = some ⟨ps, rr⟩) (hM : OMeets l Z z bytes mx rt rm [x1, x2, x3, x4, x5, x6, x7] os (RetN q)) (k : ∀ os', q os' → WP X Z rc rs Q pc' L S os' (ce + rm.cells) (sl + rm.slots)) (hlen : ([x1, x2, x3, x4, x5, x6, x7] : List Value).length = ps.length := by rfl) (hsz : L.length = maxL := by rfl) (hf : rm.frames + 1 ≤ R.frames := by decide) (hl : (S.map fun v => v.category).sum + (mx + 11) + rm.locals ≤ R.locals := by exact Nat.le_of_ble_eq_true rfl)
    (hc : ce + rm.cells ≤ R.cells := by decide) (hs : sl + rm.slots ≤ R.slots := by decide) (hy : z.cls ≠ "java/lang/invoke/MethodHandle" ∧ z.cls ≠ "java/lang/invoke/VarHandle" := by decide) (hp : pc + 3 = pc' := by rfl) : WP X Z rc rs Q pc L (x7 :: x6 :: x5 :: x4 :: x3 :: x2 :: x1 :: S) os ce sl :=
  W.callSn (argsL := [x1, x2, x3, x4, x5, x6, x7]) (S := S) K pc' hd w1 w2 w3 w4 hsig hM k rfl hlen hsz hf hl hc hs hy hp
theorem W.callIn0 {idx mx : Nat} {z : MethodName} {bytes : ByteArray} {rm : Room} {ps : List FieldType} {rr : Option FieldType} {b : Addr} {q : OS → Prop} (K : Ctx X l Z R y code maxL ret) (pc' : Nat) (hd : decode code pc = .ok (.invokespecial idx, 3)) (w1 : (Jvm.Cond.methodLink y.cls idx z).before a0 Z = true) (w2 : (Jvm.Cond.instanceMethod z).before a0 Z = true) (w3 : (Jvm.Cond.initialized z.cls).before a0 Z = true) (w4 : (Jvm.Cond.code z bytes mx none).before a0 Z = true)
    (hsig : parseMethodDescriptor z.desc = some ⟨ps, rr⟩) (hM : OMeets l Z z bytes mx none rm [.ref b] os (RetN q)) (k : ∀ os', q os' → WP X Z rc rs Q pc' L S os' (ce + rm.cells) (sl + rm.slots)) (hz1 : z.name = "<init>" := by rfl) (hlen : ([] : List Value).length = ps.length := by rfl) (hsz : L.length = maxL := by rfl) (hf : rm.frames + 1 ≤ R.frames := by decide) (hl : (S.map fun v => v.category).sum + (mx + 11) + rm.locals ≤ R.locals := by exact Nat.le_of_ble_eq_true rfl)
    (hc : ce + rm.cells ≤ R.cells := by decide) (hs : sl + rm.slots ≤ R.slots := by decide) (hy : z.cls ≠ "java/lang/invoke/MethodHandle" ∧ z.cls ≠ "java/lang/invoke/VarHandle" := by decide) (hp : pc + 3 = pc' := by rfl) : WP X Z rc rs Q pc L (.ref b :: S) os ce sl :=
  W.callIn (argsL := []) (S := S) K pc' hd w1 w2 w3 w4 hsig hM k hz1 rfl hlen hsz hf hl hc hs hy hp
theorem W.callIn1 {idx mx : Nat} {z : MethodName} {bytes : ByteArray} {rm : Room} {ps : List FieldType} {rr : Option FieldType} {b : Addr} {x1 : Value} {q : OS → Prop} (K : Ctx X l Z R y code maxL ret) (pc' : Nat) (hd : decode code pc = .ok (.invokespecial idx, 3)) (w1 : (Jvm.Cond.methodLink y.cls idx z).before a0 Z = true) (w2 : (Jvm.Cond.instanceMethod z).before a0 Z = true) (w3 : (Jvm.Cond.initialized z.cls).before a0 Z = true) (w4 : (Jvm.Cond.code z bytes mx none).before a0 Z = true)
    (hsig : parseMethodDescriptor z.desc = some ⟨ps, rr⟩) (hM : OMeets l Z z bytes mx none rm [.ref b, x1] os (RetN q)) (k : ∀ os', q os' → WP X Z rc rs Q pc' L S os' (ce + rm.cells) (sl + rm.slots)) (hz1 : z.name = "<init>" := by rfl) (hlen : ([x1] : List Value).length = ps.length := by rfl) (hsz : L.length = maxL := by rfl) (hf : rm.frames + 1 ≤ R.frames := by decide) (hl : (S.map fun v => v.category).sum + (mx + 11) + rm.locals ≤ R.locals := by exact Nat.le_of_ble_eq_true rfl)
    (hc : ce + rm.cells ≤ R.cells := by decide) (hs : sl + rm.slots ≤ R.slots := by decide) (hy : z.cls ≠ "java/lang/invoke/MethodHandle" ∧ z.cls ≠ "java/lang/invoke/VarHandle" := by decide) (hp : pc + 3 = pc' := by rfl) : WP X Z rc rs Q pc L (x1 :: .ref b :: S) os ce sl :=
  W.callIn (argsL := [x1]) (S := S) K pc' hd w1 w2 w3 w4 hsig hM k hz1 rfl hlen hsz hf hl hc hs hy hp
theorem W.callIn2 {idx mx : Nat} {z : MethodName} {bytes : ByteArray} {rm : Room} {ps : List FieldType} {rr : Option FieldType} {b : Addr} {x1 x2 : Value} {q : OS → Prop} (K : Ctx X l Z R y code maxL ret) (pc' : Nat) (hd : decode code pc = .ok (.invokespecial idx, 3)) (w1 : (Jvm.Cond.methodLink y.cls idx z).before a0 Z = true) (w2 : (Jvm.Cond.instanceMethod z).before a0 Z = true) (w3 : (Jvm.Cond.initialized z.cls).before a0 Z = true) (w4 : (Jvm.Cond.code z bytes mx none).before a0 Z = true)
    (hsig : parseMethodDescriptor z.desc = some ⟨ps, rr⟩) (hM : OMeets l Z z bytes mx none rm [.ref b, x1, x2] os (RetN q)) (k : ∀ os', q os' → WP X Z rc rs Q pc' L S os' (ce + rm.cells) (sl + rm.slots)) (hz1 : z.name = "<init>" := by rfl) (hlen : ([x1, x2] : List Value).length = ps.length := by rfl) (hsz : L.length = maxL := by rfl) (hf : rm.frames + 1 ≤ R.frames := by decide) (hl : (S.map fun v => v.category).sum + (mx + 11) + rm.locals ≤ R.locals := by exact Nat.le_of_ble_eq_true rfl)
    (hc : ce + rm.cells ≤ R.cells := by decide) (hs : sl + rm.slots ≤ R.slots := by decide) (hy : z.cls ≠ "java/lang/invoke/MethodHandle" ∧ z.cls ≠ "java/lang/invoke/VarHandle" := by decide) (hp : pc + 3 = pc' := by rfl) : WP X Z rc rs Q pc L (x2 :: x1 :: .ref b :: S) os ce sl :=
  W.callIn (argsL := [x1, x2]) (S := S) K pc' hd w1 w2 w3 w4 hsig hM k hz1 rfl hlen hsz hf hl hc hs hy hp
theorem W.callIn3 {idx mx : Nat} {z : MethodName} {bytes : ByteArray} {rm : Room} {ps : List FieldType} {rr : Option FieldType} {b : Addr} {x1 x2 x3 : Value} {q : OS → Prop} (K : Ctx X l Z R y code maxL ret) (pc' : Nat) (hd : decode code pc = .ok (.invokespecial idx, 3)) (w1 : (Jvm.Cond.methodLink y.cls idx z).before a0 Z = true) (w2 : (Jvm.Cond.instanceMethod z).before a0 Z = true) (w3 : (Jvm.Cond.initialized z.cls).before a0 Z = true) (w4 : (Jvm.Cond.code z bytes mx none).before a0 Z = true)
    (hsig : parseMethodDescriptor z.desc = some ⟨ps, rr⟩) (hM : OMeets l Z z bytes mx none rm [.ref b, x1, x2, x3] os (RetN q)) (k : ∀ os', q os' → WP X Z rc rs Q pc' L S os' (ce + rm.cells) (sl + rm.slots)) (hz1 : z.name = "<init>" := by rfl) (hlen : ([x1, x2, x3] : List Value).length = ps.length := by rfl) (hsz : L.length = maxL := by rfl) (hf : rm.frames + 1 ≤ R.frames := by decide) (hl : (S.map fun v => v.category).sum + (mx + 11) + rm.locals ≤ R.locals := by exact Nat.le_of_ble_eq_true rfl)
    (hc : ce + rm.cells ≤ R.cells := by decide) (hs : sl + rm.slots ≤ R.slots := by decide) (hy : z.cls ≠ "java/lang/invoke/MethodHandle" ∧ z.cls ≠ "java/lang/invoke/VarHandle" := by decide) (hp : pc + 3 = pc' := by rfl) : WP X Z rc rs Q pc L (x3 :: x2 :: x1 :: .ref b :: S) os ce sl :=
  W.callIn (argsL := [x1, x2, x3]) (S := S) K pc' hd w1 w2 w3 w4 hsig hM k hz1 rfl hlen hsz hf hl hc hs hy hp
theorem W.callIn4 {idx mx : Nat} {z : MethodName} {bytes : ByteArray} {rm : Room} {ps : List FieldType} {rr : Option FieldType} {b : Addr} {x1 x2 x3 x4 : Value} {q : OS → Prop} (K : Ctx X l Z R y code maxL ret) (pc' : Nat) (hd : decode code pc = .ok (.invokespecial idx, 3)) (w1 : (Jvm.Cond.methodLink y.cls idx z).before a0 Z = true) (w2 : (Jvm.Cond.instanceMethod z).before a0 Z = true) (w3 : (Jvm.Cond.initialized z.cls).before a0 Z = true) (w4 : (Jvm.Cond.code z bytes mx none).before a0 Z = true)
    (hsig : parseMethodDescriptor z.desc = some ⟨ps, rr⟩) (hM : OMeets l Z z bytes mx none rm [.ref b, x1, x2, x3, x4] os (RetN q)) (k : ∀ os', q os' → WP X Z rc rs Q pc' L S os' (ce + rm.cells) (sl + rm.slots)) (hz1 : z.name = "<init>" := by rfl) (hlen : ([x1, x2, x3, x4] : List Value).length = ps.length := by rfl) (hsz : L.length = maxL := by rfl) (hf : rm.frames + 1 ≤ R.frames := by decide) (hl : (S.map fun v => v.category).sum + (mx + 11) + rm.locals ≤ R.locals := by exact Nat.le_of_ble_eq_true rfl)
    (hc : ce + rm.cells ≤ R.cells := by decide) (hs : sl + rm.slots ≤ R.slots := by decide) (hy : z.cls ≠ "java/lang/invoke/MethodHandle" ∧ z.cls ≠ "java/lang/invoke/VarHandle" := by decide) (hp : pc + 3 = pc' := by rfl) : WP X Z rc rs Q pc L (x4 :: x3 :: x2 :: x1 :: .ref b :: S) os ce sl :=
  W.callIn (argsL := [x1, x2, x3, x4]) (S := S) K pc' hd w1 w2 w3 w4 hsig hM k hz1 rfl hlen hsz hf hl hc hs hy hp
theorem W.callIn5 {idx mx : Nat} {z : MethodName} {bytes : ByteArray} {rm : Room} {ps : List FieldType} {rr : Option FieldType} {b : Addr} {x1 x2 x3 x4 x5 : Value} {q : OS → Prop} (K : Ctx X l Z R y code maxL ret) (pc' : Nat) (hd : decode code pc = .ok (.invokespecial idx, 3)) (w1 : (Jvm.Cond.methodLink y.cls idx z).before a0 Z = true) (w2 : (Jvm.Cond.instanceMethod z).before a0 Z = true) (w3 : (Jvm.Cond.initialized z.cls).before a0 Z = true) (w4 : (Jvm.Cond.code z bytes mx none).before a0 Z = true)
    (hsig : parseMethodDescriptor z.desc = some ⟨ps, rr⟩) (hM : OMeets l Z z bytes mx none rm [.ref b, x1, x2, x3, x4, x5] os (RetN q)) (k : ∀ os', q os' → WP X Z rc rs Q pc' L S os' (ce + rm.cells) (sl + rm.slots)) (hz1 : z.name = "<init>" := by rfl) (hlen : ([x1, x2, x3, x4, x5] : List Value).length = ps.length := by rfl) (hsz : L.length = maxL := by rfl) (hf : rm.frames + 1 ≤ R.frames := by decide) (hl : (S.map fun v => v.category).sum + (mx + 11) + rm.locals ≤ R.locals := by exact Nat.le_of_ble_eq_true rfl)
    (hc : ce + rm.cells ≤ R.cells := by decide) (hs : sl + rm.slots ≤ R.slots := by decide) (hy : z.cls ≠ "java/lang/invoke/MethodHandle" ∧ z.cls ≠ "java/lang/invoke/VarHandle" := by decide) (hp : pc + 3 = pc' := by rfl) : WP X Z rc rs Q pc L (x5 :: x4 :: x3 :: x2 :: x1 :: .ref b :: S) os ce sl :=
  W.callIn (argsL := [x1, x2, x3, x4, x5]) (S := S) K pc' hd w1 w2 w3 w4 hsig hM k hz1 rfl hlen hsz hf hl hc hs hy hp
theorem W.callIn6 {idx mx : Nat} {z : MethodName} {bytes : ByteArray} {rm : Room} {ps : List FieldType} {rr : Option FieldType} {b : Addr} {x1 x2 x3 x4 x5 x6 : Value} {q : OS → Prop} (K : Ctx X l Z R y code maxL ret) (pc' : Nat) (hd : decode code pc = .ok (.invokespecial idx, 3)) (w1 : (Jvm.Cond.methodLink y.cls idx z).before a0 Z = true) (w2 : (Jvm.Cond.instanceMethod z).before a0 Z = true) (w3 : (Jvm.Cond.initialized z.cls).before a0 Z = true) (w4 : (Jvm.Cond.code z bytes mx none).before a0 Z = true)
    (hsig : parseMethodDescriptor z.desc = some ⟨ps, rr⟩) (hM : OMeets l Z z bytes mx none rm [.ref b, x1, x2, x3, x4, x5, x6] os (RetN q)) (k : ∀ os', q os' → WP X Z rc rs Q pc' L S os' (ce + rm.cells) (sl + rm.slots)) (hz1 : z.name = "<init>" := by rfl) (hlen : ([x1, x2, x3, x4, x5, x6] : List Value).length = ps.length := by rfl) (hsz : L.length = maxL := by rfl) (hf : rm.frames + 1 ≤ R.frames := by decide) (hl : (S.map fun v => v.category).sum + (mx + 11) + rm.locals ≤ R.locals := by exact Nat.le_of_ble_eq_true rfl)
    (hc : ce + rm.cells ≤ R.cells := by decide) (hs : sl + rm.slots ≤ R.slots := by decide) (hy : z.cls ≠ "java/lang/invoke/MethodHandle" ∧ z.cls ≠ "java/lang/invoke/VarHandle" := by decide) (hp : pc + 3 = pc' := by rfl) : WP X Z rc rs Q pc L (x6 :: x5 :: x4 :: x3 :: x2 :: x1 :: .ref b :: S) os ce sl :=
  W.callIn (argsL := [x1, x2, x3, x4, x5, x6]) (S := S) K pc' hd w1 w2 w3 w4 hsig hM k hz1 rfl hlen hsz hf hl hc hs hy hp
theorem W.callIn7 {idx mx : Nat} {z : MethodName} {bytes : ByteArray} {rm : Room} {ps : List FieldType} {rr : Option FieldType} {b : Addr} {x1 x2 x3 x4 x5 x6 x7 : Value} {q : OS → Prop} (K : Ctx X l Z R y code maxL ret) (pc' : Nat) (hd : decode code pc = .ok (.invokespecial idx, 3)) (w1 : (Jvm.Cond.methodLink y.cls idx z).before a0 Z = true) (w2 : (Jvm.Cond.instanceMethod z).before a0 Z = true) (w3 : (Jvm.Cond.initialized z.cls).before a0 Z = true) (w4 : (Jvm.Cond.code z bytes mx none).before a0 Z = true)
    (hsig : parseMethodDescriptor z.desc = some ⟨ps, rr⟩) (hM : OMeets l Z z bytes mx none rm [.ref b, x1, x2, x3, x4, x5, x6, x7] os (RetN q)) (k : ∀ os', q os' → WP X Z rc rs Q pc' L S os' (ce + rm.cells) (sl + rm.slots)) (hz1 : z.name = "<init>" := by rfl) (hlen : ([x1, x2, x3, x4, x5, x6, x7] : List Value).length = ps.length := by rfl) (hsz : L.length = maxL := by rfl) (hf : rm.frames + 1 ≤ R.frames := by decide) (hl : (S.map fun v => v.category).sum + (mx + 11) + rm.locals ≤ R.locals := by exact Nat.le_of_ble_eq_true rfl)
    (hc : ce + rm.cells ≤ R.cells := by decide) (hs : sl + rm.slots ≤ R.slots := by decide) (hy : z.cls ≠ "java/lang/invoke/MethodHandle" ∧ z.cls ≠ "java/lang/invoke/VarHandle" := by decide) (hp : pc + 3 = pc' := by rfl) : WP X Z rc rs Q pc L (x7 :: x6 :: x5 :: x4 :: x3 :: x2 :: x1 :: .ref b :: S) os ce sl :=
  W.callIn (argsL := [x1, x2, x3, x4, x5, x6, x7]) (S := S) K pc' hd w1 w2 w3 w4 hsig hM k hz1 rfl hlen hsz hf hl hc hs hy hp
theorem W.callVv0 {idx mx : Nat} {z : MethodName} {bytes : ByteArray} {rt : Option FieldType} {C : String} {rm : Room} {ps : List FieldType} {rr : Option FieldType} {b : Addr} {q : Value → OS → Prop} (K : Ctx X l Z R y code maxL ret) (pc' : Nat) (hd : decode code pc = .ok (.invokevirtual idx, 3)) (w1 : (Jvm.Cond.methodLink y.cls idx z).before a0 Z = true) (w2 : (Jvm.Cond.declares z).before a0 Z = true) (w5 : (Jvm.Cond.selects C z z).before a0 Z = true) (w6 : (Jvm.Cond.instanceMethod z).before a0 Z = true) (w3 : (Jvm.Cond.initialized z.cls).before a0 Z = true) (w4 : (Jvm.Cond.code z bytes mx rt).before a0 Z = true)
    (hsig : parseMethodDescriptor z.desc = some ⟨ps, rr⟩) (hrc : ∀ h, Hp Z h os → Exa Z h b C) (hM : OMeets l Z z bytes mx rt rm [.ref b] os (RetV q)) (k : ∀ v os', q v os' → WP X Z rc rs Q pc' L (v :: S) os' (ce + rm.cells) (sl + rm.slots)) (hlen : ([] : List Value).length = ps.length := by rfl) (hsz : L.length = maxL := by rfl) (hf : rm.frames + 1 ≤ R.frames := by decide) (hl : (S.map fun v => v.category).sum + (mx + 11) + rm.locals ≤ R.locals := by exact Nat.le_of_ble_eq_true rfl)
    (hc : ce + rm.cells ≤ R.cells := by decide) (hs : sl + rm.slots ≤ R.slots := by decide) (hy : z.cls ≠ "java/lang/invoke/MethodHandle" ∧ z.cls ≠ "java/lang/invoke/VarHandle" := by decide) (hp : pc + 3 = pc' := by rfl) : WP X Z rc rs Q pc L (.ref b :: S) os ce sl :=
  W.callVv (argsL := []) (S := S) K pc' hd w1 w2 w5 w6 w3 w4 hsig hrc hM k rfl hlen hsz hf hl hc hs hy hp
theorem W.callVv1 {idx mx : Nat} {z : MethodName} {bytes : ByteArray} {rt : Option FieldType} {C : String} {rm : Room} {ps : List FieldType} {rr : Option FieldType} {b : Addr} {x1 : Value} {q : Value → OS → Prop} (K : Ctx X l Z R y code maxL ret) (pc' : Nat) (hd : decode code pc = .ok (.invokevirtual idx, 3)) (w1 : (Jvm.Cond.methodLink y.cls idx z).before a0 Z = true) (w2 : (Jvm.Cond.declares z).before a0 Z = true) (w5 : (Jvm.Cond.selects C z z).before a0 Z = true) (w6 : (Jvm.Cond.instanceMethod z).before a0 Z = true) (w3 : (Jvm.Cond.initialized z.cls).before a0 Z = true) (w4 : (Jvm.Cond.code z bytes mx rt).before a0 Z = true)
    (hsig : parseMethodDescriptor z.desc = some ⟨ps, rr⟩) (hrc : ∀ h, Hp Z h os → Exa Z h b C) (hM : OMeets l Z z bytes mx rt rm [.ref b, x1] os (RetV q)) (k : ∀ v os', q v os' → WP X Z rc rs Q pc' L (v :: S) os' (ce + rm.cells) (sl + rm.slots)) (hlen : ([x1] : List Value).length = ps.length := by rfl) (hsz : L.length = maxL := by rfl) (hf : rm.frames + 1 ≤ R.frames := by decide) (hl : (S.map fun v => v.category).sum + (mx + 11) + rm.locals ≤ R.locals := by exact Nat.le_of_ble_eq_true rfl)
    (hc : ce + rm.cells ≤ R.cells := by decide) (hs : sl + rm.slots ≤ R.slots := by decide) (hy : z.cls ≠ "java/lang/invoke/MethodHandle" ∧ z.cls ≠ "java/lang/invoke/VarHandle" := by decide) (hp : pc + 3 = pc' := by rfl) : WP X Z rc rs Q pc L (x1 :: .ref b :: S) os ce sl :=
  W.callVv (argsL := [x1]) (S := S) K pc' hd w1 w2 w5 w6 w3 w4 hsig hrc hM k rfl hlen hsz hf hl hc hs hy hp
theorem W.callVv2 {idx mx : Nat} {z : MethodName} {bytes : ByteArray} {rt : Option FieldType} {C : String} {rm : Room} {ps : List FieldType} {rr : Option FieldType} {b : Addr} {x1 x2 : Value} {q : Value → OS → Prop} (K : Ctx X l Z R y code maxL ret) (pc' : Nat) (hd : decode code pc = .ok (.invokevirtual idx, 3)) (w1 : (Jvm.Cond.methodLink y.cls idx z).before a0 Z = true) (w2 : (Jvm.Cond.declares z).before a0 Z = true) (w5 : (Jvm.Cond.selects C z z).before a0 Z = true) (w6 : (Jvm.Cond.instanceMethod z).before a0 Z = true) (w3 : (Jvm.Cond.initialized z.cls).before a0 Z = true) (w4 : (Jvm.Cond.code z bytes mx rt).before a0 Z = true)
    (hsig : parseMethodDescriptor z.desc = some ⟨ps, rr⟩) (hrc : ∀ h, Hp Z h os → Exa Z h b C) (hM : OMeets l Z z bytes mx rt rm [.ref b, x1, x2] os (RetV q)) (k : ∀ v os', q v os' → WP X Z rc rs Q pc' L (v :: S) os' (ce + rm.cells) (sl + rm.slots)) (hlen : ([x1, x2] : List Value).length = ps.length := by rfl) (hsz : L.length = maxL := by rfl) (hf : rm.frames + 1 ≤ R.frames := by decide) (hl : (S.map fun v => v.category).sum + (mx + 11) + rm.locals ≤ R.locals := by exact Nat.le_of_ble_eq_true rfl)
    (hc : ce + rm.cells ≤ R.cells := by decide) (hs : sl + rm.slots ≤ R.slots := by decide) (hy : z.cls ≠ "java/lang/invoke/MethodHandle" ∧ z.cls ≠ "java/lang/invoke/VarHandle" := by decide) (hp : pc + 3 = pc' := by rfl) : WP X Z rc rs Q pc L (x2 :: x1 :: .ref b :: S) os ce sl :=
  W.callVv (argsL := [x1, x2]) (S := S) K pc' hd w1 w2 w5 w6 w3 w4 hsig hrc hM k rfl hlen hsz hf hl hc hs hy hp
theorem W.callVv3 {idx mx : Nat} {z : MethodName} {bytes : ByteArray} {rt : Option FieldType} {C : String} {rm : Room} {ps : List FieldType} {rr : Option FieldType} {b : Addr} {x1 x2 x3 : Value} {q : Value → OS → Prop} (K : Ctx X l Z R y code maxL ret) (pc' : Nat) (hd : decode code pc = .ok (.invokevirtual idx, 3)) (w1 : (Jvm.Cond.methodLink y.cls idx z).before a0 Z = true) (w2 : (Jvm.Cond.declares z).before a0 Z = true) (w5 : (Jvm.Cond.selects C z z).before a0 Z = true) (w6 : (Jvm.Cond.instanceMethod z).before a0 Z = true) (w3 : (Jvm.Cond.initialized z.cls).before a0 Z = true) (w4 : (Jvm.Cond.code z bytes mx rt).before a0 Z = true)
    (hsig : parseMethodDescriptor z.desc = some ⟨ps, rr⟩) (hrc : ∀ h, Hp Z h os → Exa Z h b C) (hM : OMeets l Z z bytes mx rt rm [.ref b, x1, x2, x3] os (RetV q)) (k : ∀ v os', q v os' → WP X Z rc rs Q pc' L (v :: S) os' (ce + rm.cells) (sl + rm.slots)) (hlen : ([x1, x2, x3] : List Value).length = ps.length := by rfl) (hsz : L.length = maxL := by rfl) (hf : rm.frames + 1 ≤ R.frames := by decide) (hl : (S.map fun v => v.category).sum + (mx + 11) + rm.locals ≤ R.locals := by exact Nat.le_of_ble_eq_true rfl)
    (hc : ce + rm.cells ≤ R.cells := by decide) (hs : sl + rm.slots ≤ R.slots := by decide) (hy : z.cls ≠ "java/lang/invoke/MethodHandle" ∧ z.cls ≠ "java/lang/invoke/VarHandle" := by decide) (hp : pc + 3 = pc' := by rfl) : WP X Z rc rs Q pc L (x3 :: x2 :: x1 :: .ref b :: S) os ce sl :=
  W.callVv (argsL := [x1, x2, x3]) (S := S) K pc' hd w1 w2 w5 w6 w3 w4 hsig hrc hM k rfl hlen hsz hf hl hc hs hy hp
theorem W.callVv4 {idx mx : Nat} {z : MethodName} {bytes : ByteArray} {rt : Option FieldType} {C : String} {rm : Room} {ps : List FieldType} {rr : Option FieldType} {b : Addr} {x1 x2 x3 x4 : Value} {q : Value → OS → Prop} (K : Ctx X l Z R y code maxL ret) (pc' : Nat) (hd : decode code pc = .ok (.invokevirtual idx, 3)) (w1 : (Jvm.Cond.methodLink y.cls idx z).before a0 Z = true) (w2 : (Jvm.Cond.declares z).before a0 Z = true) (w5 : (Jvm.Cond.selects C z z).before a0 Z = true) (w6 : (Jvm.Cond.instanceMethod z).before a0 Z = true) (w3 : (Jvm.Cond.initialized z.cls).before a0 Z = true) (w4 : (Jvm.Cond.code z bytes mx rt).before a0 Z = true)
    (hsig : parseMethodDescriptor z.desc = some ⟨ps, rr⟩) (hrc : ∀ h, Hp Z h os → Exa Z h b C) (hM : OMeets l Z z bytes mx rt rm [.ref b, x1, x2, x3, x4] os (RetV q)) (k : ∀ v os', q v os' → WP X Z rc rs Q pc' L (v :: S) os' (ce + rm.cells) (sl + rm.slots)) (hlen : ([x1, x2, x3, x4] : List Value).length = ps.length := by rfl) (hsz : L.length = maxL := by rfl) (hf : rm.frames + 1 ≤ R.frames := by decide) (hl : (S.map fun v => v.category).sum + (mx + 11) + rm.locals ≤ R.locals := by exact Nat.le_of_ble_eq_true rfl)
    (hc : ce + rm.cells ≤ R.cells := by decide) (hs : sl + rm.slots ≤ R.slots := by decide) (hy : z.cls ≠ "java/lang/invoke/MethodHandle" ∧ z.cls ≠ "java/lang/invoke/VarHandle" := by decide) (hp : pc + 3 = pc' := by rfl) : WP X Z rc rs Q pc L (x4 :: x3 :: x2 :: x1 :: .ref b :: S) os ce sl :=
  W.callVv (argsL := [x1, x2, x3, x4]) (S := S) K pc' hd w1 w2 w5 w6 w3 w4 hsig hrc hM k rfl hlen hsz hf hl hc hs hy hp
theorem W.callVv5 {idx mx : Nat} {z : MethodName} {bytes : ByteArray} {rt : Option FieldType} {C : String} {rm : Room} {ps : List FieldType} {rr : Option FieldType} {b : Addr} {x1 x2 x3 x4 x5 : Value} {q : Value → OS → Prop} (K : Ctx X l Z R y code maxL ret) (pc' : Nat) (hd : decode code pc = .ok (.invokevirtual idx, 3)) (w1 : (Jvm.Cond.methodLink y.cls idx z).before a0 Z = true) (w2 : (Jvm.Cond.declares z).before a0 Z = true) (w5 : (Jvm.Cond.selects C z z).before a0 Z = true) (w6 : (Jvm.Cond.instanceMethod z).before a0 Z = true) (w3 : (Jvm.Cond.initialized z.cls).before a0 Z = true) (w4 : (Jvm.Cond.code z bytes mx rt).before a0 Z = true)
    (hsig : parseMethodDescriptor z.desc = some ⟨ps, rr⟩) (hrc : ∀ h, Hp Z h os → Exa Z h b C) (hM : OMeets l Z z bytes mx rt rm [.ref b, x1, x2, x3, x4, x5] os (RetV q)) (k : ∀ v os', q v os' → WP X Z rc rs Q pc' L (v :: S) os' (ce + rm.cells) (sl + rm.slots)) (hlen : ([x1, x2, x3, x4, x5] : List Value).length = ps.length := by rfl) (hsz : L.length = maxL := by rfl) (hf : rm.frames + 1 ≤ R.frames := by decide) (hl : (S.map fun v => v.category).sum + (mx + 11) + rm.locals ≤ R.locals := by exact Nat.le_of_ble_eq_true rfl)
    (hc : ce + rm.cells ≤ R.cells := by decide) (hs : sl + rm.slots ≤ R.slots := by decide) (hy : z.cls ≠ "java/lang/invoke/MethodHandle" ∧ z.cls ≠ "java/lang/invoke/VarHandle" := by decide) (hp : pc + 3 = pc' := by rfl) : WP X Z rc rs Q pc L (x5 :: x4 :: x3 :: x2 :: x1 :: .ref b :: S) os ce sl :=
  W.callVv (argsL := [x1, x2, x3, x4, x5]) (S := S) K pc' hd w1 w2 w5 w6 w3 w4 hsig hrc hM k rfl hlen hsz hf hl hc hs hy hp
theorem W.callVv6 {idx mx : Nat} {z : MethodName} {bytes : ByteArray} {rt : Option FieldType} {C : String} {rm : Room} {ps : List FieldType} {rr : Option FieldType} {b : Addr} {x1 x2 x3 x4 x5 x6 : Value} {q : Value → OS → Prop} (K : Ctx X l Z R y code maxL ret) (pc' : Nat) (hd : decode code pc = .ok (.invokevirtual idx, 3)) (w1 : (Jvm.Cond.methodLink y.cls idx z).before a0 Z = true) (w2 : (Jvm.Cond.declares z).before a0 Z = true) (w5 : (Jvm.Cond.selects C z z).before a0 Z = true) (w6 : (Jvm.Cond.instanceMethod z).before a0 Z = true) (w3 : (Jvm.Cond.initialized z.cls).before a0 Z = true) (w4 : (Jvm.Cond.code z bytes mx rt).before a0 Z = true)
    (hsig : parseMethodDescriptor z.desc = some ⟨ps, rr⟩) (hrc : ∀ h, Hp Z h os → Exa Z h b C) (hM : OMeets l Z z bytes mx rt rm [.ref b, x1, x2, x3, x4, x5, x6] os (RetV q)) (k : ∀ v os', q v os' → WP X Z rc rs Q pc' L (v :: S) os' (ce + rm.cells) (sl + rm.slots)) (hlen : ([x1, x2, x3, x4, x5, x6] : List Value).length = ps.length := by rfl) (hsz : L.length = maxL := by rfl) (hf : rm.frames + 1 ≤ R.frames := by decide) (hl : (S.map fun v => v.category).sum + (mx + 11) + rm.locals ≤ R.locals := by exact Nat.le_of_ble_eq_true rfl)
    (hc : ce + rm.cells ≤ R.cells := by decide) (hs : sl + rm.slots ≤ R.slots := by decide) (hy : z.cls ≠ "java/lang/invoke/MethodHandle" ∧ z.cls ≠ "java/lang/invoke/VarHandle" := by decide) (hp : pc + 3 = pc' := by rfl) : WP X Z rc rs Q pc L (x6 :: x5 :: x4 :: x3 :: x2 :: x1 :: .ref b :: S) os ce sl :=
  W.callVv (argsL := [x1, x2, x3, x4, x5, x6]) (S := S) K pc' hd w1 w2 w5 w6 w3 w4 hsig hrc hM k rfl hlen hsz hf hl hc hs hy hp
theorem W.callVv7 {idx mx : Nat} {z : MethodName} {bytes : ByteArray} {rt : Option FieldType} {C : String} {rm : Room} {ps : List FieldType} {rr : Option FieldType} {b : Addr} {x1 x2 x3 x4 x5 x6 x7 : Value} {q : Value → OS → Prop} (K : Ctx X l Z R y code maxL ret) (pc' : Nat) (hd : decode code pc = .ok (.invokevirtual idx, 3)) (w1 : (Jvm.Cond.methodLink y.cls idx z).before a0 Z = true) (w2 : (Jvm.Cond.declares z).before a0 Z = true) (w5 : (Jvm.Cond.selects C z z).before a0 Z = true) (w6 : (Jvm.Cond.instanceMethod z).before a0 Z = true) (w3 : (Jvm.Cond.initialized z.cls).before a0 Z = true) (w4 : (Jvm.Cond.code z bytes mx rt).before a0 Z = true)
    (hsig : parseMethodDescriptor z.desc = some ⟨ps, rr⟩) (hrc : ∀ h, Hp Z h os → Exa Z h b C) (hM : OMeets l Z z bytes mx rt rm [.ref b, x1, x2, x3, x4, x5, x6, x7] os (RetV q)) (k : ∀ v os', q v os' → WP X Z rc rs Q pc' L (v :: S) os' (ce + rm.cells) (sl + rm.slots)) (hlen : ([x1, x2, x3, x4, x5, x6, x7] : List Value).length = ps.length := by rfl) (hsz : L.length = maxL := by rfl) (hf : rm.frames + 1 ≤ R.frames := by decide) (hl : (S.map fun v => v.category).sum + (mx + 11) + rm.locals ≤ R.locals := by exact Nat.le_of_ble_eq_true rfl)
    (hc : ce + rm.cells ≤ R.cells := by decide) (hs : sl + rm.slots ≤ R.slots := by decide) (hy : z.cls ≠ "java/lang/invoke/MethodHandle" ∧ z.cls ≠ "java/lang/invoke/VarHandle" := by decide) (hp : pc + 3 = pc' := by rfl) : WP X Z rc rs Q pc L (x7 :: x6 :: x5 :: x4 :: x3 :: x2 :: x1 :: .ref b :: S) os ce sl :=
  W.callVv (argsL := [x1, x2, x3, x4, x5, x6, x7]) (S := S) K pc' hd w1 w2 w5 w6 w3 w4 hsig hrc hM k rfl hlen hsz hf hl hc hs hy hp
theorem W.callVn0 {idx mx : Nat} {z : MethodName} {bytes : ByteArray} {rt : Option FieldType} {C : String} {rm : Room} {ps : List FieldType} {rr : Option FieldType} {b : Addr} {q : OS → Prop} (K : Ctx X l Z R y code maxL ret) (pc' : Nat) (hd : decode code pc = .ok (.invokevirtual idx, 3)) (w1 : (Jvm.Cond.methodLink y.cls idx z).before a0 Z = true) (w2 : (Jvm.Cond.declares z).before a0 Z = true) (w5 : (Jvm.Cond.selects C z z).before a0 Z = true) (w6 : (Jvm.Cond.instanceMethod z).before a0 Z = true) (w3 : (Jvm.Cond.initialized z.cls).before a0 Z = true) (w4 : (Jvm.Cond.code z bytes mx rt).before a0 Z = true)
    (hsig : parseMethodDescriptor z.desc = some ⟨ps, rr⟩) (hrc : ∀ h, Hp Z h os → Exa Z h b C) (hM : OMeets l Z z bytes mx rt rm [.ref b] os (RetN q)) (k : ∀ os', q os' → WP X Z rc rs Q pc' L S os' (ce + rm.cells) (sl + rm.slots)) (hlen : ([] : List Value).length = ps.length := by rfl) (hsz : L.length = maxL := by rfl) (hf : rm.frames + 1 ≤ R.frames := by decide) (hl : (S.map fun v => v.category).sum + (mx + 11) + rm.locals ≤ R.locals := by exact Nat.le_of_ble_eq_true rfl)
    (hc : ce + rm.cells ≤ R.cells := by decide) (hs : sl + rm.slots ≤ R.slots := by decide) (hy : z.cls ≠ "java/lang/invoke/MethodHandle" ∧ z.cls ≠ "java/lang/invoke/VarHandle" := by decide) (hp : pc + 3 = pc' := by rfl) : WP X Z rc rs Q pc L (.ref b :: S) os ce sl :=
  W.callVn (argsL := []) (S := S) K pc' hd w1 w2 w5 w6 w3 w4 hsig hrc hM k rfl hlen hsz hf hl hc hs hy hp
theorem W.callVn1 {idx mx : Nat} {z : MethodName} {bytes : ByteArray} {rt : Option FieldType} {C : String} {rm : Room} {ps : List FieldType} {rr : Option FieldType} {b : Addr} {x1 : Value} {q : OS → Prop} (K : Ctx X l Z R y code maxL ret) (pc' : Nat) (hd : decode code pc = .ok (.invokevirtual idx, 3)) (w1 : (Jvm.Cond.methodLink y.cls idx z).before a0 Z = true) (w2 : (Jvm.Cond.declares z).before a0 Z = true) (w5 : (Jvm.Cond.selects C z z).before a0 Z = true) (w6 : (Jvm.Cond.instanceMethod z).before a0 Z = true) (w3 : (Jvm.Cond.initialized z.cls).before a0 Z = true) (w4 : (Jvm.Cond.code z bytes mx rt).before a0 Z = true)
    (hsig : parseMethodDescriptor z.desc = some ⟨ps, rr⟩) (hrc : ∀ h, Hp Z h os → Exa Z h b C) (hM : OMeets l Z z bytes mx rt rm [.ref b, x1] os (RetN q)) (k : ∀ os', q os' → WP X Z rc rs Q pc' L S os' (ce + rm.cells) (sl + rm.slots)) (hlen : ([x1] : List Value).length = ps.length := by rfl) (hsz : L.length = maxL := by rfl) (hf : rm.frames + 1 ≤ R.frames := by decide) (hl : (S.map fun v => v.category).sum + (mx + 11) + rm.locals ≤ R.locals := by exact Nat.le_of_ble_eq_true rfl)
    (hc : ce + rm.cells ≤ R.cells := by decide) (hs : sl + rm.slots ≤ R.slots := by decide) (hy : z.cls ≠ "java/lang/invoke/MethodHandle" ∧ z.cls ≠ "java/lang/invoke/VarHandle" := by decide) (hp : pc + 3 = pc' := by rfl) : WP X Z rc rs Q pc L (x1 :: .ref b :: S) os ce sl :=
  W.callVn (argsL := [x1]) (S := S) K pc' hd w1 w2 w5 w6 w3 w4 hsig hrc hM k rfl hlen hsz hf hl hc hs hy hp
theorem W.callVn2 {idx mx : Nat} {z : MethodName} {bytes : ByteArray} {rt : Option FieldType} {C : String} {rm : Room} {ps : List FieldType} {rr : Option FieldType} {b : Addr} {x1 x2 : Value} {q : OS → Prop} (K : Ctx X l Z R y code maxL ret) (pc' : Nat) (hd : decode code pc = .ok (.invokevirtual idx, 3)) (w1 : (Jvm.Cond.methodLink y.cls idx z).before a0 Z = true) (w2 : (Jvm.Cond.declares z).before a0 Z = true) (w5 : (Jvm.Cond.selects C z z).before a0 Z = true) (w6 : (Jvm.Cond.instanceMethod z).before a0 Z = true) (w3 : (Jvm.Cond.initialized z.cls).before a0 Z = true) (w4 : (Jvm.Cond.code z bytes mx rt).before a0 Z = true)
    (hsig : parseMethodDescriptor z.desc = some ⟨ps, rr⟩) (hrc : ∀ h, Hp Z h os → Exa Z h b C) (hM : OMeets l Z z bytes mx rt rm [.ref b, x1, x2] os (RetN q)) (k : ∀ os', q os' → WP X Z rc rs Q pc' L S os' (ce + rm.cells) (sl + rm.slots)) (hlen : ([x1, x2] : List Value).length = ps.length := by rfl) (hsz : L.length = maxL := by rfl) (hf : rm.frames + 1 ≤ R.frames := by decide) (hl : (S.map fun v => v.category).sum + (mx + 11) + rm.locals ≤ R.locals := by exact Nat.le_of_ble_eq_true rfl)
    (hc : ce + rm.cells ≤ R.cells := by decide) (hs : sl + rm.slots ≤ R.slots := by decide) (hy : z.cls ≠ "java/lang/invoke/MethodHandle" ∧ z.cls ≠ "java/lang/invoke/VarHandle" := by decide) (hp : pc + 3 = pc' := by rfl) : WP X Z rc rs Q pc L (x2 :: x1 :: .ref b :: S) os ce sl :=
  W.callVn (argsL := [x1, x2]) (S := S) K pc' hd w1 w2 w5 w6 w3 w4 hsig hrc hM k rfl hlen hsz hf hl hc hs hy hp
theorem W.callVn3 {idx mx : Nat} {z : MethodName} {bytes : ByteArray} {rt : Option FieldType} {C : String} {rm : Room} {ps : List FieldType} {rr : Option FieldType} {b : Addr} {x1 x2 x3 : Value} {q : OS → Prop} (K : Ctx X l Z R y code maxL ret) (pc' : Nat) (hd : decode code pc = .ok (.invokevirtual idx, 3)) (w1 : (Jvm.Cond.methodLink y.cls idx z).before a0 Z = true) (w2 : (Jvm.Cond.declares z).before a0 Z = true) (w5 : (Jvm.Cond.selects C z z).before a0 Z = true) (w6 : (Jvm.Cond.instanceMethod z).before a0 Z = true) (w3 : (Jvm.Cond.initialized z.cls).before a0 Z = true) (w4 : (Jvm.Cond.code z bytes mx rt).before a0 Z = true)
    (hsig : parseMethodDescriptor z.desc = some ⟨ps, rr⟩) (hrc : ∀ h, Hp Z h os → Exa Z h b C) (hM : OMeets l Z z bytes mx rt rm [.ref b, x1, x2, x3] os (RetN q)) (k : ∀ os', q os' → WP X Z rc rs Q pc' L S os' (ce + rm.cells) (sl + rm.slots)) (hlen : ([x1, x2, x3] : List Value).length = ps.length := by rfl) (hsz : L.length = maxL := by rfl) (hf : rm.frames + 1 ≤ R.frames := by decide) (hl : (S.map fun v => v.category).sum + (mx + 11) + rm.locals ≤ R.locals := by exact Nat.le_of_ble_eq_true rfl)
    (hc : ce + rm.cells ≤ R.cells := by decide) (hs : sl + rm.slots ≤ R.slots := by decide) (hy : z.cls ≠ "java/lang/invoke/MethodHandle" ∧ z.cls ≠ "java/lang/invoke/VarHandle" := by decide) (hp : pc + 3 = pc' := by rfl) : WP X Z rc rs Q pc L (x3 :: x2 :: x1 :: .ref b :: S) os ce sl :=
  W.callVn (argsL := [x1, x2, x3]) (S := S) K pc' hd w1 w2 w5 w6 w3 w4 hsig hrc hM k rfl hlen hsz hf hl hc hs hy hp
theorem W.callVn4 {idx mx : Nat} {z : MethodName} {bytes : ByteArray} {rt : Option FieldType} {C : String} {rm : Room} {ps : List FieldType} {rr : Option FieldType} {b : Addr} {x1 x2 x3 x4 : Value} {q : OS → Prop} (K : Ctx X l Z R y code maxL ret) (pc' : Nat) (hd : decode code pc = .ok (.invokevirtual idx, 3)) (w1 : (Jvm.Cond.methodLink y.cls idx z).before a0 Z = true) (w2 : (Jvm.Cond.declares z).before a0 Z = true) (w5 : (Jvm.Cond.selects C z z).before a0 Z = true) (w6 : (Jvm.Cond.instanceMethod z).before a0 Z = true) (w3 : (Jvm.Cond.initialized z.cls).before a0 Z = true) (w4 : (Jvm.Cond.code z bytes mx rt).before a0 Z = true)
    (hsig : parseMethodDescriptor z.desc = some ⟨ps, rr⟩) (hrc : ∀ h, Hp Z h os → Exa Z h b C) (hM : OMeets l Z z bytes mx rt rm [.ref b, x1, x2, x3, x4] os (RetN q)) (k : ∀ os', q os' → WP X Z rc rs Q pc' L S os' (ce + rm.cells) (sl + rm.slots)) (hlen : ([x1, x2, x3, x4] : List Value).length = ps.length := by rfl) (hsz : L.length = maxL := by rfl) (hf : rm.frames + 1 ≤ R.frames := by decide) (hl : (S.map fun v => v.category).sum + (mx + 11) + rm.locals ≤ R.locals := by exact Nat.le_of_ble_eq_true rfl)
    (hc : ce + rm.cells ≤ R.cells := by decide) (hs : sl + rm.slots ≤ R.slots := by decide) (hy : z.cls ≠ "java/lang/invoke/MethodHandle" ∧ z.cls ≠ "java/lang/invoke/VarHandle" := by decide) (hp : pc + 3 = pc' := by rfl) : WP X Z rc rs Q pc L (x4 :: x3 :: x2 :: x1 :: .ref b :: S) os ce sl :=
  W.callVn (argsL := [x1, x2, x3, x4]) (S := S) K pc' hd w1 w2 w5 w6 w3 w4 hsig hrc hM k rfl hlen hsz hf hl hc hs hy hp
theorem W.callVn5 {idx mx : Nat} {z : MethodName} {bytes : ByteArray} {rt : Option FieldType} {C : String} {rm : Room} {ps : List FieldType} {rr : Option FieldType} {b : Addr} {x1 x2 x3 x4 x5 : Value} {q : OS → Prop} (K : Ctx X l Z R y code maxL ret) (pc' : Nat) (hd : decode code pc = .ok (.invokevirtual idx, 3)) (w1 : (Jvm.Cond.methodLink y.cls idx z).before a0 Z = true) (w2 : (Jvm.Cond.declares z).before a0 Z = true) (w5 : (Jvm.Cond.selects C z z).before a0 Z = true) (w6 : (Jvm.Cond.instanceMethod z).before a0 Z = true) (w3 : (Jvm.Cond.initialized z.cls).before a0 Z = true) (w4 : (Jvm.Cond.code z bytes mx rt).before a0 Z = true)
    (hsig : parseMethodDescriptor z.desc = some ⟨ps, rr⟩) (hrc : ∀ h, Hp Z h os → Exa Z h b C) (hM : OMeets l Z z bytes mx rt rm [.ref b, x1, x2, x3, x4, x5] os (RetN q)) (k : ∀ os', q os' → WP X Z rc rs Q pc' L S os' (ce + rm.cells) (sl + rm.slots)) (hlen : ([x1, x2, x3, x4, x5] : List Value).length = ps.length := by rfl) (hsz : L.length = maxL := by rfl) (hf : rm.frames + 1 ≤ R.frames := by decide) (hl : (S.map fun v => v.category).sum + (mx + 11) + rm.locals ≤ R.locals := by exact Nat.le_of_ble_eq_true rfl)
    (hc : ce + rm.cells ≤ R.cells := by decide) (hs : sl + rm.slots ≤ R.slots := by decide) (hy : z.cls ≠ "java/lang/invoke/MethodHandle" ∧ z.cls ≠ "java/lang/invoke/VarHandle" := by decide) (hp : pc + 3 = pc' := by rfl) : WP X Z rc rs Q pc L (x5 :: x4 :: x3 :: x2 :: x1 :: .ref b :: S) os ce sl :=
  W.callVn (argsL := [x1, x2, x3, x4, x5]) (S := S) K pc' hd w1 w2 w5 w6 w3 w4 hsig hrc hM k rfl hlen hsz hf hl hc hs hy hp
theorem W.callVn6 {idx mx : Nat} {z : MethodName} {bytes : ByteArray} {rt : Option FieldType} {C : String} {rm : Room} {ps : List FieldType} {rr : Option FieldType} {b : Addr} {x1 x2 x3 x4 x5 x6 : Value} {q : OS → Prop} (K : Ctx X l Z R y code maxL ret) (pc' : Nat) (hd : decode code pc = .ok (.invokevirtual idx, 3)) (w1 : (Jvm.Cond.methodLink y.cls idx z).before a0 Z = true) (w2 : (Jvm.Cond.declares z).before a0 Z = true) (w5 : (Jvm.Cond.selects C z z).before a0 Z = true) (w6 : (Jvm.Cond.instanceMethod z).before a0 Z = true) (w3 : (Jvm.Cond.initialized z.cls).before a0 Z = true) (w4 : (Jvm.Cond.code z bytes mx rt).before a0 Z = true)
    (hsig : parseMethodDescriptor z.desc = some ⟨ps, rr⟩) (hrc : ∀ h, Hp Z h os → Exa Z h b C) (hM : OMeets l Z z bytes mx rt rm [.ref b, x1, x2, x3, x4, x5, x6] os (RetN q)) (k : ∀ os', q os' → WP X Z rc rs Q pc' L S os' (ce + rm.cells) (sl + rm.slots)) (hlen : ([x1, x2, x3, x4, x5, x6] : List Value).length = ps.length := by rfl) (hsz : L.length = maxL := by rfl) (hf : rm.frames + 1 ≤ R.frames := by decide) (hl : (S.map fun v => v.category).sum + (mx + 11) + rm.locals ≤ R.locals := by exact Nat.le_of_ble_eq_true rfl)
    (hc : ce + rm.cells ≤ R.cells := by decide) (hs : sl + rm.slots ≤ R.slots := by decide) (hy : z.cls ≠ "java/lang/invoke/MethodHandle" ∧ z.cls ≠ "java/lang/invoke/VarHandle" := by decide) (hp : pc + 3 = pc' := by rfl) : WP X Z rc rs Q pc L (x6 :: x5 :: x4 :: x3 :: x2 :: x1 :: .ref b :: S) os ce sl :=
  W.callVn (argsL := [x1, x2, x3, x4, x5, x6]) (S := S) K pc' hd w1 w2 w5 w6 w3 w4 hsig hrc hM k rfl hlen hsz hf hl hc hs hy hp
theorem W.callVn7 {idx mx : Nat} {z : MethodName} {bytes : ByteArray} {rt : Option FieldType} {C : String} {rm : Room} {ps : List FieldType} {rr : Option FieldType} {b : Addr} {x1 x2 x3 x4 x5 x6 x7 : Value} {q : OS → Prop} (K : Ctx X l Z R y code maxL ret) (pc' : Nat) (hd : decode code pc = .ok (.invokevirtual idx, 3)) (w1 : (Jvm.Cond.methodLink y.cls idx z).before a0 Z = true) (w2 : (Jvm.Cond.declares z).before a0 Z = true) (w5 : (Jvm.Cond.selects C z z).before a0 Z = true) (w6 : (Jvm.Cond.instanceMethod z).before a0 Z = true) (w3 : (Jvm.Cond.initialized z.cls).before a0 Z = true) (w4 : (Jvm.Cond.code z bytes mx rt).before a0 Z = true)
    (hsig : parseMethodDescriptor z.desc = some ⟨ps, rr⟩) (hrc : ∀ h, Hp Z h os → Exa Z h b C) (hM : OMeets l Z z bytes mx rt rm [.ref b, x1, x2, x3, x4, x5, x6, x7] os (RetN q)) (k : ∀ os', q os' → WP X Z rc rs Q pc' L S os' (ce + rm.cells) (sl + rm.slots)) (hlen : ([x1, x2, x3, x4, x5, x6, x7] : List Value).length = ps.length := by rfl) (hsz : L.length = maxL := by rfl) (hf : rm.frames + 1 ≤ R.frames := by decide) (hl : (S.map fun v => v.category).sum + (mx + 11) + rm.locals ≤ R.locals := by exact Nat.le_of_ble_eq_true rfl)
    (hc : ce + rm.cells ≤ R.cells := by decide) (hs : sl + rm.slots ≤ R.slots := by decide) (hy : z.cls ≠ "java/lang/invoke/MethodHandle" ∧ z.cls ≠ "java/lang/invoke/VarHandle" := by decide) (hp : pc + 3 = pc' := by rfl) : WP X Z rc rs Q pc L (x7 :: x6 :: x5 :: x4 :: x3 :: x2 :: x1 :: .ref b :: S) os ce sl :=
  W.callVn (argsL := [x1, x2, x3, x4, x5, x6, x7]) (S := S) K pc' hd w1 w2 w5 w6 w3 w4 hsig hrc hM k rfl hlen hsz hf hl hc hs hy hp
theorem Rc.new {b : Addr} {C : String} {fs : List FV} (hm : (b, OBJ Z C fs) ∈ os) : ∀ h, Hp Z h os → Exa Z h b C := fun h H => by
  obtain ⟨-, c, hc, hO⟩ := H.get hm; exact hO.exa hc
theorem Rc.old {b : Addr} {C : String} (E : Exa Z Z.heap b C) : ∀ h, Hp Z h os → Exa Z h b C := fun h H => E.ext H.1
end Ops
end Jvm.OwnW
namespace Jvm.OwnW
open Sem ClassFile Op Lib Jvm.Stand Jvm.Free Jvm.LawKit Jvm.RoadKit
/-! arrays as functions -/
def AF {α : Type} (c : α → Value) (n : Nat) (F : Nat → α) : List Value := (List.range n).map fun i => c (F i)
def updA {α : Type} (F : Nat → α) (k : Nat) (v : α) : Nat → α := fun i => if i = k then v else F i
theorem updA_same {α : Type} (F : Nat → α) (k : Nat) (v : α) : updA F k v k = v := by simp [updA]
theorem updA_ne {α : Type} (F : Nat → α) {k i : Nat} (v : α) (h : i ≠ k) : updA F k v i = F i := by simp [updA, h]
theorem AF_len {α : Type} {c : α → Value} {n : Nat} {F : Nat → α} : (AF c n F).length = n := by simp [AF]
theorem AF_at {α : Type} {c : α → Value} {n : Nat} {F : Nat → α} {i : Nat} (h : i < n) : (AF c n F)[i]? = some (c (F i)) := by simp [AF, h]
theorem AF_out {α : Type} {c : α → Value} {n : Nat} {F : Nat → α} {i : Nat} (h : ¬ i < n) : (AF c n F)[i]? = none := by simp [AF]; omega
theorem AF_ext {α : Type} {c : α → Value} {n : Nat} {F G : Nat → α} (h : ∀ i, i < n → F i = G i) : AF c n F = AF c n G := by
  apply List.ext_getElem?
  intro i
  by_cases hi : i < n
  · rw [AF_at hi, AF_at hi, h i hi]
  · rw [AF_out hi, AF_out hi]
theorem AF_set {α : Type} {c : α → Value} {n : Nat} {F : Nat → α} {k : Nat} {v : α} : (AF c n F).set k (c v) = AF c n (updA F k v) := by
  apply List.ext_getElem?
  intro i
  rw [List.getElem?_set]
  by_cases hi : i < n
  · rw [AF_at hi, AF_at hi]
    by_cases e : k = i
    · subst e
      rw [if_pos rfl, if_pos (by rw [AF_len]; exact hi), updA_same]
    · rw [if_neg e, updA_ne _ _ (fun h => e h.symm)]
  · rw [AF_out hi, AF_out hi]
    split
    · rename_i e; subst e
      rw [if_neg (by rw [AF_len]; exact hi)]
    · rfl
theorem AF_rep {α : Type} {c : α → Value} {n : Nat} {v : α} : List.replicate n (c v) = AF c n (fun _ => v) := by
  apply List.ext_getElem?
  intro i
  by_cases hi : i < n
  · rw [AF_at hi]; simp [List.getElem?_replicate, hi]
  · rw [AF_out hi]; simp [List.getElem?_replicate, hi]
theorem AF_repI {n : Nat} : List.replicate n (defaultValue .int) = AF Value.int n (fun _ => 0) := AF_rep
theorem AF_repB {n : Nat} : List.replicate n (defaultValue .byte) = AF Value.int n (fun _ => 0) := AF_rep
theorem AF_repC {n : Nat} : List.replicate n (defaultValue .char) = AF Value.int n (fun _ => 0) := AF_rep
theorem AF_repJ {n : Nat} : List.replicate n (defaultValue .long) = AF Value.long n (fun _ => 0) := AF_rep
theorem AF_size {α : Type} {c : α → Value} {n : Nat} {F : Nat → α} {z : Int32} (h : z.toInt = (n : Int)) : (AF c n F).length.toInt32 = z := by
  rw [AF_len]
  apply Int32.toInt_inj.mp
  have h1 := rng32 z
  rw [len_toInt (by omega), h]
theorem toInt_add32 {x z : Int32} {a b : Int} (hx : x.toInt = a) (hz : z.toInt = b) (h1 : -2147483648 ≤ a + b) (h2 : a + b < 2147483648) : (x + z).toInt = a + b := by
  have q := c_iadd x z; have r := rng32 (x + z); omega
theorem toInt_sub32 {x z : Int32} {a b : Int} (hx : x.toInt = a) (hz : z.toInt = b) (h1 : -2147483648 ≤ a - b) (h2 : a - b < 2147483648) : (x - z).toInt = a - b := by
  have q := c_isub x z; have r := rng32 (x - z); omega
theorem toInt_add64 {x z : Int64} {a b : Int} (hx : x.toInt = a) (hz : z.toInt = b) (h1 : -9223372036854775808 ≤ a + b) (h2 : a + b < 9223372036854775808) : (x + z).toInt = a + b := by
  have q := c_ladd x z; have r := rng64 (x + z); omega
theorem toInt_sub64 {x z : Int64} {a b : Int} (hx : x.toInt = a) (hz : z.toInt = b) (h1 : -9223372036854775808 ≤ a - b) (h2 : a - b < 9223372036854775808) : (x - z).toInt = a - b := by
  have q := c_lsub x z; have r := rng64 (x - z); omega
section Old
variable {X : Cx} {l : Launch} {Z : State} {R : Room} {y : MethodName} {code : ByteArray} {maxL : Nat} {ret : Option FieldType} {rc rs : Nat} {Q : Option Value → OS → Prop} {pc : Nat} {L : List Slot} {S : List Value} {os os' : OS} {ce sl : Nat} {a0 : Array Value}
/-- an array that stood at the start -/
theorem W.baloadO {a : Addr} {cl : Cell} {j : Int32} {v : Value} (i : Nat) (K : Ctx X l Z R y code maxL ret) (pc' : Nat) (hd : decode code pc = .ok (.baload, 1)) (A : Arr Z Z.heap a cl .byte) (hj : j.toInt = (i : Int)) (hv : cl.slots[i]? = some v) (k : WP X Z rc rs Q pc' L (v :: S) os ce sl) (hp : pc + 1 = pc' := by rfl) : WP X Z rc rs Q pc L (.int j :: .ref a :: S) os ce sl := by
  obtain ⟨p, l', e, R', s, m, args, below, meth, c⟩ := X
  obtain ⟨h1, h2, hx, hZ, hby, hml, hown, hnm, hret, hlk⟩ := K
  subst hp
  intro T locs hT0 hH hF
  have hT : Stand p l' e R' s m args below meth c T locs ce sl := hT0
  obtain ⟨s2, o, st, r⟩ := k T locs hT hH hF
  have A' := A.ext hH.1
  have e2 : j.toNatClampNeg = i := by show j.toInt.toNat = i; rw [hj]; rfl
  have hlt := (Array.getElem?_eq_some_iff.mp hv).1
  have e1 : ¬ (j < 0 ∨ cl.slots.size ≤ j.toNatClampNeg) := by
    rw [Int32.lt_iff_toInt_lt, e2, hj]
    intro q
    rcases q with q | q
    · exact absurd q (Int.not_lt.mpr (Int.natCast_nonneg i))
    · omega
  exact ⟨s2, o, Stand.baloadBytes hT hx A'.1 (State.isArrayOf_alike hZ.alike A'.2.1) A'.2.2 e1 (by rw [e2]; exact hv) (g := mkF m pc L.toArray (.int j :: .ref a :: S)) rfl rfl (hb hby hd) _ st, r⟩
end Old
end Jvm.OwnW
namespace Jvm.OwnW
open Sem ClassFile Op Lib Jvm.Stand Jvm.Free Jvm.LawKit Jvm.RoadKit
section Copy
variable {X : Cx} {l : Launch} {Z : State} {R : Room} {y : MethodName} {code : ByteArray} {maxL : Nat} {ret : Option FieldType} {rc rs : Nat} {Q : Option Value → OS → Prop} {pc : Nat} {L : List Slot} {S : List Value} {os os' : OS} {ce sl : Nat} {a0 : Array Value}
theorem W.dupX2 {x u v : Value} (K : Ctx X l Z R y code maxL ret) (pc' : Nat) (hd : decode code pc = .ok (.dup_x2, 1)) (k : WP X Z rc rs Q pc' L (x :: u :: v :: x :: S) os ce sl) (hc : x.category = 1 := by rfl) (hc2 : u.category = 1 := by rfl) (hc3 : v.category = 1 := by rfl) (hp : pc + 1 = pc' := by rfl) : WP X Z rc rs Q pc L (x :: u :: v :: S) os ce sl := by
  obtain ⟨p, l', e, R', s, m, args, below, meth, c⟩ := X
  obtain ⟨h1, h2, hx, hZ, hby, hml, hown, hnm, hret, hlk⟩ := K
  subst hp
  intro T locs hT0 hH hF
  have hT : Stand p l' e R' s m args below meth c T locs ce sl := hT0
  obtain ⟨s2, o, st, r⟩ := k T locs hT hH hF
  refine ⟨s2, o, ?_, r⟩
  have hX := Stand.here hT
  have hdg := hb hby hd
  jvm_step hX [hX.top, hx, hdg, hc, hc2, hc3]
  exact st
theorem Hp.keepAt {h h' : Heap} {b : Addr} {P P' : Cell → Prop} {i : Nat} {c' : Cell} (H : Hp Z h os) (hi : os[i]? = some (b, P)) (Kp : Keep h h' [b]) (hc : h'[b]? = some c') (hP : P' c') : Hp Z h' (os.set i (b, P')) := by
  obtain ⟨hb, cb, hcb, -⟩ := H.2.2 i _ hi
  refine ⟨⟨Nat.le_trans H.1.1 Kp.1, fun x cx hx => ?_⟩, ?_, fun k x hx => ?_⟩
  · refine Kp.2.1 x cx (H.1.2 x cx hx) (fun q => ?_)
    have e := List.mem_singleton.mp q
    rw [e] at hx
    exact absurd (Array.getElem?_eq_some_iff.mp hx).1 (Nat.not_lt.mpr hb)
  · have e : (os.set i (b, P')).map Prod.fst = os.map Prod.fst := by
      apply List.ext_getElem?
      intro k
      simp only [List.getElem?_map, List.getElem?_set]
      split
      · rename_i e; subst e
        rw [if_pos (List.getElem?_eq_some_iff.mp hi).1, hi]; rfl
      · rfl
    rw [e]; exact H.2.1
  · rw [List.getElem?_set] at hx
    split at hx
    · rename_i e; subst e
      split at hx
      · cases hx; exact ⟨hb, c', hc, hP⟩
      · cases hx
    · rename_i hne
      obtain ⟨g1, cx, g2, g3⟩ := H.2.2 k x hx
      have ne : x.1 ≠ b := H.ne (i := k) (j := i) (P := x.2) hx hi (fun e => hne e.symm)
      exact ⟨g1, cx, Kp.2.1 _ _ g2 (fun q => ne (List.mem_singleton.mp q)), g3⟩
theorem ARR.arv {h : Heap} {a : Addr} {c : Cell} {ty : FieldType} {vs : List Value} (hc : h[a]? = some c) (q : ARR Z ty vs c) : Arv Z h a c.cls ty vs.length.toInt32 vs .null := by
  obtain ⟨q1, q2, q3, q4, q5⟩ := q
  have e : vs.length.toInt32.toInt = (vs.length : Int) := len_toInt q5
  have e2 : vs.length.toInt32.toNatClampNeg = vs.length := by show (vs.length.toInt32.toInt).toNat = _; rw [e]; rfl
  have hs : c.slots.size = vs.length := by rw [q3]; simp
  refine ⟨c, ⟨hc, q1, q2⟩, rfl, by rw [e2, hs], by rw [Int32.lt_iff_toInt_lt, e]; exact Int.not_lt.mpr (Int.natCast_nonneg _), fun k hk => ?_, fun i hi => ?_⟩
  · rw [hs] at hk
    rw [q3]; simp [List.getElem?_eq_getElem hk]
  · rw [hs] at hi
    refine q4 _ ?_
    rw [List.getD_eq_getElem?_getD, List.getElem?_eq_getElem hi]
    exact List.getElem_mem hi
theorem W.arraycopy {a b : Addr} {vs vd : List Value} {ty : FieldType} {sp dp nn : Int32} {idx : Nat} (i j n : Nat) (K : Ctx X l Z R y code maxL ret) (pc' : Nat) (hd : decode code pc = .ok (.invokestatic idx, 3)) (w1 : (Jvm.Cond.methodLink y.cls idx Jvm.Stand.acN).before a0 Z = true) (w2 : (Jvm.Cond.native Jvm.Stand.acN).before a0 Z = true) (w3 : (Jvm.Cond.static Jvm.Stand.acN).before a0 Z = true) (w4 : (Jvm.Cond.initialized "java/lang/System").before a0 Z = true)
    (hm : (a, ARR Z ty vs) ∈ os) (hu : Upd os b (ARR Z ty vd) (ARR Z ty (vd.take j ++ (vs.drop i).take n ++ vd.drop (j + n))) os') (hsp : sp.toInt = (i : Int)) (hdp : dp.toInt = (j : Int)) (hnn : nn.toInt = (n : Int)) (h4 : i + n ≤ vs.length) (h5 : j + n ≤ vd.length) (hty : refKind ty = false)
    (k : WP X Z rc rs Q pc' L S os' ce sl) (hsz : L.length = maxL := by rfl) (hf : 1 ≤ R.frames := by decide) (hlo : (S.map fun v => v.category).sum + (nativeFrameWords "java/lang/System" "arraycopy" 5 + 11) ≤ R.locals := by exact Nat.le_of_ble_eq_true rfl) (hp : pc + 3 = pc' := by rfl) : WP X Z rc rs Q pc L (.int nn :: .int dp :: .ref b :: .int sp :: .ref a :: S) os ce sl := by
  obtain ⟨p, l', e, R', s, m, args, below, meth, c⟩ := X
  obtain ⟨h1, h2, hx, hZ, hby, hml, hown, hnm, hret, hlk⟩ := K
  have h2' : R' = R := h2
  subst h2'
  subst hp
  intro T locs hT0 hH hF
  have hT : Stand p l' e R' s m args below meth c T locs ce sl := hT0
  obtain ⟨ii, hi, rfl⟩ := hu
  obtain ⟨hbn, cd, hcd, qd⟩ := hH.2.2 ii _ hi
  obtain ⟨-, cs, hcs, qs⟩ := hH.get hm
  have nat : ∀ {x : Int32} {z : Nat}, x.toInt = (z : Int) → x.toNatClampNeg = z := fun {x z} h => by show x.toInt.toNat = z; rw [h]; rfl
  have neg : ∀ {x : Int32} {z : Nat}, x.toInt = (z : Int) → ¬ x < 0 := fun {x z} h => by rw [Int32.lt_iff_toInt_lt, h]; exact Int.not_lt.mpr (Int.natCast_nonneg z)
  have n1 := nat hsp; have n2 := nat hdp; have n3 := nat hnn
  have v1 : vs.length.toInt32.toNatClampNeg = vs.length := nat (len_toInt qs.2.2.2.2)
  have v2 : vd.length.toInt32.toNatClampNeg = vd.length := nat (len_toInt qd.2.2.2.2)
  have hus : (vs.drop i).take n = (List.range nn.toNatClampNeg).map fun q => vs.getD (sp.toNatClampNeg + q) .null := by
    rw [n1, n3]
    apply List.ext_getElem?
    intro q
    by_cases hq : q < n
    · rw [List.getElem?_take, if_pos hq, List.getElem?_drop]
      have hlt : i + q < vs.length := by omega
      simp [hq, List.getElem?_eq_getElem hlt]
    · rw [List.getElem?_take, if_neg hq]
      simp [hq]
  obtain ⟨T', h', L', X', e', N', K', A', st'⟩ := cpA hT hx hZ hown w1 w2 w3 w4 rfl (ARR.arv hcs qs) (ARR.arv hcd qd) (us := (vs.drop i).take n) (Or.inl ⟨rfl, hty⟩) (neg hsp) (neg hdp) (neg hnn) (by rw [n1, n3, v1]; exact h4) (by rw [n2, n3, v2]; exact h5) hus (by rw [n2, n3]; exact h5) hF hbn
    (g := mkF m pc L.toArray (.int nn :: .int dp :: .ref b :: .int sp :: .ref a :: S)) rfl (by rw [hml]; simpa using hsz) rfl (hb hby hd) hf (W := (S.map fun v => v.category).sum) (by show 2 * 0 + _ ≤ _; omega) hlo
  rw [n2, n3] at A'
  obtain ⟨c', B1, -, B3, -, B5, B6⟩ := A'
  have hlen : (vd.take j ++ (vs.drop i).take n ++ vd.drop (j + n)).length = vd.length := by simp; omega
  rw [v2] at B3
  have hA : ARR Z ty (vd.take j ++ (vs.drop i).take n ++ vd.drop (j + n)) c' := by
    generalize vd.take j ++ (vs.drop i).take n ++ vd.drop (j + n) = nv at *
    refine ⟨B1.2.1, B1.2.2, ?_, fun v hv => ?_, by rw [hlen]; exact qd.2.2.2.2⟩
    · apply Array.ext_getElem?
      intro q
      by_cases hq : q < c'.slots.size
      · rw [B5 q hq]
        have hq2 : q < nv.length := by omega
        simp [List.getElem?_eq_getElem hq2]
      · have hq2 : ¬ q < nv.length := by omega
        rw [Array.getElem?_eq_none (by omega)]
        simp; omega
    · obtain ⟨q, hq⟩ := List.getElem?_of_mem hv
      have hlt := (List.getElem?_eq_some_iff.mp hq).1
      have g := B6 q (by omega)
      rw [List.getD_eq_getElem?_getD, hq] at g
      exact g
  obtain ⟨s2, o, st, r⟩ := k T' L' X' (by rw [e']; exact hH.keepAt hi K' B1.1 hA) N'
  exact ⟨s2, o, st' _ st, r⟩
theorem AF_copy {α : Type} {cc : α → Value} {n k : Nat} {F G : Nat → α} (h : k ≤ n) : (AF cc k G).take 0 ++ ((AF cc n F).drop 0).take k ++ (AF cc k G).drop (0 + k) = AF cc k F := by
  have e1 : (AF cc k G).drop (0 + k) = [] := by rw [Nat.zero_add]; exact List.drop_eq_nil_of_le (by rw [AF_len]; exact Nat.le_refl _)
  rw [e1, List.append_nil, List.take_zero, List.nil_append, List.drop_zero]
  apply List.ext_getElem?
  intro i
  rw [List.getElem?_take]
  by_cases hi : i < k
  · rw [if_pos hi, AF_at (by omega), AF_at hi]
  · rw [if_neg hi, AF_out hi]
end Copy
end Jvm.OwnW
namespace Jvm.Pilot.@@N@@
open Jvm Jvm.ClassFile Sem Op Lib Jvm.Free Jvm.Stand Jvm.LawKit Jvm.RoadKit Bundle Jvm.OwnW Jvm.Pilot.@@N@@.Jvm.D

theorem pn_0 : plainFor x = true := plainFor_of_name (show plainName "com/example/kingmaker/kingmaker/GraphNeighbourPinLaw" = true by first | (simp [plainName, overriddenIn]; done) | decide +kernel)
theorem pd_0 : parseMethodDescriptor "(IIIII)Z" = some ⟨[.int, .int, .int, .int, .int], some .boolean⟩ := by decide +kernel
theorem d1_0 : decode jdk_29_method_69_code 0 = .ok (.iload_n 0, 1) := by decide +kernel
theorem d1_1 : decode jdk_29_method_69_code 1 = .ok (.iload_n 1, 1) := by decide +kernel
theorem d1_2 : decode jdk_29_method_69_code 2 = .ok (.if_icmp .gt 7, 3) := by decide +kernel
theorem d1_5 : decode jdk_29_method_69_code 5 = .ok (.iload_n 0, 1) := by decide +kernel
theorem d1_6 : decode jdk_29_method_69_code 6 = .ok (.goto 4, 3) := by decide +kernel
theorem d1_9 : decode jdk_29_method_69_code 9 = .ok (.iload_n 1, 1) := by decide +kernel
theorem d1_10 : decode jdk_29_method_69_code 10 = .ok (.ireturn, 1) := by decide +kernel
theorem pn_1 : plainFor (⟨"java/lang/Math", "min", "(II)I"⟩ : MethodName) = true := Jvm.Free.JP.mathPlain rfl (by decide +kernel)
theorem pd_1 : parseMethodDescriptor "(II)I" = some ⟨[.int, .int], some .int⟩ := by decide +kernel
theorem d2_0 : decode jdk_29_method_65_code 0 = .ok (.iload_n 0, 1) := by decide +kernel
theorem d2_1 : decode jdk_29_method_65_code 1 = .ok (.iload_n 1, 1) := by decide +kernel
theorem d2_2 : decode jdk_29_method_65_code 2 = .ok (.if_icmp .lt 7, 3) := by decide +kernel
theorem d2_5 : decode jdk_29_method_65_code 5 = .ok (.iload_n 0, 1) := by decide +kernel
theorem d2_6 : decode jdk_29_method_65_code 6 = .ok (.goto 4, 3) := by decide +kernel
theorem d2_9 : decode jdk_29_method_65_code 9 = .ok (.iload_n 1, 1) := by decide +kernel
theorem d2_10 : decode jdk_29_method_65_code 10 = .ok (.ireturn, 1) := by decide +kernel
theorem pn_2 : plainFor (⟨"java/lang/Math", "max", "(II)I"⟩ : MethodName) = true := Jvm.Free.JP.mathPlain rfl (by decide +kernel)
theorem pd_2 : parseMethodDescriptor "(II)I" = some ⟨[.int, .int], some .int⟩ := by decide +kernel
theorem d3_0 : decode method_2_code 0 = .ok (.iload_n 0, 1) := by decide +kernel
theorem d3_1 : decode method_2_code 1 = .ok (.iconst 3, 1) := by decide +kernel
theorem d3_2 : decode method_2_code 2 = .ok (.if_icmp .ge 5, 3) := by decide +kernel
theorem d3_5 : decode method_2_code 5 = .ok (.iconst 0, 1) := by decide +kernel
theorem d3_6 : decode method_2_code 6 = .ok (.ireturn, 1) := by decide +kernel
theorem d3_7 : decode method_2_code 7 = .ok (.iload_n 0, 1) := by decide +kernel
theorem d3_8 : decode method_2_code 8 = .ok (.iconst 5, 1) := by decide +kernel
theorem d3_9 : decode method_2_code 9 = .ok (.if_icmp .ge 5, 3) := by decide +kernel
theorem d3_12 : decode method_2_code 12 = .ok (.iconst 1, 1) := by decide +kernel
theorem d3_13 : decode method_2_code 13 = .ok (.ireturn, 1) := by decide +kernel
theorem d3_14 : decode method_2_code 14 = .ok (.iconst 2, 1) := by decide +kernel
theorem d3_15 : decode method_2_code 15 = .ok (.ireturn, 1) := by decide +kernel
theorem pn_3 : plainFor (⟨"com/example/kingmaker/kingmaker/GraphNeighbourPinLaw", "pairA", "(I)I"⟩ : MethodName) = true := plainFor_of_name (show plainName "com/example/kingmaker/kingmaker/GraphNeighbourPinLaw" = true by first | (simp [plainName, overriddenIn]; done) | decide +kernel)
theorem pd_3 : parseMethodDescriptor "(I)I" = some ⟨[.int], some .int⟩ := by decide +kernel
theorem d4_0 : decode method_3_code 0 = .ok (.iload_n 0, 1) := by decide +kernel
theorem d4_1 : decode method_3_code 1 = .ok (.ifCond .ne 5, 3) := by decide +kernel
theorem d4_4 : decode method_3_code 4 = .ok (.iconst 1, 1) := by decide +kernel
theorem d4_5 : decode method_3_code 5 = .ok (.ireturn, 1) := by decide +kernel
theorem d4_6 : decode method_3_code 6 = .ok (.iload_n 0, 1) := by decide +kernel
theorem d4_7 : decode method_3_code 7 = .ok (.iconst 1, 1) := by decide +kernel
theorem d4_8 : decode method_3_code 8 = .ok (.if_icmp .eq 8, 3) := by decide +kernel
theorem d4_11 : decode method_3_code 11 = .ok (.iload_n 0, 1) := by decide +kernel
theorem d4_12 : decode method_3_code 12 = .ok (.iconst 3, 1) := by decide +kernel
theorem d4_13 : decode method_3_code 13 = .ok (.if_icmp .ne 5, 3) := by decide +kernel
theorem d4_16 : decode method_3_code 16 = .ok (.iconst 2, 1) := by decide +kernel
theorem d4_17 : decode method_3_code 17 = .ok (.ireturn, 1) := by decide +kernel
theorem d4_18 : decode method_3_code 18 = .ok (.iconst 3, 1) := by decide +kernel
theorem d4_19 : decode method_3_code 19 = .ok (.ireturn, 1) := by decide +kernel
theorem pn_4 : plainFor (⟨"com/example/kingmaker/kingmaker/GraphNeighbourPinLaw", "pairB", "(I)I"⟩ : MethodName) = true := plainFor_of_name (show plainName "com/example/kingmaker/kingmaker/GraphNeighbourPinLaw" = true by first | (simp [plainName, overriddenIn]; done) | decide +kernel)
theorem pd_4 : parseMethodDescriptor "(I)I" = some ⟨[.int], some .int⟩ := by decide +kernel
theorem d5_0 : decode method_4_code 0 = .ok (.iload_n 2, 1) := by decide +kernel
theorem d5_1 : decode method_4_code 1 = .ok (.iload 4, 2) := by decide +kernel
theorem d5_3 : decode method_4_code 3 = .ok (.if_icmp .ne 11, 3) := by decide +kernel
theorem d5_6 : decode method_4_code 6 = .ok (.aload_n 0, 1) := by decide +kernel
theorem d5_7 : decode method_4_code 7 = .ok (.iload_n 1, 1) := by decide +kernel
theorem d5_8 : decode method_4_code 8 = .ok (.iload_n 3, 1) := by decide +kernel
theorem d5_9 : decode method_4_code 9 = .ok (.iastore, 1) := by decide +kernel
theorem d5_10 : decode method_4_code 10 = .ok (.iload_n 1, 1) := by decide +kernel
theorem d5_11 : decode method_4_code 11 = .ok (.iconst 1, 1) := by decide +kernel
theorem d5_12 : decode method_4_code 12 = .ok (.iadd, 1) := by decide +kernel
theorem d5_13 : decode method_4_code 13 = .ok (.ireturn, 1) := by decide +kernel
theorem d5_14 : decode method_4_code 14 = .ok (.iload_n 3, 1) := by decide +kernel
theorem d5_15 : decode method_4_code 15 = .ok (.iload 4, 2) := by decide +kernel
theorem d5_17 : decode method_4_code 17 = .ok (.if_icmp .ne 11, 3) := by decide +kernel
theorem d5_20 : decode method_4_code 20 = .ok (.aload_n 0, 1) := by decide +kernel
theorem d5_21 : decode method_4_code 21 = .ok (.iload_n 1, 1) := by decide +kernel
theorem d5_22 : decode method_4_code 22 = .ok (.iload_n 2, 1) := by decide +kernel
theorem d5_23 : decode method_4_code 23 = .ok (.iastore, 1) := by decide +kernel
theorem d5_24 : decode method_4_code 24 = .ok (.iload_n 1, 1) := by decide +kernel
theorem d5_25 : decode method_4_code 25 = .ok (.iconst 1, 1) := by decide +kernel
theorem d5_26 : decode method_4_code 26 = .ok (.iadd, 1) := by decide +kernel
theorem d5_27 : decode method_4_code 27 = .ok (.ireturn, 1) := by decide +kernel
theorem d5_28 : decode method_4_code 28 = .ok (.iload_n 1, 1) := by decide +kernel
theorem d5_29 : decode method_4_code 29 = .ok (.ireturn, 1) := by decide +kernel
theorem pn_5 : plainFor (⟨"com/example/kingmaker/kingmaker/GraphNeighbourPinLaw", "addIf", "([IIIII)I"⟩ : MethodName) = true := plainFor_of_name (show plainName "com/example/kingmaker/kingmaker/GraphNeighbourPinLaw" = true by first | (simp [plainName, overriddenIn]; done) | decide +kernel)
theorem pd_5 : parseMethodDescriptor "([IIIII)I" = some ⟨[(.array .int), .int, .int, .int, .int], some .int⟩ := by decide +kernel
theorem d6_0 : decode prog_21_method_1_code 0 = .ok (.aload_n 0, 1) := by decide +kernel
theorem d6_1 : decode prog_21_method_1_code 1 = .ok (.aload_n 1, 1) := by decide +kernel
theorem d6_2 : decode prog_21_method_1_code 2 = .ok (.invokespecial 1, 3) := by decide +kernel
theorem d6_5 : decode prog_21_method_1_code 5 = .ok (.aload_n 0, 1) := by decide +kernel
theorem d6_6 : decode prog_21_method_1_code 6 = .ok (.iconst (-1), 1) := by decide +kernel
theorem d6_7 : decode prog_21_method_1_code 7 = .ok (.putfield 7, 3) := by decide +kernel
theorem d6_10 : decode prog_21_method_1_code 10 = .ok (.aload_n 0, 1) := by decide +kernel
theorem d6_11 : decode prog_21_method_1_code 11 = .ok (.aload_n 1, 1) := by decide +kernel
theorem d6_12 : decode prog_21_method_1_code 12 = .ok (.arraylength, 1) := by decide +kernel
theorem d6_13 : decode prog_21_method_1_code 13 = .ok (.iconst 1, 1) := by decide +kernel
theorem d6_14 : decode prog_21_method_1_code 14 = .ok (.iadd, 1) := by decide +kernel
theorem d6_15 : decode prog_21_method_1_code 15 = .ok (.newarray .int, 2) := by decide +kernel
theorem d6_17 : decode prog_21_method_1_code 17 = .ok (.putfield 13, 3) := by decide +kernel
theorem d6_20 : decode prog_21_method_1_code 20 = .ok (.aload_n 2, 1) := by decide +kernel
theorem d6_21 : decode prog_21_method_1_code 21 = .ok (.astore_n 3, 1) := by decide +kernel
theorem d6_22 : decode prog_21_method_1_code 22 = .ok (.aload_n 3, 1) := by decide +kernel
theorem d6_23 : decode prog_21_method_1_code 23 = .ok (.arraylength, 1) := by decide +kernel
theorem d6_24 : decode prog_21_method_1_code 24 = .ok (.istore 4, 2) := by decide +kernel
theorem d6_26 : decode prog_21_method_1_code 26 = .ok (.iconst 0, 1) := by decide +kernel
theorem d6_27 : decode prog_21_method_1_code 27 = .ok (.istore 5, 2) := by decide +kernel
theorem d6_29 : decode prog_21_method_1_code 29 = .ok (.iload 5, 2) := by decide +kernel
theorem d6_31 : decode prog_21_method_1_code 31 = .ok (.iload 4, 2) := by decide +kernel
theorem d6_33 : decode prog_21_method_1_code 33 = .ok (.if_icmp .ge 28, 3) := by decide +kernel
theorem d6_36 : decode prog_21_method_1_code 36 = .ok (.aload_n 3, 1) := by decide +kernel
theorem d6_37 : decode prog_21_method_1_code 37 = .ok (.iload 5, 2) := by decide +kernel
theorem d6_39 : decode prog_21_method_1_code 39 = .ok (.iaload, 1) := by decide +kernel
theorem d6_40 : decode prog_21_method_1_code 40 = .ok (.istore 6, 2) := by decide +kernel
theorem d6_42 : decode prog_21_method_1_code 42 = .ok (.aload_n 0, 1) := by decide +kernel
theorem d6_43 : decode prog_21_method_1_code 43 = .ok (.getfield 13, 3) := by decide +kernel
theorem d6_46 : decode prog_21_method_1_code 46 = .ok (.iload 6, 2) := by decide +kernel
theorem d6_48 : decode prog_21_method_1_code 48 = .ok (.iconst 1, 1) := by decide +kernel
theorem d6_49 : decode prog_21_method_1_code 49 = .ok (.iadd, 1) := by decide +kernel
theorem d6_50 : decode prog_21_method_1_code 50 = .ok (.dup2, 1) := by decide +kernel
theorem d6_51 : decode prog_21_method_1_code 51 = .ok (.iaload, 1) := by decide +kernel
theorem d6_52 : decode prog_21_method_1_code 52 = .ok (.iconst 1, 1) := by decide +kernel
theorem d6_53 : decode prog_21_method_1_code 53 = .ok (.iadd, 1) := by decide +kernel
theorem d6_54 : decode prog_21_method_1_code 54 = .ok (.iastore, 1) := by decide +kernel
theorem d6_55 : decode prog_21_method_1_code 55 = .ok (.iinc 5 1, 3) := by decide +kernel
theorem d6_58 : decode prog_21_method_1_code 58 = .ok (.goto (-29), 3) := by decide +kernel
theorem d6_61 : decode prog_21_method_1_code 61 = .ok (.iconst 0, 1) := by decide +kernel
theorem d6_62 : decode prog_21_method_1_code 62 = .ok (.istore_n 3, 1) := by decide +kernel
theorem d6_63 : decode prog_21_method_1_code 63 = .ok (.iload_n 3, 1) := by decide +kernel
theorem d6_64 : decode prog_21_method_1_code 64 = .ok (.aload_n 1, 1) := by decide +kernel
theorem d6_65 : decode prog_21_method_1_code 65 = .ok (.arraylength, 1) := by decide +kernel
theorem d6_66 : decode prog_21_method_1_code 66 = .ok (.if_icmp .ge 26, 3) := by decide +kernel
theorem d6_69 : decode prog_21_method_1_code 69 = .ok (.aload_n 0, 1) := by decide +kernel
theorem d6_70 : decode prog_21_method_1_code 70 = .ok (.getfield 13, 3) := by decide +kernel
theorem d6_73 : decode prog_21_method_1_code 73 = .ok (.iload_n 3, 1) := by decide +kernel
theorem d6_74 : decode prog_21_method_1_code 74 = .ok (.iconst 1, 1) := by decide +kernel
theorem d6_75 : decode prog_21_method_1_code 75 = .ok (.iadd, 1) := by decide +kernel
theorem d6_76 : decode prog_21_method_1_code 76 = .ok (.dup2, 1) := by decide +kernel
theorem d6_77 : decode prog_21_method_1_code 77 = .ok (.iaload, 1) := by decide +kernel
theorem d6_78 : decode prog_21_method_1_code 78 = .ok (.aload_n 0, 1) := by decide +kernel
theorem d6_79 : decode prog_21_method_1_code 79 = .ok (.getfield 13, 3) := by decide +kernel
theorem d6_82 : decode prog_21_method_1_code 82 = .ok (.iload_n 3, 1) := by decide +kernel
theorem d6_83 : decode prog_21_method_1_code 83 = .ok (.iaload, 1) := by decide +kernel
theorem d6_84 : decode prog_21_method_1_code 84 = .ok (.iadd, 1) := by decide +kernel
theorem d6_85 : decode prog_21_method_1_code 85 = .ok (.iastore, 1) := by decide +kernel
theorem d6_86 : decode prog_21_method_1_code 86 = .ok (.iinc 3 1, 3) := by decide +kernel
theorem d6_89 : decode prog_21_method_1_code 89 = .ok (.goto (-26), 3) := by decide +kernel
theorem d6_92 : decode prog_21_method_1_code 92 = .ok (.aload_n 0, 1) := by decide +kernel
theorem d6_93 : decode prog_21_method_1_code 93 = .ok (.aload_n 2, 1) := by decide +kernel
theorem d6_94 : decode prog_21_method_1_code 94 = .ok (.arraylength, 1) := by decide +kernel
theorem d6_95 : decode prog_21_method_1_code 95 = .ok (.newarray .int, 2) := by decide +kernel
theorem d6_97 : decode prog_21_method_1_code 97 = .ok (.putfield 17, 3) := by decide +kernel
theorem d6_100 : decode prog_21_method_1_code 100 = .ok (.aload_n 0, 1) := by decide +kernel
theorem d6_101 : decode prog_21_method_1_code 101 = .ok (.getfield 13, 3) := by decide +kernel
theorem d6_104 : decode prog_21_method_1_code 104 = .ok (.aload_n 1, 1) := by decide +kernel
theorem d6_105 : decode prog_21_method_1_code 105 = .ok (.arraylength, 1) := by decide +kernel
theorem d6_106 : decode prog_21_method_1_code 106 = .ok (.invokestatic 20, 3) := by decide +kernel
theorem d6_109 : decode prog_21_method_1_code 109 = .ok (.astore_n 3, 1) := by decide +kernel
theorem d6_110 : decode prog_21_method_1_code 110 = .ok (.iconst 0, 1) := by decide +kernel
theorem d6_111 : decode prog_21_method_1_code 111 = .ok (.istore 4, 2) := by decide +kernel
theorem d6_113 : decode prog_21_method_1_code 113 = .ok (.iload 4, 2) := by decide +kernel
theorem d6_115 : decode prog_21_method_1_code 115 = .ok (.aload_n 2, 1) := by decide +kernel
theorem d6_116 : decode prog_21_method_1_code 116 = .ok (.arraylength, 1) := by decide +kernel
theorem d6_117 : decode prog_21_method_1_code 117 = .ok (.if_icmp .ge 53, 3) := by decide +kernel
theorem d6_120 : decode prog_21_method_1_code 120 = .ok (.aload_n 0, 1) := by decide +kernel
theorem d6_121 : decode prog_21_method_1_code 121 = .ok (.getfield 17, 3) := by decide +kernel
theorem d6_124 : decode prog_21_method_1_code 124 = .ok (.aload_n 3, 1) := by decide +kernel
theorem d6_125 : decode prog_21_method_1_code 125 = .ok (.aload_n 2, 1) := by decide +kernel
theorem d6_126 : decode prog_21_method_1_code 126 = .ok (.iload 4, 2) := by decide +kernel
theorem d6_128 : decode prog_21_method_1_code 128 = .ok (.iaload, 1) := by decide +kernel
theorem d6_129 : decode prog_21_method_1_code 129 = .ok (.dup2, 1) := by decide +kernel
theorem d6_130 : decode prog_21_method_1_code 130 = .ok (.iaload, 1) := by decide +kernel
theorem d6_131 : decode prog_21_method_1_code 131 = .ok (.dup_x2, 1) := by decide +kernel
theorem d6_132 : decode prog_21_method_1_code 132 = .ok (.iconst 1, 1) := by decide +kernel
theorem d6_133 : decode prog_21_method_1_code 133 = .ok (.iadd, 1) := by decide +kernel
theorem d6_134 : decode prog_21_method_1_code 134 = .ok (.iastore, 1) := by decide +kernel
theorem d6_135 : decode prog_21_method_1_code 135 = .ok (.aload_n 2, 1) := by decide +kernel
theorem d6_136 : decode prog_21_method_1_code 136 = .ok (.iload 4, 2) := by decide +kernel
theorem d6_138 : decode prog_21_method_1_code 138 = .ok (.iconst 1, 1) := by decide +kernel
theorem d6_139 : decode prog_21_method_1_code 139 = .ok (.iadd, 1) := by decide +kernel
theorem d6_140 : decode prog_21_method_1_code 140 = .ok (.iaload, 1) := by decide +kernel
theorem d6_141 : decode prog_21_method_1_code 141 = .ok (.iastore, 1) := by decide +kernel
theorem d6_142 : decode prog_21_method_1_code 142 = .ok (.aload_n 0, 1) := by decide +kernel
theorem d6_143 : decode prog_21_method_1_code 143 = .ok (.getfield 17, 3) := by decide +kernel
theorem d6_146 : decode prog_21_method_1_code 146 = .ok (.aload_n 3, 1) := by decide +kernel
theorem d6_147 : decode prog_21_method_1_code 147 = .ok (.aload_n 2, 1) := by decide +kernel
theorem d6_148 : decode prog_21_method_1_code 148 = .ok (.iload 4, 2) := by decide +kernel
theorem d6_150 : decode prog_21_method_1_code 150 = .ok (.iconst 1, 1) := by decide +kernel
theorem d6_151 : decode prog_21_method_1_code 151 = .ok (.iadd, 1) := by decide +kernel
theorem d6_152 : decode prog_21_method_1_code 152 = .ok (.iaload, 1) := by decide +kernel
theorem d6_153 : decode prog_21_method_1_code 153 = .ok (.dup2, 1) := by decide +kernel
theorem d6_154 : decode prog_21_method_1_code 154 = .ok (.iaload, 1) := by decide +kernel
theorem d6_155 : decode prog_21_method_1_code 155 = .ok (.dup_x2, 1) := by decide +kernel
theorem d6_156 : decode prog_21_method_1_code 156 = .ok (.iconst 1, 1) := by decide +kernel
theorem d6_157 : decode prog_21_method_1_code 157 = .ok (.iadd, 1) := by decide +kernel
theorem d6_158 : decode prog_21_method_1_code 158 = .ok (.iastore, 1) := by decide +kernel
theorem d6_159 : decode prog_21_method_1_code 159 = .ok (.aload_n 2, 1) := by decide +kernel
theorem d6_160 : decode prog_21_method_1_code 160 = .ok (.iload 4, 2) := by decide +kernel
theorem d6_162 : decode prog_21_method_1_code 162 = .ok (.iaload, 1) := by decide +kernel
theorem d6_163 : decode prog_21_method_1_code 163 = .ok (.iastore, 1) := by decide +kernel
theorem d6_164 : decode prog_21_method_1_code 164 = .ok (.iinc 4 2, 3) := by decide +kernel
theorem d6_167 : decode prog_21_method_1_code 167 = .ok (.goto (-54), 3) := by decide +kernel
theorem d6_170 : decode prog_21_method_1_code 170 = .ok (.return_, 1) := by decide +kernel
theorem pn_6 : plainFor (⟨"com/example/kingmaker/kingmaker/Graph", "<init>", "([J[I)V"⟩ : MethodName) = true := plainFor_of_name (show plainName "com/example/kingmaker/kingmaker/Graph" = true by first | (simp [plainName, overriddenIn]; done) | decide +kernel)
theorem pd_6 : parseMethodDescriptor "([J[I)V" = some ⟨[(.array .long), (.array .int)], none⟩ := by decide +kernel
theorem d7_0 : decode prog_51_method_1_code 0 = .ok (.aload_n 0, 1) := by decide +kernel
theorem d7_1 : decode prog_51_method_1_code 1 = .ok (.invokespecial 1, 3) := by decide +kernel
theorem d7_4 : decode prog_51_method_1_code 4 = .ok (.aload_n 0, 1) := by decide +kernel
theorem d7_5 : decode prog_51_method_1_code 5 = .ok (.aload_n 1, 1) := by decide +kernel
theorem d7_6 : decode prog_51_method_1_code 6 = .ok (.putfield 7, 3) := by decide +kernel
theorem d7_9 : decode prog_51_method_1_code 9 = .ok (.return_, 1) := by decide +kernel
theorem pn_7 : plainFor (⟨"com/example/kingmaker/kingmaker/Network", "<init>", "([J)V"⟩ : MethodName) = true := plainFor_of_name (show plainName "com/example/kingmaker/kingmaker/Network" = true by first | (simp [plainName, overriddenIn]; done) | decide +kernel)
theorem pd_7 : parseMethodDescriptor "([J)V" = some ⟨[(.array .long)], none⟩ := by decide +kernel
theorem d9_0 : decode jdk_65_method_123_code 0 = .ok (.iload_n 1, 1) := by decide +kernel
theorem d9_1 : decode jdk_65_method_123_code 1 = .ok (.aload_n 0, 1) := by decide +kernel
theorem d9_2 : decode jdk_65_method_123_code 2 = .ok (.arraylength, 1) := by decide +kernel
theorem d9_3 : decode jdk_65_method_123_code 3 = .ok (.if_icmp .ne 11, 3) := by decide +kernel
theorem d9_6 : decode jdk_65_method_123_code 6 = .ok (.aload_n 0, 1) := by decide +kernel
theorem d9_7 : decode jdk_65_method_123_code 7 = .ok (.invokevirtual 316, 3) := by decide +kernel
theorem d9_10 : decode jdk_65_method_123_code 10 = .ok (.checkcast 317, 3) := by decide +kernel
theorem d9_13 : decode jdk_65_method_123_code 13 = .ok (.areturn, 1) := by decide +kernel
theorem d9_14 : decode jdk_65_method_123_code 14 = .ok (.iload_n 1, 1) := by decide +kernel
theorem d9_15 : decode jdk_65_method_123_code 15 = .ok (.newarray .int, 2) := by decide +kernel
theorem d9_17 : decode jdk_65_method_123_code 17 = .ok (.astore_n 2, 1) := by decide +kernel
theorem d9_18 : decode jdk_65_method_123_code 18 = .ok (.aload_n 0, 1) := by decide +kernel
theorem d9_19 : decode jdk_65_method_123_code 19 = .ok (.iconst 0, 1) := by decide +kernel
theorem d9_20 : decode jdk_65_method_123_code 20 = .ok (.aload_n 2, 1) := by decide +kernel
theorem d9_21 : decode jdk_65_method_123_code 21 = .ok (.iconst 0, 1) := by decide +kernel
theorem d9_22 : decode jdk_65_method_123_code 22 = .ok (.aload_n 0, 1) := by decide +kernel
theorem d9_23 : decode jdk_65_method_123_code 23 = .ok (.arraylength, 1) := by decide +kernel
theorem d9_24 : decode jdk_65_method_123_code 24 = .ok (.iload_n 1, 1) := by decide +kernel
theorem d9_25 : decode jdk_65_method_123_code 25 = .ok (.invokestatic 304, 3) := by decide +kernel
theorem d9_28 : decode jdk_65_method_123_code 28 = .ok (.invokestatic 150, 3) := by decide +kernel
theorem d9_31 : decode jdk_65_method_123_code 31 = .ok (.aload_n 2, 1) := by decide +kernel
theorem d9_32 : decode jdk_65_method_123_code 32 = .ok (.areturn, 1) := by decide +kernel
theorem pn_9 : plainFor (⟨"java/util/Arrays", "copyOf", "([II)[I"⟩ : MethodName) = true := plainFor_of_name (show plainName "java/util/Arrays" = true by first | (simp [plainName, overriddenIn]; done) | decide +kernel)
theorem pd_9 : parseMethodDescriptor "([II)[I" = some ⟨[(.array .int), .int], some (.array .int)⟩ := by decide +kernel
theorem d10_0 : decode prog_21_method_6_code 0 = .ok (.aload_n 0, 1) := by decide +kernel
theorem d10_1 : decode prog_21_method_6_code 1 = .ok (.getfield 17, 3) := by decide +kernel
theorem d10_4 : decode prog_21_method_6_code 4 = .ok (.aload_n 0, 1) := by decide +kernel
theorem d10_5 : decode prog_21_method_6_code 5 = .ok (.getfield 13, 3) := by decide +kernel
theorem d10_8 : decode prog_21_method_6_code 8 = .ok (.iload_n 1, 1) := by decide +kernel
theorem d10_9 : decode prog_21_method_6_code 9 = .ok (.iaload, 1) := by decide +kernel
theorem d10_10 : decode prog_21_method_6_code 10 = .ok (.iload_n 2, 1) := by decide +kernel
theorem d10_11 : decode prog_21_method_6_code 11 = .ok (.iadd, 1) := by decide +kernel
theorem d10_12 : decode prog_21_method_6_code 12 = .ok (.iaload, 1) := by decide +kernel
theorem d10_13 : decode prog_21_method_6_code 13 = .ok (.ireturn, 1) := by decide +kernel
theorem pn_10 : plainFor (⟨"com/example/kingmaker/kingmaker/Graph", "neighbour", "(II)I"⟩ : MethodName) = true := plainFor_of_name (show plainName "com/example/kingmaker/kingmaker/Graph" = true by first | (simp [plainName, overriddenIn]; done) | decide +kernel)
theorem pd_10 : parseMethodDescriptor "(II)I" = some ⟨[.int, .int], some .int⟩ := by decide +kernel
def gC (e : Nat → Nat) : Nat → Nat → Nat
  | 0, _ => 0
  | i + 1, p => gC e i p + (if e i = p then 1 else 0)
def gP (e : Nat → Nat) (m : Nat) : Nat → Nat
  | 0 => 0
  | p + 1 => gP e m p + gC e m p
theorem gC_S (e : Nat → Nat) (i p : Nat) : gC e (i + 1) p = gC e i p + (if e i = p then 1 else 0) := rfl
theorem gP_S (e : Nat → Nat) (m p : Nat) : gP e m (p + 1) = gP e m p + gC e m p := rfl
theorem gC_mono (e : Nat → Nat) (p : Nat) {i j : Nat} (h : i ≤ j) : gC e i p ≤ gC e j p := by
  induction j with
  | zero => obtain rfl : i = 0 := by omega
            exact Nat.le_refl _
  | succ j ih =>
    by_cases q : i ≤ j
    · have := ih q; rw [gC_S]; omega
    · obtain rfl : i = j + 1 := by omega
      exact Nat.le_refl _
theorem gC_lt (e : Nat → Nat) {i m : Nat} (h : i < m) : gC e i (e i) + 1 ≤ gC e m (e i) := by
  have h1 := gC_mono e (e i) (i := i + 1) (j := m) (by omega)
  rw [gC_S, if_pos rfl] at h1; exact h1
theorem gP_mono (e : Nat → Nat) (m : Nat) {p q : Nat} (h : p ≤ q) : gP e m p ≤ gP e m q := by
  induction q with
  | zero => obtain rfl : p = 0 := by omega
            exact Nat.le_refl _
  | succ q ih =>
    by_cases r : p ≤ q
    · have := ih r; rw [gP_S]; omega
    · obtain rfl : p = q + 1 := by omega
      exact Nat.le_refl _
theorem gP_more (e : Nat → Nat) (m p : Nat) : gP e (m + 1) p = gP e m p + (if e m < p then 1 else 0) := by
  induction p with
  | zero => simp [gP]
  | succ p ih =>
    rw [gP_S, gP_S, ih, gC_S]
    by_cases h1 : e m < p
    · have h2 : e m < p + 1 := by omega
      have h3 : ¬ e m = p := by omega
      rw [if_pos h1, if_neg h3, if_pos h2]; omega
    · by_cases h2 : e m = p
      · have h3 : e m < p + 1 := by omega
        rw [if_neg h1, if_pos h2, if_pos h3]; omega
      · have h3 : ¬ e m < p + 1 := by omega
        rw [if_neg h1, if_neg h2, if_neg h3]; omega
theorem gP_zero (e : Nat → Nat) (p : Nat) : gP e 0 p = 0 := by
  induction p with
  | zero => rfl
  | succ p ih => rw [gP_S, ih]; rfl
theorem gP_all (e : Nat → Nat) (N m : Nat) (h : ∀ i, i < m → e i < N) : gP e m N = m := by
  induction m with
  | zero => exact gP_zero e N
  | succ m ih => rw [gP_more, ih (fun i hi => h i (by omega)), if_pos (h m (by omega))]
def gS (e : Nat → Nat) (m i : Nat) : Nat := gP e m (e i) + gC e i (e i)
theorem gS_lt (e : Nat → Nat) {N m : Nat} (h : ∀ i, i < m → e i < N) {i : Nat} (hi : i < m) : gS e m i < m := by
  have h1 := gC_lt e hi
  have h2 := gP_mono e m (p := e i + 1) (q := N) (h i hi)
  rw [gP_all e N m h, gP_S] at h2
  unfold gS; omega
theorem gS_inj (e : Nat → Nat) {m i j : Nat} (hi : i < j) (hj : j < m) : gS e m i ≠ gS e m j := by
  unfold gS
  by_cases q : e i = e j
  · have h1 := gC_lt e hi
    rw [q] at h1 ⊢
    omega
  · have a1 := gC_lt e (i := i) (m := m) (by omega)
    have a2 := gC_lt e hj
    rcases Nat.lt_or_gt_of_ne q with r | r
    · have := gP_mono e m (p := e i + 1) (q := e j) r
      rw [gP_S] at this; omega
    · have := gP_mono e m (p := e j + 1) (q := e i) r
      rw [gP_S] at this; omega
def gPar (j : Nat) : Nat := if j % 2 = 0 then j + 1 else j - 1
def inv1 (N : Nat) (e : Nat → Nat) (k : Nat) (F : Nat → Int32) : Prop := (F 0).toInt = 0 ∧ ∀ p, p < N → (F (p + 1)).toInt = (gC e k p : Int)
def inv2 (N : Nat) (e : Nat → Nat) (k : Nat) (F : Nat → Int32) : Prop := (∀ p, p ≤ k → (F p).toInt = (gP e 6 p : Int)) ∧ ∀ p, k ≤ p → p < N → (F (p + 1)).toInt = (gC e 6 p : Int)
def inv3 (N : Nat) (e : Nat → Nat) (k : Nat) (G : Nat → Int32) : Prop := ∀ p, p < N → (G p).toInt = ((gP e 6 p + gC e k p : Nat) : Int)
def inv4 (e : Nat → Nat) (E : Nat → Int32) (k : Nat) (H : Nat → Int32) : Prop := ∀ j, j < k → H (gS e 6 j) = E (gPar j)
theorem gC_le (e : Nat → Nat) (k p : Nat) : gC e k p ≤ k := by
  induction k with
  | zero => exact Nat.le_refl _
  | succ k ih => rw [gC_S]; split <;> omega
theorem inv1_step {N : Nat} {e : Nat → Nat} {k : Nat} {F : Nat → Int32} (hk : k < 6) (h : inv1 N e k F) (he : e k < N) : inv1 N e (k + 1) (updA F (e k + 1) (F (e k + 1) + 1)) := by
  refine ⟨by rw [updA_ne _ _ (by omega)]; exact h.1, fun p hp => ?_⟩
  rw [gC_S]
  by_cases q : e k = p
  · subst q
    have h1 := h.2 _ hp
    have h2 := gC_le e k (e k)
    rw [updA_same, if_pos rfl, toInt_add32 h1 (show (1 : Int32).toInt = 1 by decide) (by omega) (by omega)]
    omega
  · rw [updA_ne _ _ (by omega), if_neg q]
    exact h.2 p hp
theorem inv1_2 {N : Nat} {e : Nat → Nat} {F : Nat → Int32} (h : inv1 N e 6 F) : inv2 N e 0 F := by
  refine ⟨fun p hp => ?_, fun p _ hp => h.2 p hp⟩
  obtain rfl : p = 0 := by omega
  exact h.1
theorem inv2_step {N : Nat} {e : Nat → Nat} {k : Nat} {F : Nat → Int32} (hN : ∀ i, i < 6 → e i < N) (hk : k < N) (h : inv2 N e k F) : inv2 N e (k + 1) (updA F (k + 1) (F (k + 1) + F k)) := by
  have b1 := gP_mono e 6 (p := k + 1) (q := N) (by omega)
  rw [gP_all e N 6 hN, gP_S] at b1
  have h1 := h.1 k (Nat.le_refl _)
  have h2 := h.2 k (Nat.le_refl _) hk
  refine ⟨fun p hp => ?_, fun p hp hp2 => ?_⟩
  · by_cases q : p = k + 1
    · subst q
      rw [updA_same, toInt_add32 h2 h1 (by omega) (by omega), gP_S]
      omega
    · rw [updA_ne _ _ q]; exact h.1 p (by omega)
  · rw [updA_ne _ _ (by omega)]; exact h.2 p (by omega) hp2
theorem inv3_start {N : Nat} {e : Nat → Nat} {F : Nat → Int32} (h : inv2 N e N F) : inv3 N e 0 F := fun p hp => by
  rw [h.1 p (by omega)]; rfl
theorem inv3_step {N : Nat} {e : Nat → Nat} {k : Nat} {G : Nat → Int32} (hN : ∀ i, i < 6 → e i < N) (hk : k < 6) (h : inv3 N e k G) : inv3 N e (k + 1) (updA G (e k) (G (e k) + 1)) := by
  intro p hp
  have hl := gS_lt e hN hk
  unfold gS at hl
  rw [gC_S]
  by_cases q : e k = p
  · subst q
    rw [updA_same, if_pos rfl, toInt_add32 (h _ hp) (show (1 : Int32).toInt = 1 by decide) (by omega) (by omega)]
    omega
  · rw [updA_ne _ _ (by omega), if_neg q]; exact h p hp
theorem inv4_step {e : Nat → Nat} {E : Nat → Int32} {k : Nat} {H : Nat → Int32} (hk : k < 6) (h : inv4 e E k H) : inv4 e E (k + 1) (updA H (gS e 6 k) (E (gPar k))) := by
  intro j hj
  by_cases q : j = k
  · subst q; rw [updA_same]
  · rw [updA_ne _ _ (gS_inj e (i := j) (j := k) (by omega) hk)]; exact h j (by omega)
set_option maxRecDepth 65536 in
set_option maxHeartbeats 40000000 in
theorem spec_7 (l : Launch) (Z : State) (a0 : Array Value) (hw : ∀ d ∈ tables_1, d.before a0 Z = true) (a d : Addr) (v0 v1 v2 v3 : Value) (rest : OS) : OMeets l Z (⟨"com/example/kingmaker/kingmaker/Network", "<init>", "([J)V"⟩ : MethodName) prog_51_method_1_code 2 none ({ frames := 1, cells := 0, slots := 0, locals := 12 } : Room) [(.ref a), (.ref d)] ((a, OBJ Z "com/example/kingmaker/kingmaker/Graph" [("com/example/kingmaker/kingmaker/Network", "ids", "[J", v0), ("com/example/kingmaker/kingmaker/Graph", "diameter", "I", v1), ("com/example/kingmaker/kingmaker/Graph", "firstLink", "[I", v2), ("com/example/kingmaker/kingmaker/Graph", "heads", "[I", v3)]) :: rest) (RetN fun os' => os' = (a, OBJ Z "com/example/kingmaker/kingmaker/Graph" [("com/example/kingmaker/kingmaker/Network", "ids", "[J", .ref d), ("com/example/kingmaker/kingmaker/Graph", "diameter", "I", v1), ("com/example/kingmaker/kingmaker/Graph", "firstLink", "[I", v2), ("com/example/kingmaker/kingmaker/Graph", "heads", "[I", v3)]) :: rest) := by
  refine OMeets.of_body [.val (.ref a), .val (.ref d)] pn_7 (laid_eq _ _ rfl) ?_
  intro X K
  refine W.aloadN K 1 d7_0 0 rfl rfl rfl ?_
  refine W.initO K 4 d7_1 (hw _ (List.mem_of_getElem? (i := 31) rfl)) (hw _ (List.mem_of_getElem? (i := 32) rfl)) (hw _ (List.mem_of_getElem? (i := 33) rfl)) ?_
  refine W.aloadN K 5 d7_4 0 rfl rfl rfl ?_
  refine W.aloadN K 6 d7_5 1 rfl rfl rfl ?_
  refine W.putFf (ty := (.array .long)) K 9 d7_6 (hw _ (List.mem_of_getElem? (i := 34) rfl)) (hw _ (List.mem_of_getElem? (i := 35) rfl)) (hw _ (List.mem_of_getElem? (i := 20) rfl)) (by decide +kernel) (by repeat (first | exact Upd.here | apply Upd.there)) (by repeat (first | exact UpdF.here | apply UpdF.there)) ?_
  exact W.return K d7_9 ⟨rfl, rfl⟩
set_option maxRecDepth 65536 in
set_option maxHeartbeats 40000000 in
theorem spec_1 (l : Launch) (Z : State) (a0 : Array Value) (hw : ∀ d ∈ tables_1, d.before a0 Z = true) (p q : Int32) (os : OS) : OMeets l Z (⟨"java/lang/Math", "min", "(II)I"⟩ : MethodName) jdk_29_method_69_code 2 (some .int) ({ frames := 0, cells := 0, slots := 0, locals := 0 } : Room) [(.int p), (.int q)] os (RetV fun v os' => (∃ w : Int32, v = .int w ∧ w.toInt = min p.toInt q.toInt) ∧ os' = os) := by
  refine OMeets.of_body [.val (.int p), .val (.int q)] pn_1 (laid_eq _ _ rfl) ?_
  intro X K
  refine W.iloadN K 1 d1_0 0 rfl rfl ?_
  refine W.iloadN K 2 d1_1 1 rfl rfl ?_
  refine W.icmp_gt K 9 5 d1_2 (fun h2 => ?_) (fun h2 => ?_)
  · refine W.iloadN K 10 d1_9 1 rfl rfl ?_
    refine W.ireturn K d1_10 ⟨_, rfl, ⟨_, rfl, by omega⟩, rfl⟩
  · refine W.iloadN K 6 d1_5 0 rfl rfl ?_
    refine W.goto K 10 d1_6 ?_
    refine W.ireturn K d1_10 ⟨_, rfl, ⟨_, rfl, by omega⟩, rfl⟩
set_option maxRecDepth 65536 in
set_option maxHeartbeats 40000000 in
theorem spec_9 (l : Launch) (Z : State) (a0 : Array Value) (hw : ∀ d ∈ tables_1, d.before a0 Z = true) (a : Addr) (n : Int32) (N : Nat) (hn : n.toInt = (N : Int)) (hN : N ≤ 6) (F : Nat → Int32) (os : OS) (hm : (a, ARR Z .int (AF Value.int (N + 1) F)) ∈ os) : OMeets l Z (⟨"java/util/Arrays", "copyOf", "([II)[I"⟩ : MethodName) jdk_65_method_123_code 3 (some (.array .int)) ({ frames := 1, cells := 1, slots := 6, locals := 18 } : Room) [(.ref a), (.int n)] os (RetV fun v os' => ∃ z : Addr, v = .ref z ∧ os' = (z, ARR Z .int (AF Value.int N F)) :: os) := by
  have e0 : (0 : Int32).toInt = 0 := by decide
  have e1 : (1 : Int32).toInt = 1 := by decide
  have hn1 : (n + 1).toInt = ((N + 1 : Nat) : Int) := by rw [toInt_add32 hn e1 (by omega) (by omega)]; omega
  refine OMeets.of_body [.val (.ref a), .val (.int n), .unset] pn_9 (laid_eq _ _ rfl) ?_
  intro X K
  refine W.iloadN K 1 d9_0 1 rfl rfl ?_
  refine W.aloadN K 2 d9_1 0 rfl rfl rfl ?_
  refine W.arraylength (n + 1) K 3 d9_2 hm (AF_size hn1) ?_
  refine W.icmp_ne K 14 6 d9_3 (fun h3 => ?_) (fun h3 => False.elim (by have q := congrArg Int32.toInt h3; omega))
  refine W.iloadN K 15 d9_14 1 rfl rfl ?_
  refine W.newarray (ty := .int) N 6 K 17 d9_15 (hw _ (List.mem_of_getElem? (i := 15) rfl)) hn hN (fun z => ?_)
  rw [AF_repI]
  refine W.astoreN K 18 d9_17 2 rfl rfl rfl (by repeat (first | apply setLS | exact setL0)) ?_
  refine W.aloadN K 19 d9_18 0 rfl rfl rfl ?_
  refine W.iconst K 20 d9_19 (0 : Int32) (by decide) ?_
  refine W.aloadN K 21 d9_20 2 rfl rfl rfl ?_
  refine W.iconst K 22 d9_21 (0 : Int32) (by decide) ?_
  refine W.aloadN K 23 d9_22 0 rfl rfl rfl ?_
  refine W.arraylength (n + 1) K 24 d9_23 (List.mem_cons_of_mem _ hm) (AF_size hn1) ?_
  refine W.iloadN K 25 d9_24 1 rfl rfl ?_
  refine W.callSv2 K 28 d9_25 (hw _ (List.mem_of_getElem? (i := 46) rfl)) (hw _ (List.mem_of_getElem? (i := 2) rfl)) (hw _ (List.mem_of_getElem? (i := 3) rfl)) (hw _ (List.mem_of_getElem? (i := 4) rfl)) pd_1 (spec_1 l Z a0 hw _ _ _) (fun v os1 hq => ?_)
  obtain ⟨⟨w, rfl, hw0⟩, rfl⟩ := hq
  refine W.arraycopy 0 0 N K 31 d9_28 (hw _ (List.mem_of_getElem? (i := 47) rfl)) (hw _ (List.mem_of_getElem? (i := 50) rfl)) (hw _ (List.mem_of_getElem? (i := 48) rfl)) (hw _ (List.mem_of_getElem? (i := 49) rfl)) (List.mem_cons_of_mem _ hm) (by repeat (first | exact Upd.here | apply Upd.there)) e0 e0 (by omega) (by rw [AF_len]; omega) (by rw [AF_len]; omega) rfl ?_
  rw [AF_copy (by omega)]
  refine W.aloadN K 32 d9_31 2 rfl rfl rfl ?_
  refine W.areturn K d9_32 ⟨_, rfl, _, rfl, rfl⟩
set_option maxRecDepth 65536 in
set_option maxHeartbeats 40000000 in
theorem spec_6 (l : Launch) (Z : State) (a0 : Array Value) (hw : ∀ d ∈ tables_1, d.before a0 Z = true) (a d en : Addr) (v0 v1 v2 v3 : Value) (E : Nat → Int32) (e : Nat → Nat) (hE : ∀ i, i < 6 → (E i).toInt = (e i : Int)) (hN : ∀ i, i < 6 → e i < 4) (vd : List Value) (rest : OS) (hen : (en, ARR Z .int (AF Value.int 6 E)) ∈ rest) (hd : (d, ARR Z .long vd) ∈ rest) (hvd : vd.length = 4) : OMeets l Z (⟨"com/example/kingmaker/kingmaker/Graph", "<init>", "([J[I)V"⟩ : MethodName) prog_21_method_1_code 7 none ({ frames := 2, cells := 3, slots := 18, locals := 32 } : Room) [(.ref a), (.ref d), (.ref en)] ((a, OBJ Z "com/example/kingmaker/kingmaker/Graph" [("com/example/kingmaker/kingmaker/Network", "ids", "[J", v0), ("com/example/kingmaker/kingmaker/Graph", "diameter", "I", v1), ("com/example/kingmaker/kingmaker/Graph", "firstLink", "[I", v2), ("com/example/kingmaker/kingmaker/Graph", "heads", "[I", v3)]) :: rest) (RetN fun os' => ∃ (f hd z : Addr) (F H G : Nat → Int32), inv2 4 e 4 F ∧ inv4 e E 6 H ∧ os' = (z, ARR Z .int (AF Value.int 4 G)) :: (hd, ARR Z .int (AF Value.int 6 H)) :: (f, ARR Z .int (AF Value.int 5 F)) :: (a, OBJ Z "com/example/kingmaker/kingmaker/Graph" [("com/example/kingmaker/kingmaker/Network", "ids", "[J", .ref d), ("com/example/kingmaker/kingmaker/Graph", "diameter", "I", .int (-1)), ("com/example/kingmaker/kingmaker/Graph", "firstLink", "[I", .ref f), ("com/example/kingmaker/kingmaker/Graph", "heads", "[I", .ref hd)]) :: rest) := by
  have e0 : (0 : Int32).toInt = 0 := by decide
  have e1 : (1 : Int32).toInt = 1 := by decide
  have e2 : (2 : Int32).toInt = 2 := by decide
  have eN : (4 : Int32).toInt = ((4 : Nat) : Int) := by decide
  have e6 : (6 : Int32).toInt = ((6 : Nat) : Int) := by decide
  have zN : vd.length.toInt32 = 4 := by rw [hvd]; decide
  refine OMeets.of_body [.val (.ref a), .val (.ref d), .val (.ref en), .unset, .unset, .unset, .unset] pn_6 (laid_eq _ _ rfl) ?_
  intro X K
  have L3 : ∀ (m k : Nat) (i : Int32) (s5 s6 : Slot) (f hd2 z : Addr) (F H G : Nat → Int32), i.toInt = (k : Int) → k + 2 * m = 6 → okS s5 = true → okS s6 = true → inv2 4 e 4 F → inv3 4 e k G → inv4 e E k H → WP X Z 3 18 (RetN fun os' => ∃ (f hd z : Addr) (F H G : Nat → Int32), inv2 4 e 4 F ∧ inv4 e E 6 H ∧ os' = (z, ARR Z .int (AF Value.int 4 G)) :: (hd, ARR Z .int (AF Value.int 6 H)) :: (f, ARR Z .int (AF Value.int 5 F)) :: (a, OBJ Z "com/example/kingmaker/kingmaker/Graph" [("com/example/kingmaker/kingmaker/Network", "ids", "[J", .ref d), ("com/example/kingmaker/kingmaker/Graph", "diameter", "I", .int (-1)), ("com/example/kingmaker/kingmaker/Graph", "firstLink", "[I", .ref f), ("com/example/kingmaker/kingmaker/Graph", "heads", "[I", .ref hd)]) :: rest) 113 [.val (.ref a), .val (.ref d), .val (.ref en), .val (.ref z), .val (.int i), s5, s6] [] ((z, ARR Z .int (AF Value.int 4 G)) :: (hd2, ARR Z .int (AF Value.int 6 H)) :: (f, ARR Z .int (AF Value.int 5 F)) :: (a, OBJ Z "com/example/kingmaker/kingmaker/Graph" [("com/example/kingmaker/kingmaker/Network", "ids", "[J", .ref d), ("com/example/kingmaker/kingmaker/Graph", "diameter", "I", .int (-1)), ("com/example/kingmaker/kingmaker/Graph", "firstLink", "[I", .ref f), ("com/example/kingmaker/kingmaker/Graph", "heads", "[I", .ref hd2)]) :: rest) 3 17 := by
    intro m
    induction m with
    | zero =>
      intro k i s5 s6 f hd2 z F H G hi hk g5 g6 hF hG hH
      obtain rfl : k = 6 := by omega
      have hH6 := hH
      refine W.iload K 115 d6_113 rfl ?_
      refine W.aloadN K 116 d6_115 2 rfl rfl rfl ?_
      refine W.arraylength (6 : Int32) K 117 d6_116 (by repeat (first | exact hen | apply List.mem_cons_of_mem)) (AF_size e6) ?_
      refine W.icmp_ge K 170 120 d6_117 (fun h117 => ?_) (fun h117 => False.elim (by omega))
      exact W.return K d6_170 ⟨rfl, f, hd2, z, F, H, G, hF, hH6, rfl⟩
    | succ m ih =>
      intro k i s5 s6 f hd2 z F H G hi hk g5 g6 hF hG hH
      have hk1 : (i + 1).toInt = ((k + 1 : Nat) : Int) := by rw [toInt_add32 hi e1 (by omega) (by omega)]; omega
      have hk2 : (i + 2).toInt = ((k + 2 : Nat) : Int) := by rw [toInt_add32 hi e2 (by omega) (by omega)]; omega
      have q0 := hG (e k) (hN k (by omega))
      have hG1 := inv3_step hN (by omega) hG
      have q1 := hG1 (e (k + 1)) (hN (k + 1) (by omega))
      have hG2 := inv3_step hN (by omega) hG1
      have l0 := gS_lt e hN (i := k) (by omega)
      have l1 := gS_lt e hN (i := k + 1) (by omega)
      have p0 : E (gPar k) = E (k + 1) := by unfold gPar; rw [if_pos (by omega)]
      have p1 : E (gPar (k + 1)) = E k := by unfold gPar; rw [if_neg (by omega)]; rfl
      have hH1 := inv4_step (by omega) hH
      have hH2 := inv4_step (by omega) hH1
      rw [p0] at hH1 hH2; rw [p1] at hH2
      refine W.iload K 115 d6_113 rfl ?_
      refine W.aloadN K 116 d6_115 2 rfl rfl rfl ?_
      refine W.arraylength (6 : Int32) K 117 d6_116 (by repeat (first | exact hen | apply List.mem_cons_of_mem)) (AF_size e6) ?_
      refine W.icmp_ge K 170 120 d6_117 (fun h117 => False.elim (by omega)) (fun h117 => ?_)
      refine W.aloadN K 121 d6_120 0 rfl rfl rfl ?_
      refine W.getF K 124 d6_121 (hw _ (List.mem_of_getElem? (i := 40) rfl)) (by repeat (first | exact List.mem_cons_self | apply List.mem_cons_of_mem)) (by repeat (first | exact List.mem_cons_self | apply List.mem_cons_of_mem)) ?_
      refine W.aloadN K 125 d6_124 3 rfl rfl rfl ?_
      refine W.aloadN K 126 d6_125 2 rfl rfl rfl ?_
      refine W.iload K 128 d6_126 rfl ?_
      refine W.iaload k K 129 d6_128 (by repeat (first | exact hen | apply List.mem_cons_of_mem)) hi (AF_at (by omega)) ?_
      refine W.dup2 K 130 d6_129 ?_
      refine W.iaload (e k) K 131 d6_130 (by repeat (first | exact List.mem_cons_self | apply List.mem_cons_of_mem)) (hE k (by omega)) (AF_at (by exact hN k (by omega))) ?_
      refine W.dupX2 K 132 d6_131 ?_
      refine W.iconst K 133 d6_132 (1 : Int32) (by decide) ?_
      refine W.iadd K 134 d6_133 ?_
      refine W.iastore (e k) K 135 d6_134 (by repeat (first | exact Upd.here | apply Upd.there)) (hE k (by omega)) (AF_at (by exact hN k (by omega))) ?_
      rw [AF_set]
      refine W.aloadN K 136 d6_135 2 rfl rfl rfl ?_
      refine W.iload K 138 d6_136 rfl ?_
      refine W.iconst K 139 d6_138 (1 : Int32) (by decide) ?_
      refine W.iadd K 140 d6_139 ?_
      refine W.iaload (k + 1) K 141 d6_140 (by repeat (first | exact hen | apply List.mem_cons_of_mem)) hk1 (AF_at (by omega)) ?_
      refine W.iastore (gS e 6 k) K 142 d6_141 (by repeat (first | exact Upd.here | apply Upd.there)) q0 (AF_at (by exact l0)) ?_
      rw [AF_set]
      refine W.aloadN K 143 d6_142 0 rfl rfl rfl ?_
      refine W.getF K 146 d6_143 (hw _ (List.mem_of_getElem? (i := 40) rfl)) (by repeat (first | exact List.mem_cons_self | apply List.mem_cons_of_mem)) (by repeat (first | exact List.mem_cons_self | apply List.mem_cons_of_mem)) ?_
      refine W.aloadN K 147 d6_146 3 rfl rfl rfl ?_
      refine W.aloadN K 148 d6_147 2 rfl rfl rfl ?_
      refine W.iload K 150 d6_148 rfl ?_
      refine W.iconst K 151 d6_150 (1 : Int32) (by decide) ?_
      refine W.iadd K 152 d6_151 ?_
      refine W.iaload (k + 1) K 153 d6_152 (by repeat (first | exact hen | apply List.mem_cons_of_mem)) hk1 (AF_at (by omega)) ?_
      refine W.dup2 K 154 d6_153 ?_
      refine W.iaload (e (k + 1)) K 155 d6_154 (by repeat (first | exact List.mem_cons_self | apply List.mem_cons_of_mem)) (hE (k + 1) (by omega)) (AF_at (by exact hN (k + 1) (by omega))) ?_
      refine W.dupX2 K 156 d6_155 ?_
      refine W.iconst K 157 d6_156 (1 : Int32) (by decide) ?_
      refine W.iadd K 158 d6_157 ?_
      refine W.iastore (e (k + 1)) K 159 d6_158 (by repeat (first | exact Upd.here | apply Upd.there)) (hE (k + 1) (by omega)) (AF_at (by exact hN (k + 1) (by omega))) ?_
      rw [AF_set]
      refine W.aloadN K 160 d6_159 2 rfl rfl rfl ?_
      refine W.iload K 162 d6_160 rfl ?_
      refine W.iaload k K 163 d6_162 (by repeat (first | exact hen | apply List.mem_cons_of_mem)) hi (AF_at (by omega)) ?_
      refine W.iastore (gS e 6 (k + 1)) K 164 d6_163 (by repeat (first | exact Upd.here | apply Upd.there)) q1 (AF_at (by exact l1)) ?_
      rw [AF_set]
      refine W.iinc K 167 d6_164 (2 : Int32) (by decide) rfl (by repeat (first | apply setLS | exact setL0)) ?_
      refine W.goto K 113 d6_167 ?_
      exact ih (k + 2) (i + 2) s5 s6 f hd2 z F _ _ hk2 (by omega) g5 g6 hF hG2 hH2
  have J92 : ∀ (i : Int32) (s4 s5 s6 : Slot) (f : Addr) (F : Nat → Int32), okS s4 = true → okS s5 = true → okS s6 = true → inv2 4 e 4 F → WP X Z 3 18 (RetN fun os' => ∃ (f hd z : Addr) (F H G : Nat → Int32), inv2 4 e 4 F ∧ inv4 e E 6 H ∧ os' = (z, ARR Z .int (AF Value.int 4 G)) :: (hd, ARR Z .int (AF Value.int 6 H)) :: (f, ARR Z .int (AF Value.int 5 F)) :: (a, OBJ Z "com/example/kingmaker/kingmaker/Graph" [("com/example/kingmaker/kingmaker/Network", "ids", "[J", .ref d), ("com/example/kingmaker/kingmaker/Graph", "diameter", "I", .int (-1)), ("com/example/kingmaker/kingmaker/Graph", "firstLink", "[I", .ref f), ("com/example/kingmaker/kingmaker/Graph", "heads", "[I", .ref hd)]) :: rest) 92 [.val (.ref a), .val (.ref d), .val (.ref en), .val (.int i), s4, s5, s6] [] ((f, ARR Z .int (AF Value.int 5 F)) :: (a, OBJ Z "com/example/kingmaker/kingmaker/Graph" [("com/example/kingmaker/kingmaker/Network", "ids", "[J", .ref d), ("com/example/kingmaker/kingmaker/Graph", "diameter", "I", .int (-1)), ("com/example/kingmaker/kingmaker/Graph", "firstLink", "[I", .ref f), ("com/example/kingmaker/kingmaker/Graph", "heads", "[I", v3)]) :: rest) 1 5 := by
    intro i s4 s5 s6 f F g4 g5 g6 hF
    refine W.aloadN K 93 d6_92 0 rfl rfl rfl ?_
    refine W.aloadN K 94 d6_93 2 rfl rfl rfl ?_
    refine W.arraylength (6 : Int32) K 95 d6_94 (by repeat (first | exact hen | apply List.mem_cons_of_mem)) (AF_size e6) ?_
    refine W.newarray (ty := .int) 6 6 K 97 d6_95 (hw _ (List.mem_of_getElem? (i := 15) rfl)) e6 (by decide) (fun hd2 => ?_)
    rw [AF_repI]
    refine W.putFf (ty := (.array .int)) K 100 d6_97 (hw _ (List.mem_of_getElem? (i := 40) rfl)) (hw _ (List.mem_of_getElem? (i := 41) rfl)) (hw _ (List.mem_of_getElem? (i := 20) rfl)) (by decide +kernel) (by repeat (first | exact Upd.here | apply Upd.there)) (by repeat (first | exact UpdF.here | apply UpdF.there)) ?_
    refine W.aloadN K 101 d6_100 0 rfl rfl rfl ?_
    refine W.getF K 104 d6_101 (hw _ (List.mem_of_getElem? (i := 38) rfl)) (by repeat (first | exact List.mem_cons_self | apply List.mem_cons_of_mem)) (by repeat (first | exact List.mem_cons_self | apply List.mem_cons_of_mem)) ?_
    refine W.aloadN K 105 d6_104 1 rfl rfl rfl ?_
    refine W.arraylength (4 : Int32) K 106 d6_105 (by repeat (first | exact hd | apply List.mem_cons_of_mem)) zN ?_
    refine W.callSv2 K 109 d6_106 (hw _ (List.mem_of_getElem? (i := 42) rfl)) (hw _ (List.mem_of_getElem? (i := 43) rfl)) (hw _ (List.mem_of_getElem? (i := 44) rfl)) (hw _ (List.mem_of_getElem? (i := 45) rfl)) pd_9 (spec_9 l Z a0 hw _ _ 4 eN (by omega) F _ (by repeat (first | exact List.mem_cons_self | apply List.mem_cons_of_mem))) (fun v os1 hq => ?_)
    obtain ⟨z, rfl, rfl⟩ := hq
    refine W.astoreN K 110 d6_109 3 rfl rfl rfl (by repeat (first | apply setLS | exact setL0)) ?_
    refine W.iconst K 111 d6_110 (0 : Int32) (by decide) ?_
    refine W.istore K 113 d6_111 (congrArg some g4) (by repeat (first | apply setLS | exact setL0)) ?_
    exact L3 3 0 0 s5 s6 f hd2 z F _ _ e0 (by omega) g5 g6 hF (inv3_start hF) (fun j hj => absurd hj (by omega))
  have L2 : ∀ (m k : Nat) (i : Int32) (s4 s5 s6 : Slot) (f : Addr) (F : Nat → Int32), i.toInt = (k : Int) → k + m = 4 → okS s4 = true → okS s5 = true → okS s6 = true → inv2 4 e k F → WP X Z 3 18 (RetN fun os' => ∃ (f hd z : Addr) (F H G : Nat → Int32), inv2 4 e 4 F ∧ inv4 e E 6 H ∧ os' = (z, ARR Z .int (AF Value.int 4 G)) :: (hd, ARR Z .int (AF Value.int 6 H)) :: (f, ARR Z .int (AF Value.int 5 F)) :: (a, OBJ Z "com/example/kingmaker/kingmaker/Graph" [("com/example/kingmaker/kingmaker/Network", "ids", "[J", .ref d), ("com/example/kingmaker/kingmaker/Graph", "diameter", "I", .int (-1)), ("com/example/kingmaker/kingmaker/Graph", "firstLink", "[I", .ref f), ("com/example/kingmaker/kingmaker/Graph", "heads", "[I", .ref hd)]) :: rest) 63 [.val (.ref a), .val (.ref d), .val (.ref en), .val (.int i), s4, s5, s6] [] ((f, ARR Z .int (AF Value.int 5 F)) :: (a, OBJ Z "com/example/kingmaker/kingmaker/Graph" [("com/example/kingmaker/kingmaker/Network", "ids", "[J", .ref d), ("com/example/kingmaker/kingmaker/Graph", "diameter", "I", .int (-1)), ("com/example/kingmaker/kingmaker/Graph", "firstLink", "[I", .ref f), ("com/example/kingmaker/kingmaker/Graph", "heads", "[I", v3)]) :: rest) 1 5 := by
    intro m
    induction m with
    | zero =>
      intro k i s4 s5 s6 f F hi hk g4 g5 g6 hF
      obtain rfl : k = 4 := by omega
      refine W.iloadN K 64 d6_63 3 rfl rfl ?_
      refine W.aloadN K 65 d6_64 1 rfl rfl rfl ?_
      refine W.arraylength (4 : Int32) K 66 d6_65 (by repeat (first | exact hd | apply List.mem_cons_of_mem)) zN ?_
      refine W.icmp_ge K 92 69 d6_66 (fun h66 => ?_) (fun h66 => False.elim (by omega))
      exact J92 i s4 s5 s6 f F g4 g5 g6 hF
    | succ m ih =>
      intro k i s4 s5 s6 f F hi hk g4 g5 g6 hF
      have hk1 : (i + 1).toInt = ((k + 1 : Nat) : Int) := by rw [toInt_add32 hi e1 (by omega) (by omega)]; omega
      refine W.iloadN K 64 d6_63 3 rfl rfl ?_
      refine W.aloadN K 65 d6_64 1 rfl rfl rfl ?_
      refine W.arraylength (4 : Int32) K 66 d6_65 (by repeat (first | exact hd | apply List.mem_cons_of_mem)) zN ?_
      refine W.icmp_ge K 92 69 d6_66 (fun h66 => False.elim (by omega)) (fun h66 => ?_)
      refine W.aloadN K 70 d6_69 0 rfl rfl rfl ?_
      refine W.getF K 73 d6_70 (hw _ (List.mem_of_getElem? (i := 38) rfl)) (by repeat (first | exact List.mem_cons_self | apply List.mem_cons_of_mem)) (by repeat (first | exact List.mem_cons_self | apply List.mem_cons_of_mem)) ?_
      refine W.iloadN K 74 d6_73 3 rfl rfl ?_
      refine W.iconst K 75 d6_74 (1 : Int32) (by decide) ?_
      refine W.iadd K 76 d6_75 ?_
      refine W.dup2 K 77 d6_76 ?_
      refine W.iaload (k + 1) K 78 d6_77 (by repeat (first | exact List.mem_cons_self | apply List.mem_cons_of_mem)) hk1 (AF_at (by omega)) ?_
      refine W.aloadN K 79 d6_78 0 rfl rfl rfl ?_
      refine W.getF K 82 d6_79 (hw _ (List.mem_of_getElem? (i := 38) rfl)) (by repeat (first | exact List.mem_cons_self | apply List.mem_cons_of_mem)) (by repeat (first | exact List.mem_cons_self | apply List.mem_cons_of_mem)) ?_
      refine W.iloadN K 83 d6_82 3 rfl rfl ?_
      refine W.iaload k K 84 d6_83 (by repeat (first | exact List.mem_cons_self | apply List.mem_cons_of_mem)) hi (AF_at (by omega)) ?_
      refine W.iadd K 85 d6_84 ?_
      refine W.iastore (k + 1) K 86 d6_85 (by repeat (first | exact Upd.here | apply Upd.there)) hk1 (AF_at (by omega)) ?_
      rw [AF_set]
      refine W.iinc K 89 d6_86 (1 : Int32) (by decide) rfl (by repeat (first | apply setLS | exact setL0)) ?_
      refine W.goto K 63 d6_89 ?_
      exact ih (k + 1) (i + 1) s4 s5 s6 f _ hk1 (by omega) g4 g5 g6 (inv2_step hN (by omega) hF)
  have L1 : ∀ (m k : Nat) (i : Int32) (s6 : Slot) (f : Addr) (F : Nat → Int32), i.toInt = (k : Int) → k + m = 6 → okS s6 = true → inv1 4 e k F → WP X Z 3 18 (RetN fun os' => ∃ (f hd z : Addr) (F H G : Nat → Int32), inv2 4 e 4 F ∧ inv4 e E 6 H ∧ os' = (z, ARR Z .int (AF Value.int 4 G)) :: (hd, ARR Z .int (AF Value.int 6 H)) :: (f, ARR Z .int (AF Value.int 5 F)) :: (a, OBJ Z "com/example/kingmaker/kingmaker/Graph" [("com/example/kingmaker/kingmaker/Network", "ids", "[J", .ref d), ("com/example/kingmaker/kingmaker/Graph", "diameter", "I", .int (-1)), ("com/example/kingmaker/kingmaker/Graph", "firstLink", "[I", .ref f), ("com/example/kingmaker/kingmaker/Graph", "heads", "[I", .ref hd)]) :: rest) 29 [.val (.ref a), .val (.ref d), .val (.ref en), .val (.ref en), .val (.int 6), .val (.int i), s6] [] ((f, ARR Z .int (AF Value.int 5 F)) :: (a, OBJ Z "com/example/kingmaker/kingmaker/Graph" [("com/example/kingmaker/kingmaker/Network", "ids", "[J", .ref d), ("com/example/kingmaker/kingmaker/Graph", "diameter", "I", .int (-1)), ("com/example/kingmaker/kingmaker/Graph", "firstLink", "[I", .ref f), ("com/example/kingmaker/kingmaker/Graph", "heads", "[I", v3)]) :: rest) 1 5 := by
    intro m
    induction m with
    | zero =>
      intro k i s6 f F hi hk g6 hF
      obtain rfl : k = 6 := by omega
      refine W.iload K 31 d6_29 rfl ?_
      refine W.iload K 33 d6_31 rfl ?_
      refine W.icmp_ge K 61 36 d6_33 (fun h33 => ?_) (fun h33 => False.elim (by omega))
      refine W.iconst K 62 d6_61 (0 : Int32) (by decide) ?_
      refine W.istoreN K 63 d6_62 3 rfl rfl (by repeat (first | apply setLS | exact setL0)) ?_
      exact L2 4 0 0 _ _ s6 f F e0 (by omega) rfl rfl g6 (inv1_2 hF)
    | succ m ih =>
      intro k i s6 f F hi hk g6 hF
      have hk1 : (i + 1).toInt = ((k + 1 : Nat) : Int) := by rw [toInt_add32 hi e1 (by omega) (by omega)]; omega
      have hek := hN k (by omega)
      have hx1 : (E k + 1).toInt = ((e k + 1 : Nat) : Int) := by rw [toInt_add32 (hE k (by omega)) e1 (by omega) (by omega)]; omega
      refine W.iload K 31 d6_29 rfl ?_
      refine W.iload K 33 d6_31 rfl ?_
      refine W.icmp_ge K 61 36 d6_33 (fun h33 => False.elim (by omega)) (fun h33 => ?_)
      refine W.aloadN K 37 d6_36 3 rfl rfl rfl ?_
      refine W.iload K 39 d6_37 rfl ?_
      refine W.iaload k K 40 d6_39 (by repeat (first | exact hen | apply List.mem_cons_of_mem)) hi (AF_at (by omega)) ?_
      refine W.istore K 42 d6_40 (congrArg some g6) (by repeat (first | apply setLS | exact setL0)) ?_
      refine W.aloadN K 43 d6_42 0 rfl rfl rfl ?_
      refine W.getF K 46 d6_43 (hw _ (List.mem_of_getElem? (i := 38) rfl)) (by repeat (first | exact List.mem_cons_self | apply List.mem_cons_of_mem)) (by repeat (first | exact List.mem_cons_self | apply List.mem_cons_of_mem)) ?_
      refine W.iload K 48 d6_46 rfl ?_
      refine W.iconst K 49 d6_48 (1 : Int32) (by decide) ?_
      refine W.iadd K 50 d6_49 ?_
      refine W.dup2 K 51 d6_50 ?_
      refine W.iaload (e k + 1) K 52 d6_51 (by repeat (first | exact List.mem_cons_self | apply List.mem_cons_of_mem)) hx1 (AF_at (by omega)) ?_
      refine W.iconst K 53 d6_52 (1 : Int32) (by decide) ?_
      refine W.iadd K 54 d6_53 ?_
      refine W.iastore (e k + 1) K 55 d6_54 (by repeat (first | exact Upd.here | apply Upd.there)) hx1 (AF_at (by omega)) ?_
      rw [AF_set]
      refine W.iinc K 58 d6_55 (1 : Int32) (by decide) rfl (by repeat (first | apply setLS | exact setL0)) ?_
      refine W.goto K 29 d6_58 ?_
      exact ih (k + 1) (i + 1) _ f _ hk1 (by omega) rfl (inv1_step (by omega) hF hek)
  refine W.aloadN K 1 d6_0 0 rfl rfl rfl ?_
  refine W.aloadN K 2 d6_1 1 rfl rfl rfl ?_
  refine W.callIn1 K 5 d6_2 (hw _ (List.mem_of_getElem? (i := 26) rfl)) (hw _ (List.mem_of_getElem? (i := 27) rfl)) (hw _ (List.mem_of_getElem? (i := 29) rfl)) (hw _ (List.mem_of_getElem? (i := 30) rfl)) pd_7 (spec_7 l Z a0 hw _ _ _ _ _ _ _) (fun os1 hq => ?_)
  obtain rfl := hq
  refine W.aloadN K 6 d6_5 0 rfl rfl rfl ?_
  refine W.iconst K 7 d6_6 (-1 : Int32) (by decide) ?_
  refine W.putF (ty := .int) K 10 d6_7 (hw _ (List.mem_of_getElem? (i := 36) rfl)) (hw _ (List.mem_of_getElem? (i := 37) rfl)) (hw _ (List.mem_of_getElem? (i := 20) rfl)) (by decide +kernel) (by repeat (first | exact Upd.here | apply Upd.there)) (by repeat (first | exact UpdF.here | apply UpdF.there)) ?_
  refine W.aloadN K 11 d6_10 0 rfl rfl rfl ?_
  refine W.aloadN K 12 d6_11 1 rfl rfl rfl ?_
  refine W.arraylength (4 : Int32) K 13 d6_12 (by repeat (first | exact hd | apply List.mem_cons_of_mem)) zN ?_
  refine W.iconst K 14 d6_13 (1 : Int32) (by decide) ?_
  refine W.iadd K 15 d6_14 ?_
  refine W.newarray (ty := .int) 5 5 K 17 d6_15 (hw _ (List.mem_of_getElem? (i := 15) rfl)) (by decide) (by decide) (fun f => ?_)
  rw [AF_repI]
  refine W.putFf (ty := (.array .int)) K 20 d6_17 (hw _ (List.mem_of_getElem? (i := 38) rfl)) (hw _ (List.mem_of_getElem? (i := 39) rfl)) (hw _ (List.mem_of_getElem? (i := 20) rfl)) (by decide +kernel) (by repeat (first | exact Upd.here | apply Upd.there)) (by repeat (first | exact UpdF.here | apply UpdF.there)) ?_
  refine W.aloadN K 21 d6_20 2 rfl rfl rfl ?_
  refine W.astoreN K 22 d6_21 3 rfl rfl rfl (by repeat (first | apply setLS | exact setL0)) ?_
  refine W.aloadN K 23 d6_22 3 rfl rfl rfl ?_
  refine W.arraylength (6 : Int32) K 24 d6_23 (by repeat (first | exact hen | apply List.mem_cons_of_mem)) (AF_size e6) ?_
  refine W.istore K 26 d6_24 rfl (by repeat (first | apply setLS | exact setL0)) ?_
  refine W.iconst K 27 d6_26 (0 : Int32) (by decide) ?_
  refine W.istore K 29 d6_27 rfl (by repeat (first | apply setLS | exact setL0)) ?_
  exact L1 6 0 0 _ f _ e0 (by omega) rfl ⟨by decide, fun p hp => by show (0 : Int32).toInt = _; rw [e0]; rfl⟩
set_option maxRecDepth 65536 in
set_option maxHeartbeats 40000000 in
theorem spec_2 (l : Launch) (Z : State) (a0 : Array Value) (hw : ∀ d ∈ tables_1, d.before a0 Z = true) (p q : Int32) (os : OS) : OMeets l Z (⟨"java/lang/Math", "max", "(II)I"⟩ : MethodName) jdk_29_method_65_code 2 (some .int) ({ frames := 0, cells := 0, slots := 0, locals := 0 } : Room) [(.int p), (.int q)] os (RetV fun v os' => (∃ w : Int32, v = .int w ∧ w.toInt = max p.toInt q.toInt) ∧ os' = os) := by
  refine OMeets.of_body [.val (.int p), .val (.int q)] pn_2 (laid_eq _ _ rfl) ?_
  intro X K
  refine W.iloadN K 1 d2_0 0 rfl rfl ?_
  refine W.iloadN K 2 d2_1 1 rfl rfl ?_
  refine W.icmp_lt K 9 5 d2_2 (fun h2 => ?_) (fun h2 => ?_)
  · refine W.iloadN K 10 d2_9 1 rfl rfl ?_
    refine W.ireturn K d2_10 ⟨_, rfl, ⟨_, rfl, by omega⟩, rfl⟩
  · refine W.iloadN K 6 d2_5 0 rfl rfl ?_
    refine W.goto K 10 d2_6 ?_
    refine W.ireturn K d2_10 ⟨_, rfl, ⟨_, rfl, by omega⟩, rfl⟩
def own_pA (i : Int32) : Int32 := if i.toInt < 3 then 0 else if i.toInt < 5 then 1 else 2
def own_pB (i : Int32) : Int32 := if i = 0 then 1 else if i = 1 ∨ i = 3 then 2 else 3
theorem own_AB (i : Int32) (h0 : 0 ≤ i.toInt) (h5 : i.toInt ≤ 5) : own_pA i ≠ own_pB i ∧ 0 ≤ (own_pA i).toInt ∧ (own_pA i).toInt < 4 ∧ 0 ≤ (own_pB i).toInt ∧ (own_pB i).toInt < 4 := by
  have e : ∀ z : Int32, i.toInt = z.toInt → i = z := fun z hz => Int32.toInt_inj.mp hz
  have e0 : (0 : Int32).toInt = 0 := by decide
  have e1 : (1 : Int32).toInt = 1 := by decide
  have e2 : (2 : Int32).toInt = 2 := by decide
  have e3 : (3 : Int32).toInt = 3 := by decide
  have e4 : (4 : Int32).toInt = 4 := by decide
  have e5 : (5 : Int32).toInt = 5 := by decide
  have h : i.toInt = (0 : Int32).toInt ∨ i.toInt = (1 : Int32).toInt ∨ i.toInt = (2 : Int32).toInt ∨ i.toInt = (3 : Int32).toInt ∨ i.toInt = (4 : Int32).toInt ∨ i.toInt = (5 : Int32).toInt := by omega
  rcases h with h | h | h | h | h | h <;> rw [e _ h] <;> decide
set_option maxRecDepth 65536 in
set_option maxHeartbeats 40000000 in
theorem spec_3 (l : Launch) (Z : State) (a0 : Array Value) (hw : ∀ d ∈ tables_1, d.before a0 Z = true) (i : Int32) (os : OS) : OMeets l Z (⟨"com/example/kingmaker/kingmaker/GraphNeighbourPinLaw", "pairA", "(I)I"⟩ : MethodName) method_2_code 1 (some .int) ({ frames := 0, cells := 0, slots := 0, locals := 0 } : Room) [(.int i)] os (RetV fun v os' => v = .int (own_pA i) ∧ os' = os) := by
  have e3 : (3 : Int32).toInt = 3 := by decide
  have e5 : (5 : Int32).toInt = 5 := by decide
  refine OMeets.of_body [.val (.int i)] pn_3 (laid_eq _ _ rfl) ?_
  intro X K
  refine W.iloadN K 1 d3_0 0 rfl rfl ?_
  refine W.iconst K 2 d3_1 (3 : Int32) (by decide) ?_
  refine W.icmp_ge K 7 5 d3_2 (fun h2 => ?_) (fun h2 => ?_)
  · refine W.iloadN K 8 d3_7 0 rfl rfl ?_
    refine W.iconst K 9 d3_8 (5 : Int32) (by decide) ?_
    refine W.icmp_ge K 14 12 d3_9 (fun h9 => ?_) (fun h9 => ?_)
    · refine W.iconst K 15 d3_14 (2 : Int32) (by decide) ?_
      refine W.ireturn K d3_15 ⟨_, rfl, ?_, rfl⟩
      unfold own_pA; rw [if_neg (by omega), if_neg (by omega)]
    · refine W.iconst K 13 d3_12 (1 : Int32) (by decide) ?_
      refine W.ireturn K d3_13 ⟨_, rfl, ?_, rfl⟩
      unfold own_pA; rw [if_neg (by omega), if_pos (by omega)]
  · refine W.iconst K 6 d3_5 (0 : Int32) (by decide) ?_
    refine W.ireturn K d3_6 ⟨_, rfl, ?_, rfl⟩
    unfold own_pA; rw [if_pos (by omega)]
set_option maxRecDepth 65536 in
set_option maxHeartbeats 40000000 in
theorem spec_4 (l : Launch) (Z : State) (a0 : Array Value) (hw : ∀ d ∈ tables_1, d.before a0 Z = true) (i : Int32) (os : OS) : OMeets l Z (⟨"com/example/kingmaker/kingmaker/GraphNeighbourPinLaw", "pairB", "(I)I"⟩ : MethodName) method_3_code 1 (some .int) ({ frames := 0, cells := 0, slots := 0, locals := 0 } : Room) [(.int i)] os (RetV fun v os' => v = .int (own_pB i) ∧ os' = os) := by
  refine OMeets.of_body [.val (.int i)] pn_4 (laid_eq _ _ rfl) ?_
  intro X K
  refine W.iloadN K 1 d4_0 0 rfl rfl ?_
  refine W.if_ne K 6 4 d4_1 (fun h1 => ?_) (fun h1 => ?_)
  · refine W.iloadN K 7 d4_6 0 rfl rfl ?_
    refine W.iconst K 8 d4_7 (1 : Int32) (by decide) ?_
    refine W.icmp_eq K 16 11 d4_8 (fun h8 => ?_) (fun h8 => ?_)
    · refine W.iconst K 17 d4_16 (2 : Int32) (by decide) ?_
      refine W.ireturn K d4_17 ⟨_, rfl, ?_, rfl⟩
      unfold own_pB; first | rw [if_neg h1, if_pos (Or.inl h8)] | rw [if_neg h1, if_pos (Or.inr h13)]
    · refine W.iloadN K 12 d4_11 0 rfl rfl ?_
      refine W.iconst K 13 d4_12 (3 : Int32) (by decide) ?_
      refine W.icmp_ne K 18 16 d4_13 (fun h13 => ?_) (fun h13 => ?_)
      · refine W.iconst K 19 d4_18 (3 : Int32) (by decide) ?_
        refine W.ireturn K d4_19 ⟨_, rfl, ?_, rfl⟩
        unfold own_pB; rw [if_neg h1, if_neg (fun z => z.elim h8 h13)]
      · refine W.iconst K 17 d4_16 (2 : Int32) (by decide) ?_
        refine W.ireturn K d4_17 ⟨_, rfl, ?_, rfl⟩
        unfold own_pB; first | rw [if_neg h1, if_pos (Or.inl h8)] | rw [if_neg h1, if_pos (Or.inr h13)]
  · refine W.iconst K 5 d4_4 (1 : Int32) (by decide) ?_
    refine W.ireturn K d4_5 ⟨_, rfl, ?_, rfl⟩
    unfold own_pB; rw [if_pos h1]
def aX (V : Nat → Int32) (n : Nat) (u v p : Int32) : Nat → Int32 := if u = p then updA V n v else if v = p then updA V n u else V
def aN (n : Nat) (u v p : Int32) : Nat := if u = p then n + 1 else if v = p then n + 1 else n
theorem aN_le (n : Nat) (u v p : Int32) : n ≤ aN n u v p ∧ aN n u v p ≤ n + 1 := by unfold aN; split <;> (try split) <;> omega
theorem a_step (e : Nat → Nat) (E H V : Nat → Int32) (k P : Nat) (p : Int32) (hp : p.toInt = (P : Int)) (hE : ∀ i, i < 6 → (E i).toInt = (e i : Int)) (hH : inv4 e E 6 H) (hk : k % 2 = 0) (hk6 : k + 1 < 6) (ne : E k ≠ E (k + 1)) (n : Nat) (hn : n = gC e k P) (hV : ∀ r, r < n → V r = H (gP e 6 P + r)) :
    aN n (E k) (E (k + 1)) p = gC e (k + 2) P ∧ ∀ r, r < aN n (E k) (E (k + 1)) p → (aX V n (E k) (E (k + 1)) p) r = H (gP e 6 P + r) := by
  have eq : ∀ i, i < 6 → (E i = p ↔ e i = P) := fun i hi => by
    rw [← Int32.toInt_inj, hE i hi, hp]; omega
  have h0 := hH k (by omega)
  have h1 := hH (k + 1) (by omega)
  have p0 : gPar k = k + 1 := by unfold gPar; rw [if_pos hk]
  have p1 : gPar (k + 1) = k := by unfold gPar; rw [if_neg (by omega)]; rfl
  rw [p0] at h0; rw [p1] at h1
  rw [gC_S, gC_S]
  unfold aN aX
  by_cases q0 : E k = p
  · have q1 : ¬ E (k + 1) = p := fun z => ne (q0.trans z.symm)
    have r0 := (eq k (by omega)).mp q0
    have r1 : ¬ e (k + 1) = P := fun z => q1 ((eq (k + 1) hk6).mpr z)
    rw [if_pos q0, if_pos q0, if_pos r0, if_neg r1]
    refine ⟨by omega, fun r hr => ?_⟩
    by_cases q : r = n
    · subst q
      rw [updA_same, ← h0]; unfold gS; rw [r0, hn]
    · rw [updA_ne _ _ q]; exact hV r (by omega)
  · have r0 : ¬ e k = P := fun z => q0 ((eq k (by omega)).mpr z)
    rw [if_neg q0, if_neg q0, if_neg r0]
    by_cases q1 : E (k + 1) = p
    · have r1 := (eq (k + 1) hk6).mp q1
      rw [if_pos q1, if_pos q1, if_pos r1]
      refine ⟨by omega, fun r hr => ?_⟩
      by_cases q : r = n
      · subst q
        rw [updA_same, ← h1]; unfold gS; rw [r1, gC_S, if_neg r0, hn]; rfl
      · rw [updA_ne _ _ q]; exact hV r (by omega)
    · have r1 : ¬ e (k + 1) = P := fun z => q1 ((eq (k + 1) hk6).mpr z)
      rw [if_neg q1, if_neg q1, if_neg r1]
      exact ⟨by omega, hV⟩
set_option maxRecDepth 65536 in
set_option maxHeartbeats 40000000 in
theorem spec_5 (l : Launch) (Z : State) (a0 : Array Value) (hw : ∀ d ∈ tables_1, d.before a0 Z = true) (a : Addr) (m u v p : Int32) (n : Nat) (hm : m.toInt = (n : Int)) (hn : n < 3) (V : Nat → Int32) (rest : OS) : OMeets l Z (⟨"com/example/kingmaker/kingmaker/GraphNeighbourPinLaw", "addIf", "([IIIII)I"⟩ : MethodName) method_4_code 5 (some .int) ({ frames := 0, cells := 0, slots := 0, locals := 0 } : Room) [(.ref a), (.int m), (.int u), (.int v), (.int p)] ((a, ARR Z .int (AF Value.int 3 V)) :: rest) (RetV fun w os' => (∃ z : Int32, w = .int z ∧ z.toInt = (aN n u v p : Int)) ∧ os' = (a, ARR Z .int (AF Value.int 3 (aX V n u v p))) :: rest) := by
  have e1 : (1 : Int32).toInt = 1 := by decide
  have hm1 : (m + 1).toInt = ((n + 1 : Nat) : Int) := by rw [toInt_add32 hm e1 (by omega) (by omega)]; omega
  refine OMeets.of_body [.val (.ref a), .val (.int m), .val (.int u), .val (.int v), .val (.int p)] pn_5 (laid_eq _ _ rfl) ?_
  intro X K
  refine W.iloadN K 1 d5_0 2 rfl rfl ?_
  refine W.iload K 3 d5_1 rfl ?_
  refine W.icmp_ne K 14 6 d5_3 (fun h3 => ?_) (fun h3 => ?_)
  · refine W.iloadN K 15 d5_14 3 rfl rfl ?_
    refine W.iload K 17 d5_15 rfl ?_
    refine W.icmp_ne K 28 20 d5_17 (fun h17 => ?_) (fun h17 => ?_)
    · refine W.iloadN K 29 d5_28 1 rfl rfl ?_
      refine W.ireturn K d5_29 ⟨_, rfl, ⟨_, rfl, ?_⟩, ?_⟩
      · rw [hm]; unfold aN; rw [if_neg h3, if_neg h17]
      · unfold aX; rw [if_neg h3, if_neg h17]
    · refine W.aloadN K 21 d5_20 0 rfl rfl rfl ?_
      refine W.iloadN K 22 d5_21 1 rfl rfl ?_
      refine W.iloadN K 23 d5_22 2 rfl rfl ?_
      refine W.iastore n K 24 d5_23 (by repeat (first | exact Upd.here | apply Upd.there)) hm (AF_at hn) ?_
      rw [AF_set]
      refine W.iloadN K 25 d5_24 1 rfl rfl ?_
      refine W.iconst K 26 d5_25 (1 : Int32) (by decide) ?_
      refine W.iadd K 27 d5_26 ?_
      refine W.ireturn K d5_27 ⟨_, rfl, ⟨_, rfl, ?_⟩, ?_⟩
      · rw [hm1]; unfold aN; rw [if_neg h3, if_pos h17]
      · unfold aX; rw [if_neg h3, if_pos h17]
  · refine W.aloadN K 7 d5_6 0 rfl rfl rfl ?_
    refine W.iloadN K 8 d5_7 1 rfl rfl ?_
    refine W.iloadN K 9 d5_8 3 rfl rfl ?_
    refine W.iastore n K 10 d5_9 (by repeat (first | exact Upd.here | apply Upd.there)) hm (AF_at hn) ?_
    rw [AF_set]
    refine W.iloadN K 11 d5_10 1 rfl rfl ?_
    refine W.iconst K 12 d5_11 (1 : Int32) (by decide) ?_
    refine W.iadd K 13 d5_12 ?_
    refine W.ireturn K d5_13 ⟨_, rfl, ⟨_, rfl, ?_⟩, ?_⟩
    · rw [hm1]; unfold aN; rw [if_pos h3]
    · unfold aX; rw [if_pos h3]
set_option maxRecDepth 65536 in
set_option maxHeartbeats 40000000 in
theorem spec_10 (l : Launch) (Z : State) (a0 : Array Value) (hw : ∀ d ∈ tables_1, d.before a0 Z = true) (a d f hd : Addr) (i r : Int32) (k j s : Nat) (hi : i.toInt = (k : Int)) (hk : k < 5) (F H : Nat → Int32) (hj : (F k + r).toInt = (j : Int)) (hj6 : j < 6) (os : OS) (hm : (a, OBJ Z "com/example/kingmaker/kingmaker/Graph" [("com/example/kingmaker/kingmaker/Network", "ids", "[J", .ref d), ("com/example/kingmaker/kingmaker/Graph", "diameter", "I", .int (-1)), ("com/example/kingmaker/kingmaker/Graph", "firstLink", "[I", .ref f), ("com/example/kingmaker/kingmaker/Graph", "heads", "[I", .ref hd)]) ∈ os) (hm2 : (f, ARR Z .int (AF Value.int 5 F)) ∈ os) (hm3 : (hd, ARR Z .int (AF Value.int 6 H)) ∈ os) : OMeets l Z (⟨"com/example/kingmaker/kingmaker/Graph", "neighbour", "(II)I"⟩ : MethodName) prog_21_method_6_code 3 (some .int) ({ frames := 0, cells := 0, slots := 0, locals := 0 } : Room) [(.ref a), (.int i), (.int r)] os (RetV fun v os' => v = .int (H j) ∧ os' = os) := by
  refine OMeets.of_body [.val (.ref a), .val (.int i), .val (.int r)] pn_10 (laid_eq _ _ rfl) ?_
  intro X K
  refine W.aloadN K 1 d10_0 0 rfl rfl rfl ?_
  refine W.getF K 4 d10_1 (hw _ (List.mem_of_getElem? (i := 40) rfl)) hm (by repeat (first | exact List.mem_cons_self | apply List.mem_cons_of_mem)) ?_
  refine W.aloadN K 5 d10_4 0 rfl rfl rfl ?_
  refine W.getF K 8 d10_5 (hw _ (List.mem_of_getElem? (i := 38) rfl)) hm (by repeat (first | exact List.mem_cons_self | apply List.mem_cons_of_mem)) ?_
  refine W.iloadN K 9 d10_8 1 rfl rfl ?_
  refine W.iaload k K 10 d10_9 hm2 hi (AF_at hk) ?_
  refine W.iloadN K 11 d10_10 2 rfl rfl ?_
  refine W.iadd K 12 d10_11 ?_
  refine W.iaload j K 13 d10_12 hm3 hj (AF_at hj6) ?_
  refine W.ireturn K d10_13 ⟨_, rfl, rfl, rfl⟩
theorem own_m (x y : Int32) (d : Int) (hy : y.toInt = d) (hd : 0 < d) : 0 ≤ ((x &&& 2147483647) % y).toInt ∧ ((x &&& 2147483647) % y).toInt < d := by
  have h1 := c_mask x 2147483647 31 (by decide) (by decide)
  have h2 : ((2 ^ 31 : Nat) : Int) = 2147483648 := by decide
  have h3 := (c_irem (x &&& 2147483647) y d hy).1 (by rw [h1, h2]; omega)
  have h4 := Int.emod_nonneg (x &&& 2147483647).toInt (b := d) (by omega)
  have h5 := Int.emod_lt_of_pos (x &&& 2147483647).toInt hd
  omega
def own_E (a0 a1 a2 a3 a4 a5 : Int32) : Nat → Int32
  | 0 => a0
  | 1 => a1
  | 2 => a2
  | 3 => a3
  | 4 => a4
  | 5 => a5
  | _ => 0
set_option maxRecDepth 65536 in
set_option maxHeartbeats 40000000 in
theorem spec_0 (l : Launch) (Z : State) (a0 : Array Value) (hw : ∀ d ∈ tables_1, d.before a0 Z = true) (p q r t u : Int32) : OMeets l Z x code maxLocals ret room_1 [(.int p), (.int q), (.int r), (.int t), (.int u)] [] (RetV fun v _ => v = .int 1) := by
  have e0 : (0 : Int32).toInt = 0 := by decide
  have e1 : (1 : Int32).toInt = 1 := by decide
  have e2 : (2 : Int32).toInt = 2 := by decide
  have e3 : (3 : Int32).toInt = 3 := by decide
  have e4 : (4 : Int32).toInt = 4 := by decide
  have e5 : (5 : Int32).toInt = 5 := by decide
  have e6 : (6 : Int32).toInt = 6 := by decide
  refine OMeets.of_body [.val (.int p), .val (.int q), .val (.int r), .val (.int t), .val (.int u), .unset, .unset, .unset, .unset, .unset, .unset, .unset, .unset, .unset, .unset, .unset, .unset, .unset, .unset, .unset, .unset, .unset, .unset] pn_0 (laid_eq _ _ rfl) ?_
  intro X K
  refine W.iloadN K 1 at_0 0 rfl rfl ?_
  refine W.ldcI K 3 at_1 (hw _ (List.mem_of_getElem? (i := 0) rfl)) ?_
  refine W.iand K 4 at_3 ?_
  refine W.bipush K 6 at_4 (6 : Int32) (by decide) ?_
  refine W.irem K 7 at_6 (by decide) ?_
  have m0 := own_m p 6 6 e6 (by decide)
  generalize (p &&& 2147483647) % 6 = i0 at m0 ⊢
  refine W.istore K 9 at_7 rfl (by repeat (first | apply setLS | exact setL0)) ?_
  refine W.iloadN K 10 at_9 1 rfl rfl ?_
  refine W.ldcI K 12 at_10 (hw _ (List.mem_of_getElem? (i := 0) rfl)) ?_
  refine W.iand K 13 at_12 ?_
  refine W.iconst K 14 at_13 (5 : Int32) (by decide) ?_
  refine W.irem K 15 at_14 (by decide) ?_
  have m1 := own_m q 5 5 e5 (by decide)
  generalize (q &&& 2147483647) % 5 = b5 at m1 ⊢
  refine W.istore K 17 at_15 rfl (by repeat (first | apply setLS | exact setL0)) ?_
  refine W.iload K 19 at_17 rfl ?_
  refine W.iload K 21 at_19 rfl ?_
  refine W.selI 33 (W.icmp_lt K 31 24 at_21) (fun k => (W.iload K 33 at_31 rfl k)) (fun k => (W.iload K 26 at_24 rfl (W.iconst K 27 at_26 (1 : Int32) (by decide) (W.iadd K 28 at_27 (W.goto K 33 at_28 k))))) ?_
  have m2 : 0 ≤ (if b5.toInt < i0.toInt then b5 else b5 + 1).toInt ∧ (if b5.toInt < i0.toInt then b5 else b5 + 1).toInt ≤ 5 := by
    have q1 := toInt_add32 (x := b5) (z := 1) rfl e1 (by omega) (by omega)
    split <;> omega
  generalize (if b5.toInt < i0.toInt then b5 else b5 + 1) = i1 at m2 ⊢
  refine W.istore K 35 at_33 rfl (by repeat (first | apply setLS | exact setL0)) ?_
  refine W.iload K 37 at_35 rfl ?_
  refine W.iload K 39 at_37 rfl ?_
  refine W.callSv2 K 42 at_39 (hw _ (List.mem_of_getElem? (i := 1) rfl)) (hw _ (List.mem_of_getElem? (i := 2) rfl)) (hw _ (List.mem_of_getElem? (i := 3) rfl)) (hw _ (List.mem_of_getElem? (i := 4) rfl)) pd_1 (spec_1 l Z a0 hw _ _ _) (fun v os1 hq => ?_)
  obtain ⟨⟨lo, rfl, hlo⟩, rfl⟩ := hq
  refine W.istore K 44 at_42 rfl (by repeat (first | apply setLS | exact setL0)) ?_
  refine W.iload K 46 at_44 rfl ?_
  refine W.iload K 48 at_46 rfl ?_
  refine W.callSv2 K 51 at_48 (hw _ (List.mem_of_getElem? (i := 5) rfl)) (hw _ (List.mem_of_getElem? (i := 6) rfl)) (hw _ (List.mem_of_getElem? (i := 3) rfl)) (hw _ (List.mem_of_getElem? (i := 7) rfl)) pd_2 (spec_2 l Z a0 hw _ _ _) (fun v os1 hq => ?_)
  obtain ⟨⟨hi, rfl, hhi⟩, rfl⟩ := hq
  refine W.istore K 53 at_51 rfl (by repeat (first | apply setLS | exact setL0)) ?_
  refine W.iloadN K 54 at_53 2 rfl rfl ?_
  refine W.ldcI K 56 at_54 (hw _ (List.mem_of_getElem? (i := 0) rfl)) ?_
  refine W.iand K 57 at_56 ?_
  refine W.iconst K 58 at_57 (4 : Int32) (by decide) ?_
  refine W.irem K 59 at_58 (by decide) ?_
  have m3 := own_m r 4 4 e4 (by decide)
  generalize (r &&& 2147483647) % 4 = i2 at m3 ⊢
  refine W.istore K 61 at_59 rfl (by repeat (first | apply setLS | exact setL0)) ?_
  refine W.cutI (S := []) (G := fun v => 0 ≤ v.toInt ∧ v.toInt ≤ 4) 71 10 (fun kk => ?_) (fun j1 hj1 => ?_)
  · refine W.iload K 63 at_61 rfl ?_
    refine W.iload K 65 at_63 rfl ?_
    refine W.icmp_lt K 71 68 at_65 (fun h65 => ?_) (fun h65 => ?_)
    · exact kk _ ⟨by omega, by omega⟩
    · refine W.iinc K 71 at_68 (1 : Int32) (by decide) rfl (by repeat (first | apply setLS | exact setL0)) ?_
      exact kk _ (by rw [toInt_add32 (x := i2) (z := 1) rfl e1 (by omega) (by omega)]; exact ⟨by omega, by omega⟩)
  simp only [List.set_cons_succ, List.set_cons_zero]
  refine W.cutI (S := []) (G := fun v => 0 ≤ v.toInt ∧ v.toInt ≤ 5) 81 10 (fun kk => ?_) (fun j2 hj2 => ?_)
  · refine W.iload K 73 at_71 rfl ?_
    refine W.iload K 75 at_73 rfl ?_
    refine W.icmp_lt K 81 78 at_75 (fun h75 => ?_) (fun h75 => ?_)
    · exact kk _ ⟨by omega, by omega⟩
    · refine W.iinc K 81 at_78 (1 : Int32) (by decide) rfl (by repeat (first | apply setLS | exact setL0)) ?_
      exact kk _ (by rw [toInt_add32 (x := j1) (z := 1) rfl e1 (by omega) (by omega)]; exact ⟨by omega, by omega⟩)
  simp only [List.set_cons_succ, List.set_cons_zero]
  have n0 := own_AB i0 m0.1 (by omega)
  have n1 := own_AB i1 m2.1 m2.2
  have n2 := own_AB j2 hj2.1 hj2.2
  refine W.iload K 83 at_81 rfl ?_
  refine W.callSv1 K 86 at_83 (hw _ (List.mem_of_getElem? (i := 8) rfl)) (hw _ (List.mem_of_getElem? (i := 9) rfl)) (hw _ (List.mem_of_getElem? (i := 10) rfl)) (hw _ (List.mem_of_getElem? (i := 11) rfl)) pd_3 (spec_3 l Z a0 hw _ _) (fun v os1 hq => ?_)
  obtain ⟨rfl, rfl⟩ := hq
  refine W.istore K 88 at_86 rfl (by repeat (first | apply setLS | exact setL0)) ?_
  refine W.iload K 90 at_88 rfl ?_
  refine W.callSv1 K 93 at_90 (hw _ (List.mem_of_getElem? (i := 12) rfl)) (hw _ (List.mem_of_getElem? (i := 13) rfl)) (hw _ (List.mem_of_getElem? (i := 10) rfl)) (hw _ (List.mem_of_getElem? (i := 14) rfl)) pd_4 (spec_4 l Z a0 hw _ _) (fun v os1 hq => ?_)
  obtain ⟨rfl, rfl⟩ := hq
  refine W.istore K 95 at_93 rfl (by repeat (first | apply setLS | exact setL0)) ?_
  refine W.cutL (S := []) (G := fun L' => ∃ (x1 x2 : Int32) (s : Slot), x1 ≠ x2 ∧ 0 ≤ x1.toInt ∧ x1.toInt < 4 ∧ 0 ≤ x2.toInt ∧ x2.toInt < 4 ∧ okS s = true ∧ L' = [.val (.int p), .val (.int q), .val (.int r), .val (.int t), .val (.int u), .val (.int i0), .val (.int b5), .val (.int i1), .val (.int lo), .val (.int hi), .val (.int j2), .val (.int x1), .val (.int x2), s, .unset, .unset, .unset, .unset, .unset, .unset, .unset, .unset, .unset]) 113 (fun kk => ?_) (fun L' hL' => ?_)
  · refine W.iloadN K 96 at_95 3 rfl rfl ?_
    refine W.iconst K 97 at_96 (1 : Int32) (by decide) ?_
    refine W.iand K 98 at_97 ?_
    refine W.if_eq K 113 101 at_98 (fun h98 => ?_) (fun h98 => ?_)
    · exact kk _ ⟨_, _, _, n0.1, n0.2.1, n0.2.2.1, n0.2.2.2.1, n0.2.2.2.2, rfl, rfl⟩
    · refine W.iload K 103 at_101 rfl ?_
      refine W.istore K 105 at_103 rfl (by repeat (first | apply setLS | exact setL0)) ?_
      refine W.iload K 107 at_105 rfl ?_
      refine W.istore K 109 at_107 rfl (by repeat (first | apply setLS | exact setL0)) ?_
      refine W.iload K 111 at_109 rfl ?_
      refine W.istore K 113 at_111 rfl (by repeat (first | apply setLS | exact setL0)) ?_
      exact kk _ ⟨_, _, _, fun z => n0.1 z.symm, n0.2.2.2.1, n0.2.2.2.2, n0.2.1, n0.2.2.1, rfl, rfl⟩
  obtain ⟨u0, v0, s13, ne0, ka0, kb0, kc0, kd0, hs13, rfl⟩ := hL'
  refine W.iload K 115 at_113 rfl ?_
  refine W.callSv1 K 118 at_115 (hw _ (List.mem_of_getElem? (i := 8) rfl)) (hw _ (List.mem_of_getElem? (i := 9) rfl)) (hw _ (List.mem_of_getElem? (i := 10) rfl)) (hw _ (List.mem_of_getElem? (i := 11) rfl)) pd_3 (spec_3 l Z a0 hw _ _) (fun v os1 hq => ?_)
  obtain ⟨rfl, rfl⟩ := hq
  refine W.istore K 120 at_118 (congrArg some hs13) (by repeat (first | apply setLS | exact setL0)) ?_
  refine W.iload K 122 at_120 rfl ?_
  refine W.callSv1 K 125 at_122 (hw _ (List.mem_of_getElem? (i := 12) rfl)) (hw _ (List.mem_of_getElem? (i := 13) rfl)) (hw _ (List.mem_of_getElem? (i := 10) rfl)) (hw _ (List.mem_of_getElem? (i := 14) rfl)) pd_4 (spec_4 l Z a0 hw _ _) (fun v os1 hq => ?_)
  obtain ⟨rfl, rfl⟩ := hq
  refine W.istore K 127 at_125 rfl (by repeat (first | apply setLS | exact setL0)) ?_
  refine W.cutL (S := []) (G := fun L' => ∃ (x1 x2 : Int32) (s : Slot), x1 ≠ x2 ∧ 0 ≤ x1.toInt ∧ x1.toInt < 4 ∧ 0 ≤ x2.toInt ∧ x2.toInt < 4 ∧ okS s = true ∧ L' = [.val (.int p), .val (.int q), .val (.int r), .val (.int t), .val (.int u), .val (.int i0), .val (.int b5), .val (.int i1), .val (.int lo), .val (.int hi), .val (.int j2), .val (.int u0), .val (.int v0), .val (.int x1), .val (.int x2), s, .unset, .unset, .unset, .unset, .unset, .unset, .unset]) 145 (fun kk => ?_) (fun L' hL' => ?_)
  · refine W.iloadN K 128 at_127 3 rfl rfl ?_
    refine W.iconst K 129 at_128 (2 : Int32) (by decide) ?_
    refine W.iand K 130 at_129 ?_
    refine W.if_eq K 145 133 at_130 (fun h130 => ?_) (fun h130 => ?_)
    · exact kk _ ⟨_, _, _, n1.1, n1.2.1, n1.2.2.1, n1.2.2.2.1, n1.2.2.2.2, rfl, rfl⟩
    · refine W.iload K 135 at_133 rfl ?_
      refine W.istore K 137 at_135 rfl (by repeat (first | apply setLS | exact setL0)) ?_
      refine W.iload K 139 at_137 rfl ?_
      refine W.istore K 141 at_139 rfl (by repeat (first | apply setLS | exact setL0)) ?_
      refine W.iload K 143 at_141 rfl ?_
      refine W.istore K 145 at_143 rfl (by repeat (first | apply setLS | exact setL0)) ?_
      exact kk _ ⟨_, _, _, fun z => n1.1 z.symm, n1.2.2.2.1, n1.2.2.2.2, n1.2.1, n1.2.2.1, rfl, rfl⟩
  obtain ⟨u1, v1, s15, ne1, ka1, kb1, kc1, kd1, hs15, rfl⟩ := hL'
  refine W.iload K 147 at_145 rfl ?_
  refine W.callSv1 K 150 at_147 (hw _ (List.mem_of_getElem? (i := 8) rfl)) (hw _ (List.mem_of_getElem? (i := 9) rfl)) (hw _ (List.mem_of_getElem? (i := 10) rfl)) (hw _ (List.mem_of_getElem? (i := 11) rfl)) pd_3 (spec_3 l Z a0 hw _ _) (fun v os1 hq => ?_)
  obtain ⟨rfl, rfl⟩ := hq
  refine W.istore K 152 at_150 (congrArg some hs15) (by repeat (first | apply setLS | exact setL0)) ?_
  refine W.iload K 154 at_152 rfl ?_
  refine W.callSv1 K 157 at_154 (hw _ (List.mem_of_getElem? (i := 12) rfl)) (hw _ (List.mem_of_getElem? (i := 13) rfl)) (hw _ (List.mem_of_getElem? (i := 10) rfl)) (hw _ (List.mem_of_getElem? (i := 14) rfl)) pd_4 (spec_4 l Z a0 hw _ _) (fun v os1 hq => ?_)
  obtain ⟨rfl, rfl⟩ := hq
  refine W.istore K 159 at_157 rfl (by repeat (first | apply setLS | exact setL0)) ?_
  refine W.cutL (S := []) (G := fun L' => ∃ (x1 x2 : Int32) (s : Slot), x1 ≠ x2 ∧ 0 ≤ x1.toInt ∧ x1.toInt < 4 ∧ 0 ≤ x2.toInt ∧ x2.toInt < 4 ∧ okS s = true ∧ L' = [.val (.int p), .val (.int q), .val (.int r), .val (.int t), .val (.int u), .val (.int i0), .val (.int b5), .val (.int i1), .val (.int lo), .val (.int hi), .val (.int j2), .val (.int u0), .val (.int v0), .val (.int u1), .val (.int v1), .val (.int x1), .val (.int x2), s, .unset, .unset, .unset, .unset, .unset]) 177 (fun kk => ?_) (fun L' hL' => ?_)
  · refine W.iloadN K 160 at_159 3 rfl rfl ?_
    refine W.iconst K 161 at_160 (4 : Int32) (by decide) ?_
    refine W.iand K 162 at_161 ?_
    refine W.if_eq K 177 165 at_162 (fun h162 => ?_) (fun h162 => ?_)
    · exact kk _ ⟨_, _, _, n2.1, n2.2.1, n2.2.2.1, n2.2.2.2.1, n2.2.2.2.2, rfl, rfl⟩
    · refine W.iload K 167 at_165 rfl ?_
      refine W.istore K 169 at_167 rfl (by repeat (first | apply setLS | exact setL0)) ?_
      refine W.iload K 171 at_169 rfl ?_
      refine W.istore K 173 at_171 rfl (by repeat (first | apply setLS | exact setL0)) ?_
      refine W.iload K 175 at_173 rfl ?_
      refine W.istore K 177 at_175 rfl (by repeat (first | apply setLS | exact setL0)) ?_
      exact kk _ ⟨_, _, _, fun z => n2.1 z.symm, n2.2.2.2.1, n2.2.2.2.2, n2.2.1, n2.2.2.1, rfl, rfl⟩
  obtain ⟨u2, v2, s17, ne2, ka2, kb2, kc2, kd2, hs17, rfl⟩ := hL'
  refine W.bipush K 179 at_177 (6 : Int32) (by decide) ?_
  refine W.newarray (ty := .int) 6 6 K 181 at_179 (hw _ (List.mem_of_getElem? (i := 15) rfl)) (by decide) (by decide) (fun en => ?_)
  refine W.astore K 183 at_181 rfl (congrArg some hs17) (by repeat (first | apply setLS | exact setL0)) ?_
  refine W.aload K 185 at_183 rfl rfl ?_
  refine W.iconst K 186 at_185 (0 : Int32) (by decide) ?_
  refine W.iload K 188 at_186 rfl ?_
  refine W.iastore 0 K 189 at_188 (by repeat (first | exact Upd.here | apply Upd.there)) (by decide) rfl ?_
  refine W.aload K 191 at_189 rfl rfl ?_
  refine W.iconst K 192 at_191 (1 : Int32) (by decide) ?_
  refine W.iload K 194 at_192 rfl ?_
  refine W.iastore 1 K 195 at_194 (by repeat (first | exact Upd.here | apply Upd.there)) (by decide) rfl ?_
  refine W.aload K 197 at_195 rfl rfl ?_
  refine W.iconst K 198 at_197 (2 : Int32) (by decide) ?_
  refine W.iload K 200 at_198 rfl ?_
  refine W.iastore 2 K 201 at_200 (by repeat (first | exact Upd.here | apply Upd.there)) (by decide) rfl ?_
  refine W.aload K 203 at_201 rfl rfl ?_
  refine W.iconst K 204 at_203 (3 : Int32) (by decide) ?_
  refine W.iload K 206 at_204 rfl ?_
  refine W.iastore 3 K 207 at_206 (by repeat (first | exact Upd.here | apply Upd.there)) (by decide) rfl ?_
  refine W.aload K 209 at_207 rfl rfl ?_
  refine W.iconst K 210 at_209 (4 : Int32) (by decide) ?_
  refine W.iload K 212 at_210 rfl ?_
  refine W.iastore 4 K 213 at_212 (by repeat (first | exact Upd.here | apply Upd.there)) (by decide) rfl ?_
  refine W.aload K 215 at_213 rfl rfl ?_
  refine W.iconst K 216 at_215 (5 : Int32) (by decide) ?_
  refine W.iload K 218 at_216 rfl ?_
  refine W.iastore 5 K 219 at_218 (by repeat (first | exact Upd.here | apply Upd.there)) (by decide) rfl ?_
  refine WP.imp0 (P2 := ARR Z .int (AF Value.int 6 (own_E u0 v0 u1 v1 u2 v2))) (fun _ h => h) ?_
  refine W.iload K 221 at_219 rfl ?_
  refine W.ldcI K 223 at_221 (hw _ (List.mem_of_getElem? (i := 0) rfl)) ?_
  refine W.iand K 224 at_223 ?_
  refine W.iconst K 225 at_224 (4 : Int32) (by decide) ?_
  refine W.irem K 226 at_225 (by decide) ?_
  have m5 := own_m u 4 4 e4 (by decide)
  generalize (u &&& 2147483647) % 4 = pp at m5 ⊢
  obtain ⟨P, hP⟩ : ∃ P : Nat, pp.toInt = (P : Int) := ⟨pp.toInt.toNat, by omega⟩
  refine W.istore K 228 at_226 rfl (by repeat (first | apply setLS | exact setL0)) ?_
  refine W.iconst K 229 at_228 (3 : Int32) (by decide) ?_
  refine W.newarray (ty := .int) 3 3 K 231 at_229 (hw _ (List.mem_of_getElem? (i := 15) rfl)) (by decide) (by decide) (fun ex => ?_)
  rw [AF_repI]
  refine W.astore K 233 at_231 rfl rfl (by repeat (first | apply setLS | exact setL0)) ?_
  refine W.iconst K 234 at_233 (0 : Int32) (by decide) ?_
  refine W.istore K 236 at_234 rfl (by repeat (first | apply setLS | exact setL0)) ?_
  refine W.aload K 238 at_236 rfl rfl ?_
  refine W.iload K 240 at_238 rfl ?_
  refine W.iload K 242 at_240 rfl ?_
  refine W.iload K 244 at_242 rfl ?_
  refine W.iload K 246 at_244 rfl ?_
  refine W.callSv5 K 249 at_246 (hw _ (List.mem_of_getElem? (i := 16) rfl)) (hw _ (List.mem_of_getElem? (i := 17) rfl)) (hw _ (List.mem_of_getElem? (i := 10) rfl)) (hw _ (List.mem_of_getElem? (i := 18) rfl)) pd_5 (spec_5 l Z a0 hw _ _ _ _ _ 0 e0 (by decide) _ _) (fun v os1 hq => ?_)
  obtain ⟨⟨k1, rfl, hk1⟩, rfl⟩ := hq
  refine W.istore K 251 at_249 rfl (by repeat (first | apply setLS | exact setL0)) ?_
  refine W.aload K 253 at_251 rfl rfl ?_
  refine W.iload K 255 at_253 rfl ?_
  refine W.iload K 257 at_255 rfl ?_
  refine W.iload K 259 at_257 rfl ?_
  refine W.iload K 261 at_259 rfl ?_
  refine W.callSv5 K 264 at_261 (hw _ (List.mem_of_getElem? (i := 16) rfl)) (hw _ (List.mem_of_getElem? (i := 17) rfl)) (hw _ (List.mem_of_getElem? (i := 10) rfl)) (hw _ (List.mem_of_getElem? (i := 18) rfl)) pd_5 (spec_5 l Z a0 hw _ _ _ _ _ _ hk1 (by have := aN_le 0 u0 v0 pp; omega) _ _) (fun v os1 hq => ?_)
  obtain ⟨⟨k2, rfl, hk2⟩, rfl⟩ := hq
  refine W.istore K 266 at_264 rfl (by repeat (first | apply setLS | exact setL0)) ?_
  refine W.aload K 268 at_266 rfl rfl ?_
  refine W.iload K 270 at_268 rfl ?_
  refine W.iload K 272 at_270 rfl ?_
  refine W.iload K 274 at_272 rfl ?_
  refine W.iload K 276 at_274 rfl ?_
  refine W.callSv5 K 279 at_276 (hw _ (List.mem_of_getElem? (i := 16) rfl)) (hw _ (List.mem_of_getElem? (i := 17) rfl)) (hw _ (List.mem_of_getElem? (i := 10) rfl)) (hw _ (List.mem_of_getElem? (i := 18) rfl)) pd_5 (spec_5 l Z a0 hw _ _ _ _ _ _ hk2 (by have := aN_le 0 u0 v0 pp; have := aN_le (aN 0 u0 v0 pp) u1 v1 pp; omega) _ _) (fun v os1 hq => ?_)
  obtain ⟨⟨k3, rfl, hk3⟩, rfl⟩ := hq
  refine W.istore K 281 at_279 rfl (by repeat (first | apply setLS | exact setL0)) ?_
  have hN : ∀ j, j < 6 → (own_E u0 v0 u1 v1 u2 v2 j).toInt.toNat < 4 := by
    intro j hj
    match j, hj with
    | 0, _ => show (u0).toInt.toNat < 4; omega
    | 1, _ => show (v0).toInt.toNat < 4; omega
    | 2, _ => show (u1).toInt.toNat < 4; omega
    | 3, _ => show (v1).toInt.toNat < 4; omega
    | 4, _ => show (u2).toInt.toNat < 4; omega
    | 5, _ => show (v2).toInt.toNat < 4; omega
  have hE : ∀ j, j < 6 → (own_E u0 v0 u1 v1 u2 v2 j).toInt = (((own_E u0 v0 u1 v1 u2 v2 j).toInt.toNat : Nat) : Int) := by
    intro j hj
    match j, hj with
    | 0, _ => show (u0).toInt = (((u0).toInt.toNat : Nat) : Int); omega
    | 1, _ => show (v0).toInt = (((v0).toInt.toNat : Nat) : Int); omega
    | 2, _ => show (u1).toInt = (((u1).toInt.toNat : Nat) : Int); omega
    | 3, _ => show (v1).toInt = (((v1).toInt.toNat : Nat) : Int); omega
    | 4, _ => show (u2).toInt = (((u2).toInt.toNat : Nat) : Int); omega
    | 5, _ => show (v2).toInt = (((v2).toInt.toNat : Nat) : Int); omega
  refine W.new [("com/example/kingmaker/kingmaker/Network", "ids", "[J", .null), ("com/example/kingmaker/kingmaker/Graph", "diameter", "I", .int 0), ("com/example/kingmaker/kingmaker/Graph", "firstLink", "[I", .null), ("com/example/kingmaker/kingmaker/Graph", "heads", "[I", .null)] K 284 at_281 (hw _ (List.mem_of_getElem? (i := 19) rfl)) (hw _ (List.mem_of_getElem? (i := 20) rfl)) (hw _ (List.mem_of_getElem? (i := 21) rfl)) ⟨⟨Or.inr (hw _ (List.mem_of_getElem? (i := 35) rfl)), (.array .long), by decide +kernel, rfl⟩, ⟨Or.inl (hw _ (List.mem_of_getElem? (i := 37) rfl)), .int, by decide +kernel, rfl⟩, ⟨Or.inr (hw _ (List.mem_of_getElem? (i := 39) rfl)), (.array .int), by decide +kernel, rfl⟩, ⟨Or.inr (hw _ (List.mem_of_getElem? (i := 41) rfl)), (.array .int), by decide +kernel, rfl⟩, trivial⟩ (fun b281 => ?_)
  refine W.dup K 285 at_284 ?_
  refine W.iconst K 286 at_285 (4 : Int32) (by decide) ?_
  refine W.newarray (ty := .long) 4 4 K 288 at_286 (hw _ (List.mem_of_getElem? (i := 22) rfl)) (by decide) (by decide) (fun di => ?_)
  refine W.aload K 290 at_288 rfl rfl ?_
  refine WP.pick b281 (by repeat (first | exact pickHere | apply pickThere)) ?_
  refine W.callIn2 K 293 at_290 (hw _ (List.mem_of_getElem? (i := 23) rfl)) (hw _ (List.mem_of_getElem? (i := 24) rfl)) (hw _ (List.mem_of_getElem? (i := 21) rfl)) (hw _ (List.mem_of_getElem? (i := 25) rfl)) pd_6 (spec_6 l Z a0 hw _ _ en _ _ _ _ (own_E u0 v0 u1 v1 u2 v2) _ hE hN _ _ (by repeat (first | exact List.mem_cons_self | apply List.mem_cons_of_mem)) (by repeat (first | exact List.mem_cons_self | apply List.mem_cons_of_mem)) (by rfl)) (fun os1 hq => ?_)
  obtain ⟨f, hd, z, F, H, G, hF, hH, rfl⟩ := hq
  refine W.astore K 295 at_293 rfl rfl (by repeat (first | apply setLS | exact setL0)) ?_
  refine W.iconst K 296 at_295 (1 : Int32) (by decide) ?_
  refine W.istore K 298 at_296 rfl (by repeat (first | apply setLS | exact setL0)) ?_
  have s0 := a_step _ (own_E u0 v0 u1 v1 u2 v2) H (fun _ => 0) 0 P pp hP hE hH rfl (by omega) ne0 0 rfl (fun r hr => absurd hr (by omega))
  have s1 := a_step _ (own_E u0 v0 u1 v1 u2 v2) H _ 2 P pp hP hE hH rfl (by omega) ne1 _ s0.1 s0.2
  have s2 := a_step _ (own_E u0 v0 u1 v1 u2 v2) H _ 4 P pp hP hE hH rfl (by omega) ne2 _ s1.1 s1.2
  have hfin := s2.2
  have hcnt := s2.1
  have hb1 := gP_mono (fun j => (own_E u0 v0 u1 v1 u2 v2 j).toInt.toNat) 6 (p := P + 1) (q := 4) (by omega)
  rw [gP_all _ 4 6 hN, gP_S] at hb1
  have hFP := hF.1 P (by omega)
  have hP4 : P < 4 := by omega
  have hn3 : aN (aN (aN 0 u0 v0 pp) u1 v1 pp) u2 v2 pp = gC (fun j => (own_E u0 v0 u1 v1 u2 v2 j).toInt.toNat) 6 P := hcnt
  have hV3 : ∀ r, r < aN (aN (aN 0 u0 v0 pp) u1 v1 pp) u2 v2 pp → aX (aX (aX (fun _ => 0) 0 u0 v0 pp) (aN 0 u0 v0 pp) u1 v1 pp) (aN (aN 0 u0 v0 pp) u1 v1 pp) u2 v2 pp r = H (gP (fun j => (own_E u0 v0 u1 v1 u2 v2 j).toInt.toNat) 6 P + r) := hfin
  generalize aX (aX (aX (fun _ => 0) 0 u0 v0 pp) (aN 0 u0 v0 pp) u1 v1 pp) (aN (aN 0 u0 v0 pp) u1 v1 pp) u2 v2 pp = V3 at hV3 ⊢
  generalize aN (aN (aN 0 u0 v0 pp) u1 v1 pp) u2 v2 pp = c3 at hk3 hn3 hV3 ⊢
  generalize gP (fun j => (own_E u0 v0 u1 v1 u2 v2 j).toInt.toNat) 6 P = gp at hFP hb1 hV3
  clear s0 s1 s2 hfin hcnt
  refine W.cut0 (S := []) 330 (fun kk => ?_) ?_
  · refine W.iload K 300 at_298 rfl ?_
    refine W.if_le K 330 303 at_300 (fun h300 => ?_) (fun h300 => ?_)
    · exact kk
    · refine W.iload K 305 at_303 rfl ?_
      refine W.if_eq K 327 308 at_305 (fun h305 => False.elim (absurd h305 (by decide))) (fun h305 => ?_)
      refine W.aload K 310 at_308 rfl rfl ?_
      refine W.iload K 312 at_310 rfl ?_
      refine W.iconst K 313 at_312 (0 : Int32) (by decide) ?_
      have hx0 : (F P + 0).toInt = ((gp + 0 : Nat) : Int) := by rw [toInt_add32 hFP e0 (by omega) (by omega)]; omega
      refine W.callVv2 K 316 at_313 (hw _ (List.mem_of_getElem? (i := 51) rfl)) (hw _ (List.mem_of_getElem? (i := 52) rfl)) (hw _ (List.mem_of_getElem? (i := 54) rfl)) (hw _ (List.mem_of_getElem? (i := 53) rfl)) (hw _ (List.mem_of_getElem? (i := 21) rfl)) (hw _ (List.mem_of_getElem? (i := 55) rfl)) pd_10 (Rc.new (by repeat (first | exact List.mem_cons_self | apply List.mem_cons_of_mem))) (spec_10 l Z a0 hw _ _ _ _ _ _ P (gp + 0) 0 hP (by omega) F H hx0 (by omega) _ (by repeat (first | exact List.mem_cons_self | apply List.mem_cons_of_mem)) (by repeat (first | exact List.mem_cons_self | apply List.mem_cons_of_mem)) (by repeat (first | exact List.mem_cons_self | apply List.mem_cons_of_mem))) (fun v os1 hq => ?_)
      obtain ⟨rfl, rfl⟩ := hq
      refine W.aload K 318 at_316 rfl rfl ?_
      refine W.iconst K 319 at_318 (0 : Int32) (by decide) ?_
      refine W.iaload 0 K 320 at_319 (by repeat (first | exact List.mem_cons_self | apply List.mem_cons_of_mem)) (by decide) (AF_at (by decide)) ?_
      refine W.icmp_ne K 327 323 at_320 (fun h320 => False.elim (h320 (hV3 0 (by omega)).symm)) (fun h320 => ?_)
      refine W.iconst K 324 at_323 (1 : Int32) (by decide) ?_
      refine W.goto K 328 at_324 ?_
      refine W.istore K 330 at_328 rfl (by repeat (first | apply setLS | exact setL0)) ?_
      exact kk
  refine W.cut0 (S := []) 363 (fun kk => ?_) ?_
  · refine W.iload K 332 at_330 rfl ?_
    refine W.iconst K 333 at_332 (1 : Int32) (by decide) ?_
    refine W.icmp_le K 363 336 at_333 (fun h333 => ?_) (fun h333 => ?_)
    · exact kk
    · refine W.iload K 338 at_336 rfl ?_
      refine W.if_eq K 360 341 at_338 (fun h338 => False.elim (absurd h338 (by decide))) (fun h338 => ?_)
      refine W.aload K 343 at_341 rfl rfl ?_
      refine W.iload K 345 at_343 rfl ?_
      refine W.iconst K 346 at_345 (1 : Int32) (by decide) ?_
      have hx1 : (F P + 1).toInt = ((gp + 1 : Nat) : Int) := by rw [toInt_add32 hFP e1 (by omega) (by omega)]; omega
      refine W.callVv2 K 349 at_346 (hw _ (List.mem_of_getElem? (i := 51) rfl)) (hw _ (List.mem_of_getElem? (i := 52) rfl)) (hw _ (List.mem_of_getElem? (i := 54) rfl)) (hw _ (List.mem_of_getElem? (i := 53) rfl)) (hw _ (List.mem_of_getElem? (i := 21) rfl)) (hw _ (List.mem_of_getElem? (i := 55) rfl)) pd_10 (Rc.new (by repeat (first | exact List.mem_cons_self | apply List.mem_cons_of_mem))) (spec_10 l Z a0 hw _ _ _ _ _ _ P (gp + 1) 0 hP (by omega) F H hx1 (by omega) _ (by repeat (first | exact List.mem_cons_self | apply List.mem_cons_of_mem)) (by repeat (first | exact List.mem_cons_self | apply List.mem_cons_of_mem)) (by repeat (first | exact List.mem_cons_self | apply List.mem_cons_of_mem))) (fun v os1 hq => ?_)
      obtain ⟨rfl, rfl⟩ := hq
      refine W.aload K 351 at_349 rfl rfl ?_
      refine W.iconst K 352 at_351 (1 : Int32) (by decide) ?_
      refine W.iaload 1 K 353 at_352 (by repeat (first | exact List.mem_cons_self | apply List.mem_cons_of_mem)) (by decide) (AF_at (by decide)) ?_
      refine W.icmp_ne K 360 356 at_353 (fun h353 => False.elim (h353 (hV3 1 (by omega)).symm)) (fun h353 => ?_)
      refine W.iconst K 357 at_356 (1 : Int32) (by decide) ?_
      refine W.goto K 361 at_357 ?_
      refine W.istore K 363 at_361 rfl (by repeat (first | apply setLS | exact setL0)) ?_
      exact kk
  refine W.cut0 (S := []) 396 (fun kk => ?_) ?_
  · refine W.iload K 365 at_363 rfl ?_
    refine W.iconst K 366 at_365 (2 : Int32) (by decide) ?_
    refine W.icmp_le K 396 369 at_366 (fun h366 => ?_) (fun h366 => ?_)
    · exact kk
    · refine W.iload K 371 at_369 rfl ?_
      refine W.if_eq K 393 374 at_371 (fun h371 => False.elim (absurd h371 (by decide))) (fun h371 => ?_)
      refine W.aload K 376 at_374 rfl rfl ?_
      refine W.iload K 378 at_376 rfl ?_
      refine W.iconst K 379 at_378 (2 : Int32) (by decide) ?_
      have hx2 : (F P + 2).toInt = ((gp + 2 : Nat) : Int) := by rw [toInt_add32 hFP e2 (by omega) (by omega)]; omega
      refine W.callVv2 K 382 at_379 (hw _ (List.mem_of_getElem? (i := 51) rfl)) (hw _ (List.mem_of_getElem? (i := 52) rfl)) (hw _ (List.mem_of_getElem? (i := 54) rfl)) (hw _ (List.mem_of_getElem? (i := 53) rfl)) (hw _ (List.mem_of_getElem? (i := 21) rfl)) (hw _ (List.mem_of_getElem? (i := 55) rfl)) pd_10 (Rc.new (by repeat (first | exact List.mem_cons_self | apply List.mem_cons_of_mem))) (spec_10 l Z a0 hw _ _ _ _ _ _ P (gp + 2) 0 hP (by omega) F H hx2 (by omega) _ (by repeat (first | exact List.mem_cons_self | apply List.mem_cons_of_mem)) (by repeat (first | exact List.mem_cons_self | apply List.mem_cons_of_mem)) (by repeat (first | exact List.mem_cons_self | apply List.mem_cons_of_mem))) (fun v os1 hq => ?_)
      obtain ⟨rfl, rfl⟩ := hq
      refine W.aload K 384 at_382 rfl rfl ?_
      refine W.iconst K 385 at_384 (2 : Int32) (by decide) ?_
      refine W.iaload 2 K 386 at_385 (by repeat (first | exact List.mem_cons_self | apply List.mem_cons_of_mem)) (by decide) (AF_at (by decide)) ?_
      refine W.icmp_ne K 393 389 at_386 (fun h386 => False.elim (h386 (hV3 2 (by omega)).symm)) (fun h386 => ?_)
      refine W.iconst K 390 at_389 (1 : Int32) (by decide) ?_
      refine W.goto K 394 at_390 ?_
      refine W.istore K 396 at_394 rfl (by repeat (first | apply setLS | exact setL0)) ?_
      exact kk
  refine W.iload K 398 at_396 rfl ?_
  refine W.zreturn K at_398 (Or.inr rfl) ⟨_, rfl, rfl⟩
set_option maxRecDepth 65536 in
set_option maxHeartbeats 40000000 in
theorem comes_1 {Post : Tables → Env → Array Value → State → Outcome → State → Prop} (hpost : ∀ tb e args s v u, (limb_1_1.after args s (.returned v) u = true ∧ limb_1_2.after args s (.returned v) u = true ∧ True) → FrameEnd s (.returned v) u (Jvm.fieldLocs frame_1_writes args s ++ Jvm.arrayLocs frame_1_arrays args s ++ Jvm.staticLocs frame_1_statics s) 24 128 → Post tb e args s (.returned v) u) :
    ArmFor flags0 classFile x code maxLocals ret World_1 tables_1 room_1 Calls_1 rest_1 Pre_1 Post := by
  intro l hfl _ _ p e ha hc hk s m args below hf hA hF happ hP
  obtain ⟨hcalls, hrest, hpre⟩ := hP
  obtain ⟨-, -, -, hnamed, -, -, -, hat⟩ := (Spec.applies_iff hf).mp happ
  obtain ⟨hg, hn⟩ := and_e (Cond.before_iff.mp (show (Jvm.Cond.and given_1 narrow_1).before args s = true from hpre))
  obtain ⟨gc, g0⟩ := and_e hg
  obtain ⟨k0, g1⟩ := and_e g0
  obtain ⟨k1, g2⟩ := and_e g1
  obtain ⟨k2, g3⟩ := and_e g2
  obtain ⟨k3, g4⟩ := and_e g3
  have k4 := g4
  obtain ⟨w0, w1, w2, w3, w4, rfl⟩ : ∃ w0 w1 w2 w3 w4 : Value, args = #[w0, w1, w2, w3, w4] := by
    have hs : args.size = 5 := by simpa [Cond.value, given_1] using gc
    obtain ⟨L⟩ := args
    match L, hs with
    | [w0, w1, w2, w3, w4], _ => exact ⟨w0, w1, w2, w3, w4, rfl⟩
  have hw := fun d (hd : d ∈ tables_1) => atoms_spec (ws := Jvm.Cond.code x code maxLocals ret :: tables_1) hat d (List.mem_cons_of_mem _ hd)
  have hfit : Fit s := fun {y c} hc i hi => by
    obtain ⟨ha, rfl⟩ := Array.getElem?_eq_some_iff.mp hc
    have q := List.all_eq_true.mp ((Array.all_eq_true_iff_forall_mem.mp hF) _ (Array.getElem_mem ha)) i (List.mem_range.mpr hi)
    simpa [Array.getElem?_eq_getElem hi] using q
  obtain ⟨i0, ei0⟩ := is_v k0
  obtain rfl : w0 = (.int i0) := Option.some.inj ei0
  obtain ⟨i1, ei1⟩ := is_v k1
  obtain rfl : w1 = (.int i1) := Option.some.inj ei1
  obtain ⟨i2, ei2⟩ := is_v k2
  obtain rfl : w2 = (.int i2) := Option.some.inj ei2
  obtain ⟨i3, ei3⟩ := is_v k3
  obtain rfl : w3 = (.int i3) := Option.some.inj ei3
  obtain ⟨i4, ei4⟩ := is_v k4
  obtain rfl : w4 = (.int i4) := Option.some.inj ei4
  obtain ⟨n, o, h1, h2, h3, _, L, rfl, ⟨os1, ⟨_, rfl, rfl⟩, -, N⟩, hq⟩ := spec_0 l s _ hw i0 i1 i2 i3 i4 s.heap (Hp.nil s) tables_1 p e ha hc hk s m _ below hf ((Spec.applies_iff_loose hf).mp happ).1 ⟨rfl, State.Warmed39.refl s, rfl⟩ trivial
  refine ⟨n, _, h1, h2, h3, hpost _ _ _ _ _ _ ⟨Cond.after_iff.mpr rfl, Cond.after_iff.mpr (eq_i res_at (Term.int_eval (1)) rfl), trivial⟩ ⟨hq.1, hq.2.1, (hq.2.2.sift fun y hy => Or.inr (N y hy)).mono (by decide) (by decide)⟩⟩
theorem main_1_1 : Claimed_1_1 := comes_1 fun _ _ _ _ _ _ h hF => ⟨h.1, hF⟩
theorem main_1_2 : Claimed_1_2 := comes_1 fun _ _ _ _ _ _ h hF => ⟨h.2.1, hF⟩
end Jvm.Pilot.@@N@@
namespace Jvm.Pilot.@@N@@
open Jvm Jvm.ClassFile Sem Op Lib Jvm.Free Jvm.Stand Jvm.Pilot.@@N@@.Jvm.D
/-! MADE BY PROGRAM (witnessworld.py) out of the Statement's table words and the real class files: 15 classes; the members and pool entries that the words name. The judged class is class 1, her method 4. -/
namespace start1
open Jvm.ClassFile
def u (s : String) : CpInfo := .utf8 (stringToUtf16 s)
/-- a pool by its gaps: so many unusable entries, then the entry; so many at the end -/
def gap : Nat → List CpInfo → List CpInfo
  | 0, r => r
  | n + 1, r => .unusable :: gap n r
def poolList (es : List (Nat × CpInfo)) (last : Nat) : List CpInfo := es.foldr (fun e r => gap e.1 (e.2 :: r)) (gap last [])
def pool (es : List (Nat × CpInfo)) (last : Nat) : Array CpInfo := ⟨poolList es last⟩
def fileOf (pool : Array CpInfo) (this : Nat) (attrs : Array Attribute := #[]) (ms : Array MethodInfo := #[]) (fl : Nat := 33) (sup : Nat := 0) (ifs : Array Nat := #[]) (fds : Array FieldInfo := #[]) : ClassFile where
  minorVersion := 0
  majorVersion := 65
  constantPool := pool
  accessFlags := fl
  thisClass := this
  superClass := sup
  interfaces := ifs
  fields := fds
  methods := ms
  attributes := attrs
def plain (name : String) (sup : Option ClassId) : Class where
  name := name
  kind := .ordinary
  loader := none
  accessFlags := 33
  super := sup
  interfaces := #[]
  cf := none
  fields := #[]
  methods := #[]
  instanceTypes := #[]
  staticTypes := #[]
  resolved := #[]
  callSites := []
  init := .initialized
  statics := none
  mirror := none

def pool0 : Array CpInfo := pool [(5, u "<init>"), (0, u "()V"), (1, .class_ 10), (1, u "java/lang/Object")] 113

def k0c0 : Code := { maxStack := 0, maxLocals := 1, code := object_method_1_code, exceptionTable := #[], attributes := #[] }
def k0m0 : Method := { name := "<init>", desc := "()V", sig := { parameters := [], returnType := none }, accessFlags := 1, code := some k0c0 }
/-- java/lang/Object -/
def k0 : Class := { plain "java/lang/Object" none with
  accessFlags := 33
  interfaces := #[]
  cf := some (fileOf pool0 8 #[] #[{ accessFlags := 1, nameIndex := 5, descriptorIndex := 6, attributes := #[] }] 33 0 #[] #[])
  fields := #[]
  methods := #[k0m0]
  instanceTypes := #[]
  staticTypes := #[]
  resolved := Array.replicate 124 none
  statics := none }

def pool1 : Array CpInfo := pool [(2, .class_ 4), (1, u "java/lang/Object"), (0, u "<init>"), (0, u "()V"), (0, .integer 2147483647), (0, .methodref 9 10), (0, .class_ 11), (0, .nameAndType 12 13), (0, u "java/lang/Math"), (0, u "min"), (0, u "(II)I"), (0, .methodref 9 15), (0, .nameAndType 16 13), (0, u "max"), (0, .methodref 18 19), (0, .class_ 20), (0, .nameAndType 21 22), (0, u "com/example/kingmaker/kingmaker/GraphNeighbourPinLaw"), (0, u "pairA"), (0, u "(I)I"), (0, .methodref 18 24), (0, .nameAndType 25 22), (0, u "pairB"), (0, .methodref 18 27), (0, .nameAndType 28 29), (0, u "addIf"), (0, u "([IIIII)I"), (0, .class_ 31), (0, u "com/example/kingmaker/kingmaker/Graph"), (0, .methodref 30 33), (0, .nameAndType 5 34), (0, u "([J[I)V"), (0, .methodref 30 36), (0, .nameAndType 37 13), (0, u "neighbour"), (3, u "law"), (0, u "(IIIII)Z")] 4

def k1m0 : Method := { name := "<init>", desc := "()V", sig := { parameters := [], returnType := none }, accessFlags := 2, code := none }
def k1c1 : Code := { maxStack := 2, maxLocals := 1, code := method_2_code, exceptionTable := #[], attributes := #[] }
def k1m1 : Method := { name := "pairA", desc := "(I)I", sig := { parameters := [.int], returnType := some .int }, accessFlags := 10, code := some k1c1 }
def k1c2 : Code := { maxStack := 2, maxLocals := 1, code := method_3_code, exceptionTable := #[], attributes := #[] }
def k1m2 : Method := { name := "pairB", desc := "(I)I", sig := { parameters := [.int], returnType := some .int }, accessFlags := 10, code := some k1c2 }
def k1c3 : Code := { maxStack := 3, maxLocals := 5, code := method_4_code, exceptionTable := #[], attributes := #[] }
def k1m3 : Method := { name := "addIf", desc := "([IIIII)I", sig := { parameters := [(.array .int), .int, .int, .int, .int], returnType := some .int }, accessFlags := 10, code := some k1c3 }
def k1c4 : Code := { maxStack := 5, maxLocals := 23, code := code, exceptionTable := #[], attributes := #[] }
def k1m4 : Method := { name := "law", desc := "(IIIII)Z", sig := { parameters := [.int, .int, .int, .int, .int], returnType := some .boolean }, accessFlags := 9, code := some k1c4 }
/-- com/example/kingmaker/kingmaker/GraphNeighbourPinLaw -/
def k1 : Class := { plain "com/example/kingmaker/kingmaker/GraphNeighbourPinLaw" (some 0) with
  accessFlags := 49
  interfaces := #[]
  cf := some (fileOf pool1 18 #[] #[{ accessFlags := 2, nameIndex := 5, descriptorIndex := 6, attributes := #[] }, { accessFlags := 10, nameIndex := 21, descriptorIndex := 22, attributes := #[] }, { accessFlags := 10, nameIndex := 25, descriptorIndex := 22, attributes := #[] }, { accessFlags := 10, nameIndex := 28, descriptorIndex := 29, attributes := #[] }, { accessFlags := 9, nameIndex := 41, descriptorIndex := 42, attributes := #[] }] 49 2 #[] #[])
  fields := #[]
  methods := #[k1m0, k1m1, k1m2, k1m3, k1m4]
  instanceTypes := #[]
  staticTypes := #[]
  resolved := Array.replicate 47 none
  statics := none }

def pool2 : Array CpInfo := pool [(1, .class_ 2), (0, u "java/lang/Math"), (1, .class_ 6), (1, u "java/lang/Object"), (0, u "<init>"), (0, u "()V"), (89, .class_ 100), (1, u "java/lang/Math$RandomNumberGeneratorHolder"), (71, u "negativeZeroFloatBits"), (0, u "J"), (2, u "negativeZeroDoubleBits"), (21, u "max"), (2, u "min"), (43, u "$assertionsDisabled"), (0, u "Z"), (88, u "(II)I"), (2, u "twoToTheDoubleScaleDown"), (0, u "D"), (4, u "twoToTheDoubleScaleUp"), (9, u "E"), (3, u "PI"), (2, u "TAU"), (2, u "DEGREES_TO_RADIANS"), (0, u "RADIANS_TO_DEGREES")] 94

def k2m0 : Method := { name := "<init>", desc := "()V", sig := { parameters := [], returnType := none }, accessFlags := 2, code := none }
def k2c1 : Code := { maxStack := 2, maxLocals := 2, code := jdk_29_method_65_code, exceptionTable := #[], attributes := #[] }
def k2m1 : Method := { name := "max", desc := "(II)I", sig := { parameters := [.int, .int], returnType := some .int }, accessFlags := 9, code := some k2c1 }
def k2c2 : Code := { maxStack := 2, maxLocals := 2, code := jdk_29_method_69_code, exceptionTable := #[], attributes := #[] }
def k2m2 : Method := { name := "min", desc := "(II)I", sig := { parameters := [.int, .int], returnType := some .int }, accessFlags := 9, code := some k2c2 }
/-- java/lang/Math -/
def k2 : Class := { plain "java/lang/Math" (some 0) with
  accessFlags := 49
  interfaces := #[]
  cf := some (fileOf pool2 1 #[.nestMembers #[98]] #[{ accessFlags := 2, nameIndex := 7, descriptorIndex := 8, attributes := #[] }, { accessFlags := 9, nameIndex := 198, descriptorIndex := 335, attributes := #[] }, { accessFlags := 9, nameIndex := 201, descriptorIndex := 335, attributes := #[] }] 49 4 #[] #[{ accessFlags := 25, nameIndex := 354, descriptorIndex := 339, attributes := #[] }, { accessFlags := 25, nameIndex := 358, descriptorIndex := 339, attributes := #[] }, { accessFlags := 25, nameIndex := 361, descriptorIndex := 339, attributes := #[] }, { accessFlags := 26, nameIndex := 364, descriptorIndex := 339, attributes := #[] }, { accessFlags := 26, nameIndex := 365, descriptorIndex := 339, attributes := #[] }, { accessFlags := 26, nameIndex := 172, descriptorIndex := 173, attributes := #[] }, { accessFlags := 26, nameIndex := 176, descriptorIndex := 173, attributes := #[] }, { accessFlags := 8, nameIndex := 344, descriptorIndex := 339, attributes := #[] }, { accessFlags := 8, nameIndex := 338, descriptorIndex := 339, attributes := #[] }, { accessFlags := 4120, nameIndex := 245, descriptorIndex := 246, attributes := #[] }])
  fields := #[{ name := "E", type := .double, accessFlags := 25, slot := 0, constantValue := 0 }, { name := "PI", type := .double, accessFlags := 25, slot := 1, constantValue := 0 }, { name := "TAU", type := .double, accessFlags := 25, slot := 2, constantValue := 0 }, { name := "DEGREES_TO_RADIANS", type := .double, accessFlags := 26, slot := 3, constantValue := 0 }, { name := "RADIANS_TO_DEGREES", type := .double, accessFlags := 26, slot := 4, constantValue := 0 }, { name := "negativeZeroFloatBits", type := .long, accessFlags := 26, slot := 5, constantValue := 0 }, { name := "negativeZeroDoubleBits", type := .long, accessFlags := 26, slot := 6, constantValue := 0 }, { name := "twoToTheDoubleScaleUp", type := .double, accessFlags := 8, slot := 7, constantValue := 0 }, { name := "twoToTheDoubleScaleDown", type := .double, accessFlags := 8, slot := 8, constantValue := 0 }, { name := "$assertionsDisabled", type := .boolean, accessFlags := 4120, slot := 9, constantValue := 0 }]
  methods := #[k2m0, k2m1, k2m2]
  instanceTypes := #[]
  staticTypes := #[.double, .double, .double, .double, .double, .long, .long, .double, .double, .boolean]
  resolved := Array.replicate 460 none
  statics := none }

def pool3 : Array CpInfo := pool [(1, .methodref 2 3), (0, .class_ 4), (0, .nameAndType 5 6), (0, u "java/lang/Object"), (0, u "<init>"), (0, u "()V"), (0, .fieldref 8 9), (0, .class_ 10), (0, .nameAndType 11 12), (0, u "com/example/kingmaker/kingmaker/Network"), (0, u "ids"), (0, u "[J"), (18, u "([J)V"), (21, .class_ 54), (0, u "com/example/kingmaker/kingmaker/Network$Kind")] 2

def k3c0 : Code := { maxStack := 2, maxLocals := 2, code := prog_51_method_1_code, exceptionTable := #[], attributes := #[] }
def k3m0 : Method := { name := "<init>", desc := "([J)V", sig := { parameters := [(.array .long)], returnType := none }, accessFlags := 0, code := some k3c0 }
/-- com/example/kingmaker/kingmaker/Network -/
def k3 : Class := { plain "com/example/kingmaker/kingmaker/Network" (some 0) with
  accessFlags := 1057
  interfaces := #[]
  cf := some (fileOf pool3 8 #[.nestMembers #[53]] #[{ accessFlags := 0, nameIndex := 5, descriptorIndex := 31, attributes := #[] }] 1057 2 #[] #[{ accessFlags := 18, nameIndex := 11, descriptorIndex := 12, attributes := #[] }])
  fields := #[{ name := "ids", type := (.array .long), accessFlags := 18, slot := 0, constantValue := 0 }]
  methods := #[k3m0]
  instanceTypes := #[(.array .long)]
  staticTypes := #[]
  resolved := Array.replicate 57 none
  statics := none }

def pool4 : Array CpInfo := pool [(1, .methodref 2 3), (0, .class_ 4), (0, .nameAndType 5 6), (0, u "com/example/kingmaker/kingmaker/Network"), (0, u "<init>"), (0, u "([J)V"), (0, .fieldref 8 9), (0, .class_ 10), (0, .nameAndType 11 12), (0, u "com/example/kingmaker/kingmaker/Graph"), (0, u "diameter"), (0, u "I"), (0, .fieldref 8 14), (0, .nameAndType 15 16), (0, u "firstLink"), (0, u "[I"), (0, .fieldref 8 18), (0, .nameAndType 19 16), (0, u "heads"), (0, .methodref 21 22), (0, .class_ 23), (0, .nameAndType 24 25), (0, u "java/util/Arrays"), (0, u "copyOf"), (0, u "([II)[I"), (6, .class_ 33), (0, u "com/example/kingmaker/kingmaker/Graph$DiameterSearch"), (42, u "([J[I)V"), (11, u "neighbour"), (0, u "(II)I")] 31

def k4c0 : Code := { maxStack := 6, maxLocals := 7, code := prog_21_method_1_code, exceptionTable := #[], attributes := #[] }
def k4m0 : Method := { name := "<init>", desc := "([J[I)V", sig := { parameters := [(.array .long), (.array .int)], returnType := none }, accessFlags := 0, code := some k4c0 }
def k4c1 : Code := { maxStack := 3, maxLocals := 3, code := prog_21_method_6_code, exceptionTable := #[], attributes := #[] }
def k4m1 : Method := { name := "neighbour", desc := "(II)I", sig := { parameters := [.int, .int], returnType := some .int }, accessFlags := 0, code := some k4c1 }
/-- com/example/kingmaker/kingmaker/Graph -/
def k4 : Class := { plain "com/example/kingmaker/kingmaker/Graph" (some 3) with
  accessFlags := 49
  interfaces := #[]
  cf := some (fileOf pool4 8 #[.nestMembers #[32]] #[{ accessFlags := 0, nameIndex := 5, descriptorIndex := 76, attributes := #[] }, { accessFlags := 0, nameIndex := 88, descriptorIndex := 89, attributes := #[] }] 49 2 #[] #[{ accessFlags := 18, nameIndex := 15, descriptorIndex := 16, attributes := #[] }, { accessFlags := 18, nameIndex := 19, descriptorIndex := 16, attributes := #[] }, { accessFlags := 2, nameIndex := 11, descriptorIndex := 12, attributes := #[] }])
  fields := #[{ name := "firstLink", type := (.array .int), accessFlags := 18, slot := 1, constantValue := 0 }, { name := "heads", type := (.array .int), accessFlags := 18, slot := 2, constantValue := 0 }, { name := "diameter", type := .int, accessFlags := 2, slot := 3, constantValue := 0 }]
  methods := #[k4m0, k4m1]
  instanceTypes := #[(.array .long), (.array .int), (.array .int), .int]
  staticTypes := #[]
  resolved := Array.replicate 121 none
  statics := none }

def pool5 : Array CpInfo := pool [(2, .class_ 4), (1, u "java/lang/Object"), (0, u "<init>"), (0, u "()V"), (7, .class_ 16), (1, u "java/util/Arrays"), (57, .class_ 76), (1, u "java/util/Arrays$NaturalOrder"), (36, .class_ 115), (1, u "java/util/Arrays$LegacyMergeSort"), (1, u "Z"), (32, .methodref 151 152), (0, .class_ 153), (0, .nameAndType 154 155), (0, u "java/lang/System"), (0, u "arraycopy"), (0, u "(Ljava/lang/Object;ILjava/lang/Object;II)V"), (146, u "copyOf"), (1, .methodref 305 306), (0, .class_ 307), (0, .nameAndType 308 309), (0, u "java/lang/Math"), (0, u "min"), (0, u "(II)I"), (65, .class_ 376), (0, u "java/util/Arrays$ArrayList"), (68, u "$assertionsDisabled"), (269, u "MIN_ARRAY_SORT_GRAN"), (0, u "I"), (2, u "INSERTIONSORT_THRESHOLD"), (151, u "([II)[I"), (103, .class_ 976), (0, u "java/util/Arrays$ArrayItr")] 52

def k5m0 : Method := { name := "<init>", desc := "()V", sig := { parameters := [], returnType := none }, accessFlags := 2, code := none }
def k5c1 : Code := { maxStack := 6, maxLocals := 3, code := jdk_65_method_123_code, exceptionTable := #[], attributes := #[] }
def k5m1 : Method := { name := "copyOf", desc := "([II)[I", sig := { parameters := [(.array .int), .int], returnType := some (.array .int) }, accessFlags := 9, code := some k5c1 }
/-- java/util/Arrays -/
def k5 : Class := { plain "java/util/Arrays" (some 0) with
  accessFlags := 49
  interfaces := #[]
  cf := some (fileOf pool5 14 #[.nestMembers #[975, 375, 113, 74]] #[{ accessFlags := 2, nameIndex := 5, descriptorIndex := 6, attributes := #[] }, { accessFlags := 9, nameIndex := 302, descriptorIndex := 871, attributes := #[] }] 49 2 #[] #[{ accessFlags := 26, nameIndex := 715, descriptorIndex := 716, attributes := #[] }, { accessFlags := 26, nameIndex := 719, descriptorIndex := 716, attributes := #[] }, { accessFlags := 4120, nameIndex := 445, descriptorIndex := 117, attributes := #[] }])
  fields := #[{ name := "MIN_ARRAY_SORT_GRAN", type := .int, accessFlags := 26, slot := 0, constantValue := 0 }, { name := "INSERTIONSORT_THRESHOLD", type := .int, accessFlags := 26, slot := 1, constantValue := 0 }, { name := "$assertionsDisabled", type := .boolean, accessFlags := 4120, slot := 2, constantValue := 0 }]
  methods := #[k5m0, k5m1]
  instanceTypes := #[]
  staticTypes := #[.int, .int, .boolean]
  resolved := Array.replicate 1029 none
  statics := none }

def pool6 : Array CpInfo := pool [(2, .class_ 4), (1, u "java/lang/Object"), (0, u "<init>"), (0, u "()V"), (1, .class_ 10), (1, u "java/lang/System"), (0, u "allowSecurityManager"), (0, u "I"), (16, u "cons"), (0, u "Ljava/io/Console;"), (77, .class_ 110), (1, u "java/lang/System$CallersHolder"), (43, u "initialErrStream"), (0, u "Ljava/io/PrintStream;"), (19, u "security"), (0, u "Ljava/lang/SecurityManager;"), (31, .class_ 209), (0, u "java/lang/System$1"), (7, u "props"), (0, u "Ljava/util/Properties;"), (2, u "lineSeparator"), (0, u "Ljava/lang/String;"), (96, .class_ 321), (1, u "java/lang/System$LoggerFinder"), (5, .class_ 328), (0, u "java/lang/System$Logger"), (67, u "err"), (2, u "out"), (91, u "notSupportedJnuEncoding"), (15, u "in"), (17, u "initialIn"), (0, u "Ljava/io/InputStream;"), (35, u "bootLayer"), (0, u "Ljava/lang/ModuleLayer;"), (99, .class_ 664), (0, u "java/lang/System$2"), (9, u "NEVER"), (2, u "MAYBE"), (49, u "arraycopy"), (0, u "(Ljava/lang/Object;ILjava/lang/Object;II)V"), (72, .class_ 802), (0, u "java/lang/System$Logger$Level")] 31

def k6m0 : Method := { name := "<init>", desc := "()V", sig := { parameters := [], returnType := none }, accessFlags := 2, code := none }
def k6m1 : Method := { name := "arraycopy", desc := "(Ljava/lang/Object;ILjava/lang/Object;II)V", sig := { parameters := [(.object "java/lang/Object"), .int, (.object "java/lang/Object"), .int, .int], returnType := none }, accessFlags := 265, code := none }
/-- java/lang/System -/
def k6 : Class := { plain "java/lang/System" (some 0) with
  accessFlags := 49
  interfaces := #[]
  cf := some (fileOf pool6 8 #[.nestMembers #[319, 327, 801, 108, 663, 208]] #[{ accessFlags := 2, nameIndex := 5, descriptorIndex := 6, attributes := #[] }, { accessFlags := 265, nameIndex := 727, descriptorIndex := 728, attributes := #[] }] 49 2 #[] #[{ accessFlags := 25, nameIndex := 507, descriptorIndex := 526, attributes := #[] }, { accessFlags := 25, nameIndex := 399, descriptorIndex := 155, attributes := #[] }, { accessFlags := 25, nameIndex := 396, descriptorIndex := 155, attributes := #[] }, { accessFlags := 10, nameIndex := 525, descriptorIndex := 526, attributes := #[] }, { accessFlags := 26, nameIndex := 674, descriptorIndex := 12, attributes := #[] }, { accessFlags := 26, nameIndex := 677, descriptorIndex := 12, attributes := #[] }, { accessFlags := 10, nameIndex := 11, descriptorIndex := 12, attributes := #[] }, { accessFlags := 74, nameIndex := 175, descriptorIndex := 176, attributes := #[] }, { accessFlags := 10, nameIndex := 491, descriptorIndex := 222, attributes := #[] }, { accessFlags := 74, nameIndex := 29, descriptorIndex := 30, attributes := #[] }, { accessFlags := 74, nameIndex := 154, descriptorIndex := 155, attributes := #[] }, { accessFlags := 10, nameIndex := 217, descriptorIndex := 218, attributes := #[] }, { accessFlags := 10, nameIndex := 221, descriptorIndex := 222, attributes := #[] }, { accessFlags := 8, nameIndex := 562, descriptorIndex := 563, attributes := #[] }])
  fields := #[{ name := "in", type := (.object "java/io/InputStream"), accessFlags := 25, slot := 0, constantValue := 0 }, { name := "out", type := (.object "java/io/PrintStream"), accessFlags := 25, slot := 1, constantValue := 0 }, { name := "err", type := (.object "java/io/PrintStream"), accessFlags := 25, slot := 2, constantValue := 0 }, { name := "initialIn", type := (.object "java/io/InputStream"), accessFlags := 10, slot := 3, constantValue := 0 }, { name := "NEVER", type := .int, accessFlags := 26, slot := 4, constantValue := 0 }, { name := "MAYBE", type := .int, accessFlags := 26, slot := 5, constantValue := 0 }, { name := "allowSecurityManager", type := .int, accessFlags := 10, slot := 6, constantValue := 0 }, { name := "security", type := (.object "java/lang/SecurityManager"), accessFlags := 74, slot := 7, constantValue := 0 }, { name := "notSupportedJnuEncoding", type := (.object "java/lang/String"), accessFlags := 10, slot := 8, constantValue := 0 }, { name := "cons", type := (.object "java/io/Console"), accessFlags := 74, slot := 9, constantValue := 0 }, { name := "initialErrStream", type := (.object "java/io/PrintStream"), accessFlags := 74, slot := 10, constantValue := 0 }, { name := "props", type := (.object "java/util/Properties"), accessFlags := 10, slot := 11, constantValue := 0 }, { name := "lineSeparator", type := (.object "java/lang/String"), accessFlags := 10, slot := 12, constantValue := 0 }, { name := "bootLayer", type := (.object "java/lang/ModuleLayer"), accessFlags := 8, slot := 13, constantValue := 0 }]
  methods := #[k6m0, k6m1]
  instanceTypes := #[]
  staticTypes := #[(.object "java/io/InputStream"), (.object "java/io/PrintStream"), (.object "java/io/PrintStream"), (.object "java/io/InputStream"), .int, .int, .int, (.object "java/lang/SecurityManager"), (.object "java/lang/String"), (.object "java/io/Console"), (.object "java/io/PrintStream"), (.object "java/util/Properties"), (.object "java/lang/String"), (.object "java/lang/ModuleLayer")]
  resolved := Array.replicate 834 none
  statics := none }

def pool7 : Array CpInfo := pool [(1, u "java/lang/Cloneable"), (0, .class_ 1), (0, u "java/lang/Object"), (0, .class_ 3)] 3

/-- java/lang/Cloneable -/
def k7 : Class := { plain "java/lang/Cloneable" (some 0) with
  accessFlags := 1537
  interfaces := #[]
  cf := some (fileOf pool7 2 #[] #[] 1537 4 #[] #[])
  fields := #[]
  methods := #[]
  instanceTypes := #[]
  staticTypes := #[]
  resolved := Array.replicate 8 none
  statics := none }

def pool8 : Array CpInfo := pool [(1, u "java/io/Serializable"), (0, .class_ 1), (0, u "java/lang/Object"), (0, .class_ 3)] 3

/-- java/io/Serializable -/
def k8 : Class := { plain "java/io/Serializable" (some 0) with
  accessFlags := 1537
  interfaces := #[]
  cf := some (fileOf pool8 2 #[] #[] 1537 4 #[] #[])
  fields := #[]
  methods := #[]
  instanceTypes := #[]
  staticTypes := #[]
  resolved := Array.replicate 8 none
  statics := none }

/-- the primitive byte -/
def k9 : Class := { plain "byte" none with kind := .primitive 'B', accessFlags := 0x411 }
/-- [B -/
def k10 : Class := { plain "[B" (some 0) with kind := .array 9 .byte, interfaces := #[7, 8], accessFlags := 1041 }

/-- the primitive int -/
def k11 : Class := { plain "int" none with kind := .primitive 'I', accessFlags := 0x411 }
/-- [I -/
def k12 : Class := { plain "[I" (some 0) with kind := .array 11 .int, interfaces := #[7, 8], accessFlags := 1041 }

/-- the primitive long -/
def k13 : Class := { plain "long" none with kind := .primitive 'J', accessFlags := 0x411 }
/-- [J -/
def k14 : Class := { plain "[J" (some 0) with kind := .array 13 .long, interfaces := #[7, 8], accessFlags := 1041 }

def heap : Heap := #[]
def classes : Array Class := #[k0, k1, k2, k3, k4, k5, k6, k7, k8, k9, k10, k11, k12, k13, k14]
def interned : List (Array UInt16 × Addr) := []
def slotsUsed : Nat := 0
def theMethod : MethodId := ⟨1, 4⟩
def args0 : Array Value := #[.int 1, .int 2, .int 3, .int 4, .int 5]
def aboutOver (below : List Frame) : State where
  vm := { classes := classes, interned := interned.toArray }
  heap := heap
  slotsUsed := slotsUsed
  threads := #[{ frames := .invoking theMethod args0 :: below }]
def below0 : List Frame := [.native { method := ⟨0, 0⟩, args := #[] }]
def about1 : State := aboutOver below0
def p0 : Program := .bare "" "" ""
def e0 : Env := launch0.env 0 0 0
theorem w_frames : about1.frames = Frame.invoking theMethod args0 :: below0 := rfl
set_option maxRecDepth 65536 in
theorem w_args : argsFit about1.vm theMethod args0 = true := by decide +kernel
set_option maxRecDepth 65536 in
theorem w_heap : heapFits about1 = true := by decide +kernel
set_option maxRecDepth 65536 in
theorem w_runnable : about1.curStatus? = some .runnable := by decide +kernel
set_option maxRecDepth 65536 in
theorem w_alone : about1.alone = true := by decide +kernel
set_option maxRecDepth 65536 in
theorem w_named : about1.methodNamed? x = some theMethod := by decide +kernel
set_option maxRecDepth 65536 in
theorem w_hears : about1.hears theMethod below0 = true := by decide +kernel
set_option maxRecDepth 65536 in
theorem w_ripe : about1.ripe theMethod args0 below0 = true := by decide +kernel
theorem w_running : about1.status = .running := rfl
set_option maxRecDepth 65536 in
theorem w_room : about1.hasRoom e0.platform room_1 = true :=
  launch0.hasRoom_least _ room_1 (by decide +kernel) (by decide +kernel) (by decide +kernel) (by decide +kernel) (by decide +kernel) (by decide +kernel)
theorem allAtoms_all (ts : List Jvm.Cond) (a : Array Jvm.Value) (st : Jvm.State) : (allAtoms ts).before a st = ts.all (fun c => c.before a st) := by
  induction ts with
  | nil => rfl
  | cons c t ih =>
    show (Jvm.Cond.and c (allAtoms t)).before a st = _
    rw [Jvm.Cond.before_and, ih, List.all_cons]
def words1 : List Jvm.Cond := Jvm.Cond.code x code maxLocals ret :: tables_1
/-- a 'code' word, met by the world's own term for the bytes: nothing is compared byte by byte -/
theorem code_word {y : MethodName} {bytes : ByteArray} {mx : Nat} {rt : Option FieldType} {a : Array Value} {s : State} {m : MethodId} {meth : Method} {c : Code} (h1 : s.methodNamed? y = some m) (h2 : s.vm.method? m = some meth) (h3 : meth.code = some c) (h4 : c.code = bytes)
    (h5 : (c.maxLocals == mx && c.exceptionTable.isEmpty && decide (c.maxStack ≤ mostOperands) && decide (meth.sig.returnType = rt) && !meth.locks && decide (parseMethodDescriptor y.desc = some meth.sig)) = true) : (Jvm.Cond.code y bytes mx rt).before a s = true := by
  simp only [Bool.and_eq_true, beq_iff_eq, Bool.not_eq_true', decide_eq_true_eq] at h5
  obtain ⟨⟨⟨⟨⟨g1, g2⟩, g3⟩, g4⟩, g5⟩, g6⟩ := h5
  simp [Cond.before, Cond.holds, Cond.value, h1, h2, h3, h4, g1, g2, g3, g4, g5, g6]
def isCode : Jvm.Cond → Bool
  | .code _ _ _ _ => true
  | _ => false
theorem all_split {L : List Jvm.Cond} {P : Jvm.Cond → Bool} (h1 : L.all (fun c => isCode c || P c) = true) (h2 : ∀ c ∈ L.filter isCode, P c = true) : L.all P = true := by
  refine List.all_eq_true.mpr fun c hc => ?_
  have h := List.all_eq_true.mp h1 c hc
  rcases Bool.eq_false_or_eq_true (isCode c) with hi | hi
  · exact h2 c (List.mem_filter.mpr ⟨hc, hi⟩)
  · simpa [hi] using h
set_option maxRecDepth 65536 in
theorem w_c0 : (Jvm.Cond.code x code maxLocals ret).before args0 about1 = true := code_word (m := ⟨1, 4⟩) (meth := k1m4) (c := k1c4) (by decide +kernel) rfl rfl rfl (by decide +kernel)
set_option maxRecDepth 65536 in
theorem w_c1 : (Jvm.Cond.code ({ cls := "java/lang/Math", name := "min", desc := "(II)I" } : Jvm.MethodName) jdk_29_method_69_code (2 : Nat) (Option.some Jvm.ClassFile.FieldType.int)).before args0 about1 = true := code_word (m := ⟨2, 2⟩) (meth := k2m2) (c := k2c2) (by decide +kernel) rfl rfl rfl (by decide +kernel)
set_option maxRecDepth 65536 in
theorem w_c2 : (Jvm.Cond.code ({ cls := "java/lang/Math", name := "max", desc := "(II)I" } : Jvm.MethodName) jdk_29_method_65_code (2 : Nat) (Option.some Jvm.ClassFile.FieldType.int)).before args0 about1 = true := code_word (m := ⟨2, 1⟩) (meth := k2m1) (c := k2c1) (by decide +kernel) rfl rfl rfl (by decide +kernel)
set_option maxRecDepth 65536 in
theorem w_c3 : (Jvm.Cond.code ({ cls := "com/example/kingmaker/kingmaker/GraphNeighbourPinLaw", name := "pairA", desc := "(I)I" } : Jvm.MethodName) method_2_code (1 : Nat) (Option.some Jvm.ClassFile.FieldType.int)).before args0 about1 = true := code_word (m := ⟨1, 1⟩) (meth := k1m1) (c := k1c1) (by decide +kernel) rfl rfl rfl (by decide +kernel)
set_option maxRecDepth 65536 in
theorem w_c4 : (Jvm.Cond.code ({ cls := "com/example/kingmaker/kingmaker/GraphNeighbourPinLaw", name := "pairB", desc := "(I)I" } : Jvm.MethodName) method_3_code (1 : Nat) (Option.some Jvm.ClassFile.FieldType.int)).before args0 about1 = true := code_word (m := ⟨1, 2⟩) (meth := k1m2) (c := k1c2) (by decide +kernel) rfl rfl rfl (by decide +kernel)
set_option maxRecDepth 65536 in
theorem w_c5 : (Jvm.Cond.code ({ cls := "com/example/kingmaker/kingmaker/GraphNeighbourPinLaw", name := "addIf", desc := "([IIIII)I" } : Jvm.MethodName) method_4_code (5 : Nat) (Option.some Jvm.ClassFile.FieldType.int)).before args0 about1 = true := code_word (m := ⟨1, 3⟩) (meth := k1m3) (c := k1c3) (by decide +kernel) rfl rfl rfl (by decide +kernel)
set_option maxRecDepth 65536 in
theorem w_c6 : (Jvm.Cond.code ({ cls := "com/example/kingmaker/kingmaker/Graph", name := "<init>", desc := "([J[I)V" } : Jvm.MethodName) prog_21_method_1_code (7 : Nat) (Option.none : Option Jvm.ClassFile.FieldType)).before args0 about1 = true := code_word (m := ⟨4, 0⟩) (meth := k4m0) (c := k4c0) (by decide +kernel) rfl rfl rfl (by decide +kernel)
set_option maxRecDepth 65536 in
theorem w_c7 : (Jvm.Cond.code ({ cls := "com/example/kingmaker/kingmaker/Network", name := "<init>", desc := "([J)V" } : Jvm.MethodName) prog_51_method_1_code (2 : Nat) (Option.none : Option Jvm.ClassFile.FieldType)).before args0 about1 = true := code_word (m := ⟨3, 0⟩) (meth := k3m0) (c := k3c0) (by decide +kernel) rfl rfl rfl (by decide +kernel)
set_option maxRecDepth 65536 in
theorem w_c8 : (Jvm.Cond.code ({ cls := "java/lang/Object", name := "<init>", desc := "()V" } : Jvm.MethodName) object_method_1_code (1 : Nat) (Option.none : Option Jvm.ClassFile.FieldType)).before args0 about1 = true := code_word (m := ⟨0, 0⟩) (meth := k0m0) (c := k0c0) (by decide +kernel) rfl rfl rfl (by decide +kernel)
set_option maxRecDepth 65536 in
theorem w_c9 : (Jvm.Cond.code ({ cls := "java/util/Arrays", name := "copyOf", desc := "([II)[I" } : Jvm.MethodName) jdk_65_method_123_code (3 : Nat) (Option.some (Jvm.ClassFile.FieldType.array Jvm.ClassFile.FieldType.int))).before args0 about1 = true := code_word (m := ⟨5, 1⟩) (meth := k5m1) (c := k5c1) (by decide +kernel) rfl rfl rfl (by decide +kernel)
set_option maxRecDepth 65536 in
theorem w_c10 : (Jvm.Cond.code ({ cls := "com/example/kingmaker/kingmaker/Graph", name := "neighbour", desc := "(II)I" } : Jvm.MethodName) prog_21_method_6_code (3 : Nat) (Option.some Jvm.ClassFile.FieldType.int)).before args0 about1 = true := code_word (m := ⟨4, 1⟩) (meth := k4m1) (c := k4c1) (by decide +kernel) rfl rfl rfl (by decide +kernel)
def codes1 : List Jvm.Cond := [Jvm.Cond.code x code maxLocals ret, Jvm.Cond.code ({ cls := "java/lang/Math", name := "min", desc := "(II)I" } : Jvm.MethodName) jdk_29_method_69_code (2 : Nat) (Option.some Jvm.ClassFile.FieldType.int), Jvm.Cond.code ({ cls := "java/lang/Math", name := "max", desc := "(II)I" } : Jvm.MethodName) jdk_29_method_65_code (2 : Nat) (Option.some Jvm.ClassFile.FieldType.int), Jvm.Cond.code ({ cls := "com/example/kingmaker/kingmaker/GraphNeighbourPinLaw", name := "pairA", desc := "(I)I" } : Jvm.MethodName) method_2_code (1 : Nat) (Option.some Jvm.ClassFile.FieldType.int), Jvm.Cond.code ({ cls := "com/example/kingmaker/kingmaker/GraphNeighbourPinLaw", name := "pairB", desc := "(I)I" } : Jvm.MethodName) method_3_code (1 : Nat) (Option.some Jvm.ClassFile.FieldType.int), Jvm.Cond.code ({ cls := "com/example/kingmaker/kingmaker/GraphNeighbourPinLaw", name := "addIf", desc := "([IIIII)I" } : Jvm.MethodName) method_4_code (5 : Nat) (Option.some Jvm.ClassFile.FieldType.int), Jvm.Cond.code ({ cls := "com/example/kingmaker/kingmaker/Graph", name := "<init>", desc := "([J[I)V" } : Jvm.MethodName) prog_21_method_1_code (7 : Nat) (Option.none : Option Jvm.ClassFile.FieldType), Jvm.Cond.code ({ cls := "com/example/kingmaker/kingmaker/Network", name := "<init>", desc := "([J)V" } : Jvm.MethodName) prog_51_method_1_code (2 : Nat) (Option.none : Option Jvm.ClassFile.FieldType), Jvm.Cond.code ({ cls := "java/lang/Object", name := "<init>", desc := "()V" } : Jvm.MethodName) object_method_1_code (1 : Nat) (Option.none : Option Jvm.ClassFile.FieldType), Jvm.Cond.code ({ cls := "java/util/Arrays", name := "copyOf", desc := "([II)[I" } : Jvm.MethodName) jdk_65_method_123_code (3 : Nat) (Option.some (Jvm.ClassFile.FieldType.array Jvm.ClassFile.FieldType.int)), Jvm.Cond.code ({ cls := "com/example/kingmaker/kingmaker/Graph", name := "neighbour", desc := "(II)I" } : Jvm.MethodName) prog_21_method_6_code (3 : Nat) (Option.some Jvm.ClassFile.FieldType.int)]
set_option maxRecDepth 65536 in
theorem codes_eq : words1.filter isCode = codes1 := rfl
theorem w_codes : ∀ c ∈ words1.filter isCode, c.before args0 about1 = true := by
  rw [codes_eq]
  intro c hc
  simp only [codes1, List.mem_cons, List.not_mem_nil, or_false] at hc
  rcases hc with rfl | rfl | rfl | rfl | rfl | rfl | rfl | rfl | rfl | rfl | rfl
  · exact w_c0
  · exact w_c1
  · exact w_c2
  · exact w_c3
  · exact w_c4
  · exact w_c5
  · exact w_c6
  · exact w_c7
  · exact w_c8
  · exact w_c9
  · exact w_c10
set_option maxRecDepth 65536 in
theorem w_t1 : (words1.take 24).all (fun c => isCode c || c.before args0 about1) = true := by decide +kernel
set_option maxRecDepth 65536 in
theorem w_t2 : ((words1.drop 24).take 24).all (fun c => isCode c || c.before args0 about1) = true := by decide +kernel
set_option maxRecDepth 65536 in
theorem w_t3 : ((words1.drop 24).drop 24).all (fun c => isCode c || c.before args0 about1) = true := by decide +kernel
theorem w_tables : (allAtoms (Jvm.Cond.code x code maxLocals ret :: tables_1)).before args0 about1 = true := by
  rw [allAtoms_all]
  show words1.all (fun c => c.before args0 about1) = true
  refine all_split ?_ w_codes
  rw [← List.take_append_drop 24 words1, List.all_append, w_t1, ← List.take_append_drop 24 (words1.drop 24), List.all_append, w_t2, w_t3]
  rfl
set_option maxRecDepth 65536 in
theorem w_case : (Jvm.Cond.and given_1 narrow_1).before args0 about1 = true := by decide +kernel
theorem w_applies : (headSpec (Jvm.Cond.code x code maxLocals ret :: tables_1) room_1).applies x e0.platform about1 = true :=
  (Spec.applies_iff w_frames).mpr ⟨w_running, w_runnable, w_alone, w_named, w_hears, w_ripe, w_room, w_tables⟩
theorem atStart : AtStart classFile x code maxLocals ret World_1 tables_1 room_1 Calls_1 rest_1 Pre_1 launch0 p0 e0 about1 theMethod args0 below0 :=
  ⟨lists_1, trivial, launch0.admits_env _ _ _, launch0.least_env, fairChoices_fair.cas, fairChoices_fair.clock, w_frames, w_args, w_heap, w_applies, trivial, trivial, w_case⟩
end start1
theorem witness_1 : WitnessClaimed_1 := ⟨start1.p0, start1.e0, start1.about1, start1.theMethod, start1.args0, start1.below0, start1.atStart⟩
end Jvm.Pilot.@@N@@
