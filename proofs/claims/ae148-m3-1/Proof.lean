import JvmDerived
import JvmDerived.Pilot.@@N@@Statement
import JvmDerived.Pilot.@@N@@Code
set_option linter.unusedVariables false
set_option linter.unusedSimpArgs false
namespace Jvm.Pilot.@@N@@
open Jvm Jvm.ClassFile Sem Op Lib Jvm.Free Jvm.Stand Jvm.LawKit Jvm.RoadKit Bundle Jvm.Pilot.@@N@@.Jvm.D
/-! ## A small logic of runs over a virtual heap (own work, the same text in every proof of this seat)
References count from the first cell that the law makes (n0): `shV n0`. `Ob`: an object by its class (a place in K) and its laid fields, or an array by its component type and values.
`Runs K l Z n0 mi pc ls st H v H'`: whoever stands in the method mi at pc with locals ls, stack st and virtual heap H comes out returning v with heap H'. -/
def shV (n0 : Nat) : Value → Value
  | .ref a => .ref (n0 + a)
  | v => v
def shS (n0 : Nat) : Slot → Slot
  | .val v => .val (shV n0 v)
  | s => s
abbrev Ob : Type := (Nat × List Value) ⊕ (FieldType × List Value)
/-- a field: who declares it, its name, its descriptor, its type -/
abbrev FI : Type := String × String × String × FieldType
/-- a class: its name, the number of its slots, its fields -/
abbrev CI : Type := String × Nat × List FI
/-- a method: name, bytes, max_locals, return type; frames and words that its callees need -/
abbrev MI : Type := MethodName × ByteArray × Nat × Option FieldType × Nat × Nat
def osz (K : List CI) : Ob → Nat
  | .inl (c, _) => ((K[c]?).map (fun ci => ci.2.1)).getD 0
  | .inr (_, vs) => vs.length
def szs (K : List CI) (H : List Ob) : Nat := (H.map (osz K)).sum
def OOk (K : List CI) (Z : State) (n0 : Nat) (h : Heap) (a : Addr) : Ob → Prop
  | .inl (c, vs) => ∃ ci, K[c]? = some ci ∧ Exa Z h a ci.1 ∧ ∀ (i : Nat) (f : FI) (v : Value), ci.2.2[i]? = some f → vs[i]? = some v → Fld Z h a f.1 f.2.1 f.2.2.1 (shV n0 v)
  | .inr (ty, vs) => ∃ cl, Arr Z h a cl ty ∧ cl.slots.size = vs.length ∧ vs.length < 2 ^ 31 ∧ ∀ (i : Nat) (v : Value), vs[i]? = some v → cl.slots[i]? = some (shV n0 v) ∧ fits ty v = true
def Rel (K : List CI) (Z : State) (n0 : Nat) (H : List Ob) (h : Heap) : Prop := h.size = n0 + H.length ∧ ∀ (k : Nat) (o : Ob), H[k]? = some o → OOk K Z n0 h (n0 + k) o
def KOk (K : List CI) (Z : State) (a0 : Array Value) : Prop := ∀ (k : Nat) (ci : CI), K[k]? = some ci → (Jvm.Cond.instantiable ci.1 ci.2.1).before a0 Z = true ∧ (∀ f ∈ ci.2.2, Laid Z a0 ci.1 f.1 f.2.1 f.2.2.1 ∧ parseFieldDescriptor f.2.2.1 = some f.2.2.2) ∧ ci.2.2.Pairwise (fun f g => f.2.1 ≠ g.2.1)
theorem cat_sh (n0 : Nat) (v : Value) : (shV n0 v).category = v.category := by cases v <;> rfl
theorem cats_sh (n0 : Nat) (st : List Value) : ((st.map (shV n0)).map fun v => v.category).sum = (st.map fun v => v.category).sum := by
  rw [List.map_map]; congr 1; exact List.map_congr_left fun v _ => cat_sh n0 v
theorem laid_map (n0 : Nat) : ∀ as : List Value, Jvm.Sym.laidSlots (as.map (shV n0)) = (Jvm.Sym.laidSlots as).map (shS n0)
  | [] => rfl
  | v :: vs => by
    simp only [List.map_cons, Jvm.Sym.laidSlots, cat_sh, laid_map n0 vs]
    split <;> rfl
theorem entry_eq (n0 : Nat) (m : MethodId) (as : List Value) (n : Nat) {ls : List Slot} (h : Jvm.Sym.laidSlots as ++ List.replicate (n - (Jvm.Sym.laidSlots as).length) .unset = ls) :
    entryFrame m (as.map (shV n0)).toArray n = mkF m 0 (ls.map (shS n0)).toArray [] := by
  have e : argsToLocals (as.map (shV n0)).toArray n = (ls.map (shS n0)).toArray := Array.toList_inj.mp (by
    rw [Jvm.Sym.argsToLocals_toList]
    simp only [laid_map, List.length_map, ← h, List.map_append, List.map_replicate]
    rfl)
  show ({ method := m, pc := 0, locals := argsToLocals (as.map (shV n0)).toArray n, stack := [], locked := none } : JFrame) = _
  rw [e]
theorem loc_at {n0 : Nat} {ls : List Slot} {k : Nat} {s : Slot} (h : ls[k]? = some s) : ((ls.map (shS n0)).toArray)[k]? = some (shS n0 s) := by
  simp [h]
/-- the place k may take a value of one word -/
def P1 (ls : List Slot) (k : Nat) : Bool := match ls[k]? with | some .unset => true | some (.val w) => w.category == 1 | _ => false
/-- the places k and k + 1 may take a value of two words -/
def P2 (ls : List Slot) (k : Nat) : Bool := match ls[k]?, ls[k + 1]? with | some (.val w), some .second => w.category == 2 | _, _ => P1 ls k && P1 ls (k + 1)
theorem P1_slot {ls : List Slot} {k : Nat} (h : P1 ls k = true) : ∃ s, ls[k]? = some s ∧ (match s with | .second => False | .val old => old.category = 1 | .unset => True) := by
  unfold P1 at h
  split at h
  · rename_i e; exact ⟨_, e, trivial⟩
  · rename_i w e; exact ⟨_, e, by simpa using h⟩
  · cases h
theorem st1 {n0 : Nat} {ls ls' : List Slot} {k : Nat} {v : Value} (hp : P1 ls k = true) (hv : v.category = 1) (hs : ls.set k (.val v) = ls') : storeLocals (ls.map (shS n0)).toArray k (shV n0 v) = some (ls'.map (shS n0)).toArray := by
  obtain ⟨s, e, q⟩ := P1_slot hp
  rw [storeLocals_cat1 (loc_at (n0 := n0) e) (by rw [cat_sh]; exact hv) (by cases s <;> simp_all [shS, cat_sh]), ← hs]
  simp [List.map_set, shS]
theorem st2 {n0 : Nat} {ls ls' : List Slot} {k : Nat} {v : Value} (hp : P2 ls k = true) (hv : v.category = 2) (hs : (ls.set k (.val v)).set (k + 1) .second = ls') : storeLocals (ls.map (shS n0)).toArray k (shV n0 v) = some (ls'.map (shS n0)).toArray := by
  have key : ∃ x y, ls[k]? = some x ∧ ls[k + 1]? = some y ∧ ((Jvm.Free.Fl.Plain1 (shS n0 x) ∧ Jvm.Free.Fl.Plain1 (shS n0 y)) ∨ ((∃ old, shS n0 x = .val old ∧ old.category = 2) ∧ shS n0 y = .second)) := by
    unfold P2 at hp
    split at hp
    · rename_i w e1 e2
      exact ⟨_, _, e1, e2, Or.inr ⟨⟨_, rfl, by rw [cat_sh]; simpa using hp⟩, rfl⟩⟩
    · rw [Bool.and_eq_true] at hp
      obtain ⟨s, e, q⟩ := P1_slot hp.1
      obtain ⟨s', e', q'⟩ := P1_slot hp.2
      exact ⟨s, s', e, e', Or.inl ⟨by cases s <;> simp_all [shS, cat_sh, Jvm.Free.Fl.Plain1], by cases s' <;> simp_all [shS, cat_sh, Jvm.Free.Fl.Plain1]⟩⟩
  obtain ⟨x, y, e1, e2, q⟩ := key
  rw [Jvm.Free.Fl.storeLocals_cat2 (loc_at (n0 := n0) e1) (loc_at (n0 := n0) e2) (by rw [cat_sh]; exact hv) q, ← hs]
  simp [List.map_set, shS]
def Runs (K : List CI) (l : Launch) (Z : State) (n0 : Nat) (mi : MI) (pc : Nat) (ls : List Slot) (st : List Value) (H : List Ob) (v : Option Value) (H' : List Ob) : Prop :=
  H.length ≤ H'.length ∧ szs K H ≤ szs K H' ∧
  ∀ (p : Program) (e : Env) (R : Room) (s : State) (m : MethodId) (args : Array Value) (below : List Frame) (meth : Method) (c : Code) (T : State) (locs : List Loc) (cells slots : Nat),
    Stand p l e R s m args below meth c T locs cells slots → p.tables.exec = Jvm.exec → Z.Warmed39 s.vm → c.code = mi.2.1 → c.maxLocals = mi.2.2.1 → meth.sig.returnType = mi.2.2.2.1 → s.vm.findClass mi.1.cls = some m.cls → meth.name = mi.1.name →
    Rel K Z n0 H T.heap → Fr n0 locs → mi.2.2.2.2.1 ≤ R.frames → mi.2.2.2.2.2 ≤ R.locals → s.heap.size + cells = n0 + H.length → cells + H'.length ≤ R.cells + H.length → slots + szs K H' ≤ R.slots + szs K H →
    ∃ (T' : State) (locs' : List Loc) (cells' slots' : Nat), Stand p l e R s m args below meth c T' locs' cells' slots' ∧ Rel K Z n0 H' T'.heap ∧ Fr n0 locs' ∧ s.heap.size + cells' = n0 + H'.length ∧ slots' + szs K H ≤ slots + szs K H' ∧
      ∀ fs, (∀ (f : JFrame) (acts : List Action), f.method = m → f.locked = none → f.entered = [] → (doReturn e (T'.setTop f) acts (v.map (shV n0))).1 = T'.setFrames fs) →
        Steps p.tables e below (T.setTop (mkF m pc (ls.map (shS n0)).toArray (st.map (shV n0)))) (T'.setFrames fs)
def rmOf (K : List CI) (mi : MI) (H H' : List Ob) : Room := { frames := mi.2.2.2.2.1, cells := H'.length - H.length, slots := szs K H' - szs K H, locals := mi.2.2.2.2.2 }
def Meets (K : List CI) (l : Launch) (Z : State) (n0 : Nat) (mi : MI) (as : List Value) (H : List Ob) (v : Option Value) (H' : List Ob) : Prop :=
  H.length ≤ H'.length ∧ szs K H ≤ szs K H' ∧ ∀ h, Rel K Z n0 H h →
    MetFree l mi.1 (head1 [Jvm.Cond.code mi.1 mi.2.1 mi.2.2.1 mi.2.2.2.1] (rmOf K mi H H')) (fun a U => a = (as.map (shV n0)).toArray ∧ Z.Warmed39 U.vm ∧ U.heap = h) (fun _ _ _ _ _ => True)
      (fun _ U o U' => ∃ w L, o = .returned w ∧ (w = v.map (shV n0) ∧ Rel K Z n0 H' U'.heap ∧ Fr n0 L) ∧ FrameEnd U o U' L (rmOf K mi H H').cells (rmOf K mi H H').slots)
theorem leB {a b : Nat} (h : Nat.ble a b = true) : a ≤ b := Nat.le_of_ble_eq_true h
theorem ltB {a b : Nat} (h : Nat.ble (a + 1) b = true) : a < b := Nat.le_of_ble_eq_true h
section Logic
variable {K : List CI} {l : Launch} {Z : State} {a0 : Array Value} {n0 : Nat} {mi : MI} {pc np tp : Nat} {ls ls' : List Slot} {st rest : List Value} {H H' H1 : List Ob} {v : Option Value}
/-- from a run of the body to the method's contract, in any room that holds it -/
theorem met_gen {as : List Value} (ws : List Jvm.Cond) (R0 : Room) (hp : plainFor mi.1 = true) (hls : Jvm.Sym.laidSlots as ++ List.replicate (mi.2.2.1 - (Jvm.Sym.laidSlots as).length) .unset = ls) (hv : mi.2.2.2.1 = none → v = none)
    (k : Runs K l Z n0 mi 0 ls [] H v H') (hfr : mi.2.2.2.2.1 ≤ R0.frames) (hlo : mi.2.2.2.2.2 ≤ R0.locals) (hcl : H'.length ≤ R0.cells + H.length) (hsl : szs K H' ≤ R0.slots + szs K H) {h : Heap} (hrel : Rel K Z n0 H h) :
    MetFree l mi.1 (head1 (Jvm.Cond.code mi.1 mi.2.1 mi.2.2.1 mi.2.2.2.1 :: ws) R0) (fun a U => a = (as.map (shV n0)).toArray ∧ Z.Warmed39 U.vm ∧ U.heap = h) (fun _ _ _ _ _ => True)
      (fun _ U o U' => ∃ w L, o = .returned w ∧ (w = v.map (shV n0) ∧ Rel K Z n0 H' U'.heap ∧ Fr n0 L) ∧ FrameEnd U o U' L (H'.length - H.length) (szs K H' - szs K H)) := by
  refine MetFree.of_bodySF hp hisR ?_
  intro p e s m args below meth c s₁ Bd hml0 hP hK
  obtain ⟨rfl, hZ, hh⟩ := hP
  have hx := Bd.exec
  have hby := Bd.bytes
  have hown : s.vm.findClass mi.1.cls = some m.cls := findClass_of_methodNamed Bd.named
  have hnm := (name_of_methodNamed Bd.named Bd.method).1
  have X0 : Stand p l e R0 s m (as.map (shV n0)).toArray below meth c s₁ [] 0 0 := Stand.of_body Bd
  have e0 : s₁.heap = h := by rw [← hh, Bd.state]; rfl
  obtain ⟨T', locs', cells', slots', X', rel', fr', hc', hs', stp⟩ := k.2.2 p e R0 s m _ below meth c s₁ [] 0 0 X0 hx hZ hby hml0 Bd.returns hown hnm (e0 ▸ hrel) (Fr.nil n0) hfr hlo (by rw [hh, hrel.1]; rfl) (by omega) (by omega)
  have hsz : s.heap.size = n0 + H.length := by rw [hh, hrel.1]
  obtain ⟨fs, hr, hrun, hended, hW, hsame⟩ := X'.leave (v := v.map (shV n0)) (fun q => by rw [Bd.returns] at q; rw [hv q]; rfl)
  exact ⟨_, _, castTop (entry_eq n0 m as mi.2.2.1 hls) (stp fs hr), hrun, hended, _, _, rfl, ⟨rfl, rel', fr'⟩, ⟨_, rfl⟩, hW, hsame.mono (by omega) (by omega)⟩
theorem meets {as : List Value} (hp : plainFor mi.1 = true) (hls : Jvm.Sym.laidSlots as ++ List.replicate (mi.2.2.1 - (Jvm.Sym.laidSlots as).length) .unset = ls) (hv : mi.2.2.2.1 = none → v = none) (k : Runs K l Z n0 mi 0 ls [] H v H') : Meets K l Z n0 mi as H v H' :=
  ⟨k.1, k.2.1, fun h hrel => met_gen [] (rmOf K mi H H') hp hls hv k (Nat.le_refl _) (Nat.le_refl _) (by have := k.1; show _ ≤ (H'.length - H.length) + _; omega) (by have := k.2.1; show _ ≤ (szs K H' - szs K H) + _; omega) hrel⟩
/-- a step that reads no heap -/
theorem Runs.pure {st2 : List Value} (hstep : ∀ (p : Program) (e : Env) (R : Room) (s : State) (m : MethodId) (args : Array Value) (below : List Frame) (meth : Method) (c : Code) (T : State) (locs : List Loc) (cells slots : Nat),
      Stand p l e R s m args below meth c T locs cells slots → p.tables.exec = Jvm.exec → Z.Warmed39 s.vm → c.code = mi.2.1 → s.vm.findClass mi.1.cls = some m.cls → ∀ target,
      Steps p.tables e below (T.setTop (mkF m np (ls'.map (shS n0)).toArray (st2.map (shV n0)))) target → Steps p.tables e below (T.setTop (mkF m pc (ls.map (shS n0)).toArray (st.map (shV n0)))) target)
    (k : Runs K l Z n0 mi np ls' st2 H v H') : Runs K l Z n0 mi pc ls st H v H' := by
  refine ⟨k.1, k.2.1, fun p e R s m args below meth c T locs cells slots X hx hZ hc hml hret hown hnm hrel hfr hf hlo hsz hcl hsl => ?_⟩
  obtain ⟨T', locs', cells', slots', X', rel', fr', hc', hs', stp⟩ := k.2.2 p e R s m args below meth c T locs cells slots X hx hZ hc hml hret hown hnm hrel hfr hf hlo hsz hcl hsl
  exact ⟨T', locs', cells', slots', X', rel', fr', hc', hs', fun fs hr => hstep p e R s m args below meth c T locs cells slots X hx hZ hc hown _ (stp fs hr)⟩
theorem isRef_sh {n0 : Nat} {x : Value} (h : x.isRef = true) : (shV n0 x).isRef = true := by cases x <;> first | rfl | cases h
theorem P1_int {ls : List Slot} {k : Nat} {x : Int32} (h : ls[k]? = some (.val (.int x))) : P1 ls k = true := by unfold P1; rw [h]; rfl
theorem r_iloadN {k : Fin 4} {x : Int32} (hd : decode mi.2.1 pc = .ok (.iload_n k, 1) ∧ pc + 1 = np) (hl : ls[k.val]? = some (.val (.int x))) (kk : Runs K l Z n0 mi np ls (.int x :: st) H v H') : Runs K l Z n0 mi pc ls st H v H' := by
  obtain ⟨hd, rfl⟩ := hd
  exact Runs.pure (fun _ _ _ _ _ _ _ _ _ _ _ _ _ X hx hZ hc hown t h => XS.iloadN X.here hx rfl (hb hc hd) (loc_at hl) h) kk
theorem r_iload {k : Nat} {x : Int32} (hd : decode mi.2.1 pc = .ok (.iload k, 2) ∧ pc + 2 = np) (hl : ls[k]? = some (.val (.int x))) (kk : Runs K l Z n0 mi np ls (.int x :: st) H v H') : Runs K l Z n0 mi pc ls st H v H' := by
  obtain ⟨hd, rfl⟩ := hd
  exact Runs.pure (fun _ _ _ _ _ _ _ _ _ _ _ _ _ X hx hZ hc hown t h => XS.iload X.here hx rfl (hb hc hd) (loc_at hl) h) kk
theorem r_lloadN {k : Fin 4} {x : Int64} (hd : decode mi.2.1 pc = .ok (.lload_n k, 1) ∧ pc + 1 = np) (hl : ls[k.val]? = some (.val (.long x))) (kk : Runs K l Z n0 mi np ls (.long x :: st) H v H') : Runs K l Z n0 mi pc ls st H v H' := by
  obtain ⟨hd, rfl⟩ := hd
  exact Runs.pure (fun _ _ _ _ _ _ _ _ _ _ _ _ _ X hx hZ hc hown t h => XT.lloadN X.here hx rfl (hb hc hd) (loc_at hl) h) kk
theorem r_lload {k : Nat} {x : Int64} (hd : decode mi.2.1 pc = .ok (.lload k, 2) ∧ pc + 2 = np) (hl : ls[k]? = some (.val (.long x))) (kk : Runs K l Z n0 mi np ls (.long x :: st) H v H') : Runs K l Z n0 mi pc ls st H v H' := by
  obtain ⟨hd, rfl⟩ := hd
  exact Runs.pure (fun _ _ _ _ _ _ _ _ _ _ _ _ _ X hx hZ hc hown t h => XT.lload X.here hx rfl (hb hc hd) (loc_at hl) h) kk
theorem r_aloadN {k : Fin 4} {x : Value} (hd : decode mi.2.1 pc = .ok (.aload_n k, 1) ∧ pc + 1 = np) (hl : ls[k.val]? = some (.val x)) (hv : x.isRef = true) (kk : Runs K l Z n0 mi np ls (x :: st) H v H') : Runs K l Z n0 mi pc ls st H v H' := by
  obtain ⟨hd, rfl⟩ := hd
  exact Runs.pure (fun _ _ _ _ _ _ _ _ _ _ _ _ _ X hx hZ hc hown t h => XS.aloadN X.here hx rfl (hb hc hd) (loc_at hl) (isRef_sh hv) h) kk
theorem r_aload {k : Nat} {x : Value} (hd : decode mi.2.1 pc = .ok (.aload k, 2) ∧ pc + 2 = np) (hl : ls[k]? = some (.val x)) (hv : x.isRef = true) (kk : Runs K l Z n0 mi np ls (x :: st) H v H') : Runs K l Z n0 mi pc ls st H v H' := by
  obtain ⟨hd, rfl⟩ := hd
  exact Runs.pure (fun _ _ _ _ _ _ _ _ _ _ _ _ _ X hx hZ hc hown t h => XS.aload X.here hx rfl (hb hc hd) (loc_at hl) (isRef_sh hv) h) kk
theorem r_istoreN {k : Fin 4} {x : Int32} (hd : decode mi.2.1 pc = .ok (.istore_n k, 1) ∧ pc + 1 = np) (hp : P1 ls k.val = true) (hs : ls.set k.val (.val (.int x)) = ls') (kk : Runs K l Z n0 mi np ls' st H v H') : Runs K l Z n0 mi pc ls (.int x :: st) H v H' := by
  obtain ⟨hd, rfl⟩ := hd
  exact Runs.pure (fun _ _ _ _ _ _ _ _ _ _ _ _ _ X hx hZ hc hown t h => XS.istoreN X.here hx rfl (hb hc hd) rfl (st1 hp rfl hs) h) kk
theorem r_istore {k : Nat} {x : Int32} (hd : decode mi.2.1 pc = .ok (.istore k, 2) ∧ pc + 2 = np) (hp : P1 ls k = true) (hs : ls.set k (.val (.int x)) = ls') (kk : Runs K l Z n0 mi np ls' st H v H') : Runs K l Z n0 mi pc ls (.int x :: st) H v H' := by
  obtain ⟨hd, rfl⟩ := hd
  exact Runs.pure (fun _ _ _ _ _ _ _ _ _ _ _ _ _ X hx hZ hc hown t h => XS.istore X.here hx rfl (hb hc hd) rfl (st1 hp rfl hs) h) kk
theorem r_lstoreN {k : Fin 4} {x : Int64} (hd : decode mi.2.1 pc = .ok (.lstore_n k, 1) ∧ pc + 1 = np) (hp : P2 ls k.val = true) (hs : (ls.set k.val (.val (.long x))).set (k.val + 1) .second = ls') (kk : Runs K l Z n0 mi np ls' st H v H') : Runs K l Z n0 mi pc ls (.long x :: st) H v H' := by
  obtain ⟨hd, rfl⟩ := hd
  exact Runs.pure (fun _ _ _ _ _ _ _ _ _ _ _ _ _ X hx hZ hc hown t h => XT.lstoreN X.here hx rfl (hb hc hd) rfl (st2 hp rfl hs) h) kk
theorem r_lstore {k : Nat} {x : Int64} (hd : decode mi.2.1 pc = .ok (.lstore k, 2) ∧ pc + 2 = np) (hp : P2 ls k = true) (hs : (ls.set k (.val (.long x))).set (k + 1) .second = ls') (kk : Runs K l Z n0 mi np ls' st H v H') : Runs K l Z n0 mi pc ls (.long x :: st) H v H' := by
  obtain ⟨hd, rfl⟩ := hd
  exact Runs.pure (fun _ _ _ _ _ _ _ _ _ _ _ _ _ X hx hZ hc hown t h => XT.lstore X.here hx rfl (hb hc hd) rfl (st2 hp rfl hs) h) kk
theorem r_astoreN {k : Fin 4} {x : Value} (hd : decode mi.2.1 pc = .ok (.astore_n k, 1) ∧ pc + 1 = np) (hp : P1 ls k.val = true) (hv : x.isRef = true) (hs : ls.set k.val (.val x) = ls') (kk : Runs K l Z n0 mi np ls' st H v H') : Runs K l Z n0 mi pc ls (x :: st) H v H' := by
  obtain ⟨hd, rfl⟩ := hd
  exact Runs.pure (fun _ _ _ _ _ _ _ _ _ _ _ _ _ X hx hZ hc hown t h => XS.astoreN X.here hx rfl (hb hc hd) rfl (isRef_sh hv) (st1 hp (XT.cat1 hv) hs) h) kk
theorem r_astore {k : Nat} {x : Value} (hd : decode mi.2.1 pc = .ok (.astore k, 2) ∧ pc + 2 = np) (hp : P1 ls k = true) (hv : x.isRef = true) (hs : ls.set k (.val x) = ls') (kk : Runs K l Z n0 mi np ls' st H v H') : Runs K l Z n0 mi pc ls (x :: st) H v H' := by
  obtain ⟨hd, rfl⟩ := hd
  exact Runs.pure (fun _ _ _ _ _ _ _ _ _ _ _ _ _ X hx hZ hc hown t h => XS.astore X.here hx rfl (hb hc hd) rfl (isRef_sh hv) (st1 hp (XT.cat1 hv) hs) h) kk
theorem r_iadd {x y : Int32} (hd : decode mi.2.1 pc = .ok (.iadd, 1) ∧ pc + 1 = np) (kk : Runs K l Z n0 mi np ls (.int (x + y) :: st) H v H') : Runs K l Z n0 mi pc ls (.int y :: .int x :: st) H v H' := by
  obtain ⟨hd, rfl⟩ := hd
  exact Runs.pure (fun _ _ _ _ _ _ _ _ _ _ _ _ _ X hx hZ hc hown t h => XS.iadd X.here hx rfl (hb hc hd) rfl h) kk
theorem r_isub {x y : Int32} (hd : decode mi.2.1 pc = .ok (.isub, 1) ∧ pc + 1 = np) (kk : Runs K l Z n0 mi np ls (.int (x - y) :: st) H v H') : Runs K l Z n0 mi pc ls (.int y :: .int x :: st) H v H' := by
  obtain ⟨hd, rfl⟩ := hd
  exact Runs.pure (fun _ _ _ _ _ _ _ _ _ _ _ _ _ X hx hZ hc hown t h => XS.isub X.here hx rfl (hb hc hd) rfl h) kk
theorem r_imul {x y : Int32} (hd : decode mi.2.1 pc = .ok (.imul, 1) ∧ pc + 1 = np) (kk : Runs K l Z n0 mi np ls (.int (x * y) :: st) H v H') : Runs K l Z n0 mi pc ls (.int y :: .int x :: st) H v H' := by
  obtain ⟨hd, rfl⟩ := hd
  exact Runs.pure (fun _ _ _ _ _ _ _ _ _ _ _ _ _ X hx hZ hc hown t h => XS.imul X.here hx rfl (hb hc hd) rfl h) kk
theorem r_iand {x y : Int32} (hd : decode mi.2.1 pc = .ok (.iand, 1) ∧ pc + 1 = np) (kk : Runs K l Z n0 mi np ls (.int (x &&& y) :: st) H v H') : Runs K l Z n0 mi pc ls (.int y :: .int x :: st) H v H' := by
  obtain ⟨hd, rfl⟩ := hd
  exact Runs.pure (fun _ _ _ _ _ _ _ _ _ _ _ _ _ X hx hZ hc hown t h => XS.iand X.here hx rfl (hb hc hd) rfl h) kk
theorem r_ior {x y : Int32} (hd : decode mi.2.1 pc = .ok (.ior, 1) ∧ pc + 1 = np) (kk : Runs K l Z n0 mi np ls (.int (x ||| y) :: st) H v H') : Runs K l Z n0 mi pc ls (.int y :: .int x :: st) H v H' := by
  obtain ⟨hd, rfl⟩ := hd
  exact Runs.pure (fun _ _ _ _ _ _ _ _ _ _ _ _ _ X hx hZ hc hown t h => XT.ior X.here hx rfl (hb hc hd) rfl h) kk
theorem r_ixor {x y : Int32} (hd : decode mi.2.1 pc = .ok (.ixor, 1) ∧ pc + 1 = np) (kk : Runs K l Z n0 mi np ls (.int (x ^^^ y) :: st) H v H') : Runs K l Z n0 mi pc ls (.int y :: .int x :: st) H v H' := by
  obtain ⟨hd, rfl⟩ := hd
  exact Runs.pure (fun _ _ _ _ _ _ _ _ _ _ _ _ _ X hx hZ hc hown t h => XT.ixor X.here hx rfl (hb hc hd) rfl h) kk
theorem r_ishl {x y : Int32} (hd : decode mi.2.1 pc = .ok (.ishl, 1) ∧ pc + 1 = np) (kk : Runs K l Z n0 mi np ls (.int (x <<< (y &&& 31)) :: st) H v H') : Runs K l Z n0 mi pc ls (.int y :: .int x :: st) H v H' := by
  obtain ⟨hd, rfl⟩ := hd
  exact Runs.pure (fun _ _ _ _ _ _ _ _ _ _ _ _ _ X hx hZ hc hown t h => XT.ishl X.here hx rfl (hb hc hd) rfl h) kk
theorem r_ishr {x y : Int32} (hd : decode mi.2.1 pc = .ok (.ishr, 1) ∧ pc + 1 = np) (kk : Runs K l Z n0 mi np ls (.int (x >>> (y &&& 31)) :: st) H v H') : Runs K l Z n0 mi pc ls (.int y :: .int x :: st) H v H' := by
  obtain ⟨hd, rfl⟩ := hd
  exact Runs.pure (fun _ _ _ _ _ _ _ _ _ _ _ _ _ X hx hZ hc hown t h => XT.ishr X.here hx rfl (hb hc hd) rfl h) kk
theorem r_iushr {x y : Int32} (hd : decode mi.2.1 pc = .ok (.iushr, 1) ∧ pc + 1 = np) (kk : Runs K l Z n0 mi np ls (.int (XT.ushr x y) :: st) H v H') : Runs K l Z n0 mi pc ls (.int y :: .int x :: st) H v H' := by
  obtain ⟨hd, rfl⟩ := hd
  exact Runs.pure (fun _ _ _ _ _ _ _ _ _ _ _ _ _ X hx hZ hc hown t h => XT.iushr X.here hx rfl (hb hc hd) rfl h) kk
theorem r_idiv {x y : Int32} (hd : decode mi.2.1 pc = .ok (.idiv, 1) ∧ pc + 1 = np) (hy : y ≠ 0) (kk : Runs K l Z n0 mi np ls (.int (x / y) :: st) H v H') : Runs K l Z n0 mi pc ls (.int y :: .int x :: st) H v H' := by
  obtain ⟨hd, rfl⟩ := hd
  exact Runs.pure (fun _ _ _ _ _ _ _ _ _ _ _ _ _ X hx hZ hc hown t h => XS.idiv X.here hx rfl (hb hc hd) rfl hy h) kk
theorem r_irem {x y : Int32} (hd : decode mi.2.1 pc = .ok (.irem, 1) ∧ pc + 1 = np) (hy : y ≠ 0) (kk : Runs K l Z n0 mi np ls (.int (x % y) :: st) H v H') : Runs K l Z n0 mi pc ls (.int y :: .int x :: st) H v H' := by
  obtain ⟨hd, rfl⟩ := hd
  exact Runs.pure (fun _ _ _ _ _ _ _ _ _ _ _ _ _ X hx hZ hc hown t h => iremM X hx rfl (hb hc hd) rfl hy h) kk
theorem r_ladd {x y : Int64} (hd : decode mi.2.1 pc = .ok (.ladd, 1) ∧ pc + 1 = np) (kk : Runs K l Z n0 mi np ls (.long (x + y) :: st) H v H') : Runs K l Z n0 mi pc ls (.long y :: .long x :: st) H v H' := by
  obtain ⟨hd, rfl⟩ := hd
  exact Runs.pure (fun _ _ _ _ _ _ _ _ _ _ _ _ _ X hx hZ hc hown t h => XT.ladd X.here hx rfl (hb hc hd) rfl h) kk
theorem r_lsub {x y : Int64} (hd : decode mi.2.1 pc = .ok (.lsub, 1) ∧ pc + 1 = np) (kk : Runs K l Z n0 mi np ls (.long (x - y) :: st) H v H') : Runs K l Z n0 mi pc ls (.long y :: .long x :: st) H v H' := by
  obtain ⟨hd, rfl⟩ := hd
  exact Runs.pure (fun _ _ _ _ _ _ _ _ _ _ _ _ _ X hx hZ hc hown t h => XT.lsub X.here hx rfl (hb hc hd) rfl h) kk
theorem r_lmul {x y : Int64} (hd : decode mi.2.1 pc = .ok (.lmul, 1) ∧ pc + 1 = np) (kk : Runs K l Z n0 mi np ls (.long (x * y) :: st) H v H') : Runs K l Z n0 mi pc ls (.long y :: .long x :: st) H v H' := by
  obtain ⟨hd, rfl⟩ := hd
  exact Runs.pure (fun _ _ _ _ _ _ _ _ _ _ _ _ _ X hx hZ hc hown t h => XT.lmul X.here hx rfl (hb hc hd) rfl h) kk
theorem r_land {x y : Int64} (hd : decode mi.2.1 pc = .ok (.land, 1) ∧ pc + 1 = np) (kk : Runs K l Z n0 mi np ls (.long (x &&& y) :: st) H v H') : Runs K l Z n0 mi pc ls (.long y :: .long x :: st) H v H' := by
  obtain ⟨hd, rfl⟩ := hd
  exact Runs.pure (fun _ _ _ _ _ _ _ _ _ _ _ _ _ X hx hZ hc hown t h => XT.land X.here hx rfl (hb hc hd) rfl h) kk
theorem r_lor {x y : Int64} (hd : decode mi.2.1 pc = .ok (.lor, 1) ∧ pc + 1 = np) (kk : Runs K l Z n0 mi np ls (.long (x ||| y) :: st) H v H') : Runs K l Z n0 mi pc ls (.long y :: .long x :: st) H v H' := by
  obtain ⟨hd, rfl⟩ := hd
  exact Runs.pure (fun _ _ _ _ _ _ _ _ _ _ _ _ _ X hx hZ hc hown t h => XT.lor X.here hx rfl (hb hc hd) rfl h) kk
theorem r_lxor {x y : Int64} (hd : decode mi.2.1 pc = .ok (.lxor, 1) ∧ pc + 1 = np) (kk : Runs K l Z n0 mi np ls (.long (x ^^^ y) :: st) H v H') : Runs K l Z n0 mi pc ls (.long y :: .long x :: st) H v H' := by
  obtain ⟨hd, rfl⟩ := hd
  exact Runs.pure (fun _ _ _ _ _ _ _ _ _ _ _ _ _ X hx hZ hc hown t h => XT.lxor X.here hx rfl (hb hc hd) rfl h) kk
theorem r_lshl {x : Int64} {y : Int32} (hd : decode mi.2.1 pc = .ok (.lshl, 1) ∧ pc + 1 = np) (kk : Runs K l Z n0 mi np ls (.long (x <<< (y.toInt64 &&& 63)) :: st) H v H') : Runs K l Z n0 mi pc ls (.int y :: .long x :: st) H v H' := by
  obtain ⟨hd, rfl⟩ := hd
  exact Runs.pure (fun _ _ _ _ _ _ _ _ _ _ _ _ _ X hx hZ hc hown t h => XT.lshl X.here hx rfl (hb hc hd) rfl h) kk
theorem r_lshr {x : Int64} {y : Int32} (hd : decode mi.2.1 pc = .ok (.lshr, 1) ∧ pc + 1 = np) (kk : Runs K l Z n0 mi np ls (.long (x >>> (y.toInt64 &&& 63)) :: st) H v H') : Runs K l Z n0 mi pc ls (.int y :: .long x :: st) H v H' := by
  obtain ⟨hd, rfl⟩ := hd
  exact Runs.pure (fun _ _ _ _ _ _ _ _ _ _ _ _ _ X hx hZ hc hown t h => XT.lshr X.here hx rfl (hb hc hd) rfl h) kk
theorem r_lushr {x : Int64} {y : Int32} (hd : decode mi.2.1 pc = .ok (.lushr, 1) ∧ pc + 1 = np) (kk : Runs K l Z n0 mi np ls (.long (XT.ushrL x y) :: st) H v H') : Runs K l Z n0 mi pc ls (.int y :: .long x :: st) H v H' := by
  obtain ⟨hd, rfl⟩ := hd
  exact Runs.pure (fun _ _ _ _ _ _ _ _ _ _ _ _ _ X hx hZ hc hown t h => XT.lushr X.here hx rfl (hb hc hd) rfl h) kk
theorem r_ldiv {x y : Int64} (hd : decode mi.2.1 pc = .ok (.ldiv, 1) ∧ pc + 1 = np) (hy : y ≠ 0) (kk : Runs K l Z n0 mi np ls (.long (x / y) :: st) H v H') : Runs K l Z n0 mi pc ls (.long y :: .long x :: st) H v H' := by
  obtain ⟨hd, rfl⟩ := hd
  exact Runs.pure (fun _ _ _ _ _ _ _ _ _ _ _ _ _ X hx hZ hc hown t h => XT.ldiv X.here hx rfl (hb hc hd) rfl hy h) kk
theorem r_lrem {x y : Int64} (hd : decode mi.2.1 pc = .ok (.lrem, 1) ∧ pc + 1 = np) (hy : y ≠ 0) (kk : Runs K l Z n0 mi np ls (.long (x % y) :: st) H v H') : Runs K l Z n0 mi pc ls (.long y :: .long x :: st) H v H' := by
  obtain ⟨hd, rfl⟩ := hd
  exact Runs.pure (fun _ _ _ _ _ _ _ _ _ _ _ _ _ X hx hZ hc hown t h => XT.lrem X.here hx rfl (hb hc hd) rfl hy (by rw [lrem_mod]; exact h)) kk
theorem r_lcmp {x y : Int64} (hd : decode mi.2.1 pc = .ok (.lcmp, 1) ∧ pc + 1 = np) (kk : Runs K l Z n0 mi np ls (.int (XT.cmpL x y) :: st) H v H') : Runs K l Z n0 mi pc ls (.long y :: .long x :: st) H v H' := by
  obtain ⟨hd, rfl⟩ := hd
  exact Runs.pure (fun _ _ _ _ _ _ _ _ _ _ _ _ _ X hx hZ hc hown t h => XT.lcmp X.here hx rfl (hb hc hd) rfl h) kk
theorem r_ineg {x : Int32} (hd : decode mi.2.1 pc = .ok (.ineg, 1) ∧ pc + 1 = np) (kk : Runs K l Z n0 mi np ls (.int (-x) :: st) H v H') : Runs K l Z n0 mi pc ls (.int x :: st) H v H' := by
  obtain ⟨hd, rfl⟩ := hd
  exact Runs.pure (fun _ _ _ _ _ _ _ _ _ _ _ _ _ X hx hZ hc hown t h => XS.ineg X.here hx rfl (hb hc hd) rfl h) kk
theorem r_lneg {x : Int64} (hd : decode mi.2.1 pc = .ok (.lneg, 1) ∧ pc + 1 = np) (kk : Runs K l Z n0 mi np ls (.long (-x) :: st) H v H') : Runs K l Z n0 mi pc ls (.long x :: st) H v H' := by
  obtain ⟨hd, rfl⟩ := hd
  exact Runs.pure (fun _ _ _ _ _ _ _ _ _ _ _ _ _ X hx hZ hc hown t h => XT.lneg X.here hx rfl (hb hc hd) rfl h) kk
theorem r_i2l {x : Int32} (hd : decode mi.2.1 pc = .ok (.i2l, 1) ∧ pc + 1 = np) (kk : Runs K l Z n0 mi np ls (.long x.toInt64 :: st) H v H') : Runs K l Z n0 mi pc ls (.int x :: st) H v H' := by
  obtain ⟨hd, rfl⟩ := hd
  exact Runs.pure (fun _ _ _ _ _ _ _ _ _ _ _ _ _ X hx hZ hc hown t h => XT.i2l X.here hx rfl (hb hc hd) rfl h) kk
theorem r_l2i {x : Int64} (hd : decode mi.2.1 pc = .ok (.l2i, 1) ∧ pc + 1 = np) (kk : Runs K l Z n0 mi np ls (.int x.toInt32 :: st) H v H') : Runs K l Z n0 mi pc ls (.long x :: st) H v H' := by
  obtain ⟨hd, rfl⟩ := hd
  exact Runs.pure (fun _ _ _ _ _ _ _ _ _ _ _ _ _ X hx hZ hc hown t h => XT.l2i X.here hx rfl (hb hc hd) rfl h) kk
theorem r_i2b {x : Int32} (hd : decode mi.2.1 pc = .ok (.i2b, 1) ∧ pc + 1 = np) (kk : Runs K l Z n0 mi np ls (.int x.toInt8.toInt32 :: st) H v H') : Runs K l Z n0 mi pc ls (.int x :: st) H v H' := by
  obtain ⟨hd, rfl⟩ := hd
  exact Runs.pure (fun _ _ _ _ _ _ _ _ _ _ _ _ _ X hx hZ hc hown t h => XT.i2b X.here hx rfl (hb hc hd) rfl h) kk
theorem r_i2s {x : Int32} (hd : decode mi.2.1 pc = .ok (.i2s, 1) ∧ pc + 1 = np) (kk : Runs K l Z n0 mi np ls (.int x.toInt16.toInt32 :: st) H v H') : Runs K l Z n0 mi pc ls (.int x :: st) H v H' := by
  obtain ⟨hd, rfl⟩ := hd
  exact Runs.pure (fun _ _ _ _ _ _ _ _ _ _ _ _ _ X hx hZ hc hown t h => XT.i2s X.here hx rfl (hb hc hd) rfl h) kk
theorem r_i2c {x : Int32} (hd : decode mi.2.1 pc = .ok (.i2c, 1) ∧ pc + 1 = np) (kk : Runs K l Z n0 mi np ls (.int x.toUInt32.toUInt16.toUInt32.toInt32 :: st) H v H') : Runs K l Z n0 mi pc ls (.int x :: st) H v H' := by
  obtain ⟨hd, rfl⟩ := hd
  exact Runs.pure (fun _ _ _ _ _ _ _ _ _ _ _ _ _ X hx hZ hc hown t h => XT.i2c X.here hx rfl (hb hc hd) rfl h) kk
theorem r_dup {x : Value} (hd : decode mi.2.1 pc = .ok (.dup, 1) ∧ pc + 1 = np) (hx1 : x.category = 1) (kk : Runs K l Z n0 mi np ls (x :: x :: st) H v H') : Runs K l Z n0 mi pc ls (x :: st) H v H' := by
  obtain ⟨hd, rfl⟩ := hd
  exact Runs.pure (fun _ _ _ _ _ _ _ _ _ _ _ _ _ X hx hZ hc hown t h => XS.dup X.here hx rfl (hb hc hd) rfl ((cat_sh _ _).trans hx1) h) kk
theorem r_pop {x : Value} (hd : decode mi.2.1 pc = .ok (.pop, 1) ∧ pc + 1 = np) (hx1 : x.category = 1) (kk : Runs K l Z n0 mi np ls st H v H') : Runs K l Z n0 mi pc ls (x :: st) H v H' := by
  obtain ⟨hd, rfl⟩ := hd
  exact Runs.pure (fun _ _ _ _ _ _ _ _ _ _ _ _ _ X hx hZ hc hown t h => XT.pop X.here hx rfl (hb hc hd) rfl ((cat_sh _ _).trans hx1) h) kk
theorem r_dupX1 {x y : Value} (hd : decode mi.2.1 pc = .ok (.dup_x1, 1) ∧ pc + 1 = np) (hx1 : x.category = 1) (hy1 : y.category = 1) (kk : Runs K l Z n0 mi np ls (x :: y :: x :: st) H v H') : Runs K l Z n0 mi pc ls (x :: y :: st) H v H' := by
  obtain ⟨hd, rfl⟩ := hd
  exact Runs.pure (fun _ _ _ _ _ _ _ _ _ _ _ _ _ X hx hZ hc hown t h => XT.dupX1 X.here hx rfl (hb hc hd) rfl ((cat_sh _ _).trans hx1) ((cat_sh _ _).trans hy1) h) kk
theorem r_dup2 {x y : Value} (hd : decode mi.2.1 pc = .ok (.dup2, 1) ∧ pc + 1 = np) (hx1 : x.category = 1) (hy1 : y.category = 1) (kk : Runs K l Z n0 mi np ls (x :: y :: x :: y :: st) H v H') : Runs K l Z n0 mi pc ls (x :: y :: st) H v H' := by
  obtain ⟨hd, rfl⟩ := hd
  exact Runs.pure (fun _ _ _ _ _ _ _ _ _ _ _ _ _ X hx hZ hc hown t h => XT.dup2 X.here hx rfl (hb hc hd) rfl ((cat_sh _ _).trans hx1) ((cat_sh _ _).trans hy1) h) kk
theorem r_dup2L {x : Int64} (hd : decode mi.2.1 pc = .ok (.dup2, 1) ∧ pc + 1 = np) (kk : Runs K l Z n0 mi np ls (.long x :: .long x :: st) H v H') : Runs K l Z n0 mi pc ls (.long x :: st) H v H' := by
  obtain ⟨hd, rfl⟩ := hd
  exact Runs.pure (fun _ _ _ _ _ _ _ _ _ _ _ _ _ X hx hZ hc hown t h => XT.dup2L X.here hx rfl (hb hc hd) rfl h) kk
theorem r_aconstNull  (hd : decode mi.2.1 pc = .ok (.aconst_null, 1) ∧ pc + 1 = np) (kk : Runs K l Z n0 mi np ls (.null :: st) H v H') : Runs K l Z n0 mi pc ls st H v H' := by
  obtain ⟨hd, rfl⟩ := hd
  exact Runs.pure (fun _ _ _ _ _ _ _ _ _ _ _ _ _ X hx hZ hc hown t h => XS.aconstNull X.here hx rfl (hb hc hd) h) kk
theorem r_iconst {i : Int} {x : Int32} (hd : decode mi.2.1 pc = .ok (.iconst i, 1) ∧ pc + 1 = np ∧ Int32.ofInt i = x) (kk : Runs K l Z n0 mi np ls (.int x :: st) H v H') : Runs K l Z n0 mi pc ls st H v H' := by
  obtain ⟨hd, rfl, hx0⟩ := hd
  exact Runs.pure (fun _ _ _ _ _ _ _ _ _ _ _ _ _ X hx hZ hc hown t h => XT.iconstV X.here hx rfl x (hb hc hd) hx0 h) kk
theorem r_bipush {i : Int} {x : Int32} (hd : decode mi.2.1 pc = .ok (.bipush i, 2) ∧ pc + 2 = np ∧ (Int8.ofInt i).toInt32 = x) (kk : Runs K l Z n0 mi np ls (.int x :: st) H v H') : Runs K l Z n0 mi pc ls st H v H' := by
  obtain ⟨hd, rfl, hx0⟩ := hd
  exact Runs.pure (fun _ _ _ _ _ _ _ _ _ _ _ _ _ X hx hZ hc hown t h => XT.bipushV X.here hx rfl x (hb hc hd) hx0 h) kk
theorem r_sipush {i : Int} {x : Int32} (hd : decode mi.2.1 pc = .ok (.sipush i, 3) ∧ pc + 3 = np ∧ (Int16.ofInt i).toInt32 = x) (kk : Runs K l Z n0 mi np ls (.int x :: st) H v H') : Runs K l Z n0 mi pc ls st H v H' := by
  obtain ⟨hd, rfl, hx0⟩ := hd
  exact Runs.pure (fun _ _ _ _ _ _ _ _ _ _ _ _ _ X hx hZ hc hown t h => XT.sipushV X.here hx rfl x (hb hc hd) hx0 h) kk
theorem r_lconst {i : Fin 2} {x : Int64} (hd : decode mi.2.1 pc = .ok (.lconst i, 1) ∧ pc + 1 = np ∧ Int64.ofNat i = x) (kk : Runs K l Z n0 mi np ls (.long x :: st) H v H') : Runs K l Z n0 mi pc ls st H v H' := by
  obtain ⟨hd, rfl, hx0⟩ := hd
  exact Runs.pure (fun _ _ _ _ _ _ _ _ _ _ _ _ _ X hx hZ hc hown t h => XT.lconstV X.here hx rfl x (hb hc hd) hx0 h) kk
theorem r_ldc {i : Nat} {x : Int32} (hd : decode mi.2.1 pc = .ok (.ldc i, 2) ∧ pc + 2 = np) (w : (Jvm.Cond.constant mi.1.cls i x).before a0 Z = true) (kk : Runs K l Z n0 mi np ls (.int x :: st) H v H') : Runs K l Z n0 mi pc ls st H v H' := by
  obtain ⟨hd, rfl⟩ := hd
  exact Runs.pure (fun _ _ _ _ _ _ _ _ _ _ _ _ _ X hx hZ hc hown t h => X.ldcI hx hown (mv hZ w) rfl (hb hc hd) h) kk
theorem r_ldcW {i : Nat} {x : Int32} (hd : decode mi.2.1 pc = .ok (.ldc_w i, 3) ∧ pc + 3 = np) (w : (Jvm.Cond.constant mi.1.cls i x).before a0 Z = true) (kk : Runs K l Z n0 mi np ls (.int x :: st) H v H') : Runs K l Z n0 mi pc ls st H v H' := by
  obtain ⟨hd, rfl⟩ := hd
  exact Runs.pure (fun _ _ _ _ _ _ _ _ _ _ _ _ _ X hx hZ hc hown t h => X.ldcWI hx hown (mv hZ w) rfl (hb hc hd) h) kk
theorem r_ldc2 {i : Nat} {x : Int64} (hd : decode mi.2.1 pc = .ok (.ldc2_w i, 3) ∧ pc + 3 = np) (w : (Jvm.Cond.constantLong mi.1.cls i x).before a0 Z = true) (kk : Runs K l Z n0 mi np ls (.long x :: st) H v H') : Runs K l Z n0 mi pc ls st H v H' := by
  obtain ⟨hd, rfl⟩ := hd
  exact Runs.pure (fun _ _ _ _ _ _ _ _ _ _ _ _ _ X hx hZ hc hown t h => X.ldc2J hx hown (mv hZ w) rfl (hb hc hd) h) kk
theorem r_iinc {k : Nat} {i : Int} {x y : Int32} (hd : decode mi.2.1 pc = .ok (.iinc k i, 3) ∧ pc + 3 = np ∧ Int32.ofInt i = y) (hl : ls[k]? = some (.val (.int x))) (hs : ls.set k (.val (.int (x + y))) = ls') (kk : Runs K l Z n0 mi np ls' st H v H') : Runs K l Z n0 mi pc ls st H v H' := by
  obtain ⟨hd, rfl, hx0⟩ := hd
  exact Runs.pure (fun _ _ _ _ _ _ _ _ _ _ _ _ _ X hx hZ hc hown t h => XT.iincV X.here hx rfl y (hb hc hd) hx0 (loc_at hl) (st1 (P1_int hl) rfl hs) h) kk
theorem r_goto  {o : Int} (hd : decode mi.2.1 pc = .ok (.goto o, 3) ∧ pc + 3 = np ∧ 0 ≤ (pc : Int) + o ∧ ((pc : Int) + o).toNat = tp) (kk : Runs K l Z n0 mi tp ls st H v H') : Runs K l Z n0 mi pc ls st H v H' := by
  obtain ⟨hd, hn, h1, h2⟩ := hd
  exact Runs.pure (fun _ _ _ _ _ _ _ _ _ _ _ _ _ X hx hZ hc hown t h => XS.goto X.here hx rfl rfl (hb hc hd) h1 h2 h) kk
theorem r_ifT {cd : ClassFile.Cond} {x : Int32} {o : Int} (hd : decode mi.2.1 pc = .ok (.ifCond cd o, 3) ∧ pc + 3 = np ∧ 0 ≤ (pc : Int) + o ∧ ((pc : Int) + o).toNat = tp) (hq : ifCond.holds cd x = true) (kk : Runs K l Z n0 mi tp ls st H v H') : Runs K l Z n0 mi pc ls (.int x :: st) H v H' := by
  obtain ⟨hd, hn, h1, h2⟩ := hd
  exact Runs.pure (fun _ _ _ _ _ _ _ _ _ _ _ _ _ X hx hZ hc hown t h => XS.ifYes X.here hx rfl rfl (hb hc hd) rfl hq h1 h2 h) kk
theorem r_ifF {cd : ClassFile.Cond} {x : Int32} {o : Int} (hd : decode mi.2.1 pc = .ok (.ifCond cd o, 3) ∧ pc + 3 = np ∧ 0 ≤ (pc : Int) + o ∧ ((pc : Int) + o).toNat = tp) (hq : ifCond.holds cd x = false) (kk : Runs K l Z n0 mi np ls st H v H') : Runs K l Z n0 mi pc ls (.int x :: st) H v H' := by
  obtain ⟨hd, rfl, h1, h2⟩ := hd
  exact Runs.pure (fun _ _ _ _ _ _ _ _ _ _ _ _ _ X hx hZ hc hown t h => XS.ifNo X.here hx rfl (hb hc hd) rfl hq h) kk
theorem r_icT {cd : ClassFile.Cond} {x y : Int32} {o : Int} (hd : decode mi.2.1 pc = .ok (.if_icmp cd o, 3) ∧ pc + 3 = np ∧ 0 ≤ (pc : Int) + o ∧ ((pc : Int) + o).toNat = tp) (hq : if_icmp.holds cd x y = true) (kk : Runs K l Z n0 mi tp ls st H v H') : Runs K l Z n0 mi pc ls (.int y :: .int x :: st) H v H' := by
  obtain ⟨hd, hn, h1, h2⟩ := hd
  exact Runs.pure (fun _ _ _ _ _ _ _ _ _ _ _ _ _ X hx hZ hc hown t h => XS.icmpYes X.here hx rfl rfl (hb hc hd) rfl hq h1 h2 h) kk
theorem r_icF {cd : ClassFile.Cond} {x y : Int32} {o : Int} (hd : decode mi.2.1 pc = .ok (.if_icmp cd o, 3) ∧ pc + 3 = np ∧ 0 ≤ (pc : Int) + o ∧ ((pc : Int) + o).toNat = tp) (hq : if_icmp.holds cd x y = false) (kk : Runs K l Z n0 mi np ls st H v H') : Runs K l Z n0 mi pc ls (.int y :: .int x :: st) H v H' := by
  obtain ⟨hd, rfl, h1, h2⟩ := hd
  exact Runs.pure (fun _ _ _ _ _ _ _ _ _ _ _ _ _ X hx hZ hc hown t h => XS.icmpNo X.here hx rfl (hb hc hd) rfl hq h) kk
theorem r_nullT  {o : Int} (hd : decode mi.2.1 pc = .ok (.ifnull o, 3) ∧ pc + 3 = np ∧ 0 ≤ (pc : Int) + o ∧ ((pc : Int) + o).toNat = tp) (kk : Runs K l Z n0 mi tp ls st H v H') : Runs K l Z n0 mi pc ls (.null :: st) H v H' := by
  obtain ⟨hd, hn, h1, h2⟩ := hd
  exact Runs.pure (fun _ _ _ _ _ _ _ _ _ _ _ _ _ X hx hZ hc hown t h => XS.ifnullYes X.here hx rfl rfl (hb hc hd) rfl h1 h2 h) kk
theorem r_nullF {a : Addr} {o : Int} (hd : decode mi.2.1 pc = .ok (.ifnull o, 3) ∧ pc + 3 = np ∧ 0 ≤ (pc : Int) + o ∧ ((pc : Int) + o).toNat = tp) (kk : Runs K l Z n0 mi np ls st H v H') : Runs K l Z n0 mi pc ls (.ref a :: st) H v H' := by
  obtain ⟨hd, rfl, h1, h2⟩ := hd
  exact Runs.pure (fun _ _ _ _ _ _ _ _ _ _ _ _ _ X hx hZ hc hown t h => XS.ifnullNo X.here hx rfl (hb hc hd) rfl h) kk
theorem r_nonnullT {a : Addr} {o : Int} (hd : decode mi.2.1 pc = .ok (.ifnonnull o, 3) ∧ pc + 3 = np ∧ 0 ≤ (pc : Int) + o ∧ ((pc : Int) + o).toNat = tp) (kk : Runs K l Z n0 mi tp ls st H v H') : Runs K l Z n0 mi pc ls (.ref a :: st) H v H' := by
  obtain ⟨hd, hn, h1, h2⟩ := hd
  exact Runs.pure (fun _ _ _ _ _ _ _ _ _ _ _ _ _ X hx hZ hc hown t h => XT.ifnonnullYes X.here hx rfl rfl (hb hc hd) rfl h1 h2 h) kk
theorem r_nonnullF  {o : Int} (hd : decode mi.2.1 pc = .ok (.ifnonnull o, 3) ∧ pc + 3 = np ∧ 0 ≤ (pc : Int) + o ∧ ((pc : Int) + o).toNat = tp) (kk : Runs K l Z n0 mi np ls st H v H') : Runs K l Z n0 mi pc ls (.null :: st) H v H' := by
  obtain ⟨hd, rfl, h1, h2⟩ := hd
  exact Runs.pure (fun _ _ _ _ _ _ _ _ _ _ _ _ _ X hx hZ hc hown t h => XT.ifnonnullNo X.here hx rfl (hb hc hd) rfl h) kk
/-- a step that may turn the heap -/
theorem Runs.heap {st2 : List Value} (m1 : H.length ≤ H1.length) (m2 : szs K H ≤ szs K H1) (hstep : ∀ (p : Program) (e : Env) (R : Room) (s : State) (m : MethodId) (args : Array Value) (below : List Frame) (meth : Method) (c : Code) (T : State) (locs : List Loc) (cells slots : Nat),
      Stand p l e R s m args below meth c T locs cells slots → p.tables.exec = Jvm.exec → Z.Warmed39 s.vm → c.code = mi.2.1 → c.maxLocals = mi.2.2.1 → s.vm.findClass mi.1.cls = some m.cls → meth.name = mi.1.name → Rel K Z n0 H T.heap → Fr n0 locs → mi.2.2.2.2.1 ≤ R.frames → mi.2.2.2.2.2 ≤ R.locals →
      s.heap.size + cells = n0 + H.length → cells + H1.length ≤ R.cells + H.length → slots + szs K H1 ≤ R.slots + szs K H →
      ∃ (T1 : State) (locs1 : List Loc) (cells1 slots1 : Nat), Stand p l e R s m args below meth c T1 locs1 cells1 slots1 ∧ Rel K Z n0 H1 T1.heap ∧ Fr n0 locs1 ∧ s.heap.size + cells1 = n0 + H1.length ∧ slots1 + szs K H ≤ slots + szs K H1 ∧
        ∀ target, Steps p.tables e below (T1.setTop (mkF m np (ls'.map (shS n0)).toArray (st2.map (shV n0)))) target → Steps p.tables e below (T.setTop (mkF m pc (ls.map (shS n0)).toArray (st.map (shV n0)))) target)
    (k : Runs K l Z n0 mi np ls' st2 H1 v H') : Runs K l Z n0 mi pc ls st H v H' := by
  have k1 := k.1
  have k2 := k.2.1
  refine ⟨Nat.le_trans m1 k1, Nat.le_trans m2 k2, fun p e R s m args below meth c T locs cells slots X hx hZ hc hml hret hown hnm hrel hfr hf hlo hsz hcl hsl => ?_⟩
  obtain ⟨T1, locs1, cells1, slots1, X1, rel1, fr1, hc1, hs1, st1⟩ := hstep p e R s m args below meth c T locs cells slots X hx hZ hc hml hown hnm hrel hfr hf hlo hsz (by omega) (by omega)
  obtain ⟨T', locs', cells', slots', X', rel', fr', hc', hs', stp⟩ := k.2.2 p e R s m args below meth c T1 locs1 cells1 slots1 X1 hx hZ hc hml hret hown hnm rel1 fr1 hf hlo hc1 (by omega) (by omega)
  exact ⟨T', locs', cells', slots', X', rel', fr', hc', by omega, fun fs hr => st1 _ (stp fs hr)⟩
theorem r_ret {x : Value} {t : FieldType} {i : Instr} (hd : decode mi.2.1 pc = .ok (i, 1)) (hret : mi.2.2.2.1 = some t) (hn : narrow t x = x)
    (hi : (i = .ireturn ∧ (t = .int ∨ t = .boolean ∨ t = .byte ∨ t = .char ∨ t = .short) ∧ ∃ z, x = .int z) ∨ (i = .lreturn ∧ t = .long ∧ ∃ z, x = .long z) ∨ (i = .areturn ∧ t.isReference = true ∧ x.isRef = true)) : Runs K l Z n0 mi pc ls (x :: st) H (some x) H := by
  refine ⟨Nat.le_refl _, Nat.le_refl _, fun p e R s m args below meth c T locs cells slots X hx hZ hc hml hret' hown hnm hrel hfr hf hlo hsz hcl hsl => ⟨T, locs, cells, slots, X, hrel, hfr, hsz, Nat.le_refl _, fun fs hr => ?_⟩⟩
  have hn' : narrow t (shV n0 x) = shV n0 x := by
    rcases hi with ⟨-, -, z, rfl⟩ | ⟨-, -, z, rfl⟩ | ⟨-, -, q⟩
    · exact hn
    · exact hn
    · cases x <;> first | (cases q; done) | (cases t <;> rfl)
  refine retOut X hx (hret'.trans hret) hn' ?_ (hb hc hd) hr
  rcases hi with ⟨h1, h2, z, rfl⟩ | ⟨h1, h2, z, rfl⟩ | ⟨h1, h2, q⟩
  · exact Or.inl ⟨h1, h2, z, rfl⟩
  · exact Or.inr (Or.inl ⟨h1, h2, z, rfl⟩)
  · exact Or.inr (Or.inr (Or.inr (Or.inr ⟨h1, h2, isRef_sh q⟩)))
theorem r_ireturn {z : Int32} (hd : decode mi.2.1 pc = .ok (.ireturn, 1)) (hret : mi.2.2.2.1 = some .int) : Runs K l Z n0 mi pc ls (.int z :: st) H (some (.int z)) H := r_ret hd hret rfl (Or.inl ⟨rfl, Or.inl rfl, z, rfl⟩)
theorem r_ireturnE {z z' : Int32} (hd : decode mi.2.1 pc = .ok (.ireturn, 1)) (hret : mi.2.2.2.1 = some .int) (h : z = z') : Runs K l Z n0 mi pc ls (.int z :: st) H (some (.int z')) H := h ▸ r_ireturn hd hret
theorem r_zreturn {z : Int32} (hd : decode mi.2.1 pc = .ok (.ireturn, 1)) (hret : mi.2.2.2.1 = some .boolean) (hz : z = 0 ∨ z = 1) : Runs K l Z n0 mi pc ls (.int z :: st) H (some (.int z)) H := r_ret hd hret (by rcases hz with rfl | rfl <;> rfl) (Or.inl ⟨rfl, Or.inr (Or.inl rfl), z, rfl⟩)
theorem r_lreturn {z : Int64} (hd : decode mi.2.1 pc = .ok (.lreturn, 1)) (hret : mi.2.2.2.1 = some .long) : Runs K l Z n0 mi pc ls (.long z :: st) H (some (.long z)) H := r_ret hd hret rfl (Or.inr (Or.inl ⟨rfl, rfl, z, rfl⟩))
theorem r_areturn {x : Value} {t : FieldType} (hd : decode mi.2.1 pc = .ok (.areturn, 1)) (hret : mi.2.2.2.1 = some t) (ht : t.isReference = true) (hx : x.isRef = true) : Runs K l Z n0 mi pc ls (x :: st) H (some x) H := r_ret hd hret (by cases x <;> first | (cases hx; done) | (cases t <;> rfl)) (Or.inr (Or.inr ⟨rfl, ht, hx⟩))
theorem r_return (hd : decode mi.2.1 pc = .ok (.return_, 1)) (hret : mi.2.2.2.1 = none) : Runs K l Z n0 mi pc ls [] H none H := by
  refine ⟨Nat.le_refl _, Nat.le_refl _, fun p e R s m args below meth c T locs cells slots X hx hZ hc hml hret' hown hnm hrel hfr hf hlo hsz hcl hsl => ⟨T, locs, cells, slots, X, hrel, hfr, hsz, Nat.le_refl _, fun fs hr => ?_⟩⟩
  exact X.returnOut hx (hret'.trans hret) (hb hc hd) hr
theorem r_tswIn {dflt low high o : Int} {offs : Array Int} {len : Nat} {i : Int32} (hd : decode mi.2.1 pc = .ok (.tableswitch dflt low high offs, len)) (hin : ¬ (i.toInt < low ∨ i.toInt > high)) (hoff : offs[(i.toInt - low).toNat]? = some o) (ho : 0 ≤ (pc : Int) + o) (hp : ((pc : Int) + o).toNat = tp)
    (kk : Runs K l Z n0 mi tp ls st H v H') : Runs K l Z n0 mi pc ls (.int i :: st) H v H' :=
  Runs.pure (fun _ _ _ _ _ _ _ _ _ _ _ _ _ X hx hZ hc hown t h => XS.tswIn X.here hx rfl rfl (hb hc hd) rfl hin hoff ho hp h) kk
theorem r_tswOut {dflt low high : Int} {offs : Array Int} {len : Nat} {i : Int32} (hd : decode mi.2.1 pc = .ok (.tableswitch dflt low high offs, len)) (hout : i.toInt < low ∨ i.toInt > high) (ho : 0 ≤ (pc : Int) + dflt) (hp : ((pc : Int) + dflt).toNat = tp)
    (kk : Runs K l Z n0 mi tp ls st H v H') : Runs K l Z n0 mi pc ls (.int i :: st) H v H' :=
  Runs.pure (fun _ _ _ _ _ _ _ _ _ _ _ _ _ X hx hZ hc hown t h => XS.tswOut X.here hx rfl rfl (hb hc hd) rfl hout ho hp h) kk
/-! ### the heap -/
theorem OOk.ext {h h' : Heap} {a : Addr} {o : Ob} (E : Ext h h') (q : OOk K Z n0 h a o) : OOk K Z n0 h' a o := by
  cases o with
  | inl o => obtain ⟨ci, h1, h2, h3⟩ := q; exact ⟨ci, h1, h2.ext E, fun i f v a b => (h3 i f v a b).ext E⟩
  | inr o => obtain ⟨cl, h1, h2⟩ := q; exact ⟨cl, h1.ext E, h2⟩
theorem OOk.other {h h' : Heap} {a b : Addr} {sl : Nat} {x : Value} {o : Ob} (W : Wr h h' b sl x) (ne : a ≠ b) (q : OOk K Z n0 h a o) : OOk K Z n0 h' a o := by
  cases o with
  | inl o => obtain ⟨ci, h1, h2, h3⟩ := q; exact ⟨ci, h1, h2.wr W, fun i f v a b => (h3 i f v a b).other W (Or.inl ne)⟩
  | inr o => obtain ⟨cl, h1, h2⟩ := q; exact ⟨cl, h1.other W ne, h2⟩
theorem Rel.push {h h' : Heap} {o : Ob} (r : Rel K Z n0 H h) (E : Ext h h') (hs : h'.size = h.size + 1) (ho : OOk K Z n0 h' h.size o) : Rel K Z n0 (H ++ [o]) h' := by
  refine ⟨by rw [hs, r.1, List.length_append]; rfl, fun k q hk => ?_⟩
  by_cases hl : k < H.length
  · rw [List.getElem?_append_left hl] at hk; exact (r.2 k q hk).ext E
  · rw [List.getElem?_append_right (Nat.le_of_not_lt hl)] at hk
    have e : k - H.length = 0 := by
      cases hq : k - H.length with
      | zero => rfl
      | succ j => rw [hq] at hk; simp at hk
    rw [e] at hk
    simp at hk
    subst hk
    have : k = H.length := by omega
    subst this
    rw [← r.1]; exact ho
theorem Rel.put {h h' : Heap} {o : Ob} {a sl : Nat} {x : Value} (r : Rel K Z n0 H h) (W : Wr h h' (n0 + a) sl x) (ha : a < H.length) (ho : OOk K Z n0 h' (n0 + a) o) : Rel K Z n0 (H.set a o) h' := by
  refine ⟨by rw [W.size, r.1, List.length_set], fun k q hk => ?_⟩
  by_cases e : a = k
  · subst e
    rw [List.getElem?_set_self ha] at hk
    cases hk; exact ho
  · rw [List.getElem?_set_ne e] at hk
    exact (r.2 k q hk).other W (fun z => e (Nat.add_left_cancel z).symm)
theorem map_set_same {α β : Type} (f : α → β) : ∀ (H : List α) (a : Nat) (o o' : α), H[a]? = some o' → f o = f o' → (H.set a o).map f = H.map f
  | [], _, _, _, h, _ => by simp at h
  | x :: r, 0, o, o', h, e => by simp at h; subst h; simp [e]
  | x :: r, a + 1, o, o', h, e => by simp at h; simp [map_set_same f r a o o' h e]
theorem szs_set {a : Nat} {o o' : Ob} (h : H[a]? = some o') (e : osz K o = osz K o') : szs K (H.set a o) = szs K H := by unfold szs; rw [map_set_same (osz K) H a o o' h e]
theorem szs_push {o : Ob} : szs K (H ++ [o]) = szs K H + osz K o := by simp [szs]
theorem lt_of_at {α : Type} {L : List α} {a : Nat} {o : α} (h : L[a]? = some o) : a < L.length := (List.getElem?_eq_some_iff.mp h).1
theorem nar_sh {t : FieldType} {x : Value} (h : narrow t x = x) : narrow t (shV n0 x) = shV n0 x := by cases x <;> first | exact h | (cases t <;> rfl)
theorem fits_sh {t : FieldType} {x : Value} (h : fits t x = true) : fits t (shV n0 x) = true := by cases x <;> first | exact h | (cases t <;> first | rfl | cases h)
theorem sh_dflt (ty : FieldType) : shV n0 (defaultValue ty) = defaultValue ty := by cases ty <;> rfl
theorem r_getF {a cid i idx : Nat} {vs : List Value} {ci : CI} {f : FI} {x : Value} {R0 : String} (hd : decode mi.2.1 pc = .ok (.getfield idx, 3) ∧ pc + 3 = np) (w : (Jvm.Cond.fieldLink mi.1.cls idx R0 f.2.1 f.2.2.1).before a0 Z = true) (via : Via Z R0 f.1 f.2.1 f.2.2.1) (hci : K[cid]? = some ci) (hf : ci.2.2[i]? = some f)
    (ho : H[a]? = some (.inl (cid, vs))) (hv : vs[i]? = some x) (kk : Runs K l Z n0 mi np ls (x :: st) H v H') : Runs K l Z n0 mi pc ls (.ref a :: st) H v H' := by
  obtain ⟨hd, rfl⟩ := hd
  refine Runs.heap (Nat.le_refl _) (Nat.le_refl _) (fun p e R s m args below meth c T locs cells slots X hx hZ hc hml hown hnm hrel hfr hf' hlo hsz hcl hsl => ?_) kk
  obtain ⟨ci', q1, E, F⟩ := hrel.2 a _ ho
  cases hci.symm.trans q1
  obtain ⟨T1, X1, e1, st1⟩ := getF X hx hZ hown (host := "") (Or.inl w) via rfl (F i f x hf hv) (g := mkF m pc (ls.map (shS n0)).toArray (.ref (n0 + a) :: st.map (shV n0))) rfl rfl (hb hc hd)
  exact ⟨T1, _, _, _, X1, by rw [e1]; exact hrel, hfr, hsz, Nat.le_refl _, st1⟩
theorem r_putF {a cid i idx : Nat} {vs vs' : List Value} {ci : CI} {f : FI} {x : Value} {R0 : String} (hK : KOk K Z a0) (hd : decode mi.2.1 pc = .ok (.putfield idx, 3) ∧ pc + 3 = np) (w : (Jvm.Cond.fieldLink mi.1.cls idx R0 f.2.1 f.2.2.1).before a0 Z = true) (via : Via Z R0 f.1 f.2.1 f.2.2.1) (hci : K[cid]? = some ci) (hf : ci.2.2[i]? = some f)
    (L : (Jvm.Cond.lays ci.1 f.1 f.2.1 f.2.2.1).before a0 Z = true ∨ ((Jvm.Cond.laysFinal ci.1 f.1 f.2.1 f.2.2.1).before a0 Z = true ∧ mi.1.cls = f.1 ∧ mi.1.name = "<init>"))
    (ho : H[a]? = some (.inl (cid, vs))) (hi : i < vs.length) (hn : narrow f.2.2.2 x = x) (hft : fits f.2.2.2 x = true) (hvs : vs.set i x = vs') (hH : H.set a (.inl (cid, vs')) = H1) (kk : Runs K l Z n0 mi np ls st H1 v H') : Runs K l Z n0 mi pc ls (x :: .ref a :: st) H v H' := by
  obtain ⟨hd, rfl⟩ := hd
  subst hvs hH
  have ha := lt_of_at ho
  have es : szs K (H.set a (.inl (cid, vs.set i x))) = szs K H := szs_set ho rfl
  refine Runs.heap (by rw [List.length_set]; exact Nat.le_refl _) (by rw [es]; exact Nat.le_refl _) (fun p e R s m args below meth c T locs cells slots X hx hZ hc hml hown hnm hrel hfr hf' hlo hsz hcl hsl => ?_) kk
  obtain ⟨ci', q1, E, F⟩ := hrel.2 a _ ho
  cases hci.symm.trans q1
  obtain ⟨kk1, kk2, kk3⟩ := hK cid ci hci
  have hfm : f ∈ ci.2.2 := List.mem_of_getElem? hf
  obtain ⟨T1, h1, X1, e1, W1, st1⟩ := putF X hx hZ hown (host := "") (Or.inl w) via rfl (F i f _ hf (List.getElem?_eq_getElem hi)) E (L.imp id fun q => ⟨q.1, q.2.1, hnm.trans q.2.2⟩) kk1 (kk2 f hfm).2 (nar_sh hn) (fits_sh hft)
    (g := mkF m pc (ls.map (shS n0)).toArray (shV n0 x :: .ref (n0 + a) :: st.map (shV n0))) rfl rfl (hb hc hd)
  refine ⟨T1, _, _, _, X1, ?_, Fr.snoc X1 hfr (Nat.le_add_right _ _), by rw [List.length_set]; exact hsz, by rw [es]; exact Nat.le_refl _, st1⟩
  rw [e1]
  refine hrel.put W1 ha ⟨ci, hci, E.wr W1, fun j g y hg hy => ?_⟩
  by_cases ji : i = j
  · subst ji
    cases hf.symm.trans hg
    rw [List.getElem?_set_self hi] at hy
    cases hy
    exact (F i f _ hf (List.getElem?_eq_getElem hi)).same W1
  · rw [List.getElem?_set_ne ji] at hy
    have hgm : g ∈ ci.2.2 := List.mem_of_getElem? hg
    refine (F j g y hg hy).other W1 (Or.inr (slot_ne (kk2 g hgm).1 (kk2 f hfm).1 ?_ (kk2 g hgm).2 (kk2 f hfm).2))
    obtain ⟨li, ei⟩ := List.getElem?_eq_some_iff.mp hf
    obtain ⟨lj, ej⟩ := List.getElem?_eq_some_iff.mp hg
    have pw := List.pairwise_iff_getElem.mp kk3
    rcases Nat.lt_or_gt_of_ne ji with q | q
    · have := pw i j li lj q; rw [ei, ej] at this; exact fun z => this z.symm
    · have := pw j i lj li q; rw [ei, ej] at this; exact this
theorem r_new {a cid idx : Nat} {ci : CI} {o : List Value} (hK : KOk K Z a0) (hd : decode mi.2.1 pc = .ok (.new idx, 3) ∧ pc + 3 = np) (w : (Jvm.Cond.classLink mi.1.cls idx ci.1).before a0 Z = true) (wz : (Jvm.Cond.initialized ci.1).before a0 Z = true) (hci : K[cid]? = some ci)
    (ho : ci.2.2.map (fun f => defaultValue f.2.2.2) = o) (ha : H.length = a) (hH : H ++ [.inl (cid, o)] = H1) (kk : Runs K l Z n0 mi np ls (.ref a :: st) H1 v H') : Runs K l Z n0 mi pc ls st H v H' := by
  obtain ⟨hd, rfl⟩ := hd
  subst ho ha hH
  obtain ⟨kk1, kk2, kk3⟩ := hK cid ci hci
  have es : osz K (.inl (cid, ci.2.2.map (fun f => defaultValue f.2.2.2))) = ci.2.1 := by show ((K[cid]?).map (fun ci => ci.2.1)).getD 0 = _; rw [hci]; rfl
  refine Runs.heap (by simp) (by rw [szs_push]; exact Nat.le_add_right _ _) (fun p e R s m args below meth c T locs cells slots X hx hZ hc hml hown hnm hrel hfr hf' hlo hsz hcl hsl => ?_) kk
  rw [szs_push, es] at hsl
  simp only [List.length_append, List.length_cons, List.length_nil] at hcl
  obtain ⟨T1, h1, X1, e1, E1, A1, D1, -, st1⟩ := newO X hx hZ hown w kk1 wz rfl (g := mkF m pc (ls.map (shS n0)).toArray (st.map (shV n0))) rfl (hb hc hd) (by omega) (by omega)
  have hs1 := X1.heapSize
  have hlt : T.heap.size < h1.size := A1.lt
  have hh := hrel.1
  rw [e1] at hs1
  refine ⟨T1, _, _, _, X1, ?_, hfr, by simp only [List.length_append, List.length_cons, List.length_nil]; omega, by rw [szs_push, es]; omega, fun t q => st1 t ?_⟩
  · rw [e1]
    refine hrel.push E1 (by omega) ⟨ci, hci, A1, fun i f x hf hx => ?_⟩
    have hfm : f ∈ ci.2.2 := List.mem_of_getElem? hf
    rw [List.getElem?_map, hf] at hx
    cases hx
    show Fld Z h1 T.heap.size f.1 f.2.1 f.2.2.1 (shV n0 (defaultValue f.2.2.2))
    rw [sh_dflt]
    exact D1 (kk2 f hfm).1 (kk2 f hfm).2
  · show Steps _ _ _ (T1.setTop (mkF m (pc + 3) _ (.ref T.heap.size :: _))) t
    rw [hh]; exact q
theorem toNat_of {n : Int32} (h : ¬ n < 0) : n.toNatClampNeg < 2 ^ 31 := (back32 h).2
theorem r_newA {a : Nat} {n : Int32} {aty : ArrayType} {o : List Value} (hd : decode mi.2.1 pc = .ok (.newarray aty, 2) ∧ pc + 2 = np) (w : (Jvm.Cond.arrayClass (newarray.typeOf aty)).before a0 Z = true) (hn : ¬ n < 0) (hb8 : n.toNatClampNeg * 8 ≤ 536870912)
    (ho : List.replicate n.toNatClampNeg (defaultValue (newarray.typeOf aty)) = o) (ha : H.length = a) (hH : H ++ [.inr (newarray.typeOf aty, o)] = H1) (kk : Runs K l Z n0 mi np ls (.ref a :: st) H1 v H') : Runs K l Z n0 mi pc ls (.int n :: st) H v H' := by
  obtain ⟨hd, rfl⟩ := hd
  subst ho ha hH
  have es : osz K (.inr (newarray.typeOf aty, List.replicate n.toNatClampNeg (defaultValue (newarray.typeOf aty)))) = n.toNatClampNeg := by show (List.replicate _ _).length = _; simp
  refine Runs.heap (by simp) (by rw [szs_push]; exact Nat.le_add_right _ _) (fun p e R s m args below meth c T locs cells slots X hx hZ hc hml hown hnm hrel hfr hf' hlo hsz hcl hsl => ?_) kk
  rw [szs_push, es] at hsl
  simp only [List.length_append, List.length_cons, List.length_nil] at hcl
  obtain ⟨T1, h1, cA, X1, e1, E1, A1, st1⟩ := newP X hx hZ w rfl (g := mkF m pc (ls.map (shS n0)).toArray (.int n :: st.map (shV n0))) rfl (hb hc hd) rfl hn (cap := n.toNatClampNeg) (Nat.le_refl _) hb8 (by omega) (by omega)
  have hs1 := X1.heapSize
  have hlt : T.heap.size < h1.size := A1.lt
  have hh := hrel.1
  rw [e1] at hs1
  refine ⟨T1, _, _, _, X1, ?_, hfr, by simp only [List.length_append, List.length_cons, List.length_nil]; omega, by rw [szs_push, es]; omega, fun t q => st1 t ?_⟩
  · rw [e1]
    refine hrel.push E1 (by omega) ⟨_, A1, by rw [sz_new]; simp, by simpa using toNat_of hn, fun i x hx => ?_⟩
    rw [List.getElem?_replicate] at hx
    split at hx
    · rename_i hi
      cases hx
      have q1 : (newA cA (newarray.typeOf aty) n).slots[i]? = some (defaultValue (newarray.typeOf aty)) := by simp [newA, hi]
      exact ⟨by rw [q1]; cases newarray.typeOf aty <;> rfl, by cases newarray.typeOf aty <;> rfl⟩
    · cases hx
  · show Steps _ _ _ (T1.setTop (mkF m (pc + 2) _ (.ref T.heap.size :: _))) t
    rw [hh]; exact q
theorem fits_byte (x : Int32) : fits .byte (.int x.toInt8.toInt32) = true := by
  have h1 : (x.toInt8.toInt32).toInt = x.toInt8.toInt := Int8.toInt_toInt32 _
  have h2 := x.toInt8.toInt_lt
  have h3 := x.toInt8.le_toInt
  have e1 : (-128 : Int32).toInt = -128 := by decide
  have e2 : (127 : Int32).toInt = 127 := by decide
  simp only [fits, Bool.and_eq_true, decide_eq_true_eq]
  rw [Int32.le_iff_toInt_le, Int32.le_iff_toInt_le, h1, e1, e2]
  omega
/-- the int j names the place i -/
def Ix (j : Int32) (i : Nat) : Prop := ¬ j < 0 ∧ j.toNatClampNeg = i
theorem r_len {a : Nat} {ty : FieldType} {vs : List Value} {n : Int32} (hd : decode mi.2.1 pc = .ok (.arraylength, 1) ∧ pc + 1 = np) (ho : H[a]? = some (.inr (ty, vs))) (hn : vs.length.toInt32 = n) (kk : Runs K l Z n0 mi np ls (.int n :: st) H v H') : Runs K l Z n0 mi pc ls (.ref a :: st) H v H' := by
  obtain ⟨hd, rfl⟩ := hd
  subst hn
  refine Runs.heap (Nat.le_refl _) (Nat.le_refl _) (fun p e R s m args below meth c T locs cells slots X hx hZ hc hml hown hnm hrel hfr hf' hlo hsz hcl hsl => ?_) kk
  obtain ⟨cl, A, hs, hl, hv⟩ := hrel.2 a _ ho
  refine ⟨T, _, _, _, X, hrel, hfr, hsz, Nat.le_refl _, fun t q => ?_⟩
  refine X.arraylength hx A.1 (State.isArrayOf_alike hZ.alike A.2.1) (g := mkF m pc (ls.map (shS n0)).toArray (.ref (n0 + a) :: st.map (shV n0))) rfl rfl (hb hc hd) _ ?_
  rw [hs]; exact q
theorem r_iaload {a i : Nat} {vs : List Value} {j : Int32} {x : Value} (hd : decode mi.2.1 pc = .ok (.iaload, 1) ∧ pc + 1 = np) (ho : H[a]? = some (.inr (.int, vs))) (hj : Ix j i) (hv : vs[i]? = some x) (kk : Runs K l Z n0 mi np ls (x :: st) H v H') : Runs K l Z n0 mi pc ls (.int j :: .ref a :: st) H v H' := by
  obtain ⟨hd, rfl⟩ := hd
  obtain ⟨hj0, rfl⟩ := hj
  refine Runs.heap (Nat.le_refl _) (Nat.le_refl _) (fun p e R s m args below meth c T locs cells slots X hx hZ hc hml hown hnm hrel hfr hf' hlo hsz hcl hsl => ?_) kk
  obtain ⟨cl, A, hs, hl, hvs⟩ := hrel.2 a _ ho
  have hi := lt_of_at hv
  refine ⟨T, _, _, _, X, hrel, hfr, hsz, Nat.le_refl _, fun t q => ?_⟩
  exact X.iaload hx (j := j) (v := shV n0 x) A.1 (State.isArrayOf_alike hZ.alike A.2.1) A.2.2 (fun z => z.elim hj0 (fun q => by rw [hs] at q; omega)) (hvs _ _ hv).1 (g := mkF m pc (ls.map (shS n0)).toArray (.int j :: .ref (n0 + a) :: st.map (shV n0))) rfl rfl (hb hc hd) _ q
theorem r_laload {a i : Nat} {vs : List Value} {j : Int32} {x : Value} (hd : decode mi.2.1 pc = .ok (.laload, 1) ∧ pc + 1 = np) (ho : H[a]? = some (.inr (.long, vs))) (hj : Ix j i) (hv : vs[i]? = some x) (kk : Runs K l Z n0 mi np ls (x :: st) H v H') : Runs K l Z n0 mi pc ls (.int j :: .ref a :: st) H v H' := by
  obtain ⟨hd, rfl⟩ := hd
  obtain ⟨hj0, rfl⟩ := hj
  refine Runs.heap (Nat.le_refl _) (Nat.le_refl _) (fun p e R s m args below meth c T locs cells slots X hx hZ hc hml hown hnm hrel hfr hf' hlo hsz hcl hsl => ?_) kk
  obtain ⟨cl, A, hs, hl, hvs⟩ := hrel.2 a _ ho
  have hi := lt_of_at hv
  refine ⟨T, _, _, _, X, hrel, hfr, hsz, Nat.le_refl _, fun t q => ?_⟩
  exact X.laload hx (j := j) (v := shV n0 x) A.1 (State.isArrayOf_alike hZ.alike A.2.1) A.2.2 (fun z => z.elim hj0 (fun q => by rw [hs] at q; omega)) (hvs _ _ hv).1 (g := mkF m pc (ls.map (shS n0)).toArray (.int j :: .ref (n0 + a) :: st.map (shV n0))) rfl rfl (hb hc hd) _ q
theorem r_baload {a i : Nat} {vs : List Value} {j : Int32} {x : Value} (hd : decode mi.2.1 pc = .ok (.baload, 1) ∧ pc + 1 = np) (ho : H[a]? = some (.inr (.byte, vs))) (hj : Ix j i) (hv : vs[i]? = some x) (kk : Runs K l Z n0 mi np ls (x :: st) H v H') : Runs K l Z n0 mi pc ls (.int j :: .ref a :: st) H v H' := by
  obtain ⟨hd, rfl⟩ := hd
  obtain ⟨hj0, rfl⟩ := hj
  refine Runs.heap (Nat.le_refl _) (Nat.le_refl _) (fun p e R s m args below meth c T locs cells slots X hx hZ hc hml hown hnm hrel hfr hf' hlo hsz hcl hsl => ?_) kk
  obtain ⟨cl, A, hs, hl, hvs⟩ := hrel.2 a _ ho
  have hi := lt_of_at hv
  refine ⟨T, _, _, _, X, hrel, hfr, hsz, Nat.le_refl _, fun t q => ?_⟩
  exact X.baloadBytes hx (j := j) (v := shV n0 x) A.1 (State.isArrayOf_alike hZ.alike A.2.1) A.2.2 (fun z => z.elim hj0 (fun q => by rw [hs] at q; omega)) (hvs _ _ hv).1 (g := mkF m pc (ls.map (shS n0)).toArray (.int j :: .ref (n0 + a) :: st.map (shV n0))) rfl rfl (hb hc hd) _ q
theorem r_caload {a i : Nat} {vs : List Value} {j : Int32} {x : Value} (hd : decode mi.2.1 pc = .ok (.caload, 1) ∧ pc + 1 = np) (ho : H[a]? = some (.inr (.char, vs))) (hj : Ix j i) (hv : vs[i]? = some x) (kk : Runs K l Z n0 mi np ls (x :: st) H v H') : Runs K l Z n0 mi pc ls (.int j :: .ref a :: st) H v H' := by
  obtain ⟨hd, rfl⟩ := hd
  obtain ⟨hj0, rfl⟩ := hj
  refine Runs.heap (Nat.le_refl _) (Nat.le_refl _) (fun p e R s m args below meth c T locs cells slots X hx hZ hc hml hown hnm hrel hfr hf' hlo hsz hcl hsl => ?_) kk
  obtain ⟨cl, A, hs, hl, hvs⟩ := hrel.2 a _ ho
  have hi := lt_of_at hv
  refine ⟨T, _, _, _, X, hrel, hfr, hsz, Nat.le_refl _, fun t q => ?_⟩
  exact X.caload hx (j := j) (v := shV n0 x) A.1 (State.isArrayOf_alike hZ.alike A.2.1) A.2.2 (fun z => z.elim hj0 (fun q => by rw [hs] at q; omega)) (hvs _ _ hv).1 (g := mkF m pc (ls.map (shS n0)).toArray (.int j :: .ref (n0 + a) :: st.map (shV n0))) rfl rfl (hb hc hd) _ q
theorem r_iastore {a i : Nat} {vs vs' : List Value} {j : Int32} {x : Int32} (hd : decode mi.2.1 pc = .ok (.iastore, 1) ∧ pc + 1 = np) (ho : H[a]? = some (.inr (.int, vs))) (hj : Ix j i) (hi : i < vs.length) (hvs : vs.set i (.int x) = vs') (hH : H.set a (.inr (.int, vs')) = H1) (kk : Runs K l Z n0 mi np ls st H1 v H') : Runs K l Z n0 mi pc ls (.int x :: .int j :: .ref a :: st) H v H' := by
  obtain ⟨hd, rfl⟩ := hd
  obtain ⟨hj0, rfl⟩ := hj
  subst hvs hH
  have ha := lt_of_at ho
  have es : szs K (H.set a (.inr (.int, vs.set j.toNatClampNeg (.int x)))) = szs K H := szs_set ho (by show (List.set _ _ _).length = _; simp [osz])
  refine Runs.heap (by rw [List.length_set]; exact Nat.le_refl _) (by rw [es]; exact Nat.le_refl _) (fun p e R s m args below meth c T locs cells slots X hx hZ hc hml hown hnm hrel hfr hf' hlo hsz hcl hsl => ?_) kk
  obtain ⟨cl, A, hs, hl, hvs⟩ := hrel.2 a _ ho
  have hin : ¬ (j < 0 ∨ cl.slots.size ≤ j.toNatClampNeg) := fun z => z.elim hj0 (fun q => by rw [hs] at q; omega)
  obtain ⟨T1, h1, X1, e1, W1, st1⟩ := stI X hx hZ rfl A hin (g := mkF m pc (ls.map (shS n0)).toArray (.int x :: .int j :: .ref (n0 + a) :: st.map (shV n0))) rfl rfl (hb hc hd)
  refine ⟨T1, _, _, _, X1, ?_, Fr.snoc X1 hfr (Nat.le_add_right _ _), by rw [List.length_set]; exact hsz, by rw [es]; exact Nat.le_refl _, st1⟩
  rw [e1]
  refine hrel.put W1 ha ⟨_, A.same W1, by rw [sz_set, hs, List.length_set], by rw [List.length_set]; exact hl, fun k y hy => ?_⟩
  by_cases e : j.toNatClampNeg = k
  · subst e
    rw [List.getElem?_set_self hi] at hy
    cases hy
    exact ⟨by simp [Cell.setSlot, hs, hi, shV, nar], rfl⟩
  · rw [List.getElem?_set_ne e] at hy
    refine ⟨?_, (hvs k y hy).2⟩
    exact (Array.getElem?_setIfInBounds_ne e).trans (hvs k y hy).1
theorem r_lastore {a i : Nat} {vs vs' : List Value} {j : Int32} {x : Int64} (hd : decode mi.2.1 pc = .ok (.lastore, 1) ∧ pc + 1 = np) (ho : H[a]? = some (.inr (.long, vs))) (hj : Ix j i) (hi : i < vs.length) (hvs : vs.set i (.long x) = vs') (hH : H.set a (.inr (.long, vs')) = H1) (kk : Runs K l Z n0 mi np ls st H1 v H') : Runs K l Z n0 mi pc ls (.long x :: .int j :: .ref a :: st) H v H' := by
  obtain ⟨hd, rfl⟩ := hd
  obtain ⟨hj0, rfl⟩ := hj
  subst hvs hH
  have ha := lt_of_at ho
  have es : szs K (H.set a (.inr (.long, vs.set j.toNatClampNeg (.long x)))) = szs K H := szs_set ho (by show (List.set _ _ _).length = _; simp [osz])
  refine Runs.heap (by rw [List.length_set]; exact Nat.le_refl _) (by rw [es]; exact Nat.le_refl _) (fun p e R s m args below meth c T locs cells slots X hx hZ hc hml hown hnm hrel hfr hf' hlo hsz hcl hsl => ?_) kk
  obtain ⟨cl, A, hs, hl, hvs⟩ := hrel.2 a _ ho
  have hin : ¬ (j < 0 ∨ cl.slots.size ≤ j.toNatClampNeg) := fun z => z.elim hj0 (fun q => by rw [hs] at q; omega)
  obtain ⟨T1, h1, X1, e1, W1, st1⟩ := stJ X hx hZ rfl A hin (g := mkF m pc (ls.map (shS n0)).toArray (.long x :: .int j :: .ref (n0 + a) :: st.map (shV n0))) rfl rfl (hb hc hd)
  refine ⟨T1, _, _, _, X1, ?_, Fr.snoc X1 hfr (Nat.le_add_right _ _), by rw [List.length_set]; exact hsz, by rw [es]; exact Nat.le_refl _, st1⟩
  rw [e1]
  refine hrel.put W1 ha ⟨_, A.same W1, by rw [sz_set, hs, List.length_set], by rw [List.length_set]; exact hl, fun k y hy => ?_⟩
  by_cases e : j.toNatClampNeg = k
  · subst e
    rw [List.getElem?_set_self hi] at hy
    cases hy
    exact ⟨by simp [Cell.setSlot, hs, hi, shV, nar], rfl⟩
  · rw [List.getElem?_set_ne e] at hy
    refine ⟨?_, (hvs k y hy).2⟩
    exact (Array.getElem?_setIfInBounds_ne e).trans (hvs k y hy).1
theorem r_bastore {a i : Nat} {vs vs' : List Value} {j : Int32} {x : Int32} (hd : decode mi.2.1 pc = .ok (.bastore, 1) ∧ pc + 1 = np) (ho : H[a]? = some (.inr (.byte, vs))) (hj : Ix j i) (hi : i < vs.length) (hvs : vs.set i (.int x.toInt8.toInt32) = vs') (hH : H.set a (.inr (.byte, vs')) = H1) (kk : Runs K l Z n0 mi np ls st H1 v H') : Runs K l Z n0 mi pc ls (.int x :: .int j :: .ref a :: st) H v H' := by
  obtain ⟨hd, rfl⟩ := hd
  obtain ⟨hj0, rfl⟩ := hj
  subst hvs hH
  have ha := lt_of_at ho
  have es : szs K (H.set a (.inr (.byte, vs.set j.toNatClampNeg (.int x.toInt8.toInt32)))) = szs K H := szs_set ho (by show (List.set _ _ _).length = _; simp [osz])
  refine Runs.heap (by rw [List.length_set]; exact Nat.le_refl _) (by rw [es]; exact Nat.le_refl _) (fun p e R s m args below meth c T locs cells slots X hx hZ hc hml hown hnm hrel hfr hf' hlo hsz hcl hsl => ?_) kk
  obtain ⟨cl, A, hs, hl, hvs⟩ := hrel.2 a _ ho
  have hin : ¬ (j < 0 ∨ cl.slots.size ≤ j.toNatClampNeg) := fun z => z.elim hj0 (fun q => by rw [hs] at q; omega)
  obtain ⟨T1, h1, X1, e1, W1, st1⟩ := stB X hx hZ rfl A hin (g := mkF m pc (ls.map (shS n0)).toArray (.int x :: .int j :: .ref (n0 + a) :: st.map (shV n0))) rfl rfl (hb hc hd)
  refine ⟨T1, _, _, _, X1, ?_, Fr.snoc X1 hfr (Nat.le_add_right _ _), by rw [List.length_set]; exact hsz, by rw [es]; exact Nat.le_refl _, st1⟩
  rw [e1]
  refine hrel.put W1 ha ⟨_, A.same W1, by rw [sz_set, hs, List.length_set], by rw [List.length_set]; exact hl, fun k y hy => ?_⟩
  by_cases e : j.toNatClampNeg = k
  · subst e
    rw [List.getElem?_set_self hi] at hy
    cases hy
    exact ⟨by simp [Cell.setSlot, hs, hi, shV, nar], fits_byte x⟩
  · rw [List.getElem?_set_ne e] at hy
    refine ⟨?_, (hvs k y hy).2⟩
    exact (Array.getElem?_setIfInBounds_ne e).trans (hvs k y hy).1
/-! ### calls -/
theorem map_toList (w : Option Value) (rest : List Value) : ((w.toList ++ rest).map (shV n0)) = (w.map (shV n0)).toList ++ rest.map (shV n0) := by cases w <;> simp
theorem r_initO {a idx : Nat} (hd : decode mi.2.1 pc = .ok (.invokespecial idx, 3) ∧ pc + 3 = np) (w1 : (Jvm.Cond.methodLink mi.1.cls idx Lib.objectInit).before a0 Z = true) (w2 : (Jvm.Cond.instanceMethod Lib.objectInit).before a0 Z = true) (w3 : (Jvm.Cond.code Lib.objectInit ⟨#[0xb1]⟩ 1 none).before a0 Z = true)
    (hls : ls.length = mi.2.2.1) (hf : 1 ≤ mi.2.2.2.2.1) (hlo : (st.map fun v => v.category).sum + 12 ≤ mi.2.2.2.2.2) (kk : Runs K l Z n0 mi np ls st H v H') : Runs K l Z n0 mi pc ls (.ref a :: st) H v H' := by
  obtain ⟨hd, rfl⟩ := hd
  refine Runs.heap (Nat.le_refl _) (Nat.le_refl _) (fun p e R s m args below meth c T locs cells slots X hx hZ hc hml hown hnm hrel hfr hf' hlo' hsz hcl hsl => ?_) kk
  obtain ⟨T1, X1, e1, st1⟩ := initO X hx hZ hown w1 w2 w3 rfl (g := mkF m pc (ls.map (shS n0)).toArray (.ref (n0 + a) :: st.map (shV n0))) rfl (by rw [hml, ← hls]; simp) rfl (hb hc hd) (by omega) (W := (st.map fun v => v.category).sum) (by rw [cats_sh]; show 2 * 0 + _ ≤ _; omega) (by omega)
  exact ⟨T1, _, _, _, X1, by rw [e1]; exact hrel, hfr, hsz, Nat.le_refl _, st1⟩
theorem backM {mj : MI} {as : List Value} {w : Option Value} {h : Heap} {p : Program} {e : Env} {R : Room} {s : State} {args : Array Value} {below : List Frame} {len W : Nat} (M : Meets K l Z n0 mj as H w H1) (hrel : Rel K Z n0 H h) (hZ : Z.Warmed39 s.vm) (w4 : (Jvm.Cond.code mj.1 mj.2.1 mj.2.2.1 mj.2.2.2.1).before a0 Z = true) (w3 : (Jvm.Cond.initialized mj.1.cls).before a0 Z = true)
    (hf : mj.2.2.2.2.1 + 1 ≤ R.frames) (hl : W + (mj.2.2.1 + 11) + mj.2.2.2.2.2 ≤ R.locals) :
    Back l R p e below s args mj.1 len W (fun A a => a = (as.map (shV n0)).toArray ∧ A.U.heap = h ∧ A.cells + (H1.length - H.length) ≤ R.cells ∧ A.slots + (szs K H1 - szs K H) ≤ R.slots)
      (fun A _ v B => ∃ L, (v = w.map (shV n0) ∧ Rel K Z n0 H1 B.U.heap ∧ Fr n0 L) ∧ B.locs = A.locs ++ L ∧ B.cells = A.cells + (H1.length - H.length) ∧ B.slots = A.slots + (szs K H1 - szs K H)) :=
  backOf (rm := rmOf K mj H H1) (Q := fun v h L => v = w.map (shV n0) ∧ Rel K Z n0 H1 h ∧ Fr n0 L) (M.2.2 h hrel) hZ w4 w3 hf hl
theorem r_static {mj : MI} {as : List Value} {w : Option Value} {idx : Nat} (hd : decode mi.2.1 pc = .ok (.invokestatic idx, 3) ∧ pc + 3 = np) (w1 : (Jvm.Cond.methodLink mi.1.cls idx mj.1).before a0 Z = true) (w2 : (Jvm.Cond.static mj.1).before a0 Z = true) (w3 : (Jvm.Cond.initialized mj.1.cls).before a0 Z = true) (w4 : (Jvm.Cond.code mj.1 mj.2.1 mj.2.2.1 mj.2.2.2.1).before a0 Z = true)
    (hy : mj.1.cls ≠ "java/lang/invoke/MethodHandle" ∧ mj.1.cls ≠ "java/lang/invoke/VarHandle") (hlen : ∀ sig, parseMethodDescriptor mj.1.desc = some sig → as.length = sig.parameters.length) (hfr : mj.2.2.2.2.1 + 1 ≤ mi.2.2.2.2.1)
    (hst : as.reverse ++ rest = st) (hls : ls.length = mi.2.2.1) (hlo : (rest.map fun v => v.category).sum + (mj.2.2.1 + 11) + mj.2.2.2.2.2 ≤ mi.2.2.2.2.2)
    (M : Meets K l Z n0 mj as H w H1) (kk : Runs K l Z n0 mi np ls (w.toList ++ rest) H1 v H') : Runs K l Z n0 mi pc ls st H v H' := by
  obtain ⟨hd, rfl⟩ := hd
  subst hst
  have m1 := M.1
  have m2 := M.2.1
  refine Runs.heap m1 m2 (fun p e R s m args below meth c T locs cells slots X hx hZ hc hml hown hnm hrel hfr' hf' hlo' hsz hcl hsl => ?_) kk
  obtain ⟨_, _, ⟨T1, L1, k1, n1⟩, -, X1, ⟨Lc, hQ, l1, y1, z1⟩, st1⟩ := Jvm.LawKit.callS X hx (y := mj.1) hown (mvT hZ w1) (mvT hZ w2) (mvT hZ w3) (mvT hZ w4) hy
    (backM (W := (rest.map fun v => v.category).sum) M hrel hZ w4 w3 (by omega) (by omega))
    (g := mkF m pc (ls.map (shS n0)).toArray ((as.reverse ++ rest).map (shV n0))) rfl (by rw [hml, ← hls]; simp) (argsL := as.map (shV n0)) (rest := rest.map (shV n0)) (fun sig q => by rw [List.length_map]; exact hlen sig q) (by simp) (by rw [cats_sh]; show 2 * 0 + _ ≤ _; omega) (hb hc hd)
    (fun _ _ => ⟨rfl, rfl, (by show cells + (H1.length - H.length) ≤ _; omega), (by show slots + (szs K H1 - szs K H) ≤ _; omega)⟩)
  dsimp only [Pt.U, Pt.locs, Pt.cells, Pt.slots] at X1 l1 y1 z1 st1 hQ
  subst l1 y1 z1
  obtain ⟨rfl, R1, F1⟩ := hQ
  refine ⟨T1, _, _, _, X1, R1, Fr.app hfr' F1, by show s.heap.size + (cells + (H1.length - H.length)) = _; omega, by show slots + (szs K H1 - szs K H) + _ ≤ _; omega, fun t q => st1 t ?_⟩
  rw [map_toList] at q; exact q
theorem r_special {mj : MI} {as : List Value} {a idx : Nat} (hd : decode mi.2.1 pc = .ok (.invokespecial idx, 3) ∧ pc + 3 = np) (hy1 : mj.1.name = "<init>") (hr : mj.2.2.2.1 = none) (w1 : (Jvm.Cond.methodLink mi.1.cls idx mj.1).before a0 Z = true) (w2 : (Jvm.Cond.instanceMethod mj.1).before a0 Z = true) (w3 : (Jvm.Cond.initialized mj.1.cls).before a0 Z = true) (w4 : (Jvm.Cond.code mj.1 mj.2.1 mj.2.2.1 mj.2.2.2.1).before a0 Z = true)
    (hy : mj.1.cls ≠ "java/lang/invoke/MethodHandle" ∧ mj.1.cls ≠ "java/lang/invoke/VarHandle") (hlen : ∀ sig, parseMethodDescriptor mj.1.desc = some sig → as.length = sig.parameters.length) (hfr : mj.2.2.2.2.1 + 1 ≤ mi.2.2.2.2.1)
    (hst : as.reverse ++ .ref a :: rest = st) (hls : ls.length = mi.2.2.1) (hlo : (rest.map fun v => v.category).sum + (mj.2.2.1 + 11) + mj.2.2.2.2.2 ≤ mi.2.2.2.2.2)
    (M : Meets K l Z n0 mj (.ref a :: as) H none H1) (kk : Runs K l Z n0 mi np ls rest H1 v H') : Runs K l Z n0 mi pc ls st H v H' := by
  obtain ⟨hd, rfl⟩ := hd
  subst hst
  have m1 := M.1
  have m2 := M.2.1
  refine Runs.heap m1 m2 (fun p e R s m args below meth c T locs cells slots X hx hZ hc hml hown hnm hrel hfr' hf' hlo' hsz hcl hsl => ?_) kk
  have w4' := w4
  rw [hr] at w4'
  obtain ⟨_, _, ⟨T1, L1, k1, n1⟩, -, X1, ⟨Lc, hQ, l1, y1, z1⟩, st1⟩ := X.specialBack hx (y := mj.1) hy1 hown (mvT hZ w1) (mvT hZ w2) (mvT hZ w4') hy
    (backM (W := (rest.map fun v => v.category).sum) M hrel hZ w4 w3 (by omega) (by omega))
    (g := mkF m pc (ls.map (shS n0)).toArray ((as.reverse ++ .ref a :: rest).map (shV n0))) rfl (by rw [hml, ← hls]; simp) (Steps.refl _) (a := n0 + a) (argsL := as.map (shV n0)) (rest := rest.map (shV n0)) (fun sig q => by rw [List.length_map]; exact hlen sig q) (by simp [shV]) (by rw [cats_sh]; show 2 * 0 + _ ≤ _; omega) (hb hc hd)
    (fun _ _ => ⟨rfl, rfl, (by show cells + (H1.length - H.length) ≤ _; omega), (by show slots + (szs K H1 - szs K H) ≤ _; omega)⟩)
  dsimp only [Pt.U, Pt.locs, Pt.cells, Pt.slots] at X1 l1 y1 z1 st1 hQ
  subst l1 y1 z1
  obtain ⟨rfl, R1, F1⟩ := hQ
  exact ⟨T1, _, _, _, X1, R1, Fr.app hfr' F1, by show s.heap.size + (cells + (H1.length - H.length)) = _; omega, by show slots + (szs K H1 - szs K H) + _ ≤ _; omega, fun t q => st1.trans q⟩
theorem r_virtual {mj : MI} {as : List Value} {w : Option Value} {a cid idx : Nat} {ci : CI} {vs : List Value} (hd : decode mi.2.1 pc = .ok (.invokevirtual idx, 3) ∧ pc + 3 = np) (w1 : (Jvm.Cond.methodLink mi.1.cls idx mj.1).before a0 Z = true) (w2 : (Jvm.Cond.declares mj.1).before a0 Z = true) (w5 : (Jvm.Cond.selects ci.1 mj.1 mj.1).before a0 Z = true) (w6 : (Jvm.Cond.instanceMethod mj.1).before a0 Z = true) (w3 : (Jvm.Cond.initialized mj.1.cls).before a0 Z = true) (w4 : (Jvm.Cond.code mj.1 mj.2.1 mj.2.2.1 mj.2.2.2.1).before a0 Z = true)
    (hy : mj.1.cls ≠ "java/lang/invoke/MethodHandle" ∧ mj.1.cls ≠ "java/lang/invoke/VarHandle") (hlen : ∀ sig, parseMethodDescriptor mj.1.desc = some sig → as.length = sig.parameters.length) (hfr : mj.2.2.2.2.1 + 1 ≤ mi.2.2.2.2.1) (hci : K[cid]? = some ci)
    (hst : as.reverse ++ .ref a :: rest = st) (ho : H[a]? = some (.inl (cid, vs))) (hls : ls.length = mi.2.2.1) (hlo : (rest.map fun v => v.category).sum + (mj.2.2.1 + 11) + mj.2.2.2.2.2 ≤ mi.2.2.2.2.2)
    (M : Meets K l Z n0 mj (.ref a :: as) H w H1) (kk : Runs K l Z n0 mi np ls (w.toList ++ rest) H1 v H') : Runs K l Z n0 mi pc ls st H v H' := by
  obtain ⟨hd, rfl⟩ := hd
  subst hst
  have m1 := M.1
  have m2 := M.2.1
  refine Runs.heap m1 m2 (fun p e R s m args below meth c T locs cells slots X hx hZ hc hml hown hnm hrel hfr' hf' hlo' hsz hcl hsl => ?_) kk
  obtain ⟨ci', q1, E, F⟩ := hrel.2 a _ ho
  cases hci.symm.trans q1
  obtain ⟨cq, kq, qa, qb, qc⟩ := isOf hZ rfl E
  obtain ⟨_, _, ⟨T1, L1, k1, n1⟩, -, X1, ⟨Lc, hQ, l1, y1, z1⟩, st1⟩ := X.virtualBack hx (y := mj.1) (z := mj.1) hown (mvT hZ w1) (mvT hZ w2) (notFace_of_selects (args := #[]) (mvT hZ w5)) (mvT hZ w5) (mvT hZ w6) hy
    (backM (W := (rest.map fun v => v.category).sum) M hrel hZ w4 w3 (by omega) (by omega)) qa qc
    (g := mkF m pc (ls.map (shS n0)).toArray ((as.reverse ++ .ref a :: rest).map (shV n0))) rfl (by rw [hml, ← hls]; simp) (Steps.refl _) (argsL := as.map (shV n0)) (rest := rest.map (shV n0)) (fun sig q => by rw [List.length_map]; exact hlen sig q) (by simp [shV]) (by rw [cats_sh]; show 2 * 0 + _ ≤ _; omega) (hb hc hd)
    (fun _ _ => ⟨rfl, rfl, (by show cells + (H1.length - H.length) ≤ _; omega), (by show slots + (szs K H1 - szs K H) ≤ _; omega)⟩)
  dsimp only [Pt.U, Pt.locs, Pt.cells, Pt.slots] at X1 l1 y1 z1 st1 hQ
  subst l1 y1 z1
  obtain ⟨rfl, R1, F1⟩ := hQ
  refine ⟨T1, _, _, _, X1, R1, Fr.app hfr' F1, by show s.heap.size + (cells + (H1.length - H.length)) = _; omega, by show slots + (szs K H1 - szs K H) + _ ≤ _; omega, fun t q => st1.trans ?_⟩
  rw [map_toList] at q; exact q
theorem r_private {mj : MI} {as : List Value} {w : Option Value} {a cid idx : Nat} {ci : CI} {vs : List Value} (hd : decode mi.2.1 pc = .ok (.invokevirtual idx, 3) ∧ pc + 3 = np) (w1 : (Jvm.Cond.methodLink mi.1.cls idx mj.1).before a0 Z = true) (w5 : (Jvm.Cond.selects mj.1.cls mj.1 mj.1).before a0 Z = true) (w7 : (Jvm.Cond.privateMethod mj.1).before a0 Z = true) (w6 : (Jvm.Cond.instanceMethod mj.1).before a0 Z = true) (w3 : (Jvm.Cond.initialized mj.1.cls).before a0 Z = true) (w4 : (Jvm.Cond.code mj.1 mj.2.1 mj.2.2.1 mj.2.2.2.1).before a0 Z = true)
    (hy : mj.1.cls ≠ "java/lang/invoke/MethodHandle" ∧ mj.1.cls ≠ "java/lang/invoke/VarHandle") (hlen : ∀ sig, parseMethodDescriptor mj.1.desc = some sig → as.length = sig.parameters.length) (hfr : mj.2.2.2.2.1 + 1 ≤ mi.2.2.2.2.1) (hci : K[cid]? = some ci)
    (hst : as.reverse ++ .ref a :: rest = st) (ho : H[a]? = some (.inl (cid, vs))) (hls : ls.length = mi.2.2.1) (hlo : (rest.map fun v => v.category).sum + (mj.2.2.1 + 11) + mj.2.2.2.2.2 ≤ mi.2.2.2.2.2)
    (M : Meets K l Z n0 mj (.ref a :: as) H w H1) (kk : Runs K l Z n0 mi np ls (w.toList ++ rest) H1 v H') : Runs K l Z n0 mi pc ls st H v H' := by
  obtain ⟨hd, rfl⟩ := hd
  subst hst
  have m1 := M.1
  have m2 := M.2.1
  refine Runs.heap m1 m2 (fun p e R s m args below meth c T locs cells slots X hx hZ hc hml hown hnm hrel hfr' hf' hlo' hsz hcl hsl => ?_) kk
  obtain ⟨ci', q1, E, F⟩ := hrel.2 a _ ho
  cases hci.symm.trans q1
  obtain ⟨cq, qa, qc⟩ := E.cell
  obtain ⟨_, _, ⟨T1, L1, k1, n1⟩, -, X1, ⟨Lc, hQ, l1, y1, z1⟩, st1⟩ := X.privateBack hx (y := mj.1) hown (mvT hZ w1) (mvT hZ w6) (mvT hZ w5) (Cond.privateMethod_at (mvP hZ w7 (args := #[]))) (mvT hZ w4) hy
    (backM (W := (rest.map fun v => v.category).sum) M hrel hZ w4 w3 (by omega) (by omega))
    (g := mkF m pc (ls.map (shS n0)).toArray ((as.reverse ++ .ref a :: rest).map (shV n0))) rfl (by rw [hml, ← hls]; simp) (Steps.refl _) (a := n0 + a) qa qc (argsL := as.map (shV n0)) (rest := rest.map (shV n0)) (fun sig q => by rw [List.length_map]; exact hlen sig q) (by simp [shV]) (by rw [cats_sh]; show 2 * 0 + _ ≤ _; omega) (hb hc hd)
    (fun _ _ => ⟨rfl, rfl, (by show cells + (H1.length - H.length) ≤ _; omega), (by show slots + (szs K H1 - szs K H) ≤ _; omega)⟩)
  dsimp only [Pt.U, Pt.locs, Pt.cells, Pt.slots] at X1 l1 y1 z1 st1 hQ
  subst l1 y1 z1
  obtain ⟨rfl, R1, F1⟩ := hQ
  refine ⟨T1, _, _, _, X1, R1, Fr.app hfr' F1, by show s.heap.size + (cells + (H1.length - H.length)) = _; omega, by show slots + (szs K H1 - szs K H) + _ ≤ _; omega, fun t q => st1.trans ?_⟩
  rw [map_toList] at q; exact q
end Logic
abbrev HW (Z : State) (a0 : Array Value) : Prop := ∀ d ∈ tables_1, d.before a0 Z = true
def K : List CI := []
theorem allL0 {α : Type} {P : α → Prop} : ∀ x ∈ ([] : List α), P x := fun _ q => nomatch q
theorem allLS {α : Type} {P : α → Prop} {y : α} {L : List α} (q : P y) (r : ∀ x ∈ L, P x) : ∀ x ∈ y :: L, P x := fun x z => (List.mem_cons.mp z).elim (fun u => u ▸ q) (r x)
theorem kok {Z : State} {a0 : Array Value} (hw : HW Z a0) : KOk K Z a0 := by
  intro k ci h
  simp [K] at h
def m0 : MI := (x, code, 5, some .boolean, 2, 27)
def m1 : MI := (⟨"dev/lyewire/xml/XmlNames", "isNameChar", "(I)Z"⟩, prog_81_method_17_code, 1, some .boolean, 1, 12)
def m2 : MI := (⟨"dev/lyewire/xml/XmlNames", "isNameStartChar", "(I)Z"⟩, prog_81_method_16_code, 1, some .boolean, 0, 0)
def m3 : MI := (⟨"dev/lyewire/xml/XmlNamesIsNameCharPinLaw", "reference", "(I)Z"⟩, method_3_code, 1, some .boolean, 1, 14)
def m4 : MI := (⟨"dev/lyewire/xml/XmlNamesIsNameCharPinLaw", "in", "(III)Z"⟩, method_2_code, 3, some .boolean, 0, 0)
theorem pd0 : parseMethodDescriptor "(II)Z" = some ⟨[.int, .int], some .boolean⟩ := by decide +kernel
theorem pf0 : plainFor m0.1 = true := by first | exact plainFor_of_name (by first | (simp [m0, x, plainName, overriddenIn]; done) | decide +kernel) | decide +kernel
theorem pd1 : parseMethodDescriptor "(I)Z" = some ⟨[.int], some .boolean⟩ := by decide +kernel
theorem pf1 : plainFor m1.1 = true := by first | exact plainFor_of_name (by first | (simp [m1, x, plainName, overriddenIn]; done) | decide +kernel) | decide +kernel
theorem pd2 : parseMethodDescriptor "(I)Z" = some ⟨[.int], some .boolean⟩ := by decide +kernel
theorem pf2 : plainFor m2.1 = true := by first | exact plainFor_of_name (by first | (simp [m2, x, plainName, overriddenIn]; done) | decide +kernel) | decide +kernel
theorem pd3 : parseMethodDescriptor "(I)Z" = some ⟨[.int], some .boolean⟩ := by decide +kernel
theorem pf3 : plainFor m3.1 = true := by first | exact plainFor_of_name (by first | (simp [m3, x, plainName, overriddenIn]; done) | decide +kernel) | decide +kernel
theorem pd4 : parseMethodDescriptor "(III)Z" = some ⟨[.int, .int, .int], some .boolean⟩ := by decide +kernel
theorem pf4 : plainFor m4.1 = true := by first | exact plainFor_of_name (by first | (simp [m4, x, plainName, overriddenIn]; done) | decide +kernel) | decide +kernel
theorem i0_0 : decode m0.2.1 0 = .ok (.iload_n 1, 1) ∧ 0 + 1 = 1 := ⟨by decide +kernel, rfl⟩
theorem i0_1 : decode m0.2.1 1 = .ok (.iconst 3, 1) ∧ 1 + 1 = 2 ∧ Int32.ofInt 3 = 3 := ⟨by decide +kernel, rfl, by decide⟩
theorem i0_2 : decode m0.2.1 2 = .ok (.iand, 1) ∧ 2 + 1 = 3 := ⟨by decide +kernel, rfl⟩
theorem i0_3 : decode m0.2.1 3 = .ok (.istore_n 2, 1) ∧ 3 + 1 = 4 := ⟨by decide +kernel, rfl⟩
theorem i0_4 : decode m0.2.1 4 = .ok (.iload_n 2, 1) ∧ 4 + 1 = 5 := ⟨by decide +kernel, rfl⟩
theorem i0_5 : decode m0.2.1 5 = .ok (.ifCond .ne 8, 3) ∧ 5 + 3 = 8 ∧ 0 ≤ ((5 : Nat) : Int) + 8 ∧ (((5 : Nat) : Int) + 8).toNat = 13 := ⟨by decide +kernel, rfl, by decide, by decide⟩
theorem i0_8 : decode m0.2.1 8 = .ok (.iload_n 0, 1) ∧ 8 + 1 = 9 := ⟨by decide +kernel, rfl⟩
theorem i0_9 : decode m0.2.1 9 = .ok (.istore_n 3, 1) ∧ 9 + 1 = 10 := ⟨by decide +kernel, rfl⟩
theorem i0_10 : decode m0.2.1 10 = .ok (.goto 34, 3) ∧ 10 + 3 = 13 ∧ 0 ≤ ((10 : Nat) : Int) + 34 ∧ (((10 : Nat) : Int) + 34).toNat = 44 := ⟨by decide +kernel, rfl, by decide, by decide⟩
theorem i0_13 : decode m0.2.1 13 = .ok (.iload_n 2, 1) ∧ 13 + 1 = 14 := ⟨by decide +kernel, rfl⟩
theorem i0_14 : decode m0.2.1 14 = .ok (.iconst 1, 1) ∧ 14 + 1 = 15 ∧ Int32.ofInt 1 = 1 := ⟨by decide +kernel, rfl, by decide⟩
theorem i0_15 : decode m0.2.1 15 = .ok (.if_icmp .ne 11, 3) ∧ 15 + 3 = 18 ∧ 0 ≤ ((15 : Nat) : Int) + 11 ∧ (((15 : Nat) : Int) + 11).toNat = 26 := ⟨by decide +kernel, rfl, by decide, by decide⟩
theorem i0_18 : decode m0.2.1 18 = .ok (.iload_n 0, 1) ∧ 18 + 1 = 19 := ⟨by decide +kernel, rfl⟩
theorem i0_19 : decode m0.2.1 19 = .ok (.bipush 127, 2) ∧ 19 + 2 = 21 ∧ (Int8.ofInt 127).toInt32 = 127 := ⟨by decide +kernel, rfl, by decide⟩
theorem i0_21 : decode m0.2.1 21 = .ok (.iand, 1) ∧ 21 + 1 = 22 := ⟨by decide +kernel, rfl⟩
theorem i0_22 : decode m0.2.1 22 = .ok (.istore_n 3, 1) ∧ 22 + 1 = 23 := ⟨by decide +kernel, rfl⟩
theorem i0_23 : decode m0.2.1 23 = .ok (.goto 21, 3) ∧ 23 + 3 = 26 ∧ 0 ≤ ((23 : Nat) : Int) + 21 ∧ (((23 : Nat) : Int) + 21).toNat = 44 := ⟨by decide +kernel, rfl, by decide, by decide⟩
theorem i0_26 : decode m0.2.1 26 = .ok (.iload_n 2, 1) ∧ 26 + 1 = 27 := ⟨by decide +kernel, rfl⟩
theorem i0_27 : decode m0.2.1 27 = .ok (.iconst 2, 1) ∧ 27 + 1 = 28 ∧ Int32.ofInt 2 = 2 := ⟨by decide +kernel, rfl, by decide⟩
theorem i0_28 : decode m0.2.1 28 = .ok (.if_icmp .ne 11, 3) ∧ 28 + 3 = 31 ∧ 0 ≤ ((28 : Nat) : Int) + 11 ∧ (((28 : Nat) : Int) + 11).toNat = 39 := ⟨by decide +kernel, rfl, by decide, by decide⟩
theorem i0_31 : decode m0.2.1 31 = .ok (.iload_n 0, 1) ∧ 31 + 1 = 32 := ⟨by decide +kernel, rfl⟩
theorem i0_32 : decode m0.2.1 32 = .ok (.ldc 20, 2) ∧ 32 + 2 = 34 := ⟨by decide +kernel, rfl⟩
theorem i0_34 : decode m0.2.1 34 = .ok (.iand, 1) ∧ 34 + 1 = 35 := ⟨by decide +kernel, rfl⟩
theorem i0_35 : decode m0.2.1 35 = .ok (.istore_n 3, 1) ∧ 35 + 1 = 36 := ⟨by decide +kernel, rfl⟩
theorem i0_36 : decode m0.2.1 36 = .ok (.goto 8, 3) ∧ 36 + 3 = 39 ∧ 0 ≤ ((36 : Nat) : Int) + 8 ∧ (((36 : Nat) : Int) + 8).toNat = 44 := ⟨by decide +kernel, rfl, by decide, by decide⟩
theorem i0_39 : decode m0.2.1 39 = .ok (.iload_n 0, 1) ∧ 39 + 1 = 40 := ⟨by decide +kernel, rfl⟩
theorem i0_40 : decode m0.2.1 40 = .ok (.ldc 21, 2) ∧ 40 + 2 = 42 := ⟨by decide +kernel, rfl⟩
theorem i0_42 : decode m0.2.1 42 = .ok (.iand, 1) ∧ 42 + 1 = 43 := ⟨by decide +kernel, rfl⟩
theorem i0_43 : decode m0.2.1 43 = .ok (.istore_n 3, 1) ∧ 43 + 1 = 44 := ⟨by decide +kernel, rfl⟩
theorem i0_44 : decode m0.2.1 44 = .ok (.iload_n 3, 1) ∧ 44 + 1 = 45 := ⟨by decide +kernel, rfl⟩
theorem i0_45 : decode m0.2.1 45 = .ok (.invokestatic 22, 3) ∧ 45 + 3 = 48 := ⟨by decide +kernel, rfl⟩
theorem i0_48 : decode m0.2.1 48 = .ok (.istore 4, 2) ∧ 48 + 2 = 50 := ⟨by decide +kernel, rfl⟩
theorem i0_50 : decode m0.2.1 50 = .ok (.iload 4, 2) ∧ 50 + 2 = 52 := ⟨by decide +kernel, rfl⟩
theorem i0_52 : decode m0.2.1 52 = .ok (.iload_n 3, 1) ∧ 52 + 1 = 53 := ⟨by decide +kernel, rfl⟩
theorem i0_53 : decode m0.2.1 53 = .ok (.invokestatic 28, 3) ∧ 53 + 3 = 56 := ⟨by decide +kernel, rfl⟩
theorem i0_56 : decode m0.2.1 56 = .ok (.if_icmp .eq 5, 3) ∧ 56 + 3 = 59 ∧ 0 ≤ ((56 : Nat) : Int) + 5 ∧ (((56 : Nat) : Int) + 5).toNat = 61 := ⟨by decide +kernel, rfl, by decide, by decide⟩
theorem i0_59 : decode m0.2.1 59 = .ok (.iconst 0, 1) ∧ 59 + 1 = 60 ∧ Int32.ofInt 0 = 0 := ⟨by decide +kernel, rfl, by decide⟩
theorem i0_60 : decode m0.2.1 60 = .ok (.ireturn, 1) := by decide +kernel
theorem i0_61 : decode m0.2.1 61 = .ok (.iload_n 3, 1) ∧ 61 + 1 = 62 := ⟨by decide +kernel, rfl⟩
theorem i0_62 : decode m0.2.1 62 = .ok (.invokestatic 31, 3) ∧ 62 + 3 = 65 := ⟨by decide +kernel, rfl⟩
theorem i0_65 : decode m0.2.1 65 = .ok (.ifCond .eq 10, 3) ∧ 65 + 3 = 68 ∧ 0 ≤ ((65 : Nat) : Int) + 10 ∧ (((65 : Nat) : Int) + 10).toNat = 75 := ⟨by decide +kernel, rfl, by decide, by decide⟩
theorem i0_68 : decode m0.2.1 68 = .ok (.iload 4, 2) ∧ 68 + 2 = 70 := ⟨by decide +kernel, rfl⟩
theorem i0_70 : decode m0.2.1 70 = .ok (.ifCond .ne 5, 3) ∧ 70 + 3 = 73 ∧ 0 ≤ ((70 : Nat) : Int) + 5 ∧ (((70 : Nat) : Int) + 5).toNat = 75 := ⟨by decide +kernel, rfl, by decide, by decide⟩
theorem i0_73 : decode m0.2.1 73 = .ok (.iconst 0, 1) ∧ 73 + 1 = 74 ∧ Int32.ofInt 0 = 0 := ⟨by decide +kernel, rfl, by decide⟩
theorem i0_74 : decode m0.2.1 74 = .ok (.ireturn, 1) := by decide +kernel
theorem i0_75 : decode m0.2.1 75 = .ok (.iconst 1, 1) ∧ 75 + 1 = 76 ∧ Int32.ofInt 1 = 1 := ⟨by decide +kernel, rfl, by decide⟩
theorem i0_76 : decode m0.2.1 76 = .ok (.ireturn, 1) := by decide +kernel
theorem i1_0 : decode m1.2.1 0 = .ok (.iload_n 0, 1) ∧ 0 + 1 = 1 := ⟨by decide +kernel, rfl⟩
theorem i1_1 : decode m1.2.1 1 = .ok (.invokestatic 171, 3) ∧ 1 + 3 = 4 := ⟨by decide +kernel, rfl⟩
theorem i1_4 : decode m1.2.1 4 = .ok (.ifCond .ne 62, 3) ∧ 4 + 3 = 7 ∧ 0 ≤ ((4 : Nat) : Int) + 62 ∧ (((4 : Nat) : Int) + 62).toNat = 66 := ⟨by decide +kernel, rfl, by decide, by decide⟩
theorem i1_7 : decode m1.2.1 7 = .ok (.iload_n 0, 1) ∧ 7 + 1 = 8 := ⟨by decide +kernel, rfl⟩
theorem i1_8 : decode m1.2.1 8 = .ok (.bipush 45, 2) ∧ 8 + 2 = 10 ∧ (Int8.ofInt 45).toInt32 = 45 := ⟨by decide +kernel, rfl, by decide⟩
theorem i1_10 : decode m1.2.1 10 = .ok (.if_icmp .eq 56, 3) ∧ 10 + 3 = 13 ∧ 0 ≤ ((10 : Nat) : Int) + 56 ∧ (((10 : Nat) : Int) + 56).toNat = 66 := ⟨by decide +kernel, rfl, by decide, by decide⟩
theorem i1_13 : decode m1.2.1 13 = .ok (.iload_n 0, 1) ∧ 13 + 1 = 14 := ⟨by decide +kernel, rfl⟩
theorem i1_14 : decode m1.2.1 14 = .ok (.bipush 46, 2) ∧ 14 + 2 = 16 ∧ (Int8.ofInt 46).toInt32 = 46 := ⟨by decide +kernel, rfl, by decide⟩
theorem i1_16 : decode m1.2.1 16 = .ok (.if_icmp .eq 50, 3) ∧ 16 + 3 = 19 ∧ 0 ≤ ((16 : Nat) : Int) + 50 ∧ (((16 : Nat) : Int) + 50).toNat = 66 := ⟨by decide +kernel, rfl, by decide, by decide⟩
theorem i1_19 : decode m1.2.1 19 = .ok (.iload_n 0, 1) ∧ 19 + 1 = 20 := ⟨by decide +kernel, rfl⟩
theorem i1_20 : decode m1.2.1 20 = .ok (.bipush 48, 2) ∧ 20 + 2 = 22 ∧ (Int8.ofInt 48).toInt32 = 48 := ⟨by decide +kernel, rfl, by decide⟩
theorem i1_22 : decode m1.2.1 22 = .ok (.if_icmp .lt 9, 3) ∧ 22 + 3 = 25 ∧ 0 ≤ ((22 : Nat) : Int) + 9 ∧ (((22 : Nat) : Int) + 9).toNat = 31 := ⟨by decide +kernel, rfl, by decide, by decide⟩
theorem i1_25 : decode m1.2.1 25 = .ok (.iload_n 0, 1) ∧ 25 + 1 = 26 := ⟨by decide +kernel, rfl⟩
theorem i1_26 : decode m1.2.1 26 = .ok (.bipush 57, 2) ∧ 26 + 2 = 28 ∧ (Int8.ofInt 57).toInt32 = 57 := ⟨by decide +kernel, rfl, by decide⟩
theorem i1_28 : decode m1.2.1 28 = .ok (.if_icmp .le 38, 3) ∧ 28 + 3 = 31 ∧ 0 ≤ ((28 : Nat) : Int) + 38 ∧ (((28 : Nat) : Int) + 38).toNat = 66 := ⟨by decide +kernel, rfl, by decide, by decide⟩
theorem i1_31 : decode m1.2.1 31 = .ok (.iload_n 0, 1) ∧ 31 + 1 = 32 := ⟨by decide +kernel, rfl⟩
theorem i1_32 : decode m1.2.1 32 = .ok (.sipush 183, 3) ∧ 32 + 3 = 35 ∧ (Int16.ofInt 183).toInt32 = 183 := ⟨by decide +kernel, rfl, by decide⟩
theorem i1_35 : decode m1.2.1 35 = .ok (.if_icmp .eq 31, 3) ∧ 35 + 3 = 38 ∧ 0 ≤ ((35 : Nat) : Int) + 31 ∧ (((35 : Nat) : Int) + 31).toNat = 66 := ⟨by decide +kernel, rfl, by decide, by decide⟩
theorem i1_38 : decode m1.2.1 38 = .ok (.iload_n 0, 1) ∧ 38 + 1 = 39 := ⟨by decide +kernel, rfl⟩
theorem i1_39 : decode m1.2.1 39 = .ok (.sipush 768, 3) ∧ 39 + 3 = 42 ∧ (Int16.ofInt 768).toInt32 = 768 := ⟨by decide +kernel, rfl, by decide⟩
theorem i1_42 : decode m1.2.1 42 = .ok (.if_icmp .lt 10, 3) ∧ 42 + 3 = 45 ∧ 0 ≤ ((42 : Nat) : Int) + 10 ∧ (((42 : Nat) : Int) + 10).toNat = 52 := ⟨by decide +kernel, rfl, by decide, by decide⟩
theorem i1_45 : decode m1.2.1 45 = .ok (.iload_n 0, 1) ∧ 45 + 1 = 46 := ⟨by decide +kernel, rfl⟩
theorem i1_46 : decode m1.2.1 46 = .ok (.sipush 879, 3) ∧ 46 + 3 = 49 ∧ (Int16.ofInt 879).toInt32 = 879 := ⟨by decide +kernel, rfl, by decide⟩
theorem i1_49 : decode m1.2.1 49 = .ok (.if_icmp .le 17, 3) ∧ 49 + 3 = 52 ∧ 0 ≤ ((49 : Nat) : Int) + 17 ∧ (((49 : Nat) : Int) + 17).toNat = 66 := ⟨by decide +kernel, rfl, by decide, by decide⟩
theorem i1_52 : decode m1.2.1 52 = .ok (.iload_n 0, 1) ∧ 52 + 1 = 53 := ⟨by decide +kernel, rfl⟩
theorem i1_53 : decode m1.2.1 53 = .ok (.sipush 8255, 3) ∧ 53 + 3 = 56 ∧ (Int16.ofInt 8255).toInt32 = 8255 := ⟨by decide +kernel, rfl, by decide⟩
theorem i1_56 : decode m1.2.1 56 = .ok (.if_icmp .lt 14, 3) ∧ 56 + 3 = 59 ∧ 0 ≤ ((56 : Nat) : Int) + 14 ∧ (((56 : Nat) : Int) + 14).toNat = 70 := ⟨by decide +kernel, rfl, by decide, by decide⟩
theorem i1_59 : decode m1.2.1 59 = .ok (.iload_n 0, 1) ∧ 59 + 1 = 60 := ⟨by decide +kernel, rfl⟩
theorem i1_60 : decode m1.2.1 60 = .ok (.sipush 8256, 3) ∧ 60 + 3 = 63 ∧ (Int16.ofInt 8256).toInt32 = 8256 := ⟨by decide +kernel, rfl, by decide⟩
theorem i1_63 : decode m1.2.1 63 = .ok (.if_icmp .gt 7, 3) ∧ 63 + 3 = 66 ∧ 0 ≤ ((63 : Nat) : Int) + 7 ∧ (((63 : Nat) : Int) + 7).toNat = 70 := ⟨by decide +kernel, rfl, by decide, by decide⟩
theorem i1_66 : decode m1.2.1 66 = .ok (.iconst 1, 1) ∧ 66 + 1 = 67 ∧ Int32.ofInt 1 = 1 := ⟨by decide +kernel, rfl, by decide⟩
theorem i1_67 : decode m1.2.1 67 = .ok (.goto 4, 3) ∧ 67 + 3 = 70 ∧ 0 ≤ ((67 : Nat) : Int) + 4 ∧ (((67 : Nat) : Int) + 4).toNat = 71 := ⟨by decide +kernel, rfl, by decide, by decide⟩
theorem i1_70 : decode m1.2.1 70 = .ok (.iconst 0, 1) ∧ 70 + 1 = 71 ∧ Int32.ofInt 0 = 0 := ⟨by decide +kernel, rfl, by decide⟩
theorem i1_71 : decode m1.2.1 71 = .ok (.ireturn, 1) := by decide +kernel
theorem i2_0 : decode m2.2.1 0 = .ok (.iload_n 0, 1) ∧ 0 + 1 = 1 := ⟨by decide +kernel, rfl⟩
theorem i2_1 : decode m2.2.1 1 = .ok (.bipush 65, 2) ∧ 1 + 2 = 3 ∧ (Int8.ofInt 65).toInt32 = 65 := ⟨by decide +kernel, rfl, by decide⟩
theorem i2_3 : decode m2.2.1 3 = .ok (.if_icmp .lt 9, 3) ∧ 3 + 3 = 6 ∧ 0 ≤ ((3 : Nat) : Int) + 9 ∧ (((3 : Nat) : Int) + 9).toNat = 12 := ⟨by decide +kernel, rfl, by decide, by decide⟩
theorem i2_6 : decode m2.2.1 6 = .ok (.iload_n 0, 1) ∧ 6 + 1 = 7 := ⟨by decide +kernel, rfl⟩
theorem i2_7 : decode m2.2.1 7 = .ok (.bipush 90, 2) ∧ 7 + 2 = 9 ∧ (Int8.ofInt 90).toInt32 = 90 := ⟨by decide +kernel, rfl, by decide⟩
theorem i2_9 : decode m2.2.1 9 = .ok (.if_icmp .le 182, 3) ∧ 9 + 3 = 12 ∧ 0 ≤ ((9 : Nat) : Int) + 182 ∧ (((9 : Nat) : Int) + 182).toNat = 191 := ⟨by decide +kernel, rfl, by decide, by decide⟩
theorem i2_12 : decode m2.2.1 12 = .ok (.iload_n 0, 1) ∧ 12 + 1 = 13 := ⟨by decide +kernel, rfl⟩
theorem i2_13 : decode m2.2.1 13 = .ok (.bipush 97, 2) ∧ 13 + 2 = 15 ∧ (Int8.ofInt 97).toInt32 = 97 := ⟨by decide +kernel, rfl, by decide⟩
theorem i2_15 : decode m2.2.1 15 = .ok (.if_icmp .lt 9, 3) ∧ 15 + 3 = 18 ∧ 0 ≤ ((15 : Nat) : Int) + 9 ∧ (((15 : Nat) : Int) + 9).toNat = 24 := ⟨by decide +kernel, rfl, by decide, by decide⟩
theorem i2_18 : decode m2.2.1 18 = .ok (.iload_n 0, 1) ∧ 18 + 1 = 19 := ⟨by decide +kernel, rfl⟩
theorem i2_19 : decode m2.2.1 19 = .ok (.bipush 122, 2) ∧ 19 + 2 = 21 ∧ (Int8.ofInt 122).toInt32 = 122 := ⟨by decide +kernel, rfl, by decide⟩
theorem i2_21 : decode m2.2.1 21 = .ok (.if_icmp .le 170, 3) ∧ 21 + 3 = 24 ∧ 0 ≤ ((21 : Nat) : Int) + 170 ∧ (((21 : Nat) : Int) + 170).toNat = 191 := ⟨by decide +kernel, rfl, by decide, by decide⟩
theorem i2_24 : decode m2.2.1 24 = .ok (.iload_n 0, 1) ∧ 24 + 1 = 25 := ⟨by decide +kernel, rfl⟩
theorem i2_25 : decode m2.2.1 25 = .ok (.bipush 95, 2) ∧ 25 + 2 = 27 ∧ (Int8.ofInt 95).toInt32 = 95 := ⟨by decide +kernel, rfl, by decide⟩
theorem i2_27 : decode m2.2.1 27 = .ok (.if_icmp .eq 164, 3) ∧ 27 + 3 = 30 ∧ 0 ≤ ((27 : Nat) : Int) + 164 ∧ (((27 : Nat) : Int) + 164).toNat = 191 := ⟨by decide +kernel, rfl, by decide, by decide⟩
theorem i2_30 : decode m2.2.1 30 = .ok (.iload_n 0, 1) ∧ 30 + 1 = 31 := ⟨by decide +kernel, rfl⟩
theorem i2_31 : decode m2.2.1 31 = .ok (.sipush 192, 3) ∧ 31 + 3 = 34 ∧ (Int16.ofInt 192).toInt32 = 192 := ⟨by decide +kernel, rfl, by decide⟩
theorem i2_34 : decode m2.2.1 34 = .ok (.if_icmp .lt 10, 3) ∧ 34 + 3 = 37 ∧ 0 ≤ ((34 : Nat) : Int) + 10 ∧ (((34 : Nat) : Int) + 10).toNat = 44 := ⟨by decide +kernel, rfl, by decide, by decide⟩
theorem i2_37 : decode m2.2.1 37 = .ok (.iload_n 0, 1) ∧ 37 + 1 = 38 := ⟨by decide +kernel, rfl⟩
theorem i2_38 : decode m2.2.1 38 = .ok (.sipush 214, 3) ∧ 38 + 3 = 41 ∧ (Int16.ofInt 214).toInt32 = 214 := ⟨by decide +kernel, rfl, by decide⟩
theorem i2_41 : decode m2.2.1 41 = .ok (.if_icmp .le 150, 3) ∧ 41 + 3 = 44 ∧ 0 ≤ ((41 : Nat) : Int) + 150 ∧ (((41 : Nat) : Int) + 150).toNat = 191 := ⟨by decide +kernel, rfl, by decide, by decide⟩
theorem i2_44 : decode m2.2.1 44 = .ok (.iload_n 0, 1) ∧ 44 + 1 = 45 := ⟨by decide +kernel, rfl⟩
theorem i2_45 : decode m2.2.1 45 = .ok (.sipush 216, 3) ∧ 45 + 3 = 48 ∧ (Int16.ofInt 216).toInt32 = 216 := ⟨by decide +kernel, rfl, by decide⟩
theorem i2_48 : decode m2.2.1 48 = .ok (.if_icmp .lt 10, 3) ∧ 48 + 3 = 51 ∧ 0 ≤ ((48 : Nat) : Int) + 10 ∧ (((48 : Nat) : Int) + 10).toNat = 58 := ⟨by decide +kernel, rfl, by decide, by decide⟩
theorem i2_51 : decode m2.2.1 51 = .ok (.iload_n 0, 1) ∧ 51 + 1 = 52 := ⟨by decide +kernel, rfl⟩
theorem i2_52 : decode m2.2.1 52 = .ok (.sipush 246, 3) ∧ 52 + 3 = 55 ∧ (Int16.ofInt 246).toInt32 = 246 := ⟨by decide +kernel, rfl, by decide⟩
theorem i2_55 : decode m2.2.1 55 = .ok (.if_icmp .le 136, 3) ∧ 55 + 3 = 58 ∧ 0 ≤ ((55 : Nat) : Int) + 136 ∧ (((55 : Nat) : Int) + 136).toNat = 191 := ⟨by decide +kernel, rfl, by decide, by decide⟩
theorem i2_58 : decode m2.2.1 58 = .ok (.iload_n 0, 1) ∧ 58 + 1 = 59 := ⟨by decide +kernel, rfl⟩
theorem i2_59 : decode m2.2.1 59 = .ok (.sipush 248, 3) ∧ 59 + 3 = 62 ∧ (Int16.ofInt 248).toInt32 = 248 := ⟨by decide +kernel, rfl, by decide⟩
theorem i2_62 : decode m2.2.1 62 = .ok (.if_icmp .lt 10, 3) ∧ 62 + 3 = 65 ∧ 0 ≤ ((62 : Nat) : Int) + 10 ∧ (((62 : Nat) : Int) + 10).toNat = 72 := ⟨by decide +kernel, rfl, by decide, by decide⟩
theorem i2_65 : decode m2.2.1 65 = .ok (.iload_n 0, 1) ∧ 65 + 1 = 66 := ⟨by decide +kernel, rfl⟩
theorem i2_66 : decode m2.2.1 66 = .ok (.sipush 767, 3) ∧ 66 + 3 = 69 ∧ (Int16.ofInt 767).toInt32 = 767 := ⟨by decide +kernel, rfl, by decide⟩
theorem i2_69 : decode m2.2.1 69 = .ok (.if_icmp .le 122, 3) ∧ 69 + 3 = 72 ∧ 0 ≤ ((69 : Nat) : Int) + 122 ∧ (((69 : Nat) : Int) + 122).toNat = 191 := ⟨by decide +kernel, rfl, by decide, by decide⟩
theorem i2_72 : decode m2.2.1 72 = .ok (.iload_n 0, 1) ∧ 72 + 1 = 73 := ⟨by decide +kernel, rfl⟩
theorem i2_73 : decode m2.2.1 73 = .ok (.sipush 880, 3) ∧ 73 + 3 = 76 ∧ (Int16.ofInt 880).toInt32 = 880 := ⟨by decide +kernel, rfl, by decide⟩
theorem i2_76 : decode m2.2.1 76 = .ok (.if_icmp .lt 10, 3) ∧ 76 + 3 = 79 ∧ 0 ≤ ((76 : Nat) : Int) + 10 ∧ (((76 : Nat) : Int) + 10).toNat = 86 := ⟨by decide +kernel, rfl, by decide, by decide⟩
theorem i2_79 : decode m2.2.1 79 = .ok (.iload_n 0, 1) ∧ 79 + 1 = 80 := ⟨by decide +kernel, rfl⟩
theorem i2_80 : decode m2.2.1 80 = .ok (.sipush 893, 3) ∧ 80 + 3 = 83 ∧ (Int16.ofInt 893).toInt32 = 893 := ⟨by decide +kernel, rfl, by decide⟩
theorem i2_83 : decode m2.2.1 83 = .ok (.if_icmp .le 108, 3) ∧ 83 + 3 = 86 ∧ 0 ≤ ((83 : Nat) : Int) + 108 ∧ (((83 : Nat) : Int) + 108).toNat = 191 := ⟨by decide +kernel, rfl, by decide, by decide⟩
theorem i2_86 : decode m2.2.1 86 = .ok (.iload_n 0, 1) ∧ 86 + 1 = 87 := ⟨by decide +kernel, rfl⟩
theorem i2_87 : decode m2.2.1 87 = .ok (.sipush 895, 3) ∧ 87 + 3 = 90 ∧ (Int16.ofInt 895).toInt32 = 895 := ⟨by decide +kernel, rfl, by decide⟩
theorem i2_90 : decode m2.2.1 90 = .ok (.if_icmp .lt 10, 3) ∧ 90 + 3 = 93 ∧ 0 ≤ ((90 : Nat) : Int) + 10 ∧ (((90 : Nat) : Int) + 10).toNat = 100 := ⟨by decide +kernel, rfl, by decide, by decide⟩
theorem i2_93 : decode m2.2.1 93 = .ok (.iload_n 0, 1) ∧ 93 + 1 = 94 := ⟨by decide +kernel, rfl⟩
theorem i2_94 : decode m2.2.1 94 = .ok (.sipush 8191, 3) ∧ 94 + 3 = 97 ∧ (Int16.ofInt 8191).toInt32 = 8191 := ⟨by decide +kernel, rfl, by decide⟩
theorem i2_97 : decode m2.2.1 97 = .ok (.if_icmp .le 94, 3) ∧ 97 + 3 = 100 ∧ 0 ≤ ((97 : Nat) : Int) + 94 ∧ (((97 : Nat) : Int) + 94).toNat = 191 := ⟨by decide +kernel, rfl, by decide, by decide⟩
theorem i2_100 : decode m2.2.1 100 = .ok (.iload_n 0, 1) ∧ 100 + 1 = 101 := ⟨by decide +kernel, rfl⟩
theorem i2_101 : decode m2.2.1 101 = .ok (.sipush 8204, 3) ∧ 101 + 3 = 104 ∧ (Int16.ofInt 8204).toInt32 = 8204 := ⟨by decide +kernel, rfl, by decide⟩
theorem i2_104 : decode m2.2.1 104 = .ok (.if_icmp .lt 10, 3) ∧ 104 + 3 = 107 ∧ 0 ≤ ((104 : Nat) : Int) + 10 ∧ (((104 : Nat) : Int) + 10).toNat = 114 := ⟨by decide +kernel, rfl, by decide, by decide⟩
theorem i2_107 : decode m2.2.1 107 = .ok (.iload_n 0, 1) ∧ 107 + 1 = 108 := ⟨by decide +kernel, rfl⟩
theorem i2_108 : decode m2.2.1 108 = .ok (.sipush 8205, 3) ∧ 108 + 3 = 111 ∧ (Int16.ofInt 8205).toInt32 = 8205 := ⟨by decide +kernel, rfl, by decide⟩
theorem i2_111 : decode m2.2.1 111 = .ok (.if_icmp .le 80, 3) ∧ 111 + 3 = 114 ∧ 0 ≤ ((111 : Nat) : Int) + 80 ∧ (((111 : Nat) : Int) + 80).toNat = 191 := ⟨by decide +kernel, rfl, by decide, by decide⟩
theorem i2_114 : decode m2.2.1 114 = .ok (.iload_n 0, 1) ∧ 114 + 1 = 115 := ⟨by decide +kernel, rfl⟩
theorem i2_115 : decode m2.2.1 115 = .ok (.sipush 8304, 3) ∧ 115 + 3 = 118 ∧ (Int16.ofInt 8304).toInt32 = 8304 := ⟨by decide +kernel, rfl, by decide⟩
theorem i2_118 : decode m2.2.1 118 = .ok (.if_icmp .lt 10, 3) ∧ 118 + 3 = 121 ∧ 0 ≤ ((118 : Nat) : Int) + 10 ∧ (((118 : Nat) : Int) + 10).toNat = 128 := ⟨by decide +kernel, rfl, by decide, by decide⟩
theorem i2_121 : decode m2.2.1 121 = .ok (.iload_n 0, 1) ∧ 121 + 1 = 122 := ⟨by decide +kernel, rfl⟩
theorem i2_122 : decode m2.2.1 122 = .ok (.sipush 8591, 3) ∧ 122 + 3 = 125 ∧ (Int16.ofInt 8591).toInt32 = 8591 := ⟨by decide +kernel, rfl, by decide⟩
theorem i2_125 : decode m2.2.1 125 = .ok (.if_icmp .le 66, 3) ∧ 125 + 3 = 128 ∧ 0 ≤ ((125 : Nat) : Int) + 66 ∧ (((125 : Nat) : Int) + 66).toNat = 191 := ⟨by decide +kernel, rfl, by decide, by decide⟩
theorem i2_128 : decode m2.2.1 128 = .ok (.iload_n 0, 1) ∧ 128 + 1 = 129 := ⟨by decide +kernel, rfl⟩
theorem i2_129 : decode m2.2.1 129 = .ok (.sipush 11264, 3) ∧ 129 + 3 = 132 ∧ (Int16.ofInt 11264).toInt32 = 11264 := ⟨by decide +kernel, rfl, by decide⟩
theorem i2_132 : decode m2.2.1 132 = .ok (.if_icmp .lt 10, 3) ∧ 132 + 3 = 135 ∧ 0 ≤ ((132 : Nat) : Int) + 10 ∧ (((132 : Nat) : Int) + 10).toNat = 142 := ⟨by decide +kernel, rfl, by decide, by decide⟩
theorem i2_135 : decode m2.2.1 135 = .ok (.iload_n 0, 1) ∧ 135 + 1 = 136 := ⟨by decide +kernel, rfl⟩
theorem i2_136 : decode m2.2.1 136 = .ok (.sipush 12271, 3) ∧ 136 + 3 = 139 ∧ (Int16.ofInt 12271).toInt32 = 12271 := ⟨by decide +kernel, rfl, by decide⟩
theorem i2_139 : decode m2.2.1 139 = .ok (.if_icmp .le 52, 3) ∧ 139 + 3 = 142 ∧ 0 ≤ ((139 : Nat) : Int) + 52 ∧ (((139 : Nat) : Int) + 52).toNat = 191 := ⟨by decide +kernel, rfl, by decide, by decide⟩
theorem i2_142 : decode m2.2.1 142 = .ok (.iload_n 0, 1) ∧ 142 + 1 = 143 := ⟨by decide +kernel, rfl⟩
theorem i2_143 : decode m2.2.1 143 = .ok (.sipush 12289, 3) ∧ 143 + 3 = 146 ∧ (Int16.ofInt 12289).toInt32 = 12289 := ⟨by decide +kernel, rfl, by decide⟩
theorem i2_146 : decode m2.2.1 146 = .ok (.if_icmp .lt 9, 3) ∧ 146 + 3 = 149 ∧ 0 ≤ ((146 : Nat) : Int) + 9 ∧ (((146 : Nat) : Int) + 9).toNat = 155 := ⟨by decide +kernel, rfl, by decide, by decide⟩
theorem i2_149 : decode m2.2.1 149 = .ok (.iload_n 0, 1) ∧ 149 + 1 = 150 := ⟨by decide +kernel, rfl⟩
theorem i2_150 : decode m2.2.1 150 = .ok (.ldc 177, 2) ∧ 150 + 2 = 152 := ⟨by decide +kernel, rfl⟩
theorem i2_152 : decode m2.2.1 152 = .ok (.if_icmp .le 39, 3) ∧ 152 + 3 = 155 ∧ 0 ≤ ((152 : Nat) : Int) + 39 ∧ (((152 : Nat) : Int) + 39).toNat = 191 := ⟨by decide +kernel, rfl, by decide, by decide⟩
theorem i2_155 : decode m2.2.1 155 = .ok (.iload_n 0, 1) ∧ 155 + 1 = 156 := ⟨by decide +kernel, rfl⟩
theorem i2_156 : decode m2.2.1 156 = .ok (.ldc 178, 2) ∧ 156 + 2 = 158 := ⟨by decide +kernel, rfl⟩
theorem i2_158 : decode m2.2.1 158 = .ok (.if_icmp .lt 9, 3) ∧ 158 + 3 = 161 ∧ 0 ≤ ((158 : Nat) : Int) + 9 ∧ (((158 : Nat) : Int) + 9).toNat = 167 := ⟨by decide +kernel, rfl, by decide, by decide⟩
theorem i2_161 : decode m2.2.1 161 = .ok (.iload_n 0, 1) ∧ 161 + 1 = 162 := ⟨by decide +kernel, rfl⟩
theorem i2_162 : decode m2.2.1 162 = .ok (.ldc 179, 2) ∧ 162 + 2 = 164 := ⟨by decide +kernel, rfl⟩
theorem i2_164 : decode m2.2.1 164 = .ok (.if_icmp .le 27, 3) ∧ 164 + 3 = 167 ∧ 0 ≤ ((164 : Nat) : Int) + 27 ∧ (((164 : Nat) : Int) + 27).toNat = 191 := ⟨by decide +kernel, rfl, by decide, by decide⟩
theorem i2_167 : decode m2.2.1 167 = .ok (.iload_n 0, 1) ∧ 167 + 1 = 168 := ⟨by decide +kernel, rfl⟩
theorem i2_168 : decode m2.2.1 168 = .ok (.ldc 180, 2) ∧ 168 + 2 = 170 := ⟨by decide +kernel, rfl⟩
theorem i2_170 : decode m2.2.1 170 = .ok (.if_icmp .lt 9, 3) ∧ 170 + 3 = 173 ∧ 0 ≤ ((170 : Nat) : Int) + 9 ∧ (((170 : Nat) : Int) + 9).toNat = 179 := ⟨by decide +kernel, rfl, by decide, by decide⟩
theorem i2_173 : decode m2.2.1 173 = .ok (.iload_n 0, 1) ∧ 173 + 1 = 174 := ⟨by decide +kernel, rfl⟩
theorem i2_174 : decode m2.2.1 174 = .ok (.ldc 181, 2) ∧ 174 + 2 = 176 := ⟨by decide +kernel, rfl⟩
theorem i2_176 : decode m2.2.1 176 = .ok (.if_icmp .le 15, 3) ∧ 176 + 3 = 179 ∧ 0 ≤ ((176 : Nat) : Int) + 15 ∧ (((176 : Nat) : Int) + 15).toNat = 191 := ⟨by decide +kernel, rfl, by decide, by decide⟩
theorem i2_179 : decode m2.2.1 179 = .ok (.iload_n 0, 1) ∧ 179 + 1 = 180 := ⟨by decide +kernel, rfl⟩
theorem i2_180 : decode m2.2.1 180 = .ok (.ldc 182, 2) ∧ 180 + 2 = 182 := ⟨by decide +kernel, rfl⟩
theorem i2_182 : decode m2.2.1 182 = .ok (.if_icmp .lt 13, 3) ∧ 182 + 3 = 185 ∧ 0 ≤ ((182 : Nat) : Int) + 13 ∧ (((182 : Nat) : Int) + 13).toNat = 195 := ⟨by decide +kernel, rfl, by decide, by decide⟩
theorem i2_185 : decode m2.2.1 185 = .ok (.iload_n 0, 1) ∧ 185 + 1 = 186 := ⟨by decide +kernel, rfl⟩
theorem i2_186 : decode m2.2.1 186 = .ok (.ldc 183, 2) ∧ 186 + 2 = 188 := ⟨by decide +kernel, rfl⟩
theorem i2_188 : decode m2.2.1 188 = .ok (.if_icmp .gt 7, 3) ∧ 188 + 3 = 191 ∧ 0 ≤ ((188 : Nat) : Int) + 7 ∧ (((188 : Nat) : Int) + 7).toNat = 195 := ⟨by decide +kernel, rfl, by decide, by decide⟩
theorem i2_191 : decode m2.2.1 191 = .ok (.iconst 1, 1) ∧ 191 + 1 = 192 ∧ Int32.ofInt 1 = 1 := ⟨by decide +kernel, rfl, by decide⟩
theorem i2_192 : decode m2.2.1 192 = .ok (.goto 4, 3) ∧ 192 + 3 = 195 ∧ 0 ≤ ((192 : Nat) : Int) + 4 ∧ (((192 : Nat) : Int) + 4).toNat = 196 := ⟨by decide +kernel, rfl, by decide, by decide⟩
theorem i2_195 : decode m2.2.1 195 = .ok (.iconst 0, 1) ∧ 195 + 1 = 196 ∧ Int32.ofInt 0 = 0 := ⟨by decide +kernel, rfl, by decide⟩
theorem i2_196 : decode m2.2.1 196 = .ok (.ireturn, 1) := by decide +kernel
theorem i3_0 : decode m3.2.1 0 = .ok (.iload_n 0, 1) ∧ 0 + 1 = 1 := ⟨by decide +kernel, rfl⟩
theorem i3_1 : decode m3.2.1 1 = .ok (.bipush 45, 2) ∧ 1 + 2 = 3 ∧ (Int8.ofInt 45).toInt32 = 45 := ⟨by decide +kernel, rfl, by decide⟩
theorem i3_3 : decode m3.2.1 3 = .ok (.bipush 46, 2) ∧ 3 + 2 = 5 ∧ (Int8.ofInt 46).toInt32 = 46 := ⟨by decide +kernel, rfl, by decide⟩
theorem i3_5 : decode m3.2.1 5 = .ok (.invokestatic 7, 3) ∧ 5 + 3 = 8 := ⟨by decide +kernel, rfl⟩
theorem i3_8 : decode m3.2.1 8 = .ok (.ifCond .ne 198, 3) ∧ 8 + 3 = 11 ∧ 0 ≤ ((8 : Nat) : Int) + 198 ∧ (((8 : Nat) : Int) + 198).toNat = 206 := ⟨by decide +kernel, rfl, by decide, by decide⟩
theorem i3_11 : decode m3.2.1 11 = .ok (.iload_n 0, 1) ∧ 11 + 1 = 12 := ⟨by decide +kernel, rfl⟩
theorem i3_12 : decode m3.2.1 12 = .ok (.bipush 48, 2) ∧ 12 + 2 = 14 ∧ (Int8.ofInt 48).toInt32 = 48 := ⟨by decide +kernel, rfl, by decide⟩
theorem i3_14 : decode m3.2.1 14 = .ok (.bipush 57, 2) ∧ 14 + 2 = 16 ∧ (Int8.ofInt 57).toInt32 = 57 := ⟨by decide +kernel, rfl, by decide⟩
theorem i3_16 : decode m3.2.1 16 = .ok (.invokestatic 7, 3) ∧ 16 + 3 = 19 := ⟨by decide +kernel, rfl⟩
theorem i3_19 : decode m3.2.1 19 = .ok (.ifCond .ne 187, 3) ∧ 19 + 3 = 22 ∧ 0 ≤ ((19 : Nat) : Int) + 187 ∧ (((19 : Nat) : Int) + 187).toNat = 206 := ⟨by decide +kernel, rfl, by decide, by decide⟩
theorem i3_22 : decode m3.2.1 22 = .ok (.iload_n 0, 1) ∧ 22 + 1 = 23 := ⟨by decide +kernel, rfl⟩
theorem i3_23 : decode m3.2.1 23 = .ok (.bipush 65, 2) ∧ 23 + 2 = 25 ∧ (Int8.ofInt 65).toInt32 = 65 := ⟨by decide +kernel, rfl, by decide⟩
theorem i3_25 : decode m3.2.1 25 = .ok (.bipush 90, 2) ∧ 25 + 2 = 27 ∧ (Int8.ofInt 90).toInt32 = 90 := ⟨by decide +kernel, rfl, by decide⟩
theorem i3_27 : decode m3.2.1 27 = .ok (.invokestatic 7, 3) ∧ 27 + 3 = 30 := ⟨by decide +kernel, rfl⟩
theorem i3_30 : decode m3.2.1 30 = .ok (.ifCond .ne 176, 3) ∧ 30 + 3 = 33 ∧ 0 ≤ ((30 : Nat) : Int) + 176 ∧ (((30 : Nat) : Int) + 176).toNat = 206 := ⟨by decide +kernel, rfl, by decide, by decide⟩
theorem i3_33 : decode m3.2.1 33 = .ok (.iload_n 0, 1) ∧ 33 + 1 = 34 := ⟨by decide +kernel, rfl⟩
theorem i3_34 : decode m3.2.1 34 = .ok (.bipush 95, 2) ∧ 34 + 2 = 36 ∧ (Int8.ofInt 95).toInt32 = 95 := ⟨by decide +kernel, rfl, by decide⟩
theorem i3_36 : decode m3.2.1 36 = .ok (.if_icmp .eq 170, 3) ∧ 36 + 3 = 39 ∧ 0 ≤ ((36 : Nat) : Int) + 170 ∧ (((36 : Nat) : Int) + 170).toNat = 206 := ⟨by decide +kernel, rfl, by decide, by decide⟩
theorem i3_39 : decode m3.2.1 39 = .ok (.iload_n 0, 1) ∧ 39 + 1 = 40 := ⟨by decide +kernel, rfl⟩
theorem i3_40 : decode m3.2.1 40 = .ok (.bipush 97, 2) ∧ 40 + 2 = 42 ∧ (Int8.ofInt 97).toInt32 = 97 := ⟨by decide +kernel, rfl, by decide⟩
theorem i3_42 : decode m3.2.1 42 = .ok (.bipush 122, 2) ∧ 42 + 2 = 44 ∧ (Int8.ofInt 122).toInt32 = 122 := ⟨by decide +kernel, rfl, by decide⟩
theorem i3_44 : decode m3.2.1 44 = .ok (.invokestatic 7, 3) ∧ 44 + 3 = 47 := ⟨by decide +kernel, rfl⟩
theorem i3_47 : decode m3.2.1 47 = .ok (.ifCond .ne 159, 3) ∧ 47 + 3 = 50 ∧ 0 ≤ ((47 : Nat) : Int) + 159 ∧ (((47 : Nat) : Int) + 159).toNat = 206 := ⟨by decide +kernel, rfl, by decide, by decide⟩
theorem i3_50 : decode m3.2.1 50 = .ok (.iload_n 0, 1) ∧ 50 + 1 = 51 := ⟨by decide +kernel, rfl⟩
theorem i3_51 : decode m3.2.1 51 = .ok (.sipush 183, 3) ∧ 51 + 3 = 54 ∧ (Int16.ofInt 183).toInt32 = 183 := ⟨by decide +kernel, rfl, by decide⟩
theorem i3_54 : decode m3.2.1 54 = .ok (.if_icmp .eq 152, 3) ∧ 54 + 3 = 57 ∧ 0 ≤ ((54 : Nat) : Int) + 152 ∧ (((54 : Nat) : Int) + 152).toNat = 206 := ⟨by decide +kernel, rfl, by decide, by decide⟩
theorem i3_57 : decode m3.2.1 57 = .ok (.iload_n 0, 1) ∧ 57 + 1 = 58 := ⟨by decide +kernel, rfl⟩
theorem i3_58 : decode m3.2.1 58 = .ok (.sipush 192, 3) ∧ 58 + 3 = 61 ∧ (Int16.ofInt 192).toInt32 = 192 := ⟨by decide +kernel, rfl, by decide⟩
theorem i3_61 : decode m3.2.1 61 = .ok (.sipush 214, 3) ∧ 61 + 3 = 64 ∧ (Int16.ofInt 214).toInt32 = 214 := ⟨by decide +kernel, rfl, by decide⟩
theorem i3_64 : decode m3.2.1 64 = .ok (.invokestatic 7, 3) ∧ 64 + 3 = 67 := ⟨by decide +kernel, rfl⟩
theorem i3_67 : decode m3.2.1 67 = .ok (.ifCond .ne 139, 3) ∧ 67 + 3 = 70 ∧ 0 ≤ ((67 : Nat) : Int) + 139 ∧ (((67 : Nat) : Int) + 139).toNat = 206 := ⟨by decide +kernel, rfl, by decide, by decide⟩
theorem i3_70 : decode m3.2.1 70 = .ok (.iload_n 0, 1) ∧ 70 + 1 = 71 := ⟨by decide +kernel, rfl⟩
theorem i3_71 : decode m3.2.1 71 = .ok (.sipush 216, 3) ∧ 71 + 3 = 74 ∧ (Int16.ofInt 216).toInt32 = 216 := ⟨by decide +kernel, rfl, by decide⟩
theorem i3_74 : decode m3.2.1 74 = .ok (.sipush 246, 3) ∧ 74 + 3 = 77 ∧ (Int16.ofInt 246).toInt32 = 246 := ⟨by decide +kernel, rfl, by decide⟩
theorem i3_77 : decode m3.2.1 77 = .ok (.invokestatic 7, 3) ∧ 77 + 3 = 80 := ⟨by decide +kernel, rfl⟩
theorem i3_80 : decode m3.2.1 80 = .ok (.ifCond .ne 126, 3) ∧ 80 + 3 = 83 ∧ 0 ≤ ((80 : Nat) : Int) + 126 ∧ (((80 : Nat) : Int) + 126).toNat = 206 := ⟨by decide +kernel, rfl, by decide, by decide⟩
theorem i3_83 : decode m3.2.1 83 = .ok (.iload_n 0, 1) ∧ 83 + 1 = 84 := ⟨by decide +kernel, rfl⟩
theorem i3_84 : decode m3.2.1 84 = .ok (.sipush 248, 3) ∧ 84 + 3 = 87 ∧ (Int16.ofInt 248).toInt32 = 248 := ⟨by decide +kernel, rfl, by decide⟩
theorem i3_87 : decode m3.2.1 87 = .ok (.sipush 893, 3) ∧ 87 + 3 = 90 ∧ (Int16.ofInt 893).toInt32 = 893 := ⟨by decide +kernel, rfl, by decide⟩
theorem i3_90 : decode m3.2.1 90 = .ok (.invokestatic 7, 3) ∧ 90 + 3 = 93 := ⟨by decide +kernel, rfl⟩
theorem i3_93 : decode m3.2.1 93 = .ok (.ifCond .ne 113, 3) ∧ 93 + 3 = 96 ∧ 0 ≤ ((93 : Nat) : Int) + 113 ∧ (((93 : Nat) : Int) + 113).toNat = 206 := ⟨by decide +kernel, rfl, by decide, by decide⟩
theorem i3_96 : decode m3.2.1 96 = .ok (.iload_n 0, 1) ∧ 96 + 1 = 97 := ⟨by decide +kernel, rfl⟩
theorem i3_97 : decode m3.2.1 97 = .ok (.sipush 895, 3) ∧ 97 + 3 = 100 ∧ (Int16.ofInt 895).toInt32 = 895 := ⟨by decide +kernel, rfl, by decide⟩
theorem i3_100 : decode m3.2.1 100 = .ok (.sipush 8191, 3) ∧ 100 + 3 = 103 ∧ (Int16.ofInt 8191).toInt32 = 8191 := ⟨by decide +kernel, rfl, by decide⟩
theorem i3_103 : decode m3.2.1 103 = .ok (.invokestatic 7, 3) ∧ 103 + 3 = 106 := ⟨by decide +kernel, rfl⟩
theorem i3_106 : decode m3.2.1 106 = .ok (.ifCond .ne 100, 3) ∧ 106 + 3 = 109 ∧ 0 ≤ ((106 : Nat) : Int) + 100 ∧ (((106 : Nat) : Int) + 100).toNat = 206 := ⟨by decide +kernel, rfl, by decide, by decide⟩
theorem i3_109 : decode m3.2.1 109 = .ok (.iload_n 0, 1) ∧ 109 + 1 = 110 := ⟨by decide +kernel, rfl⟩
theorem i3_110 : decode m3.2.1 110 = .ok (.sipush 8204, 3) ∧ 110 + 3 = 113 ∧ (Int16.ofInt 8204).toInt32 = 8204 := ⟨by decide +kernel, rfl, by decide⟩
theorem i3_113 : decode m3.2.1 113 = .ok (.sipush 8205, 3) ∧ 113 + 3 = 116 ∧ (Int16.ofInt 8205).toInt32 = 8205 := ⟨by decide +kernel, rfl, by decide⟩
theorem i3_116 : decode m3.2.1 116 = .ok (.invokestatic 7, 3) ∧ 116 + 3 = 119 := ⟨by decide +kernel, rfl⟩
theorem i3_119 : decode m3.2.1 119 = .ok (.ifCond .ne 87, 3) ∧ 119 + 3 = 122 ∧ 0 ≤ ((119 : Nat) : Int) + 87 ∧ (((119 : Nat) : Int) + 87).toNat = 206 := ⟨by decide +kernel, rfl, by decide, by decide⟩
theorem i3_122 : decode m3.2.1 122 = .ok (.iload_n 0, 1) ∧ 122 + 1 = 123 := ⟨by decide +kernel, rfl⟩
theorem i3_123 : decode m3.2.1 123 = .ok (.sipush 8255, 3) ∧ 123 + 3 = 126 ∧ (Int16.ofInt 8255).toInt32 = 8255 := ⟨by decide +kernel, rfl, by decide⟩
theorem i3_126 : decode m3.2.1 126 = .ok (.sipush 8256, 3) ∧ 126 + 3 = 129 ∧ (Int16.ofInt 8256).toInt32 = 8256 := ⟨by decide +kernel, rfl, by decide⟩
theorem i3_129 : decode m3.2.1 129 = .ok (.invokestatic 7, 3) ∧ 129 + 3 = 132 := ⟨by decide +kernel, rfl⟩
theorem i3_132 : decode m3.2.1 132 = .ok (.ifCond .ne 74, 3) ∧ 132 + 3 = 135 ∧ 0 ≤ ((132 : Nat) : Int) + 74 ∧ (((132 : Nat) : Int) + 74).toNat = 206 := ⟨by decide +kernel, rfl, by decide, by decide⟩
theorem i3_135 : decode m3.2.1 135 = .ok (.iload_n 0, 1) ∧ 135 + 1 = 136 := ⟨by decide +kernel, rfl⟩
theorem i3_136 : decode m3.2.1 136 = .ok (.sipush 8304, 3) ∧ 136 + 3 = 139 ∧ (Int16.ofInt 8304).toInt32 = 8304 := ⟨by decide +kernel, rfl, by decide⟩
theorem i3_139 : decode m3.2.1 139 = .ok (.sipush 8591, 3) ∧ 139 + 3 = 142 ∧ (Int16.ofInt 8591).toInt32 = 8591 := ⟨by decide +kernel, rfl, by decide⟩
theorem i3_142 : decode m3.2.1 142 = .ok (.invokestatic 7, 3) ∧ 142 + 3 = 145 := ⟨by decide +kernel, rfl⟩
theorem i3_145 : decode m3.2.1 145 = .ok (.ifCond .ne 61, 3) ∧ 145 + 3 = 148 ∧ 0 ≤ ((145 : Nat) : Int) + 61 ∧ (((145 : Nat) : Int) + 61).toNat = 206 := ⟨by decide +kernel, rfl, by decide, by decide⟩
theorem i3_148 : decode m3.2.1 148 = .ok (.iload_n 0, 1) ∧ 148 + 1 = 149 := ⟨by decide +kernel, rfl⟩
theorem i3_149 : decode m3.2.1 149 = .ok (.sipush 11264, 3) ∧ 149 + 3 = 152 ∧ (Int16.ofInt 11264).toInt32 = 11264 := ⟨by decide +kernel, rfl, by decide⟩
theorem i3_152 : decode m3.2.1 152 = .ok (.sipush 12271, 3) ∧ 152 + 3 = 155 ∧ (Int16.ofInt 12271).toInt32 = 12271 := ⟨by decide +kernel, rfl, by decide⟩
theorem i3_155 : decode m3.2.1 155 = .ok (.invokestatic 7, 3) ∧ 155 + 3 = 158 := ⟨by decide +kernel, rfl⟩
theorem i3_158 : decode m3.2.1 158 = .ok (.ifCond .ne 48, 3) ∧ 158 + 3 = 161 ∧ 0 ≤ ((158 : Nat) : Int) + 48 ∧ (((158 : Nat) : Int) + 48).toNat = 206 := ⟨by decide +kernel, rfl, by decide, by decide⟩
theorem i3_161 : decode m3.2.1 161 = .ok (.iload_n 0, 1) ∧ 161 + 1 = 162 := ⟨by decide +kernel, rfl⟩
theorem i3_162 : decode m3.2.1 162 = .ok (.sipush 12289, 3) ∧ 162 + 3 = 165 ∧ (Int16.ofInt 12289).toInt32 = 12289 := ⟨by decide +kernel, rfl, by decide⟩
theorem i3_165 : decode m3.2.1 165 = .ok (.ldc 13, 2) ∧ 165 + 2 = 167 := ⟨by decide +kernel, rfl⟩
theorem i3_167 : decode m3.2.1 167 = .ok (.invokestatic 7, 3) ∧ 167 + 3 = 170 := ⟨by decide +kernel, rfl⟩
theorem i3_170 : decode m3.2.1 170 = .ok (.ifCond .ne 36, 3) ∧ 170 + 3 = 173 ∧ 0 ≤ ((170 : Nat) : Int) + 36 ∧ (((170 : Nat) : Int) + 36).toNat = 206 := ⟨by decide +kernel, rfl, by decide, by decide⟩
theorem i3_173 : decode m3.2.1 173 = .ok (.iload_n 0, 1) ∧ 173 + 1 = 174 := ⟨by decide +kernel, rfl⟩
theorem i3_174 : decode m3.2.1 174 = .ok (.ldc 14, 2) ∧ 174 + 2 = 176 := ⟨by decide +kernel, rfl⟩
theorem i3_176 : decode m3.2.1 176 = .ok (.ldc 15, 2) ∧ 176 + 2 = 178 := ⟨by decide +kernel, rfl⟩
theorem i3_178 : decode m3.2.1 178 = .ok (.invokestatic 7, 3) ∧ 178 + 3 = 181 := ⟨by decide +kernel, rfl⟩
theorem i3_181 : decode m3.2.1 181 = .ok (.ifCond .ne 25, 3) ∧ 181 + 3 = 184 ∧ 0 ≤ ((181 : Nat) : Int) + 25 ∧ (((181 : Nat) : Int) + 25).toNat = 206 := ⟨by decide +kernel, rfl, by decide, by decide⟩
theorem i3_184 : decode m3.2.1 184 = .ok (.iload_n 0, 1) ∧ 184 + 1 = 185 := ⟨by decide +kernel, rfl⟩
theorem i3_185 : decode m3.2.1 185 = .ok (.ldc 16, 2) ∧ 185 + 2 = 187 := ⟨by decide +kernel, rfl⟩
theorem i3_187 : decode m3.2.1 187 = .ok (.ldc 17, 2) ∧ 187 + 2 = 189 := ⟨by decide +kernel, rfl⟩
theorem i3_189 : decode m3.2.1 189 = .ok (.invokestatic 7, 3) ∧ 189 + 3 = 192 := ⟨by decide +kernel, rfl⟩
theorem i3_192 : decode m3.2.1 192 = .ok (.ifCond .ne 14, 3) ∧ 192 + 3 = 195 ∧ 0 ≤ ((192 : Nat) : Int) + 14 ∧ (((192 : Nat) : Int) + 14).toNat = 206 := ⟨by decide +kernel, rfl, by decide, by decide⟩
theorem i3_195 : decode m3.2.1 195 = .ok (.iload_n 0, 1) ∧ 195 + 1 = 196 := ⟨by decide +kernel, rfl⟩
theorem i3_196 : decode m3.2.1 196 = .ok (.ldc 18, 2) ∧ 196 + 2 = 198 := ⟨by decide +kernel, rfl⟩
theorem i3_198 : decode m3.2.1 198 = .ok (.ldc 19, 2) ∧ 198 + 2 = 200 := ⟨by decide +kernel, rfl⟩
theorem i3_200 : decode m3.2.1 200 = .ok (.invokestatic 7, 3) ∧ 200 + 3 = 203 := ⟨by decide +kernel, rfl⟩
theorem i3_203 : decode m3.2.1 203 = .ok (.ifCond .eq 7, 3) ∧ 203 + 3 = 206 ∧ 0 ≤ ((203 : Nat) : Int) + 7 ∧ (((203 : Nat) : Int) + 7).toNat = 210 := ⟨by decide +kernel, rfl, by decide, by decide⟩
theorem i3_206 : decode m3.2.1 206 = .ok (.iconst 1, 1) ∧ 206 + 1 = 207 ∧ Int32.ofInt 1 = 1 := ⟨by decide +kernel, rfl, by decide⟩
theorem i3_207 : decode m3.2.1 207 = .ok (.goto 4, 3) ∧ 207 + 3 = 210 ∧ 0 ≤ ((207 : Nat) : Int) + 4 ∧ (((207 : Nat) : Int) + 4).toNat = 211 := ⟨by decide +kernel, rfl, by decide, by decide⟩
theorem i3_210 : decode m3.2.1 210 = .ok (.iconst 0, 1) ∧ 210 + 1 = 211 ∧ Int32.ofInt 0 = 0 := ⟨by decide +kernel, rfl, by decide⟩
theorem i3_211 : decode m3.2.1 211 = .ok (.ireturn, 1) := by decide +kernel
theorem i4_0 : decode m4.2.1 0 = .ok (.iload_n 0, 1) ∧ 0 + 1 = 1 := ⟨by decide +kernel, rfl⟩
theorem i4_1 : decode m4.2.1 1 = .ok (.iload_n 1, 1) ∧ 1 + 1 = 2 := ⟨by decide +kernel, rfl⟩
theorem i4_2 : decode m4.2.1 2 = .ok (.if_icmp .lt 12, 3) ∧ 2 + 3 = 5 ∧ 0 ≤ ((2 : Nat) : Int) + 12 ∧ (((2 : Nat) : Int) + 12).toNat = 14 := ⟨by decide +kernel, rfl, by decide, by decide⟩
theorem i4_5 : decode m4.2.1 5 = .ok (.iload_n 0, 1) ∧ 5 + 1 = 6 := ⟨by decide +kernel, rfl⟩
theorem i4_6 : decode m4.2.1 6 = .ok (.iload_n 2, 1) ∧ 6 + 1 = 7 := ⟨by decide +kernel, rfl⟩
theorem i4_7 : decode m4.2.1 7 = .ok (.if_icmp .gt 7, 3) ∧ 7 + 3 = 10 ∧ 0 ≤ ((7 : Nat) : Int) + 7 ∧ (((7 : Nat) : Int) + 7).toNat = 14 := ⟨by decide +kernel, rfl, by decide, by decide⟩
theorem i4_10 : decode m4.2.1 10 = .ok (.iconst 1, 1) ∧ 10 + 1 = 11 ∧ Int32.ofInt 1 = 1 := ⟨by decide +kernel, rfl, by decide⟩
theorem i4_11 : decode m4.2.1 11 = .ok (.goto 4, 3) ∧ 11 + 3 = 14 ∧ 0 ≤ ((11 : Nat) : Int) + 4 ∧ (((11 : Nat) : Int) + 4).toNat = 15 := ⟨by decide +kernel, rfl, by decide, by decide⟩
theorem i4_14 : decode m4.2.1 14 = .ok (.iconst 0, 1) ∧ 14 + 1 = 15 ∧ Int32.ofInt 0 = 0 := ⟨by decide +kernel, rfl, by decide⟩
theorem i4_15 : decode m4.2.1 15 = .ok (.ireturn, 1) := by decide +kernel
theorem s0_32 {l : Launch} {Z : State} {a0 : Array Value} {n0 : Nat} {ls : List Slot} {st : List Value} {H H' : List Ob} {v : Option Value} (hw : HW Z a0) (kk : Runs K l Z n0 m0 34 ls (.int 65535 :: st) H v H') : Runs K l Z n0 m0 32 ls st H v H' := r_ldc i0_32 (hw _ (List.mem_of_getElem? (i := 26) rfl)) kk
theorem s0_40 {l : Launch} {Z : State} {a0 : Array Value} {n0 : Nat} {ls : List Slot} {st : List Value} {H H' : List Ob} {v : Option Value} (hw : HW Z a0) (kk : Runs K l Z n0 m0 42 ls (.int 2097151 :: st) H v H') : Runs K l Z n0 m0 40 ls st H v H' := r_ldc i0_40 (hw _ (List.mem_of_getElem? (i := 0) rfl)) kk
theorem s0_45 {l : Launch} {Z : State} {a0 : Array Value} {n0 : Nat} {ls : List Slot} {st : List Value} {H H' H1 : List Ob} {v : Option Value} (hw : HW Z a0) {x0 : Value} {w : Value} (M : Meets K l Z n0 m1 [x0] H (some w) H1) (hls : ls.length = 5) (hlo : (st.map fun v => v.category).sum ≤ 3) (kk : Runs K l Z n0 m0 48 ls (w :: st) H1 v H') : Runs K l Z n0 m0 45 ls (x0 :: st) H v H' := r_static (mj := m1) (as := [x0]) (rest := st) i0_45 (hw _ (List.mem_of_getElem? (i := 1) rfl)) (hw _ (List.mem_of_getElem? (i := 2) rfl)) (hw _ (List.mem_of_getElem? (i := 3) rfl)) (hw _ (List.mem_of_getElem? (i := 4) rfl)) (by decide) (lenOf pd1 rfl) (by decide) rfl hls (by show _ + (1 + 11) + 12 ≤ 27; omega) M kk
theorem s0_53 {l : Launch} {Z : State} {a0 : Array Value} {n0 : Nat} {ls : List Slot} {st : List Value} {H H' H1 : List Ob} {v : Option Value} (hw : HW Z a0) {x0 : Value} {w : Value} (M : Meets K l Z n0 m3 [x0] H (some w) H1) (hls : ls.length = 5) (hlo : (st.map fun v => v.category).sum ≤ 1) (kk : Runs K l Z n0 m0 56 ls (w :: st) H1 v H') : Runs K l Z n0 m0 53 ls (x0 :: st) H v H' := r_static (mj := m3) (as := [x0]) (rest := st) i0_53 (hw _ (List.mem_of_getElem? (i := 11) rfl)) (hw _ (List.mem_of_getElem? (i := 12) rfl)) (hw _ (List.mem_of_getElem? (i := 13) rfl)) (hw _ (List.mem_of_getElem? (i := 14) rfl)) (by decide) (lenOf pd3 rfl) (by decide) rfl hls (by show _ + (1 + 11) + 14 ≤ 27; omega) M kk
theorem s0_62 {l : Launch} {Z : State} {a0 : Array Value} {n0 : Nat} {ls : List Slot} {st : List Value} {H H' H1 : List Ob} {v : Option Value} (hw : HW Z a0) {x0 : Value} {w : Value} (M : Meets K l Z n0 m2 [x0] H (some w) H1) (hls : ls.length = 5) (hlo : (st.map fun v => v.category).sum ≤ 15) (kk : Runs K l Z n0 m0 65 ls (w :: st) H1 v H') : Runs K l Z n0 m0 62 ls (x0 :: st) H v H' := r_static (mj := m2) (as := [x0]) (rest := st) i0_62 (hw _ (List.mem_of_getElem? (i := 25) rfl)) (hw _ (List.mem_of_getElem? (i := 6) rfl)) (hw _ (List.mem_of_getElem? (i := 3) rfl)) (hw _ (List.mem_of_getElem? (i := 7) rfl)) (by decide) (lenOf pd2 rfl) (by decide) rfl hls (by show _ + (1 + 11) + 0 ≤ 27; omega) M kk
theorem s1_1 {l : Launch} {Z : State} {a0 : Array Value} {n0 : Nat} {ls : List Slot} {st : List Value} {H H' H1 : List Ob} {v : Option Value} (hw : HW Z a0) {x0 : Value} {w : Value} (M : Meets K l Z n0 m2 [x0] H (some w) H1) (hls : ls.length = 1) (hlo : (st.map fun v => v.category).sum ≤ 0) (kk : Runs K l Z n0 m1 4 ls (w :: st) H1 v H') : Runs K l Z n0 m1 1 ls (x0 :: st) H v H' := r_static (mj := m2) (as := [x0]) (rest := st) i1_1 (hw _ (List.mem_of_getElem? (i := 5) rfl)) (hw _ (List.mem_of_getElem? (i := 6) rfl)) (hw _ (List.mem_of_getElem? (i := 3) rfl)) (hw _ (List.mem_of_getElem? (i := 7) rfl)) (by decide) (lenOf pd2 rfl) (by decide) rfl hls (by show _ + (1 + 11) + 0 ≤ 12; omega) M kk
theorem s2_150 {l : Launch} {Z : State} {a0 : Array Value} {n0 : Nat} {ls : List Slot} {st : List Value} {H H' : List Ob} {v : Option Value} (hw : HW Z a0) (kk : Runs K l Z n0 m2 152 ls (.int 55295 :: st) H v H') : Runs K l Z n0 m2 150 ls st H v H' := r_ldc i2_150 (hw _ (List.mem_of_getElem? (i := 27) rfl)) kk
theorem s2_156 {l : Launch} {Z : State} {a0 : Array Value} {n0 : Nat} {ls : List Slot} {st : List Value} {H H' : List Ob} {v : Option Value} (hw : HW Z a0) (kk : Runs K l Z n0 m2 158 ls (.int 63744 :: st) H v H') : Runs K l Z n0 m2 156 ls st H v H' := r_ldc i2_156 (hw _ (List.mem_of_getElem? (i := 8) rfl)) kk
theorem s2_162 {l : Launch} {Z : State} {a0 : Array Value} {n0 : Nat} {ls : List Slot} {st : List Value} {H H' : List Ob} {v : Option Value} (hw : HW Z a0) (kk : Runs K l Z n0 m2 164 ls (.int 64975 :: st) H v H') : Runs K l Z n0 m2 162 ls st H v H' := r_ldc i2_162 (hw _ (List.mem_of_getElem? (i := 28) rfl)) kk
theorem s2_168 {l : Launch} {Z : State} {a0 : Array Value} {n0 : Nat} {ls : List Slot} {st : List Value} {H H' : List Ob} {v : Option Value} (hw : HW Z a0) (kk : Runs K l Z n0 m2 170 ls (.int 65008 :: st) H v H') : Runs K l Z n0 m2 168 ls st H v H' := r_ldc i2_168 (hw _ (List.mem_of_getElem? (i := 9) rfl)) kk
theorem s2_174 {l : Launch} {Z : State} {a0 : Array Value} {n0 : Nat} {ls : List Slot} {st : List Value} {H H' : List Ob} {v : Option Value} (hw : HW Z a0) (kk : Runs K l Z n0 m2 176 ls (.int 65533 :: st) H v H') : Runs K l Z n0 m2 174 ls st H v H' := r_ldc i2_174 (hw _ (List.mem_of_getElem? (i := 29) rfl)) kk
theorem s2_180 {l : Launch} {Z : State} {a0 : Array Value} {n0 : Nat} {ls : List Slot} {st : List Value} {H H' : List Ob} {v : Option Value} (hw : HW Z a0) (kk : Runs K l Z n0 m2 182 ls (.int 65536 :: st) H v H') : Runs K l Z n0 m2 180 ls st H v H' := r_ldc i2_180 (hw _ (List.mem_of_getElem? (i := 10) rfl)) kk
theorem s2_186 {l : Launch} {Z : State} {a0 : Array Value} {n0 : Nat} {ls : List Slot} {st : List Value} {H H' : List Ob} {v : Option Value} (hw : HW Z a0) (kk : Runs K l Z n0 m2 188 ls (.int 983039 :: st) H v H') : Runs K l Z n0 m2 186 ls st H v H' := r_ldc i2_186 (hw _ (List.mem_of_getElem? (i := 30) rfl)) kk
theorem s3_5 {l : Launch} {Z : State} {a0 : Array Value} {n0 : Nat} {ls : List Slot} {st : List Value} {H H' H1 : List Ob} {v : Option Value} (hw : HW Z a0) {x0 x1 x2 : Value} {w : Value} (M : Meets K l Z n0 m4 [x0, x1, x2] H (some w) H1) (hls : ls.length = 1) (hlo : (st.map fun v => v.category).sum ≤ 0) (kk : Runs K l Z n0 m3 8 ls (w :: st) H1 v H') : Runs K l Z n0 m3 5 ls (x2 :: x1 :: x0 :: st) H v H' := r_static (mj := m4) (as := [x0, x1, x2]) (rest := st) i3_5 (hw _ (List.mem_of_getElem? (i := 15) rfl)) (hw _ (List.mem_of_getElem? (i := 16) rfl)) (hw _ (List.mem_of_getElem? (i := 13) rfl)) (hw _ (List.mem_of_getElem? (i := 17) rfl)) (by decide) (lenOf pd4 rfl) (by decide) rfl hls (by show _ + (3 + 11) + 0 ≤ 14; omega) M kk
theorem s3_16 {l : Launch} {Z : State} {a0 : Array Value} {n0 : Nat} {ls : List Slot} {st : List Value} {H H' H1 : List Ob} {v : Option Value} (hw : HW Z a0) {x0 x1 x2 : Value} {w : Value} (M : Meets K l Z n0 m4 [x0, x1, x2] H (some w) H1) (hls : ls.length = 1) (hlo : (st.map fun v => v.category).sum ≤ 0) (kk : Runs K l Z n0 m3 19 ls (w :: st) H1 v H') : Runs K l Z n0 m3 16 ls (x2 :: x1 :: x0 :: st) H v H' := r_static (mj := m4) (as := [x0, x1, x2]) (rest := st) i3_16 (hw _ (List.mem_of_getElem? (i := 15) rfl)) (hw _ (List.mem_of_getElem? (i := 16) rfl)) (hw _ (List.mem_of_getElem? (i := 13) rfl)) (hw _ (List.mem_of_getElem? (i := 17) rfl)) (by decide) (lenOf pd4 rfl) (by decide) rfl hls (by show _ + (3 + 11) + 0 ≤ 14; omega) M kk
theorem s3_27 {l : Launch} {Z : State} {a0 : Array Value} {n0 : Nat} {ls : List Slot} {st : List Value} {H H' H1 : List Ob} {v : Option Value} (hw : HW Z a0) {x0 x1 x2 : Value} {w : Value} (M : Meets K l Z n0 m4 [x0, x1, x2] H (some w) H1) (hls : ls.length = 1) (hlo : (st.map fun v => v.category).sum ≤ 0) (kk : Runs K l Z n0 m3 30 ls (w :: st) H1 v H') : Runs K l Z n0 m3 27 ls (x2 :: x1 :: x0 :: st) H v H' := r_static (mj := m4) (as := [x0, x1, x2]) (rest := st) i3_27 (hw _ (List.mem_of_getElem? (i := 15) rfl)) (hw _ (List.mem_of_getElem? (i := 16) rfl)) (hw _ (List.mem_of_getElem? (i := 13) rfl)) (hw _ (List.mem_of_getElem? (i := 17) rfl)) (by decide) (lenOf pd4 rfl) (by decide) rfl hls (by show _ + (3 + 11) + 0 ≤ 14; omega) M kk
theorem s3_44 {l : Launch} {Z : State} {a0 : Array Value} {n0 : Nat} {ls : List Slot} {st : List Value} {H H' H1 : List Ob} {v : Option Value} (hw : HW Z a0) {x0 x1 x2 : Value} {w : Value} (M : Meets K l Z n0 m4 [x0, x1, x2] H (some w) H1) (hls : ls.length = 1) (hlo : (st.map fun v => v.category).sum ≤ 0) (kk : Runs K l Z n0 m3 47 ls (w :: st) H1 v H') : Runs K l Z n0 m3 44 ls (x2 :: x1 :: x0 :: st) H v H' := r_static (mj := m4) (as := [x0, x1, x2]) (rest := st) i3_44 (hw _ (List.mem_of_getElem? (i := 15) rfl)) (hw _ (List.mem_of_getElem? (i := 16) rfl)) (hw _ (List.mem_of_getElem? (i := 13) rfl)) (hw _ (List.mem_of_getElem? (i := 17) rfl)) (by decide) (lenOf pd4 rfl) (by decide) rfl hls (by show _ + (3 + 11) + 0 ≤ 14; omega) M kk
theorem s3_64 {l : Launch} {Z : State} {a0 : Array Value} {n0 : Nat} {ls : List Slot} {st : List Value} {H H' H1 : List Ob} {v : Option Value} (hw : HW Z a0) {x0 x1 x2 : Value} {w : Value} (M : Meets K l Z n0 m4 [x0, x1, x2] H (some w) H1) (hls : ls.length = 1) (hlo : (st.map fun v => v.category).sum ≤ 0) (kk : Runs K l Z n0 m3 67 ls (w :: st) H1 v H') : Runs K l Z n0 m3 64 ls (x2 :: x1 :: x0 :: st) H v H' := r_static (mj := m4) (as := [x0, x1, x2]) (rest := st) i3_64 (hw _ (List.mem_of_getElem? (i := 15) rfl)) (hw _ (List.mem_of_getElem? (i := 16) rfl)) (hw _ (List.mem_of_getElem? (i := 13) rfl)) (hw _ (List.mem_of_getElem? (i := 17) rfl)) (by decide) (lenOf pd4 rfl) (by decide) rfl hls (by show _ + (3 + 11) + 0 ≤ 14; omega) M kk
theorem s3_77 {l : Launch} {Z : State} {a0 : Array Value} {n0 : Nat} {ls : List Slot} {st : List Value} {H H' H1 : List Ob} {v : Option Value} (hw : HW Z a0) {x0 x1 x2 : Value} {w : Value} (M : Meets K l Z n0 m4 [x0, x1, x2] H (some w) H1) (hls : ls.length = 1) (hlo : (st.map fun v => v.category).sum ≤ 0) (kk : Runs K l Z n0 m3 80 ls (w :: st) H1 v H') : Runs K l Z n0 m3 77 ls (x2 :: x1 :: x0 :: st) H v H' := r_static (mj := m4) (as := [x0, x1, x2]) (rest := st) i3_77 (hw _ (List.mem_of_getElem? (i := 15) rfl)) (hw _ (List.mem_of_getElem? (i := 16) rfl)) (hw _ (List.mem_of_getElem? (i := 13) rfl)) (hw _ (List.mem_of_getElem? (i := 17) rfl)) (by decide) (lenOf pd4 rfl) (by decide) rfl hls (by show _ + (3 + 11) + 0 ≤ 14; omega) M kk
theorem s3_90 {l : Launch} {Z : State} {a0 : Array Value} {n0 : Nat} {ls : List Slot} {st : List Value} {H H' H1 : List Ob} {v : Option Value} (hw : HW Z a0) {x0 x1 x2 : Value} {w : Value} (M : Meets K l Z n0 m4 [x0, x1, x2] H (some w) H1) (hls : ls.length = 1) (hlo : (st.map fun v => v.category).sum ≤ 0) (kk : Runs K l Z n0 m3 93 ls (w :: st) H1 v H') : Runs K l Z n0 m3 90 ls (x2 :: x1 :: x0 :: st) H v H' := r_static (mj := m4) (as := [x0, x1, x2]) (rest := st) i3_90 (hw _ (List.mem_of_getElem? (i := 15) rfl)) (hw _ (List.mem_of_getElem? (i := 16) rfl)) (hw _ (List.mem_of_getElem? (i := 13) rfl)) (hw _ (List.mem_of_getElem? (i := 17) rfl)) (by decide) (lenOf pd4 rfl) (by decide) rfl hls (by show _ + (3 + 11) + 0 ≤ 14; omega) M kk
theorem s3_103 {l : Launch} {Z : State} {a0 : Array Value} {n0 : Nat} {ls : List Slot} {st : List Value} {H H' H1 : List Ob} {v : Option Value} (hw : HW Z a0) {x0 x1 x2 : Value} {w : Value} (M : Meets K l Z n0 m4 [x0, x1, x2] H (some w) H1) (hls : ls.length = 1) (hlo : (st.map fun v => v.category).sum ≤ 0) (kk : Runs K l Z n0 m3 106 ls (w :: st) H1 v H') : Runs K l Z n0 m3 103 ls (x2 :: x1 :: x0 :: st) H v H' := r_static (mj := m4) (as := [x0, x1, x2]) (rest := st) i3_103 (hw _ (List.mem_of_getElem? (i := 15) rfl)) (hw _ (List.mem_of_getElem? (i := 16) rfl)) (hw _ (List.mem_of_getElem? (i := 13) rfl)) (hw _ (List.mem_of_getElem? (i := 17) rfl)) (by decide) (lenOf pd4 rfl) (by decide) rfl hls (by show _ + (3 + 11) + 0 ≤ 14; omega) M kk
theorem s3_116 {l : Launch} {Z : State} {a0 : Array Value} {n0 : Nat} {ls : List Slot} {st : List Value} {H H' H1 : List Ob} {v : Option Value} (hw : HW Z a0) {x0 x1 x2 : Value} {w : Value} (M : Meets K l Z n0 m4 [x0, x1, x2] H (some w) H1) (hls : ls.length = 1) (hlo : (st.map fun v => v.category).sum ≤ 0) (kk : Runs K l Z n0 m3 119 ls (w :: st) H1 v H') : Runs K l Z n0 m3 116 ls (x2 :: x1 :: x0 :: st) H v H' := r_static (mj := m4) (as := [x0, x1, x2]) (rest := st) i3_116 (hw _ (List.mem_of_getElem? (i := 15) rfl)) (hw _ (List.mem_of_getElem? (i := 16) rfl)) (hw _ (List.mem_of_getElem? (i := 13) rfl)) (hw _ (List.mem_of_getElem? (i := 17) rfl)) (by decide) (lenOf pd4 rfl) (by decide) rfl hls (by show _ + (3 + 11) + 0 ≤ 14; omega) M kk
theorem s3_129 {l : Launch} {Z : State} {a0 : Array Value} {n0 : Nat} {ls : List Slot} {st : List Value} {H H' H1 : List Ob} {v : Option Value} (hw : HW Z a0) {x0 x1 x2 : Value} {w : Value} (M : Meets K l Z n0 m4 [x0, x1, x2] H (some w) H1) (hls : ls.length = 1) (hlo : (st.map fun v => v.category).sum ≤ 0) (kk : Runs K l Z n0 m3 132 ls (w :: st) H1 v H') : Runs K l Z n0 m3 129 ls (x2 :: x1 :: x0 :: st) H v H' := r_static (mj := m4) (as := [x0, x1, x2]) (rest := st) i3_129 (hw _ (List.mem_of_getElem? (i := 15) rfl)) (hw _ (List.mem_of_getElem? (i := 16) rfl)) (hw _ (List.mem_of_getElem? (i := 13) rfl)) (hw _ (List.mem_of_getElem? (i := 17) rfl)) (by decide) (lenOf pd4 rfl) (by decide) rfl hls (by show _ + (3 + 11) + 0 ≤ 14; omega) M kk
theorem s3_142 {l : Launch} {Z : State} {a0 : Array Value} {n0 : Nat} {ls : List Slot} {st : List Value} {H H' H1 : List Ob} {v : Option Value} (hw : HW Z a0) {x0 x1 x2 : Value} {w : Value} (M : Meets K l Z n0 m4 [x0, x1, x2] H (some w) H1) (hls : ls.length = 1) (hlo : (st.map fun v => v.category).sum ≤ 0) (kk : Runs K l Z n0 m3 145 ls (w :: st) H1 v H') : Runs K l Z n0 m3 142 ls (x2 :: x1 :: x0 :: st) H v H' := r_static (mj := m4) (as := [x0, x1, x2]) (rest := st) i3_142 (hw _ (List.mem_of_getElem? (i := 15) rfl)) (hw _ (List.mem_of_getElem? (i := 16) rfl)) (hw _ (List.mem_of_getElem? (i := 13) rfl)) (hw _ (List.mem_of_getElem? (i := 17) rfl)) (by decide) (lenOf pd4 rfl) (by decide) rfl hls (by show _ + (3 + 11) + 0 ≤ 14; omega) M kk
theorem s3_155 {l : Launch} {Z : State} {a0 : Array Value} {n0 : Nat} {ls : List Slot} {st : List Value} {H H' H1 : List Ob} {v : Option Value} (hw : HW Z a0) {x0 x1 x2 : Value} {w : Value} (M : Meets K l Z n0 m4 [x0, x1, x2] H (some w) H1) (hls : ls.length = 1) (hlo : (st.map fun v => v.category).sum ≤ 0) (kk : Runs K l Z n0 m3 158 ls (w :: st) H1 v H') : Runs K l Z n0 m3 155 ls (x2 :: x1 :: x0 :: st) H v H' := r_static (mj := m4) (as := [x0, x1, x2]) (rest := st) i3_155 (hw _ (List.mem_of_getElem? (i := 15) rfl)) (hw _ (List.mem_of_getElem? (i := 16) rfl)) (hw _ (List.mem_of_getElem? (i := 13) rfl)) (hw _ (List.mem_of_getElem? (i := 17) rfl)) (by decide) (lenOf pd4 rfl) (by decide) rfl hls (by show _ + (3 + 11) + 0 ≤ 14; omega) M kk
theorem s3_165 {l : Launch} {Z : State} {a0 : Array Value} {n0 : Nat} {ls : List Slot} {st : List Value} {H H' : List Ob} {v : Option Value} (hw : HW Z a0) (kk : Runs K l Z n0 m3 167 ls (.int 55295 :: st) H v H') : Runs K l Z n0 m3 165 ls st H v H' := r_ldc i3_165 (hw _ (List.mem_of_getElem? (i := 18) rfl)) kk
theorem s3_167 {l : Launch} {Z : State} {a0 : Array Value} {n0 : Nat} {ls : List Slot} {st : List Value} {H H' H1 : List Ob} {v : Option Value} (hw : HW Z a0) {x0 x1 x2 : Value} {w : Value} (M : Meets K l Z n0 m4 [x0, x1, x2] H (some w) H1) (hls : ls.length = 1) (hlo : (st.map fun v => v.category).sum ≤ 0) (kk : Runs K l Z n0 m3 170 ls (w :: st) H1 v H') : Runs K l Z n0 m3 167 ls (x2 :: x1 :: x0 :: st) H v H' := r_static (mj := m4) (as := [x0, x1, x2]) (rest := st) i3_167 (hw _ (List.mem_of_getElem? (i := 15) rfl)) (hw _ (List.mem_of_getElem? (i := 16) rfl)) (hw _ (List.mem_of_getElem? (i := 13) rfl)) (hw _ (List.mem_of_getElem? (i := 17) rfl)) (by decide) (lenOf pd4 rfl) (by decide) rfl hls (by show _ + (3 + 11) + 0 ≤ 14; omega) M kk
theorem s3_174 {l : Launch} {Z : State} {a0 : Array Value} {n0 : Nat} {ls : List Slot} {st : List Value} {H H' : List Ob} {v : Option Value} (hw : HW Z a0) (kk : Runs K l Z n0 m3 176 ls (.int 63744 :: st) H v H') : Runs K l Z n0 m3 174 ls st H v H' := r_ldc i3_174 (hw _ (List.mem_of_getElem? (i := 19) rfl)) kk
theorem s3_176 {l : Launch} {Z : State} {a0 : Array Value} {n0 : Nat} {ls : List Slot} {st : List Value} {H H' : List Ob} {v : Option Value} (hw : HW Z a0) (kk : Runs K l Z n0 m3 178 ls (.int 64975 :: st) H v H') : Runs K l Z n0 m3 176 ls st H v H' := r_ldc i3_176 (hw _ (List.mem_of_getElem? (i := 20) rfl)) kk
theorem s3_178 {l : Launch} {Z : State} {a0 : Array Value} {n0 : Nat} {ls : List Slot} {st : List Value} {H H' H1 : List Ob} {v : Option Value} (hw : HW Z a0) {x0 x1 x2 : Value} {w : Value} (M : Meets K l Z n0 m4 [x0, x1, x2] H (some w) H1) (hls : ls.length = 1) (hlo : (st.map fun v => v.category).sum ≤ 0) (kk : Runs K l Z n0 m3 181 ls (w :: st) H1 v H') : Runs K l Z n0 m3 178 ls (x2 :: x1 :: x0 :: st) H v H' := r_static (mj := m4) (as := [x0, x1, x2]) (rest := st) i3_178 (hw _ (List.mem_of_getElem? (i := 15) rfl)) (hw _ (List.mem_of_getElem? (i := 16) rfl)) (hw _ (List.mem_of_getElem? (i := 13) rfl)) (hw _ (List.mem_of_getElem? (i := 17) rfl)) (by decide) (lenOf pd4 rfl) (by decide) rfl hls (by show _ + (3 + 11) + 0 ≤ 14; omega) M kk
theorem s3_185 {l : Launch} {Z : State} {a0 : Array Value} {n0 : Nat} {ls : List Slot} {st : List Value} {H H' : List Ob} {v : Option Value} (hw : HW Z a0) (kk : Runs K l Z n0 m3 187 ls (.int 65008 :: st) H v H') : Runs K l Z n0 m3 185 ls st H v H' := r_ldc i3_185 (hw _ (List.mem_of_getElem? (i := 21) rfl)) kk
theorem s3_187 {l : Launch} {Z : State} {a0 : Array Value} {n0 : Nat} {ls : List Slot} {st : List Value} {H H' : List Ob} {v : Option Value} (hw : HW Z a0) (kk : Runs K l Z n0 m3 189 ls (.int 65533 :: st) H v H') : Runs K l Z n0 m3 187 ls st H v H' := r_ldc i3_187 (hw _ (List.mem_of_getElem? (i := 22) rfl)) kk
theorem s3_189 {l : Launch} {Z : State} {a0 : Array Value} {n0 : Nat} {ls : List Slot} {st : List Value} {H H' H1 : List Ob} {v : Option Value} (hw : HW Z a0) {x0 x1 x2 : Value} {w : Value} (M : Meets K l Z n0 m4 [x0, x1, x2] H (some w) H1) (hls : ls.length = 1) (hlo : (st.map fun v => v.category).sum ≤ 0) (kk : Runs K l Z n0 m3 192 ls (w :: st) H1 v H') : Runs K l Z n0 m3 189 ls (x2 :: x1 :: x0 :: st) H v H' := r_static (mj := m4) (as := [x0, x1, x2]) (rest := st) i3_189 (hw _ (List.mem_of_getElem? (i := 15) rfl)) (hw _ (List.mem_of_getElem? (i := 16) rfl)) (hw _ (List.mem_of_getElem? (i := 13) rfl)) (hw _ (List.mem_of_getElem? (i := 17) rfl)) (by decide) (lenOf pd4 rfl) (by decide) rfl hls (by show _ + (3 + 11) + 0 ≤ 14; omega) M kk
theorem s3_196 {l : Launch} {Z : State} {a0 : Array Value} {n0 : Nat} {ls : List Slot} {st : List Value} {H H' : List Ob} {v : Option Value} (hw : HW Z a0) (kk : Runs K l Z n0 m3 198 ls (.int 65536 :: st) H v H') : Runs K l Z n0 m3 196 ls st H v H' := r_ldc i3_196 (hw _ (List.mem_of_getElem? (i := 23) rfl)) kk
theorem s3_198 {l : Launch} {Z : State} {a0 : Array Value} {n0 : Nat} {ls : List Slot} {st : List Value} {H H' : List Ob} {v : Option Value} (hw : HW Z a0) (kk : Runs K l Z n0 m3 200 ls (.int 983039 :: st) H v H') : Runs K l Z n0 m3 198 ls st H v H' := r_ldc i3_198 (hw _ (List.mem_of_getElem? (i := 24) rfl)) kk
theorem s3_200 {l : Launch} {Z : State} {a0 : Array Value} {n0 : Nat} {ls : List Slot} {st : List Value} {H H' H1 : List Ob} {v : Option Value} (hw : HW Z a0) {x0 x1 x2 : Value} {w : Value} (M : Meets K l Z n0 m4 [x0, x1, x2] H (some w) H1) (hls : ls.length = 1) (hlo : (st.map fun v => v.category).sum ≤ 0) (kk : Runs K l Z n0 m3 203 ls (w :: st) H1 v H') : Runs K l Z n0 m3 200 ls (x2 :: x1 :: x0 :: st) H v H' := r_static (mj := m4) (as := [x0, x1, x2]) (rest := st) i3_200 (hw _ (List.mem_of_getElem? (i := 15) rfl)) (hw _ (List.mem_of_getElem? (i := 16) rfl)) (hw _ (List.mem_of_getElem? (i := 13) rfl)) (hw _ (List.mem_of_getElem? (i := 17) rfl)) (by decide) (lenOf pd4 rfl) (by decide) rfl hls (by show _ + (3 + 11) + 0 ≤ 14; omega) M kk
def own_b (P : Prop) [Decidable P] : Int32 := if P then 1 else 0
theorem own_b_congr {P Q : Prop} [Decidable P] [Decidable Q] (h : P ↔ Q) : own_b P = own_b Q := by
  unfold own_b
  by_cases p : P
  · rw [if_pos p, if_pos (h.mp p)]
  · rw [if_neg p, if_neg (fun q => p (h.mpr q))]
theorem own_b0 {P : Prop} [Decidable P] : own_b P = 0 ↔ ¬ P := by
  unfold own_b
  by_cases p : P
  · rw [if_pos p]; exact ⟨fun h => absurd h (by decide), fun h => absurd p h⟩
  · rw [if_neg p]; exact ⟨fun _ => p, fun _ => rfl⟩
theorem own_b1 {P : Prop} [Decidable P] : own_b P = 1 ↔ P := by
  unfold own_b
  by_cases p : P
  · rw [if_pos p]; exact ⟨fun _ => p, fun _ => rfl⟩
  · rw [if_neg p]; exact ⟨fun h => absurd h (by decide), fun h => absurd h p⟩
theorem own_pos {P : Prop} [Decidable P] (h : P) : (1 : Int32) = own_b P := (own_b1.mpr h).symm
theorem own_neg {P : Prop} [Decidable P] (h : ¬ P) : (0 : Int32) = own_b P := (own_b0.mpr h).symm
theorem own_r0 (c lo hi : Int32) (a b : Int) (ha : lo.toInt = a) (hb : hi.toInt = b) : (if c < lo then (0 : Int32) else (if hi < c then 0 else 1)) = own_b (a ≤ c.toInt ∧ c.toInt ≤ b) := by
  subst ha hb
  simp only [Int32.lt_iff_toInt_lt]
  by_cases h1 : c.toInt < lo.toInt
  · rw [if_pos h1]; exact own_neg (by omega)
  · by_cases h2 : hi.toInt < c.toInt
    · rw [if_neg h1, if_pos h2]; exact own_neg (by omega)
    · rw [if_neg h1, if_neg h2]; exact own_pos (by omega)
theorem own_r1 (c lo hi : Int32) (a b : Int) {P : Prop} [Decidable P] (ha : lo.toInt = a) (hb : hi.toInt = b) : (if c < lo then own_b P else (if hi < c then own_b P else 1)) = own_b ((a ≤ c.toInt ∧ c.toInt ≤ b) ∨ P) := by
  subst ha hb
  simp only [Int32.lt_iff_toInt_lt]
  by_cases h1 : c.toInt < lo.toInt
  · rw [if_pos h1]; exact own_b_congr ⟨Or.inr, fun h => h.elim (fun q => by omega) id⟩
  · by_cases h2 : hi.toInt < c.toInt
    · rw [if_neg h1, if_pos h2]; exact own_b_congr ⟨Or.inr, fun h => h.elim (fun q => by omega) id⟩
    · rw [if_neg h1, if_neg h2]; exact own_pos (Or.inl (by omega))
theorem own_e1 (c k : Int32) (a : Int) {P : Prop} [Decidable P] (ha : k.toInt = a) : (if c = k then (1 : Int32) else own_b P) = own_b (c.toInt = a ∨ P) := by
  subst ha
  by_cases h1 : c = k
  · rw [if_pos h1]; exact own_pos (P := c.toInt = k.toInt ∨ P) (Or.inl (congrArg Int32.toInt h1))
  · rw [if_neg h1]; exact own_b_congr ⟨Or.inr, fun h => h.elim (fun q => absurd (Int32.toInt_inj.mp q) h1) id⟩
theorem own_o1 {P Q : Prop} [Decidable P] [Decidable Q] : (if own_b P = 0 then own_b Q else (1 : Int32)) = own_b (P ∨ Q) := by
  by_cases p : P
  · rw [if_neg (fun h => own_b0.mp h p)]; exact own_pos (Or.inl p)
  · rw [if_pos (own_b0.mpr p)]; exact own_b_congr ⟨Or.inr, fun h => h.elim (fun q => absurd q p) id⟩
theorem own_o0 {P : Prop} [Decidable P] : (if own_b P = 0 then (0 : Int32) else 1) = own_b P := by
  by_cases p : P
  · rw [if_neg (fun h => own_b0.mp h p)]; exact own_pos p
  · rw [if_pos (own_b0.mpr p)]; exact own_neg p

def f4_0 (x0 : Int32) (x1 : Int32) (x2 : Int32) : Int32 := (if x0 < x1 then 0 else (if x2 < x0 then 0 else 1))
set_option maxRecDepth 4000 in
theorem g4_0 {l : Launch} {Z : State} {a0 : Array Value} {n0 : Nat} (hw : HW Z a0) {H : List Ob} (x0 : Int32) (x1 : Int32) (x2 : Int32) : Runs K l Z n0 m4 0 [.val (.int x0), .val (.int x1), .val (.int x2)] [] H (some (.int (f4_0 x0 x1 x2))) H := by
  unfold f4_0
  refine r_iloadN i4_0 rfl ?_
  refine r_iloadN i4_1 rfl ?_
  by_cases h1 : x0 < x1
  · rw [if_pos h1]
    refine r_icT i4_2 (XT.ii_lt_t h1) ?_
    refine r_iconst i4_14 ?_
    exact r_zreturn i4_15 rfl (by first | decide | simp)
  · rw [if_neg h1]
    refine r_icF i4_2 (XT.ii_lt_f h1) ?_
    refine r_iloadN i4_5 rfl ?_
    refine r_iloadN i4_6 rfl ?_
    by_cases h2 : x2 < x0
    · rw [if_pos h2]
      refine r_icT i4_7 (XT.ii_gt_t h2) ?_
      refine r_iconst i4_14 ?_
      exact r_zreturn i4_15 rfl (by first | decide | simp)
    · rw [if_neg h2]
      refine r_icF i4_7 (XT.ii_gt_f h2) ?_
      refine r_iconst i4_10 ?_
      refine r_goto i4_11 ?_
      exact r_zreturn i4_15 rfl (by first | decide | simp)
theorem c4 {l : Launch} {Z : State} {a0 : Array Value} {n0 : Nat} (hw : HW Z a0) {H : List Ob} (x0 : Int32) (x1 : Int32) (x2 : Int32) : Meets K l Z n0 m4 [.int x0, .int x1, .int x2] H (some (.int (f4_0 x0 x1 x2))) H := meets pf4 rfl (fun h => nomatch h) (g4_0 hw x0 x1 x2)
def f2_179 (x0 : Int32) : Int32 := (if x0 < 65536 then 0 else (if 983039 < x0 then 0 else 1))
set_option maxRecDepth 4000 in
theorem g2_179 {l : Launch} {Z : State} {a0 : Array Value} {n0 : Nat} (hw : HW Z a0) {H : List Ob} (x0 : Int32) : Runs K l Z n0 m2 179 [.val (.int x0)] [] H (some (.int (f2_179 x0))) H := by
  unfold f2_179
  refine r_iloadN i2_179 rfl ?_
  refine s2_180 hw ?_
  by_cases h15 : x0 < 65536
  · rw [if_pos h15]
    refine r_icT i2_182 (XT.ii_lt_t h15) ?_
    refine r_iconst i2_195 ?_
    exact r_zreturn i2_196 rfl (by first | decide | simp)
  · rw [if_neg h15]
    refine r_icF i2_182 (XT.ii_lt_f h15) ?_
    refine r_iloadN i2_185 rfl ?_
    refine s2_186 hw ?_
    by_cases h16 : 983039 < x0
    · rw [if_pos h16]
      refine r_icT i2_188 (XT.ii_gt_t h16) ?_
      refine r_iconst i2_195 ?_
      exact r_zreturn i2_196 rfl (by first | decide | simp)
    · rw [if_neg h16]
      refine r_icF i2_188 (XT.ii_gt_f h16) ?_
      refine r_iconst i2_191 ?_
      refine r_goto i2_192 ?_
      exact r_zreturn i2_196 rfl (by first | decide | simp)
def f2_167 (x0 : Int32) : Int32 := (if x0 < 65008 then f2_179 x0 else (if 65533 < x0 then f2_179 x0 else 1))
set_option maxRecDepth 4000 in
theorem g2_167 {l : Launch} {Z : State} {a0 : Array Value} {n0 : Nat} (hw : HW Z a0) {H : List Ob} (x0 : Int32) : Runs K l Z n0 m2 167 [.val (.int x0)] [] H (some (.int (f2_167 x0))) H := by
  unfold f2_167
  refine r_iloadN i2_167 rfl ?_
  refine s2_168 hw ?_
  by_cases h14 : x0 < 65008
  · rw [if_pos h14]
    refine r_icT i2_170 (XT.ii_lt_t h14) ?_
    exact g2_179 hw x0
  · rw [if_neg h14]
    refine r_icF i2_170 (XT.ii_lt_f h14) ?_
    refine r_iloadN i2_173 rfl ?_
    refine s2_174 hw ?_
    by_cases h17 : 65533 < x0
    · rw [if_pos h17]
      refine r_icF i2_176 (XT.ii_le_f h17) ?_
      exact g2_179 hw x0
    · rw [if_neg h17]
      refine r_icT i2_176 (XT.ii_le_t h17) ?_
      refine r_iconst i2_191 ?_
      refine r_goto i2_192 ?_
      exact r_zreturn i2_196 rfl (by first | decide | simp)
def f2_155 (x0 : Int32) : Int32 := (if x0 < 63744 then f2_167 x0 else (if 64975 < x0 then f2_167 x0 else 1))
set_option maxRecDepth 4000 in
theorem g2_155 {l : Launch} {Z : State} {a0 : Array Value} {n0 : Nat} (hw : HW Z a0) {H : List Ob} (x0 : Int32) : Runs K l Z n0 m2 155 [.val (.int x0)] [] H (some (.int (f2_155 x0))) H := by
  unfold f2_155
  refine r_iloadN i2_155 rfl ?_
  refine s2_156 hw ?_
  by_cases h13 : x0 < 63744
  · rw [if_pos h13]
    refine r_icT i2_158 (XT.ii_lt_t h13) ?_
    exact g2_167 hw x0
  · rw [if_neg h13]
    refine r_icF i2_158 (XT.ii_lt_f h13) ?_
    refine r_iloadN i2_161 rfl ?_
    refine s2_162 hw ?_
    by_cases h18 : 64975 < x0
    · rw [if_pos h18]
      refine r_icF i2_164 (XT.ii_le_f h18) ?_
      exact g2_167 hw x0
    · rw [if_neg h18]
      refine r_icT i2_164 (XT.ii_le_t h18) ?_
      refine r_iconst i2_191 ?_
      refine r_goto i2_192 ?_
      exact r_zreturn i2_196 rfl (by first | decide | simp)
def f2_142 (x0 : Int32) : Int32 := (if x0 < 12289 then f2_155 x0 else (if 55295 < x0 then f2_155 x0 else 1))
set_option maxRecDepth 4000 in
theorem g2_142 {l : Launch} {Z : State} {a0 : Array Value} {n0 : Nat} (hw : HW Z a0) {H : List Ob} (x0 : Int32) : Runs K l Z n0 m2 142 [.val (.int x0)] [] H (some (.int (f2_142 x0))) H := by
  unfold f2_142
  refine r_iloadN i2_142 rfl ?_
  refine r_sipush i2_143 ?_
  by_cases h12 : x0 < 12289
  · rw [if_pos h12]
    refine r_icT i2_146 (XT.ii_lt_t h12) ?_
    exact g2_155 hw x0
  · rw [if_neg h12]
    refine r_icF i2_146 (XT.ii_lt_f h12) ?_
    refine r_iloadN i2_149 rfl ?_
    refine s2_150 hw ?_
    by_cases h19 : 55295 < x0
    · rw [if_pos h19]
      refine r_icF i2_152 (XT.ii_le_f h19) ?_
      exact g2_155 hw x0
    · rw [if_neg h19]
      refine r_icT i2_152 (XT.ii_le_t h19) ?_
      refine r_iconst i2_191 ?_
      refine r_goto i2_192 ?_
      exact r_zreturn i2_196 rfl (by first | decide | simp)
def f2_128 (x0 : Int32) : Int32 := (if x0 < 11264 then f2_142 x0 else (if 12271 < x0 then f2_142 x0 else 1))
set_option maxRecDepth 4000 in
theorem g2_128 {l : Launch} {Z : State} {a0 : Array Value} {n0 : Nat} (hw : HW Z a0) {H : List Ob} (x0 : Int32) : Runs K l Z n0 m2 128 [.val (.int x0)] [] H (some (.int (f2_128 x0))) H := by
  unfold f2_128
  refine r_iloadN i2_128 rfl ?_
  refine r_sipush i2_129 ?_
  by_cases h11 : x0 < 11264
  · rw [if_pos h11]
    refine r_icT i2_132 (XT.ii_lt_t h11) ?_
    exact g2_142 hw x0
  · rw [if_neg h11]
    refine r_icF i2_132 (XT.ii_lt_f h11) ?_
    refine r_iloadN i2_135 rfl ?_
    refine r_sipush i2_136 ?_
    by_cases h20 : 12271 < x0
    · rw [if_pos h20]
      refine r_icF i2_139 (XT.ii_le_f h20) ?_
      exact g2_142 hw x0
    · rw [if_neg h20]
      refine r_icT i2_139 (XT.ii_le_t h20) ?_
      refine r_iconst i2_191 ?_
      refine r_goto i2_192 ?_
      exact r_zreturn i2_196 rfl (by first | decide | simp)
def f2_114 (x0 : Int32) : Int32 := (if x0 < 8304 then f2_128 x0 else (if 8591 < x0 then f2_128 x0 else 1))
set_option maxRecDepth 4000 in
theorem g2_114 {l : Launch} {Z : State} {a0 : Array Value} {n0 : Nat} (hw : HW Z a0) {H : List Ob} (x0 : Int32) : Runs K l Z n0 m2 114 [.val (.int x0)] [] H (some (.int (f2_114 x0))) H := by
  unfold f2_114
  refine r_iloadN i2_114 rfl ?_
  refine r_sipush i2_115 ?_
  by_cases h10 : x0 < 8304
  · rw [if_pos h10]
    refine r_icT i2_118 (XT.ii_lt_t h10) ?_
    exact g2_128 hw x0
  · rw [if_neg h10]
    refine r_icF i2_118 (XT.ii_lt_f h10) ?_
    refine r_iloadN i2_121 rfl ?_
    refine r_sipush i2_122 ?_
    by_cases h21 : 8591 < x0
    · rw [if_pos h21]
      refine r_icF i2_125 (XT.ii_le_f h21) ?_
      exact g2_128 hw x0
    · rw [if_neg h21]
      refine r_icT i2_125 (XT.ii_le_t h21) ?_
      refine r_iconst i2_191 ?_
      refine r_goto i2_192 ?_
      exact r_zreturn i2_196 rfl (by first | decide | simp)
def f2_100 (x0 : Int32) : Int32 := (if x0 < 8204 then f2_114 x0 else (if 8205 < x0 then f2_114 x0 else 1))
set_option maxRecDepth 4000 in
theorem g2_100 {l : Launch} {Z : State} {a0 : Array Value} {n0 : Nat} (hw : HW Z a0) {H : List Ob} (x0 : Int32) : Runs K l Z n0 m2 100 [.val (.int x0)] [] H (some (.int (f2_100 x0))) H := by
  unfold f2_100
  refine r_iloadN i2_100 rfl ?_
  refine r_sipush i2_101 ?_
  by_cases h9 : x0 < 8204
  · rw [if_pos h9]
    refine r_icT i2_104 (XT.ii_lt_t h9) ?_
    exact g2_114 hw x0
  · rw [if_neg h9]
    refine r_icF i2_104 (XT.ii_lt_f h9) ?_
    refine r_iloadN i2_107 rfl ?_
    refine r_sipush i2_108 ?_
    by_cases h22 : 8205 < x0
    · rw [if_pos h22]
      refine r_icF i2_111 (XT.ii_le_f h22) ?_
      exact g2_114 hw x0
    · rw [if_neg h22]
      refine r_icT i2_111 (XT.ii_le_t h22) ?_
      refine r_iconst i2_191 ?_
      refine r_goto i2_192 ?_
      exact r_zreturn i2_196 rfl (by first | decide | simp)
def f2_86 (x0 : Int32) : Int32 := (if x0 < 895 then f2_100 x0 else (if 8191 < x0 then f2_100 x0 else 1))
set_option maxRecDepth 4000 in
theorem g2_86 {l : Launch} {Z : State} {a0 : Array Value} {n0 : Nat} (hw : HW Z a0) {H : List Ob} (x0 : Int32) : Runs K l Z n0 m2 86 [.val (.int x0)] [] H (some (.int (f2_86 x0))) H := by
  unfold f2_86
  refine r_iloadN i2_86 rfl ?_
  refine r_sipush i2_87 ?_
  by_cases h8 : x0 < 895
  · rw [if_pos h8]
    refine r_icT i2_90 (XT.ii_lt_t h8) ?_
    exact g2_100 hw x0
  · rw [if_neg h8]
    refine r_icF i2_90 (XT.ii_lt_f h8) ?_
    refine r_iloadN i2_93 rfl ?_
    refine r_sipush i2_94 ?_
    by_cases h23 : 8191 < x0
    · rw [if_pos h23]
      refine r_icF i2_97 (XT.ii_le_f h23) ?_
      exact g2_100 hw x0
    · rw [if_neg h23]
      refine r_icT i2_97 (XT.ii_le_t h23) ?_
      refine r_iconst i2_191 ?_
      refine r_goto i2_192 ?_
      exact r_zreturn i2_196 rfl (by first | decide | simp)
def f2_72 (x0 : Int32) : Int32 := (if x0 < 880 then f2_86 x0 else (if 893 < x0 then f2_86 x0 else 1))
set_option maxRecDepth 4000 in
theorem g2_72 {l : Launch} {Z : State} {a0 : Array Value} {n0 : Nat} (hw : HW Z a0) {H : List Ob} (x0 : Int32) : Runs K l Z n0 m2 72 [.val (.int x0)] [] H (some (.int (f2_72 x0))) H := by
  unfold f2_72
  refine r_iloadN i2_72 rfl ?_
  refine r_sipush i2_73 ?_
  by_cases h7 : x0 < 880
  · rw [if_pos h7]
    refine r_icT i2_76 (XT.ii_lt_t h7) ?_
    exact g2_86 hw x0
  · rw [if_neg h7]
    refine r_icF i2_76 (XT.ii_lt_f h7) ?_
    refine r_iloadN i2_79 rfl ?_
    refine r_sipush i2_80 ?_
    by_cases h24 : 893 < x0
    · rw [if_pos h24]
      refine r_icF i2_83 (XT.ii_le_f h24) ?_
      exact g2_86 hw x0
    · rw [if_neg h24]
      refine r_icT i2_83 (XT.ii_le_t h24) ?_
      refine r_iconst i2_191 ?_
      refine r_goto i2_192 ?_
      exact r_zreturn i2_196 rfl (by first | decide | simp)
def f2_58 (x0 : Int32) : Int32 := (if x0 < 248 then f2_72 x0 else (if 767 < x0 then f2_72 x0 else 1))
set_option maxRecDepth 4000 in
theorem g2_58 {l : Launch} {Z : State} {a0 : Array Value} {n0 : Nat} (hw : HW Z a0) {H : List Ob} (x0 : Int32) : Runs K l Z n0 m2 58 [.val (.int x0)] [] H (some (.int (f2_58 x0))) H := by
  unfold f2_58
  refine r_iloadN i2_58 rfl ?_
  refine r_sipush i2_59 ?_
  by_cases h6 : x0 < 248
  · rw [if_pos h6]
    refine r_icT i2_62 (XT.ii_lt_t h6) ?_
    exact g2_72 hw x0
  · rw [if_neg h6]
    refine r_icF i2_62 (XT.ii_lt_f h6) ?_
    refine r_iloadN i2_65 rfl ?_
    refine r_sipush i2_66 ?_
    by_cases h25 : 767 < x0
    · rw [if_pos h25]
      refine r_icF i2_69 (XT.ii_le_f h25) ?_
      exact g2_72 hw x0
    · rw [if_neg h25]
      refine r_icT i2_69 (XT.ii_le_t h25) ?_
      refine r_iconst i2_191 ?_
      refine r_goto i2_192 ?_
      exact r_zreturn i2_196 rfl (by first | decide | simp)
def f2_44 (x0 : Int32) : Int32 := (if x0 < 216 then f2_58 x0 else (if 246 < x0 then f2_58 x0 else 1))
set_option maxRecDepth 4000 in
theorem g2_44 {l : Launch} {Z : State} {a0 : Array Value} {n0 : Nat} (hw : HW Z a0) {H : List Ob} (x0 : Int32) : Runs K l Z n0 m2 44 [.val (.int x0)] [] H (some (.int (f2_44 x0))) H := by
  unfold f2_44
  refine r_iloadN i2_44 rfl ?_
  refine r_sipush i2_45 ?_
  by_cases h5 : x0 < 216
  · rw [if_pos h5]
    refine r_icT i2_48 (XT.ii_lt_t h5) ?_
    exact g2_58 hw x0
  · rw [if_neg h5]
    refine r_icF i2_48 (XT.ii_lt_f h5) ?_
    refine r_iloadN i2_51 rfl ?_
    refine r_sipush i2_52 ?_
    by_cases h26 : 246 < x0
    · rw [if_pos h26]
      refine r_icF i2_55 (XT.ii_le_f h26) ?_
      exact g2_58 hw x0
    · rw [if_neg h26]
      refine r_icT i2_55 (XT.ii_le_t h26) ?_
      refine r_iconst i2_191 ?_
      refine r_goto i2_192 ?_
      exact r_zreturn i2_196 rfl (by first | decide | simp)
def f2_24 (x0 : Int32) : Int32 := (if x0 = 95 then 1 else (if x0 < 192 then f2_44 x0 else (if 214 < x0 then f2_44 x0 else 1)))
set_option maxRecDepth 4000 in
theorem g2_24 {l : Launch} {Z : State} {a0 : Array Value} {n0 : Nat} (hw : HW Z a0) {H : List Ob} (x0 : Int32) : Runs K l Z n0 m2 24 [.val (.int x0)] [] H (some (.int (f2_24 x0))) H := by
  unfold f2_24
  refine r_iloadN i2_24 rfl ?_
  refine r_bipush i2_25 ?_
  by_cases h3 : x0 = 95
  · rw [if_pos h3]
    refine r_icT i2_27 (XT.ii_eq_t h3) ?_
    refine r_iconst i2_191 ?_
    refine r_goto i2_192 ?_
    exact r_zreturn i2_196 rfl (by first | decide | simp)
  · rw [if_neg h3]
    refine r_icF i2_27 (XT.ii_eq_f h3) ?_
    refine r_iloadN i2_30 rfl ?_
    refine r_sipush i2_31 ?_
    by_cases h4 : x0 < 192
    · rw [if_pos h4]
      refine r_icT i2_34 (XT.ii_lt_t h4) ?_
      exact g2_44 hw x0
    · rw [if_neg h4]
      refine r_icF i2_34 (XT.ii_lt_f h4) ?_
      refine r_iloadN i2_37 rfl ?_
      refine r_sipush i2_38 ?_
      by_cases h27 : 214 < x0
      · rw [if_pos h27]
        refine r_icF i2_41 (XT.ii_le_f h27) ?_
        exact g2_44 hw x0
      · rw [if_neg h27]
        refine r_icT i2_41 (XT.ii_le_t h27) ?_
        refine r_iconst i2_191 ?_
        refine r_goto i2_192 ?_
        exact r_zreturn i2_196 rfl (by first | decide | simp)
def f2_12 (x0 : Int32) : Int32 := (if x0 < 97 then f2_24 x0 else (if 122 < x0 then f2_24 x0 else 1))
set_option maxRecDepth 4000 in
theorem g2_12 {l : Launch} {Z : State} {a0 : Array Value} {n0 : Nat} (hw : HW Z a0) {H : List Ob} (x0 : Int32) : Runs K l Z n0 m2 12 [.val (.int x0)] [] H (some (.int (f2_12 x0))) H := by
  unfold f2_12
  refine r_iloadN i2_12 rfl ?_
  refine r_bipush i2_13 ?_
  by_cases h2 : x0 < 97
  · rw [if_pos h2]
    refine r_icT i2_15 (XT.ii_lt_t h2) ?_
    exact g2_24 hw x0
  · rw [if_neg h2]
    refine r_icF i2_15 (XT.ii_lt_f h2) ?_
    refine r_iloadN i2_18 rfl ?_
    refine r_bipush i2_19 ?_
    by_cases h28 : 122 < x0
    · rw [if_pos h28]
      refine r_icF i2_21 (XT.ii_le_f h28) ?_
      exact g2_24 hw x0
    · rw [if_neg h28]
      refine r_icT i2_21 (XT.ii_le_t h28) ?_
      refine r_iconst i2_191 ?_
      refine r_goto i2_192 ?_
      exact r_zreturn i2_196 rfl (by first | decide | simp)
def f2_0 (x0 : Int32) : Int32 := (if x0 < 65 then f2_12 x0 else (if 90 < x0 then f2_12 x0 else 1))
set_option maxRecDepth 4000 in
theorem g2_0 {l : Launch} {Z : State} {a0 : Array Value} {n0 : Nat} (hw : HW Z a0) {H : List Ob} (x0 : Int32) : Runs K l Z n0 m2 0 [.val (.int x0)] [] H (some (.int (f2_0 x0))) H := by
  unfold f2_0
  refine r_iloadN i2_0 rfl ?_
  refine r_bipush i2_1 ?_
  by_cases h1 : x0 < 65
  · rw [if_pos h1]
    refine r_icT i2_3 (XT.ii_lt_t h1) ?_
    exact g2_12 hw x0
  · rw [if_neg h1]
    refine r_icF i2_3 (XT.ii_lt_f h1) ?_
    refine r_iloadN i2_6 rfl ?_
    refine r_bipush i2_7 ?_
    by_cases h29 : 90 < x0
    · rw [if_pos h29]
      refine r_icF i2_9 (XT.ii_le_f h29) ?_
      exact g2_12 hw x0
    · rw [if_neg h29]
      refine r_icT i2_9 (XT.ii_le_t h29) ?_
      refine r_iconst i2_191 ?_
      refine r_goto i2_192 ?_
      exact r_zreturn i2_196 rfl (by first | decide | simp)
theorem c2 {l : Launch} {Z : State} {a0 : Array Value} {n0 : Nat} (hw : HW Z a0) {H : List Ob} (x0 : Int32) : Meets K l Z n0 m2 [.int x0] H (some (.int (f2_0 x0))) H := meets pf2 rfl (fun h => nomatch h) (g2_0 hw x0)
theorem b2_179 (x0 : Int32) : f2_179 x0 = own_b (65536 ≤ x0.toInt ∧ x0.toInt ≤ 983039) := (own_r0 x0 65536 983039 65536 983039 (by decide) (by decide))
theorem b2_167 (x0 : Int32) : f2_167 x0 = own_b ((65008 ≤ x0.toInt ∧ x0.toInt ≤ 65533) ∨ (65536 ≤ x0.toInt ∧ x0.toInt ≤ 983039)) := ((congrArg (fun t => (if x0 < 65008 then t else (if 65533 < x0 then t else (1 : Int32)))) (b2_179 x0)).trans (own_r1 x0 65008 65533 65008 65533 (by decide) (by decide)))
theorem b2_155 (x0 : Int32) : f2_155 x0 = own_b ((63744 ≤ x0.toInt ∧ x0.toInt ≤ 64975) ∨ ((65008 ≤ x0.toInt ∧ x0.toInt ≤ 65533) ∨ (65536 ≤ x0.toInt ∧ x0.toInt ≤ 983039))) := ((congrArg (fun t => (if x0 < 63744 then t else (if 64975 < x0 then t else (1 : Int32)))) (b2_167 x0)).trans (own_r1 x0 63744 64975 63744 64975 (by decide) (by decide)))
theorem b2_142 (x0 : Int32) : f2_142 x0 = own_b ((12289 ≤ x0.toInt ∧ x0.toInt ≤ 55295) ∨ ((63744 ≤ x0.toInt ∧ x0.toInt ≤ 64975) ∨ ((65008 ≤ x0.toInt ∧ x0.toInt ≤ 65533) ∨ (65536 ≤ x0.toInt ∧ x0.toInt ≤ 983039)))) := ((congrArg (fun t => (if x0 < 12289 then t else (if 55295 < x0 then t else (1 : Int32)))) (b2_155 x0)).trans (own_r1 x0 12289 55295 12289 55295 (by decide) (by decide)))
theorem b2_128 (x0 : Int32) : f2_128 x0 = own_b ((11264 ≤ x0.toInt ∧ x0.toInt ≤ 12271) ∨ ((12289 ≤ x0.toInt ∧ x0.toInt ≤ 55295) ∨ ((63744 ≤ x0.toInt ∧ x0.toInt ≤ 64975) ∨ ((65008 ≤ x0.toInt ∧ x0.toInt ≤ 65533) ∨ (65536 ≤ x0.toInt ∧ x0.toInt ≤ 983039))))) := ((congrArg (fun t => (if x0 < 11264 then t else (if 12271 < x0 then t else (1 : Int32)))) (b2_142 x0)).trans (own_r1 x0 11264 12271 11264 12271 (by decide) (by decide)))
theorem b2_114 (x0 : Int32) : f2_114 x0 = own_b ((8304 ≤ x0.toInt ∧ x0.toInt ≤ 8591) ∨ ((11264 ≤ x0.toInt ∧ x0.toInt ≤ 12271) ∨ ((12289 ≤ x0.toInt ∧ x0.toInt ≤ 55295) ∨ ((63744 ≤ x0.toInt ∧ x0.toInt ≤ 64975) ∨ ((65008 ≤ x0.toInt ∧ x0.toInt ≤ 65533) ∨ (65536 ≤ x0.toInt ∧ x0.toInt ≤ 983039)))))) := ((congrArg (fun t => (if x0 < 8304 then t else (if 8591 < x0 then t else (1 : Int32)))) (b2_128 x0)).trans (own_r1 x0 8304 8591 8304 8591 (by decide) (by decide)))
theorem b2_100 (x0 : Int32) : f2_100 x0 = own_b ((8204 ≤ x0.toInt ∧ x0.toInt ≤ 8205) ∨ ((8304 ≤ x0.toInt ∧ x0.toInt ≤ 8591) ∨ ((11264 ≤ x0.toInt ∧ x0.toInt ≤ 12271) ∨ ((12289 ≤ x0.toInt ∧ x0.toInt ≤ 55295) ∨ ((63744 ≤ x0.toInt ∧ x0.toInt ≤ 64975) ∨ ((65008 ≤ x0.toInt ∧ x0.toInt ≤ 65533) ∨ (65536 ≤ x0.toInt ∧ x0.toInt ≤ 983039))))))) := ((congrArg (fun t => (if x0 < 8204 then t else (if 8205 < x0 then t else (1 : Int32)))) (b2_114 x0)).trans (own_r1 x0 8204 8205 8204 8205 (by decide) (by decide)))
theorem b2_86 (x0 : Int32) : f2_86 x0 = own_b ((895 ≤ x0.toInt ∧ x0.toInt ≤ 8191) ∨ ((8204 ≤ x0.toInt ∧ x0.toInt ≤ 8205) ∨ ((8304 ≤ x0.toInt ∧ x0.toInt ≤ 8591) ∨ ((11264 ≤ x0.toInt ∧ x0.toInt ≤ 12271) ∨ ((12289 ≤ x0.toInt ∧ x0.toInt ≤ 55295) ∨ ((63744 ≤ x0.toInt ∧ x0.toInt ≤ 64975) ∨ ((65008 ≤ x0.toInt ∧ x0.toInt ≤ 65533) ∨ (65536 ≤ x0.toInt ∧ x0.toInt ≤ 983039)))))))) := ((congrArg (fun t => (if x0 < 895 then t else (if 8191 < x0 then t else (1 : Int32)))) (b2_100 x0)).trans (own_r1 x0 895 8191 895 8191 (by decide) (by decide)))
theorem b2_72 (x0 : Int32) : f2_72 x0 = own_b ((880 ≤ x0.toInt ∧ x0.toInt ≤ 893) ∨ ((895 ≤ x0.toInt ∧ x0.toInt ≤ 8191) ∨ ((8204 ≤ x0.toInt ∧ x0.toInt ≤ 8205) ∨ ((8304 ≤ x0.toInt ∧ x0.toInt ≤ 8591) ∨ ((11264 ≤ x0.toInt ∧ x0.toInt ≤ 12271) ∨ ((12289 ≤ x0.toInt ∧ x0.toInt ≤ 55295) ∨ ((63744 ≤ x0.toInt ∧ x0.toInt ≤ 64975) ∨ ((65008 ≤ x0.toInt ∧ x0.toInt ≤ 65533) ∨ (65536 ≤ x0.toInt ∧ x0.toInt ≤ 983039))))))))) := ((congrArg (fun t => (if x0 < 880 then t else (if 893 < x0 then t else (1 : Int32)))) (b2_86 x0)).trans (own_r1 x0 880 893 880 893 (by decide) (by decide)))
theorem b2_58 (x0 : Int32) : f2_58 x0 = own_b ((248 ≤ x0.toInt ∧ x0.toInt ≤ 767) ∨ ((880 ≤ x0.toInt ∧ x0.toInt ≤ 893) ∨ ((895 ≤ x0.toInt ∧ x0.toInt ≤ 8191) ∨ ((8204 ≤ x0.toInt ∧ x0.toInt ≤ 8205) ∨ ((8304 ≤ x0.toInt ∧ x0.toInt ≤ 8591) ∨ ((11264 ≤ x0.toInt ∧ x0.toInt ≤ 12271) ∨ ((12289 ≤ x0.toInt ∧ x0.toInt ≤ 55295) ∨ ((63744 ≤ x0.toInt ∧ x0.toInt ≤ 64975) ∨ ((65008 ≤ x0.toInt ∧ x0.toInt ≤ 65533) ∨ (65536 ≤ x0.toInt ∧ x0.toInt ≤ 983039)))))))))) := ((congrArg (fun t => (if x0 < 248 then t else (if 767 < x0 then t else (1 : Int32)))) (b2_72 x0)).trans (own_r1 x0 248 767 248 767 (by decide) (by decide)))
theorem b2_44 (x0 : Int32) : f2_44 x0 = own_b ((216 ≤ x0.toInt ∧ x0.toInt ≤ 246) ∨ ((248 ≤ x0.toInt ∧ x0.toInt ≤ 767) ∨ ((880 ≤ x0.toInt ∧ x0.toInt ≤ 893) ∨ ((895 ≤ x0.toInt ∧ x0.toInt ≤ 8191) ∨ ((8204 ≤ x0.toInt ∧ x0.toInt ≤ 8205) ∨ ((8304 ≤ x0.toInt ∧ x0.toInt ≤ 8591) ∨ ((11264 ≤ x0.toInt ∧ x0.toInt ≤ 12271) ∨ ((12289 ≤ x0.toInt ∧ x0.toInt ≤ 55295) ∨ ((63744 ≤ x0.toInt ∧ x0.toInt ≤ 64975) ∨ ((65008 ≤ x0.toInt ∧ x0.toInt ≤ 65533) ∨ (65536 ≤ x0.toInt ∧ x0.toInt ≤ 983039))))))))))) := ((congrArg (fun t => (if x0 < 216 then t else (if 246 < x0 then t else (1 : Int32)))) (b2_58 x0)).trans (own_r1 x0 216 246 216 246 (by decide) (by decide)))
theorem b2_24 (x0 : Int32) : f2_24 x0 = own_b (x0.toInt = 95 ∨ ((192 ≤ x0.toInt ∧ x0.toInt ≤ 214) ∨ ((216 ≤ x0.toInt ∧ x0.toInt ≤ 246) ∨ ((248 ≤ x0.toInt ∧ x0.toInt ≤ 767) ∨ ((880 ≤ x0.toInt ∧ x0.toInt ≤ 893) ∨ ((895 ≤ x0.toInt ∧ x0.toInt ≤ 8191) ∨ ((8204 ≤ x0.toInt ∧ x0.toInt ≤ 8205) ∨ ((8304 ≤ x0.toInt ∧ x0.toInt ≤ 8591) ∨ ((11264 ≤ x0.toInt ∧ x0.toInt ≤ 12271) ∨ ((12289 ≤ x0.toInt ∧ x0.toInt ≤ 55295) ∨ ((63744 ≤ x0.toInt ∧ x0.toInt ≤ 64975) ∨ ((65008 ≤ x0.toInt ∧ x0.toInt ≤ 65533) ∨ (65536 ≤ x0.toInt ∧ x0.toInt ≤ 983039))))))))))))) := ((congrArg (fun t => (if x0 = 95 then (1 : Int32) else t)) ((congrArg (fun t => (if x0 < 192 then t else (if 214 < x0 then t else (1 : Int32)))) (b2_44 x0)).trans (own_r1 x0 192 214 192 214 (by decide) (by decide)))).trans (own_e1 x0 95 95 (by decide)))
theorem b2_12 (x0 : Int32) : f2_12 x0 = own_b ((97 ≤ x0.toInt ∧ x0.toInt ≤ 122) ∨ (x0.toInt = 95 ∨ ((192 ≤ x0.toInt ∧ x0.toInt ≤ 214) ∨ ((216 ≤ x0.toInt ∧ x0.toInt ≤ 246) ∨ ((248 ≤ x0.toInt ∧ x0.toInt ≤ 767) ∨ ((880 ≤ x0.toInt ∧ x0.toInt ≤ 893) ∨ ((895 ≤ x0.toInt ∧ x0.toInt ≤ 8191) ∨ ((8204 ≤ x0.toInt ∧ x0.toInt ≤ 8205) ∨ ((8304 ≤ x0.toInt ∧ x0.toInt ≤ 8591) ∨ ((11264 ≤ x0.toInt ∧ x0.toInt ≤ 12271) ∨ ((12289 ≤ x0.toInt ∧ x0.toInt ≤ 55295) ∨ ((63744 ≤ x0.toInt ∧ x0.toInt ≤ 64975) ∨ ((65008 ≤ x0.toInt ∧ x0.toInt ≤ 65533) ∨ (65536 ≤ x0.toInt ∧ x0.toInt ≤ 983039)))))))))))))) := ((congrArg (fun t => (if x0 < 97 then t else (if 122 < x0 then t else (1 : Int32)))) (b2_24 x0)).trans (own_r1 x0 97 122 97 122 (by decide) (by decide)))
theorem b2_0 (x0 : Int32) : f2_0 x0 = own_b ((65 ≤ x0.toInt ∧ x0.toInt ≤ 90) ∨ ((97 ≤ x0.toInt ∧ x0.toInt ≤ 122) ∨ (x0.toInt = 95 ∨ ((192 ≤ x0.toInt ∧ x0.toInt ≤ 214) ∨ ((216 ≤ x0.toInt ∧ x0.toInt ≤ 246) ∨ ((248 ≤ x0.toInt ∧ x0.toInt ≤ 767) ∨ ((880 ≤ x0.toInt ∧ x0.toInt ≤ 893) ∨ ((895 ≤ x0.toInt ∧ x0.toInt ≤ 8191) ∨ ((8204 ≤ x0.toInt ∧ x0.toInt ≤ 8205) ∨ ((8304 ≤ x0.toInt ∧ x0.toInt ≤ 8591) ∨ ((11264 ≤ x0.toInt ∧ x0.toInt ≤ 12271) ∨ ((12289 ≤ x0.toInt ∧ x0.toInt ≤ 55295) ∨ ((63744 ≤ x0.toInt ∧ x0.toInt ≤ 64975) ∨ ((65008 ≤ x0.toInt ∧ x0.toInt ≤ 65533) ∨ (65536 ≤ x0.toInt ∧ x0.toInt ≤ 983039))))))))))))))) := ((congrArg (fun t => (if x0 < 65 then t else (if 90 < x0 then t else (1 : Int32)))) (b2_12 x0)).trans (own_r1 x0 65 90 65 90 (by decide) (by decide)))
def f1_52 (x0 : Int32) : Int32 := (if x0 < 8255 then 0 else (if 8256 < x0 then 0 else 1))
set_option maxRecDepth 4000 in
theorem g1_52 {l : Launch} {Z : State} {a0 : Array Value} {n0 : Nat} (hw : HW Z a0) {H : List Ob} (x0 : Int32) : Runs K l Z n0 m1 52 [.val (.int x0)] [] H (some (.int (f1_52 x0))) H := by
  unfold f1_52
  refine r_iloadN i1_52 rfl ?_
  refine r_sipush i1_53 ?_
  by_cases h7 : x0 < 8255
  · rw [if_pos h7]
    refine r_icT i1_56 (XT.ii_lt_t h7) ?_
    refine r_iconst i1_70 ?_
    exact r_zreturn i1_71 rfl (by first | decide | simp)
  · rw [if_neg h7]
    refine r_icF i1_56 (XT.ii_lt_f h7) ?_
    refine r_iloadN i1_59 rfl ?_
    refine r_sipush i1_60 ?_
    by_cases h8 : 8256 < x0
    · rw [if_pos h8]
      refine r_icT i1_63 (XT.ii_gt_t h8) ?_
      refine r_iconst i1_70 ?_
      exact r_zreturn i1_71 rfl (by first | decide | simp)
    · rw [if_neg h8]
      refine r_icF i1_63 (XT.ii_gt_f h8) ?_
      refine r_iconst i1_66 ?_
      refine r_goto i1_67 ?_
      exact r_zreturn i1_71 rfl (by first | decide | simp)
def f1_31 (x0 : Int32) : Int32 := (if x0 = 183 then 1 else (if x0 < 768 then f1_52 x0 else (if 879 < x0 then f1_52 x0 else 1)))
set_option maxRecDepth 4000 in
theorem g1_31 {l : Launch} {Z : State} {a0 : Array Value} {n0 : Nat} (hw : HW Z a0) {H : List Ob} (x0 : Int32) : Runs K l Z n0 m1 31 [.val (.int x0)] [] H (some (.int (f1_31 x0))) H := by
  unfold f1_31
  refine r_iloadN i1_31 rfl ?_
  refine r_sipush i1_32 ?_
  by_cases h5 : x0 = 183
  · rw [if_pos h5]
    refine r_icT i1_35 (XT.ii_eq_t h5) ?_
    refine r_iconst i1_66 ?_
    refine r_goto i1_67 ?_
    exact r_zreturn i1_71 rfl (by first | decide | simp)
  · rw [if_neg h5]
    refine r_icF i1_35 (XT.ii_eq_f h5) ?_
    refine r_iloadN i1_38 rfl ?_
    refine r_sipush i1_39 ?_
    by_cases h6 : x0 < 768
    · rw [if_pos h6]
      refine r_icT i1_42 (XT.ii_lt_t h6) ?_
      exact g1_52 hw x0
    · rw [if_neg h6]
      refine r_icF i1_42 (XT.ii_lt_f h6) ?_
      refine r_iloadN i1_45 rfl ?_
      refine r_sipush i1_46 ?_
      by_cases h9 : 879 < x0
      · rw [if_pos h9]
        refine r_icF i1_49 (XT.ii_le_f h9) ?_
        exact g1_52 hw x0
      · rw [if_neg h9]
        refine r_icT i1_49 (XT.ii_le_t h9) ?_
        refine r_iconst i1_66 ?_
        refine r_goto i1_67 ?_
        exact r_zreturn i1_71 rfl (by first | decide | simp)
def f1_0 (x0 : Int32) : Int32 := (if (f2_0 x0) = 0 then (if x0 = 45 then 1 else (if x0 = 46 then 1 else (if x0 < 48 then f1_31 x0 else (if 57 < x0 then f1_31 x0 else 1)))) else 1)
set_option maxRecDepth 4000 in
theorem g1_0 {l : Launch} {Z : State} {a0 : Array Value} {n0 : Nat} (hw : HW Z a0) {H : List Ob} (x0 : Int32) : Runs K l Z n0 m1 0 [.val (.int x0)] [] H (some (.int (f1_0 x0))) H := by
  unfold f1_0
  refine r_iloadN i1_0 rfl ?_
  refine s1_1 hw (c2 hw x0) rfl (leB rfl) ?_
  by_cases h1 : (f2_0 x0) = 0
  · rw [if_pos h1]
    refine r_ifF i1_4 (XT.i0_ne_f h1) ?_
    refine r_iloadN i1_7 rfl ?_
    refine r_bipush i1_8 ?_
    by_cases h2 : x0 = 45
    · rw [if_pos h2]
      refine r_icT i1_10 (XT.ii_eq_t h2) ?_
      refine r_iconst i1_66 ?_
      refine r_goto i1_67 ?_
      exact r_zreturn i1_71 rfl (by first | decide | simp)
    · rw [if_neg h2]
      refine r_icF i1_10 (XT.ii_eq_f h2) ?_
      refine r_iloadN i1_13 rfl ?_
      refine r_bipush i1_14 ?_
      by_cases h3 : x0 = 46
      · rw [if_pos h3]
        refine r_icT i1_16 (XT.ii_eq_t h3) ?_
        refine r_iconst i1_66 ?_
        refine r_goto i1_67 ?_
        exact r_zreturn i1_71 rfl (by first | decide | simp)
      · rw [if_neg h3]
        refine r_icF i1_16 (XT.ii_eq_f h3) ?_
        refine r_iloadN i1_19 rfl ?_
        refine r_bipush i1_20 ?_
        by_cases h4 : x0 < 48
        · rw [if_pos h4]
          refine r_icT i1_22 (XT.ii_lt_t h4) ?_
          exact g1_31 hw x0
        · rw [if_neg h4]
          refine r_icF i1_22 (XT.ii_lt_f h4) ?_
          refine r_iloadN i1_25 rfl ?_
          refine r_bipush i1_26 ?_
          by_cases h10 : 57 < x0
          · rw [if_pos h10]
            refine r_icF i1_28 (XT.ii_le_f h10) ?_
            exact g1_31 hw x0
          · rw [if_neg h10]
            refine r_icT i1_28 (XT.ii_le_t h10) ?_
            refine r_iconst i1_66 ?_
            refine r_goto i1_67 ?_
            exact r_zreturn i1_71 rfl (by first | decide | simp)
  · rw [if_neg h1]
    refine r_ifT i1_4 (XT.i0_ne_t h1) ?_
    refine r_iconst i1_66 ?_
    refine r_goto i1_67 ?_
    exact r_zreturn i1_71 rfl (by first | decide | simp)
theorem c1 {l : Launch} {Z : State} {a0 : Array Value} {n0 : Nat} (hw : HW Z a0) {H : List Ob} (x0 : Int32) : Meets K l Z n0 m1 [.int x0] H (some (.int (f1_0 x0))) H := meets pf1 rfl (fun h => nomatch h) (g1_0 hw x0)
theorem b1_52 (x0 : Int32) : f1_52 x0 = own_b (8255 ≤ x0.toInt ∧ x0.toInt ≤ 8256) := (own_r0 x0 8255 8256 8255 8256 (by decide) (by decide))
theorem b1_31 (x0 : Int32) : f1_31 x0 = own_b (x0.toInt = 183 ∨ ((768 ≤ x0.toInt ∧ x0.toInt ≤ 879) ∨ (8255 ≤ x0.toInt ∧ x0.toInt ≤ 8256))) := ((congrArg (fun t => (if x0 = 183 then (1 : Int32) else t)) ((congrArg (fun t => (if x0 < 768 then t else (if 879 < x0 then t else (1 : Int32)))) (b1_52 x0)).trans (own_r1 x0 768 879 768 879 (by decide) (by decide)))).trans (own_e1 x0 183 183 (by decide)))
theorem b1_0 (x0 : Int32) : f1_0 x0 = own_b (((65 ≤ x0.toInt ∧ x0.toInt ≤ 90) ∨ ((97 ≤ x0.toInt ∧ x0.toInt ≤ 122) ∨ (x0.toInt = 95 ∨ ((192 ≤ x0.toInt ∧ x0.toInt ≤ 214) ∨ ((216 ≤ x0.toInt ∧ x0.toInt ≤ 246) ∨ ((248 ≤ x0.toInt ∧ x0.toInt ≤ 767) ∨ ((880 ≤ x0.toInt ∧ x0.toInt ≤ 893) ∨ ((895 ≤ x0.toInt ∧ x0.toInt ≤ 8191) ∨ ((8204 ≤ x0.toInt ∧ x0.toInt ≤ 8205) ∨ ((8304 ≤ x0.toInt ∧ x0.toInt ≤ 8591) ∨ ((11264 ≤ x0.toInt ∧ x0.toInt ≤ 12271) ∨ ((12289 ≤ x0.toInt ∧ x0.toInt ≤ 55295) ∨ ((63744 ≤ x0.toInt ∧ x0.toInt ≤ 64975) ∨ ((65008 ≤ x0.toInt ∧ x0.toInt ≤ 65533) ∨ (65536 ≤ x0.toInt ∧ x0.toInt ≤ 983039))))))))))))))) ∨ (x0.toInt = 45 ∨ (x0.toInt = 46 ∨ ((48 ≤ x0.toInt ∧ x0.toInt ≤ 57) ∨ (x0.toInt = 183 ∨ ((768 ≤ x0.toInt ∧ x0.toInt ≤ 879) ∨ (8255 ≤ x0.toInt ∧ x0.toInt ≤ 8256))))))) := ((congr (congrArg (fun t u => (if t = 0 then u else (1 : Int32))) (b2_0 x0)) ((congrArg (fun t => (if x0 = 45 then (1 : Int32) else t)) ((congrArg (fun t => (if x0 = 46 then (1 : Int32) else t)) ((congrArg (fun t => (if x0 < 48 then t else (if 57 < x0 then t else (1 : Int32)))) (b1_31 x0)).trans (own_r1 x0 48 57 48 57 (by decide) (by decide)))).trans (own_e1 x0 46 46 (by decide)))).trans (own_e1 x0 45 45 (by decide)))).trans own_o1)
def f3_0 (x0 : Int32) : Int32 := (if (f4_0 x0 45 46) = 0 then (if (f4_0 x0 48 57) = 0 then (if (f4_0 x0 65 90) = 0 then (if x0 = 95 then 1 else (if (f4_0 x0 97 122) = 0 then (if x0 = 183 then 1 else (if (f4_0 x0 192 214) = 0 then (if (f4_0 x0 216 246) = 0 then (if (f4_0 x0 248 893) = 0 then (if (f4_0 x0 895 8191) = 0 then (if (f4_0 x0 8204 8205) = 0 then (if (f4_0 x0 8255 8256) = 0 then (if (f4_0 x0 8304 8591) = 0 then (if (f4_0 x0 11264 12271) = 0 then (if (f4_0 x0 12289 55295) = 0 then (if (f4_0 x0 63744 64975) = 0 then (if (f4_0 x0 65008 65533) = 0 then (if (f4_0 x0 65536 983039) = 0 then 0 else 1) else 1) else 1) else 1) else 1) else 1) else 1) else 1) else 1) else 1) else 1) else 1)) else 1)) else 1) else 1) else 1)
set_option maxRecDepth 4000 in
theorem g3_0 {l : Launch} {Z : State} {a0 : Array Value} {n0 : Nat} (hw : HW Z a0) {H : List Ob} (x0 : Int32) : Runs K l Z n0 m3 0 [.val (.int x0)] [] H (some (.int (f3_0 x0))) H := by
  unfold f3_0
  refine r_iloadN i3_0 rfl ?_
  refine r_bipush i3_1 ?_
  refine r_bipush i3_3 ?_
  refine s3_5 hw (c4 hw x0 45 46) rfl (leB rfl) ?_
  by_cases h1 : (f4_0 x0 45 46) = 0
  · rw [if_pos h1]
    refine r_ifF i3_8 (XT.i0_ne_f h1) ?_
    refine r_iloadN i3_11 rfl ?_
    refine r_bipush i3_12 ?_
    refine r_bipush i3_14 ?_
    refine s3_16 hw (c4 hw x0 48 57) rfl (leB rfl) ?_
    by_cases h2 : (f4_0 x0 48 57) = 0
    · rw [if_pos h2]
      refine r_ifF i3_19 (XT.i0_ne_f h2) ?_
      refine r_iloadN i3_22 rfl ?_
      refine r_bipush i3_23 ?_
      refine r_bipush i3_25 ?_
      refine s3_27 hw (c4 hw x0 65 90) rfl (leB rfl) ?_
      by_cases h3 : (f4_0 x0 65 90) = 0
      · rw [if_pos h3]
        refine r_ifF i3_30 (XT.i0_ne_f h3) ?_
        refine r_iloadN i3_33 rfl ?_
        refine r_bipush i3_34 ?_
        by_cases h4 : x0 = 95
        · rw [if_pos h4]
          refine r_icT i3_36 (XT.ii_eq_t h4) ?_
          refine r_iconst i3_206 ?_
          refine r_goto i3_207 ?_
          exact r_zreturn i3_211 rfl (by first | decide | simp)
        · rw [if_neg h4]
          refine r_icF i3_36 (XT.ii_eq_f h4) ?_
          refine r_iloadN i3_39 rfl ?_
          refine r_bipush i3_40 ?_
          refine r_bipush i3_42 ?_
          refine s3_44 hw (c4 hw x0 97 122) rfl (leB rfl) ?_
          by_cases h5 : (f4_0 x0 97 122) = 0
          · rw [if_pos h5]
            refine r_ifF i3_47 (XT.i0_ne_f h5) ?_
            refine r_iloadN i3_50 rfl ?_
            refine r_sipush i3_51 ?_
            by_cases h6 : x0 = 183
            · rw [if_pos h6]
              refine r_icT i3_54 (XT.ii_eq_t h6) ?_
              refine r_iconst i3_206 ?_
              refine r_goto i3_207 ?_
              exact r_zreturn i3_211 rfl (by first | decide | simp)
            · rw [if_neg h6]
              refine r_icF i3_54 (XT.ii_eq_f h6) ?_
              refine r_iloadN i3_57 rfl ?_
              refine r_sipush i3_58 ?_
              refine r_sipush i3_61 ?_
              refine s3_64 hw (c4 hw x0 192 214) rfl (leB rfl) ?_
              by_cases h7 : (f4_0 x0 192 214) = 0
              · rw [if_pos h7]
                refine r_ifF i3_67 (XT.i0_ne_f h7) ?_
                refine r_iloadN i3_70 rfl ?_
                refine r_sipush i3_71 ?_
                refine r_sipush i3_74 ?_
                refine s3_77 hw (c4 hw x0 216 246) rfl (leB rfl) ?_
                by_cases h8 : (f4_0 x0 216 246) = 0
                · rw [if_pos h8]
                  refine r_ifF i3_80 (XT.i0_ne_f h8) ?_
                  refine r_iloadN i3_83 rfl ?_
                  refine r_sipush i3_84 ?_
                  refine r_sipush i3_87 ?_
                  refine s3_90 hw (c4 hw x0 248 893) rfl (leB rfl) ?_
                  by_cases h9 : (f4_0 x0 248 893) = 0
                  · rw [if_pos h9]
                    refine r_ifF i3_93 (XT.i0_ne_f h9) ?_
                    refine r_iloadN i3_96 rfl ?_
                    refine r_sipush i3_97 ?_
                    refine r_sipush i3_100 ?_
                    refine s3_103 hw (c4 hw x0 895 8191) rfl (leB rfl) ?_
                    by_cases h10 : (f4_0 x0 895 8191) = 0
                    · rw [if_pos h10]
                      refine r_ifF i3_106 (XT.i0_ne_f h10) ?_
                      refine r_iloadN i3_109 rfl ?_
                      refine r_sipush i3_110 ?_
                      refine r_sipush i3_113 ?_
                      refine s3_116 hw (c4 hw x0 8204 8205) rfl (leB rfl) ?_
                      by_cases h11 : (f4_0 x0 8204 8205) = 0
                      · rw [if_pos h11]
                        refine r_ifF i3_119 (XT.i0_ne_f h11) ?_
                        refine r_iloadN i3_122 rfl ?_
                        refine r_sipush i3_123 ?_
                        refine r_sipush i3_126 ?_
                        refine s3_129 hw (c4 hw x0 8255 8256) rfl (leB rfl) ?_
                        by_cases h12 : (f4_0 x0 8255 8256) = 0
                        · rw [if_pos h12]
                          refine r_ifF i3_132 (XT.i0_ne_f h12) ?_
                          refine r_iloadN i3_135 rfl ?_
                          refine r_sipush i3_136 ?_
                          refine r_sipush i3_139 ?_
                          refine s3_142 hw (c4 hw x0 8304 8591) rfl (leB rfl) ?_
                          by_cases h13 : (f4_0 x0 8304 8591) = 0
                          · rw [if_pos h13]
                            refine r_ifF i3_145 (XT.i0_ne_f h13) ?_
                            refine r_iloadN i3_148 rfl ?_
                            refine r_sipush i3_149 ?_
                            refine r_sipush i3_152 ?_
                            refine s3_155 hw (c4 hw x0 11264 12271) rfl (leB rfl) ?_
                            by_cases h14 : (f4_0 x0 11264 12271) = 0
                            · rw [if_pos h14]
                              refine r_ifF i3_158 (XT.i0_ne_f h14) ?_
                              refine r_iloadN i3_161 rfl ?_
                              refine r_sipush i3_162 ?_
                              refine s3_165 hw ?_
                              refine s3_167 hw (c4 hw x0 12289 55295) rfl (leB rfl) ?_
                              by_cases h15 : (f4_0 x0 12289 55295) = 0
                              · rw [if_pos h15]
                                refine r_ifF i3_170 (XT.i0_ne_f h15) ?_
                                refine r_iloadN i3_173 rfl ?_
                                refine s3_174 hw ?_
                                refine s3_176 hw ?_
                                refine s3_178 hw (c4 hw x0 63744 64975) rfl (leB rfl) ?_
                                by_cases h16 : (f4_0 x0 63744 64975) = 0
                                · rw [if_pos h16]
                                  refine r_ifF i3_181 (XT.i0_ne_f h16) ?_
                                  refine r_iloadN i3_184 rfl ?_
                                  refine s3_185 hw ?_
                                  refine s3_187 hw ?_
                                  refine s3_189 hw (c4 hw x0 65008 65533) rfl (leB rfl) ?_
                                  by_cases h17 : (f4_0 x0 65008 65533) = 0
                                  · rw [if_pos h17]
                                    refine r_ifF i3_192 (XT.i0_ne_f h17) ?_
                                    refine r_iloadN i3_195 rfl ?_
                                    refine s3_196 hw ?_
                                    refine s3_198 hw ?_
                                    refine s3_200 hw (c4 hw x0 65536 983039) rfl (leB rfl) ?_
                                    by_cases h18 : (f4_0 x0 65536 983039) = 0
                                    · rw [if_pos h18]
                                      refine r_ifT i3_203 (XT.i0_eq_t h18) ?_
                                      refine r_iconst i3_210 ?_
                                      exact r_zreturn i3_211 rfl (by first | decide | simp)
                                    · rw [if_neg h18]
                                      refine r_ifF i3_203 (XT.i0_eq_f h18) ?_
                                      refine r_iconst i3_206 ?_
                                      refine r_goto i3_207 ?_
                                      exact r_zreturn i3_211 rfl (by first | decide | simp)
                                  · rw [if_neg h17]
                                    refine r_ifT i3_192 (XT.i0_ne_t h17) ?_
                                    refine r_iconst i3_206 ?_
                                    refine r_goto i3_207 ?_
                                    exact r_zreturn i3_211 rfl (by first | decide | simp)
                                · rw [if_neg h16]
                                  refine r_ifT i3_181 (XT.i0_ne_t h16) ?_
                                  refine r_iconst i3_206 ?_
                                  refine r_goto i3_207 ?_
                                  exact r_zreturn i3_211 rfl (by first | decide | simp)
                              · rw [if_neg h15]
                                refine r_ifT i3_170 (XT.i0_ne_t h15) ?_
                                refine r_iconst i3_206 ?_
                                refine r_goto i3_207 ?_
                                exact r_zreturn i3_211 rfl (by first | decide | simp)
                            · rw [if_neg h14]
                              refine r_ifT i3_158 (XT.i0_ne_t h14) ?_
                              refine r_iconst i3_206 ?_
                              refine r_goto i3_207 ?_
                              exact r_zreturn i3_211 rfl (by first | decide | simp)
                          · rw [if_neg h13]
                            refine r_ifT i3_145 (XT.i0_ne_t h13) ?_
                            refine r_iconst i3_206 ?_
                            refine r_goto i3_207 ?_
                            exact r_zreturn i3_211 rfl (by first | decide | simp)
                        · rw [if_neg h12]
                          refine r_ifT i3_132 (XT.i0_ne_t h12) ?_
                          refine r_iconst i3_206 ?_
                          refine r_goto i3_207 ?_
                          exact r_zreturn i3_211 rfl (by first | decide | simp)
                      · rw [if_neg h11]
                        refine r_ifT i3_119 (XT.i0_ne_t h11) ?_
                        refine r_iconst i3_206 ?_
                        refine r_goto i3_207 ?_
                        exact r_zreturn i3_211 rfl (by first | decide | simp)
                    · rw [if_neg h10]
                      refine r_ifT i3_106 (XT.i0_ne_t h10) ?_
                      refine r_iconst i3_206 ?_
                      refine r_goto i3_207 ?_
                      exact r_zreturn i3_211 rfl (by first | decide | simp)
                  · rw [if_neg h9]
                    refine r_ifT i3_93 (XT.i0_ne_t h9) ?_
                    refine r_iconst i3_206 ?_
                    refine r_goto i3_207 ?_
                    exact r_zreturn i3_211 rfl (by first | decide | simp)
                · rw [if_neg h8]
                  refine r_ifT i3_80 (XT.i0_ne_t h8) ?_
                  refine r_iconst i3_206 ?_
                  refine r_goto i3_207 ?_
                  exact r_zreturn i3_211 rfl (by first | decide | simp)
              · rw [if_neg h7]
                refine r_ifT i3_67 (XT.i0_ne_t h7) ?_
                refine r_iconst i3_206 ?_
                refine r_goto i3_207 ?_
                exact r_zreturn i3_211 rfl (by first | decide | simp)
          · rw [if_neg h5]
            refine r_ifT i3_47 (XT.i0_ne_t h5) ?_
            refine r_iconst i3_206 ?_
            refine r_goto i3_207 ?_
            exact r_zreturn i3_211 rfl (by first | decide | simp)
      · rw [if_neg h3]
        refine r_ifT i3_30 (XT.i0_ne_t h3) ?_
        refine r_iconst i3_206 ?_
        refine r_goto i3_207 ?_
        exact r_zreturn i3_211 rfl (by first | decide | simp)
    · rw [if_neg h2]
      refine r_ifT i3_19 (XT.i0_ne_t h2) ?_
      refine r_iconst i3_206 ?_
      refine r_goto i3_207 ?_
      exact r_zreturn i3_211 rfl (by first | decide | simp)
  · rw [if_neg h1]
    refine r_ifT i3_8 (XT.i0_ne_t h1) ?_
    refine r_iconst i3_206 ?_
    refine r_goto i3_207 ?_
    exact r_zreturn i3_211 rfl (by first | decide | simp)
theorem c3 {l : Launch} {Z : State} {a0 : Array Value} {n0 : Nat} (hw : HW Z a0) {H : List Ob} (x0 : Int32) : Meets K l Z n0 m3 [.int x0] H (some (.int (f3_0 x0))) H := meets pf3 rfl (fun h => nomatch h) (g3_0 hw x0)
theorem b3_0 (x0 : Int32) : f3_0 x0 = own_b ((45 ≤ x0.toInt ∧ x0.toInt ≤ 46) ∨ ((48 ≤ x0.toInt ∧ x0.toInt ≤ 57) ∨ ((65 ≤ x0.toInt ∧ x0.toInt ≤ 90) ∨ (x0.toInt = 95 ∨ ((97 ≤ x0.toInt ∧ x0.toInt ≤ 122) ∨ (x0.toInt = 183 ∨ ((192 ≤ x0.toInt ∧ x0.toInt ≤ 214) ∨ ((216 ≤ x0.toInt ∧ x0.toInt ≤ 246) ∨ ((248 ≤ x0.toInt ∧ x0.toInt ≤ 893) ∨ ((895 ≤ x0.toInt ∧ x0.toInt ≤ 8191) ∨ ((8204 ≤ x0.toInt ∧ x0.toInt ≤ 8205) ∨ ((8255 ≤ x0.toInt ∧ x0.toInt ≤ 8256) ∨ ((8304 ≤ x0.toInt ∧ x0.toInt ≤ 8591) ∨ ((11264 ≤ x0.toInt ∧ x0.toInt ≤ 12271) ∨ ((12289 ≤ x0.toInt ∧ x0.toInt ≤ 55295) ∨ ((63744 ≤ x0.toInt ∧ x0.toInt ≤ 64975) ∨ ((65008 ≤ x0.toInt ∧ x0.toInt ≤ 65533) ∨ (65536 ≤ x0.toInt ∧ x0.toInt ≤ 983039)))))))))))))))))) := ((congr (congrArg (fun t u => (if t = 0 then u else (1 : Int32))) (own_r0 x0 45 46 45 46 (by decide) (by decide))) ((congr (congrArg (fun t u => (if t = 0 then u else (1 : Int32))) (own_r0 x0 48 57 48 57 (by decide) (by decide))) ((congr (congrArg (fun t u => (if t = 0 then u else (1 : Int32))) (own_r0 x0 65 90 65 90 (by decide) (by decide))) ((congrArg (fun t => (if x0 = 95 then (1 : Int32) else t)) ((congr (congrArg (fun t u => (if t = 0 then u else (1 : Int32))) (own_r0 x0 97 122 97 122 (by decide) (by decide))) ((congrArg (fun t => (if x0 = 183 then (1 : Int32) else t)) ((congr (congrArg (fun t u => (if t = 0 then u else (1 : Int32))) (own_r0 x0 192 214 192 214 (by decide) (by decide))) ((congr (congrArg (fun t u => (if t = 0 then u else (1 : Int32))) (own_r0 x0 216 246 216 246 (by decide) (by decide))) ((congr (congrArg (fun t u => (if t = 0 then u else (1 : Int32))) (own_r0 x0 248 893 248 893 (by decide) (by decide))) ((congr (congrArg (fun t u => (if t = 0 then u else (1 : Int32))) (own_r0 x0 895 8191 895 8191 (by decide) (by decide))) ((congr (congrArg (fun t u => (if t = 0 then u else (1 : Int32))) (own_r0 x0 8204 8205 8204 8205 (by decide) (by decide))) ((congr (congrArg (fun t u => (if t = 0 then u else (1 : Int32))) (own_r0 x0 8255 8256 8255 8256 (by decide) (by decide))) ((congr (congrArg (fun t u => (if t = 0 then u else (1 : Int32))) (own_r0 x0 8304 8591 8304 8591 (by decide) (by decide))) ((congr (congrArg (fun t u => (if t = 0 then u else (1 : Int32))) (own_r0 x0 11264 12271 11264 12271 (by decide) (by decide))) ((congr (congrArg (fun t u => (if t = 0 then u else (1 : Int32))) (own_r0 x0 12289 55295 12289 55295 (by decide) (by decide))) ((congr (congrArg (fun t u => (if t = 0 then u else (1 : Int32))) (own_r0 x0 63744 64975 63744 64975 (by decide) (by decide))) ((congr (congrArg (fun t u => (if t = 0 then u else (1 : Int32))) (own_r0 x0 65008 65533 65008 65533 (by decide) (by decide))) ((congrArg (fun t => (if t = 0 then (0 : Int32) else 1)) (own_r0 x0 65536 983039 65536 983039 (by decide) (by decide))).trans own_o0)).trans own_o1)).trans own_o1)).trans own_o1)).trans own_o1)).trans own_o1)).trans own_o1)).trans own_o1)).trans own_o1)).trans own_o1)).trans own_o1)).trans own_o1)).trans (own_e1 x0 183 183 (by decide)))).trans own_o1)).trans (own_e1 x0 95 95 (by decide)))).trans own_o1)).trans own_o1)).trans own_o1)
def f0_44 (x0 : Int32) (x1 : Int32) (x2 : Int32) (x3 : Int32) : Int32 := (if (f1_0 x3) = (f3_0 x3) then (if (f2_0 x3) = 0 then 1 else (if (f1_0 x3) = 0 then 0 else 1)) else 0)
set_option maxRecDepth 4000 in
theorem g0_44 {l : Launch} {Z : State} {a0 : Array Value} {n0 : Nat} (hw : HW Z a0) {H : List Ob} (x0 : Int32) (x1 : Int32) (x2 : Int32) (x3 : Int32) : Runs K l Z n0 m0 44 [.val (.int x0), .val (.int x1), .val (.int x2), .val (.int x3), .unset] [] H (some (.int (f0_44 x0 x1 x2 x3))) H := by
  unfold f0_44
  refine r_iloadN i0_44 rfl ?_
  refine s0_45 hw (c1 hw x3) rfl (leB rfl) ?_
  refine r_istore (ls' := [_, _, _, _, _]) i0_48 rfl rfl ?_
  refine r_iload i0_50 rfl ?_
  refine r_iloadN i0_52 rfl ?_
  refine s0_53 hw (c3 hw x3) rfl (leB rfl) ?_
  by_cases h2 : (f1_0 x3) = (f3_0 x3)
  · rw [if_pos h2]
    refine r_icT i0_56 (XT.ii_eq_t h2) ?_
    refine r_iloadN i0_61 rfl ?_
    refine s0_62 hw (c2 hw x3) rfl (leB rfl) ?_
    by_cases h3 : (f2_0 x3) = 0
    · rw [if_pos h3]
      refine r_ifT i0_65 (XT.i0_eq_t h3) ?_
      refine r_iconst i0_75 ?_
      exact r_zreturn i0_76 rfl (by first | decide | simp)
    · rw [if_neg h3]
      refine r_ifF i0_65 (XT.i0_eq_f h3) ?_
      refine r_iload i0_68 rfl ?_
      by_cases h4 : (f1_0 x3) = 0
      · rw [if_pos h4]
        refine r_ifF i0_70 (XT.i0_ne_f h4) ?_
        refine r_iconst i0_73 ?_
        exact r_zreturn i0_74 rfl (by first | decide | simp)
      · rw [if_neg h4]
        refine r_ifT i0_70 (XT.i0_ne_t h4) ?_
        refine r_iconst i0_75 ?_
        exact r_zreturn i0_76 rfl (by first | decide | simp)
  · rw [if_neg h2]
    refine r_icF i0_56 (XT.ii_eq_f h2) ?_
    refine r_iconst i0_59 ?_
    exact r_zreturn i0_60 rfl (by first | decide | simp)
def f0_0 (x0 : Int32) (x1 : Int32) : Int32 := (if (x1 &&& 3) = 0 then f0_44 x0 x1 (x1 &&& 3) x0 else (if (x1 &&& 3) = 1 then f0_44 x0 x1 (x1 &&& 3) (x0 &&& 127) else (if (x1 &&& 3) = 2 then f0_44 x0 x1 (x1 &&& 3) (x0 &&& 65535) else f0_44 x0 x1 (x1 &&& 3) (x0 &&& 2097151))))
set_option maxRecDepth 4000 in
theorem g0_0 {l : Launch} {Z : State} {a0 : Array Value} {n0 : Nat} (hw : HW Z a0) {H : List Ob} (x0 : Int32) (x1 : Int32) : Runs K l Z n0 m0 0 [.val (.int x0), .val (.int x1), .unset, .unset, .unset] [] H (some (.int (f0_0 x0 x1))) H := by
  unfold f0_0
  refine r_iloadN i0_0 rfl ?_
  refine r_iconst i0_1 ?_
  refine r_iand i0_2 ?_
  refine r_istoreN (ls' := [_, _, _, _, _]) i0_3 rfl rfl ?_
  refine r_iloadN i0_4 rfl ?_
  by_cases h1 : (x1 &&& 3) = 0
  · rw [if_pos h1]
    refine r_ifF i0_5 (XT.i0_ne_f h1) ?_
    refine r_iloadN i0_8 rfl ?_
    refine r_istoreN (ls' := [_, _, _, _, _]) i0_9 rfl rfl ?_
    refine r_goto i0_10 ?_
    exact g0_44 hw x0 x1 (x1 &&& 3) x0
  · rw [if_neg h1]
    refine r_ifT i0_5 (XT.i0_ne_t h1) ?_
    refine r_iloadN i0_13 rfl ?_
    refine r_iconst i0_14 ?_
    by_cases h5 : (x1 &&& 3) = 1
    · rw [if_pos h5]
      refine r_icF i0_15 (XT.ii_ne_f h5) ?_
      refine r_iloadN i0_18 rfl ?_
      refine r_bipush i0_19 ?_
      refine r_iand i0_21 ?_
      refine r_istoreN (ls' := [_, _, _, _, _]) i0_22 rfl rfl ?_
      refine r_goto i0_23 ?_
      exact g0_44 hw x0 x1 (x1 &&& 3) (x0 &&& 127)
    · rw [if_neg h5]
      refine r_icT i0_15 (XT.ii_ne_t h5) ?_
      refine r_iloadN i0_26 rfl ?_
      refine r_iconst i0_27 ?_
      by_cases h6 : (x1 &&& 3) = 2
      · rw [if_pos h6]
        refine r_icF i0_28 (XT.ii_ne_f h6) ?_
        refine r_iloadN i0_31 rfl ?_
        refine s0_32 hw ?_
        refine r_iand i0_34 ?_
        refine r_istoreN (ls' := [_, _, _, _, _]) i0_35 rfl rfl ?_
        refine r_goto i0_36 ?_
        exact g0_44 hw x0 x1 (x1 &&& 3) (x0 &&& 65535)
      · rw [if_neg h6]
        refine r_icT i0_28 (XT.ii_ne_t h6) ?_
        refine r_iloadN i0_39 rfl ?_
        refine s0_40 hw ?_
        refine r_iand i0_42 ?_
        refine r_istoreN (ls' := [_, _, _, _, _]) i0_43 rfl rfl ?_
        exact g0_44 hw x0 x1 (x1 &&& 3) (x0 &&& 2097151)
theorem c0 {l : Launch} {Z : State} {a0 : Array Value} {n0 : Nat} (hw : HW Z a0) {H : List Ob} (x0 : Int32) (x1 : Int32) : Meets K l Z n0 m0 [.int x0, .int x1] H (some (.int (f0_0 x0 x1))) H := meets pf0 rfl (fun h => nomatch h) (g0_0 hw x0 x1)
theorem own_same (c : Int32) : f1_0 c = f3_0 c := by
  rw [b1_0, b3_0]
  apply own_b_congr
  generalize c.toInt = z
  omega
theorem own_starts (c : Int32) (h : ¬ f2_0 c = 0) : ¬ f1_0 c = 0 := by
  rw [b2_0, own_b0] at h
  rw [b1_0, own_b0]
  generalize c.toInt = z at *
  omega
theorem own_tail (a b c d : Int32) : f0_44 a b c d = 1 := by
  unfold f0_44
  rw [if_pos (own_same d)]
  by_cases h : f2_0 d = 0
  · rw [if_pos h]
  · rw [if_neg h, if_neg (own_starts d h)]
theorem own_all (a b : Int32) : f0_0 a b = 1 := by
  unfold f0_0
  simp only [own_tail]
  split
  · rfl
  · split
    · rfl
    · split <;> rfl
theorem law_runs {l : Launch} {Z : State} {a0 : Array Value} {n0 : Nat} (hw : HW Z a0) (p0 : Int32) (p1 : Int32) : ∃ H' : List Ob, Runs K l Z n0 m0 0 [.val (.int p0), .val (.int p1), .unset, .unset, .unset] [] [] (some (.int 1)) H' ∧ H'.length ≤ 0 ∧ szs K H' ≤ 0 := by
  have k := g0_0 (l := l) (n0 := n0) hw (H := []) p0 p1
  rw [own_all] at k
  exact ⟨[], k, by decide, by decide⟩
set_option maxRecDepth 65536 in
set_option maxHeartbeats 40000000 in
theorem comes_1 {Post : Tables → Env → Array Value → State → Outcome → State → Prop} (hpost : ∀ tb e args s v u, (limb_1_1.after args s (.returned v) u = true ∧ limb_1_2.after args s (.returned v) u = true ∧ True) → FrameEnd s (.returned v) u (Jvm.fieldLocs frame_1_writes args s ++ Jvm.arrayLocs frame_1_arrays args s ++ Jvm.staticLocs frame_1_statics s) 0 0 → Post tb e args s (.returned v) u) :
    ArmFor flags0 classFile x code maxLocals ret World_1 tables_1 room_1 Calls_1 rest_1 Pre_1 Post := by
  intro l hfl _ _ p e ha hc hk s m args below hf hA hF happ hP
  obtain ⟨hcalls, hrest, hpre⟩ := hP
  obtain ⟨-, -, -, hnamed, -, -, -, hat⟩ := (Spec.applies_iff hf).mp happ
  obtain ⟨hg, hn⟩ := and_e (Cond.before_iff.mp (show (Jvm.Cond.and given_1 narrow_1).before args s = true from hpre))
  obtain ⟨hcount, hk0⟩ := and_e hg
  obtain ⟨w0, w1, rfl⟩ : ∃ w0 w1 : Value, args = #[w0, w1] := by
    have hs : args.size = 2 := by simpa [Cond.value, given_1] using hcount
    obtain ⟨L⟩ := args
    match L, hs with
    | [w0, w1], _ => exact ⟨w0, w1, rfl⟩
  have hw : HW s _ := fun d (hd : d ∈ tables_1) => atoms_spec (ws := Jvm.Cond.code x code maxLocals ret :: tables_1) hat d (List.mem_cons_of_mem _ hd)
  replace hk0 := and_e hk0
  obtain ⟨p0, e0⟩ := is_v hk0.1
  obtain rfl : w0 = (.int p0) := Option.some.inj e0
  have hk1 := hk0.2
  obtain ⟨p1, e1⟩ := is_v hk1
  obtain rfl : w1 = (.int p1) := Option.some.inj e1
  obtain ⟨H', k, hcl, hsl⟩ := law_runs (l := l) (n0 := s.heap.size) hw p0 p1
  obtain ⟨n, o, h1, h2, h3, _, L, rfl, ⟨rfl, -, N⟩, hq⟩ := met_gen (mi := m0) (as := [.int p0, .int p1]) tables_1 room_1 pf0 rfl (fun h => nomatch h) k (by decide) (by decide) (by show H'.length ≤ 0 + 0; omega) (by show szs K H' ≤ 0 + 0; omega) (h := s.heap) ⟨rfl, fun k o h => by simp at h⟩ p e ha hc hk s m _ below hf ((Spec.applies_iff_loose hf).mp happ).1 ⟨rfl, State.Warmed39.refl s, rfl⟩ trivial
  refine ⟨n, _, h1, h2, h3, hpost _ _ _ _ _ _ ⟨Cond.after_iff.mpr rfl, Cond.after_iff.mpr (eq_i res_at (Term.int_eval (1)) rfl), trivial⟩ ⟨hq.1, hq.2.1, (hq.2.2.sift fun y hy => Or.inr (N y hy)).mono (by show H'.length - 0 ≤ _; omega) (by show szs K H' - 0 ≤ _; omega)⟩⟩
theorem main_1_1 : Claimed_1_1 := comes_1 fun _ _ _ _ _ _ h hF => ⟨h.1, hF⟩
theorem main_1_2 : Claimed_1_2 := comes_1 fun _ _ _ _ _ _ h hF => ⟨h.2.1, hF⟩
end Jvm.Pilot.@@N@@
namespace Jvm.Pilot.@@N@@
open Jvm Jvm.ClassFile Sem Op Lib Jvm.Free Jvm.Stand Jvm.Pilot.@@N@@.Jvm.D
/-! MADE BY PROGRAM (witnessworld.py) out of the Statement's table words and the real class files: 9 classes; the members and pool entries that the words name. The judged class is class 1, her method 3. -/
namespace start1
open Jvm.ClassFile
def u (s : String) : CpInfo := .utf8 (stringToUtf16 s)
/-- a pool by its gaps: so many unusable entries, then the entry; so many at the end -/
def gap : Nat → List CpInfo → List CpInfo
  | 0, r => r
  | n + 1, r => .unusable :: gap n r
def poolList (es : List (Nat × CpInfo)) (last : Nat) : List CpInfo := es.foldr (fun e r => gap e.1 (e.2 :: r)) (gap last [])
def pool (es : List (Nat × CpInfo)) (last : Nat) : Array CpInfo := ⟨poolList es last⟩
def fileOf (pool : Array CpInfo) (this : Nat) (attrs : Array Attribute := #[]) (ms : Array MethodInfo := #[]) (fl : Nat := 33) (sup : Nat := 0) (ifs : Array Nat := #[]) (fds : Array FieldInfo := #[]) : ClassFile where
  minorVersion := 0
  majorVersion := 65
  constantPool := pool
  accessFlags := fl
  thisClass := this
  superClass := sup
  interfaces := ifs
  fields := fds
  methods := ms
  attributes := attrs
def plain (name : String) (sup : Option ClassId) : Class where
  name := name
  kind := .ordinary
  loader := none
  accessFlags := 33
  super := sup
  interfaces := #[]
  cf := none
  fields := #[]
  methods := #[]
  instanceTypes := #[]
  staticTypes := #[]
  resolved := #[]
  callSites := []
  init := .initialized
  statics := none
  mirror := none

def pool0 : Array CpInfo := pool [(5, u "<init>"), (0, u "()V"), (1, .class_ 10), (1, u "java/lang/Object")] 113

def k0m0 : Method := { name := "<init>", desc := "()V", sig := { parameters := [], returnType := none }, accessFlags := 1, code := none }
/-- java/lang/Object -/
def k0 : Class := { plain "java/lang/Object" none with
  accessFlags := 33
  interfaces := #[]
  cf := some (fileOf pool0 8 #[] #[{ accessFlags := 1, nameIndex := 5, descriptorIndex := 6, attributes := #[] }] 33 0 #[] #[])
  fields := #[]
  methods := #[k0m0]
  instanceTypes := #[]
  staticTypes := #[]
  resolved := Array.replicate 124 none
  statics := none }

def pool1 : Array CpInfo := pool [(2, .class_ 4), (1, u "java/lang/Object"), (0, u "<init>"), (0, u "()V"), (0, .methodref 8 9), (0, .class_ 10), (0, .nameAndType 11 12), (0, u "dev/lyewire/xml/XmlNamesIsNameCharPinLaw"), (0, u "in"), (0, u "(III)Z"), (0, .integer 55295), (0, .integer 63744), (0, .integer 64975), (0, .integer 65008), (0, .integer 65533), (0, .integer 65536), (0, .integer 983039), (0, .integer 65535), (0, .integer 2097151), (0, .methodref 23 24), (0, .class_ 25), (0, .nameAndType 26 27), (0, u "dev/lyewire/xml/XmlNames"), (0, u "isNameChar"), (0, u "(I)Z"), (0, .methodref 8 29), (0, .nameAndType 30 27), (0, u "reference"), (0, .methodref 23 32), (0, .nameAndType 33 27), (0, u "isNameStartChar"), (3, u "law"), (0, u "(II)Z")] 2

def k1m0 : Method := { name := "<init>", desc := "()V", sig := { parameters := [], returnType := none }, accessFlags := 2, code := none }
def k1c1 : Code := { maxStack := 2, maxLocals := 3, code := method_2_code, exceptionTable := #[], attributes := #[] }
def k1m1 : Method := { name := "in", desc := "(III)Z", sig := { parameters := [.int, .int, .int], returnType := some .boolean }, accessFlags := 10, code := some k1c1 }
def k1c2 : Code := { maxStack := 3, maxLocals := 1, code := method_3_code, exceptionTable := #[], attributes := #[] }
def k1m2 : Method := { name := "reference", desc := "(I)Z", sig := { parameters := [.int], returnType := some .boolean }, accessFlags := 10, code := some k1c2 }
def k1c3 : Code := { maxStack := 2, maxLocals := 5, code := code, exceptionTable := #[], attributes := #[] }
def k1m3 : Method := { name := "law", desc := "(II)Z", sig := { parameters := [.int, .int], returnType := some .boolean }, accessFlags := 9, code := some k1c3 }
/-- dev/lyewire/xml/XmlNamesIsNameCharPinLaw -/
def k1 : Class := { plain "dev/lyewire/xml/XmlNamesIsNameCharPinLaw" (some 0) with
  accessFlags := 49
  interfaces := #[]
  cf := some (fileOf pool1 8 #[] #[{ accessFlags := 2, nameIndex := 5, descriptorIndex := 6, attributes := #[] }, { accessFlags := 10, nameIndex := 11, descriptorIndex := 12, attributes := #[] }, { accessFlags := 10, nameIndex := 30, descriptorIndex := 27, attributes := #[] }, { accessFlags := 9, nameIndex := 37, descriptorIndex := 38, attributes := #[] }] 49 2 #[] #[])
  fields := #[]
  methods := #[k1m0, k1m1, k1m2, k1m3]
  instanceTypes := #[]
  staticTypes := #[]
  resolved := Array.replicate 41 none
  statics := none }

def pool2 : Array CpInfo := pool [(4, .class_ 6), (1, u "java/lang/Object"), (0, u "<init>"), (0, u "()V"), (1, .class_ 12), (1, u "dev/lyewire/xml/XmlNames"), (61, u "(I)Z"), (79, .class_ 155), (0, u "dev/lyewire/xml/XmlNames$QualifiedName"), (15, .methodref 10 172), (0, .nameAndType 173 74), (0, u "isNameStartChar"), (2, u "isNameChar"), (0, .integer 55295), (0, .integer 63744), (0, .integer 64975), (0, .integer 65008), (0, .integer 65533), (0, .integer 65536), (0, .integer 983039)] 69

def k2m0 : Method := { name := "<init>", desc := "()V", sig := { parameters := [], returnType := none }, accessFlags := 2, code := none }
def k2c1 : Code := { maxStack := 2, maxLocals := 1, code := prog_81_method_16_code, exceptionTable := #[], attributes := #[] }
def k2m1 : Method := { name := "isNameStartChar", desc := "(I)Z", sig := { parameters := [.int], returnType := some .boolean }, accessFlags := 8, code := some k2c1 }
def k2c2 : Code := { maxStack := 2, maxLocals := 1, code := prog_81_method_17_code, exceptionTable := #[], attributes := #[] }
def k2m2 : Method := { name := "isNameChar", desc := "(I)Z", sig := { parameters := [.int], returnType := some .boolean }, accessFlags := 8, code := some k2c2 }
/-- dev/lyewire/xml/XmlNames -/
def k2 : Class := { plain "dev/lyewire/xml/XmlNames" (some 0) with
  accessFlags := 49
  interfaces := #[]
  cf := some (fileOf pool2 10 #[.nestMembers #[154]] #[{ accessFlags := 2, nameIndex := 7, descriptorIndex := 8, attributes := #[] }, { accessFlags := 8, nameIndex := 173, descriptorIndex := 74, attributes := #[] }, { accessFlags := 8, nameIndex := 176, descriptorIndex := 74, attributes := #[] }] 49 4 #[] #[])
  fields := #[]
  methods := #[k2m0, k2m1, k2m2]
  instanceTypes := #[]
  staticTypes := #[]
  resolved := Array.replicate 253 none
  statics := none }

def pool3 : Array CpInfo := pool [(1, u "java/lang/Cloneable"), (0, .class_ 1), (0, u "java/lang/Object"), (0, .class_ 3)] 3

/-- java/lang/Cloneable -/
def k3 : Class := { plain "java/lang/Cloneable" (some 0) with
  accessFlags := 1537
  interfaces := #[]
  cf := some (fileOf pool3 2 #[] #[] 1537 4 #[] #[])
  fields := #[]
  methods := #[]
  instanceTypes := #[]
  staticTypes := #[]
  resolved := Array.replicate 8 none
  statics := none }

def pool4 : Array CpInfo := pool [(1, u "java/io/Serializable"), (0, .class_ 1), (0, u "java/lang/Object"), (0, .class_ 3)] 3

/-- java/io/Serializable -/
def k4 : Class := { plain "java/io/Serializable" (some 0) with
  accessFlags := 1537
  interfaces := #[]
  cf := some (fileOf pool4 2 #[] #[] 1537 4 #[] #[])
  fields := #[]
  methods := #[]
  instanceTypes := #[]
  staticTypes := #[]
  resolved := Array.replicate 8 none
  statics := none }

/-- the primitive byte -/
def k5 : Class := { plain "byte" none with kind := .primitive 'B', accessFlags := 0x411 }
/-- [B -/
def k6 : Class := { plain "[B" (some 0) with kind := .array 5 .byte, interfaces := #[3, 4], accessFlags := 1041 }

/-- the primitive int -/
def k7 : Class := { plain "int" none with kind := .primitive 'I', accessFlags := 0x411 }
/-- [I -/
def k8 : Class := { plain "[I" (some 0) with kind := .array 7 .int, interfaces := #[3, 4], accessFlags := 1041 }

def heap : Heap := #[]
def classes : Array Class := #[k0, k1, k2, k3, k4, k5, k6, k7, k8]
def interned : List (Array UInt16 × Addr) := []
def slotsUsed : Nat := 0
def theMethod : MethodId := ⟨1, 3⟩
def args0 : Array Value := #[.int 5, .int 3]
def aboutOver (below : List Frame) : State where
  vm := { classes := classes, interned := interned.toArray }
  heap := heap
  slotsUsed := slotsUsed
  threads := #[{ frames := .invoking theMethod args0 :: below }]
def below0 : List Frame := [.native { method := ⟨0, 0⟩, args := #[] }]
def about1 : State := aboutOver below0
def p0 : Program := .bare "" "" ""
def e0 : Env := launch0.env 0 0 0
theorem w_frames : about1.frames = Frame.invoking theMethod args0 :: below0 := rfl
set_option maxRecDepth 65536 in
theorem w_args : argsFit about1.vm theMethod args0 = true := by decide +kernel
set_option maxRecDepth 65536 in
theorem w_heap : heapFits about1 = true := by decide +kernel
set_option maxRecDepth 65536 in
theorem w_runnable : about1.curStatus? = some .runnable := by decide +kernel
set_option maxRecDepth 65536 in
theorem w_alone : about1.alone = true := by decide +kernel
set_option maxRecDepth 65536 in
theorem w_named : about1.methodNamed? x = some theMethod := by decide +kernel
set_option maxRecDepth 65536 in
theorem w_hears : about1.hears theMethod below0 = true := by decide +kernel
set_option maxRecDepth 65536 in
theorem w_ripe : about1.ripe theMethod args0 below0 = true := by decide +kernel
theorem w_running : about1.status = .running := rfl
set_option maxRecDepth 65536 in
theorem w_room : about1.hasRoom e0.platform room_1 = true :=
  launch0.hasRoom_least _ room_1 (by decide +kernel) (by decide +kernel) (by decide +kernel) (by decide +kernel) (by decide +kernel) (by decide +kernel)
theorem allAtoms_all (ts : List Jvm.Cond) (a : Array Jvm.Value) (st : Jvm.State) : (allAtoms ts).before a st = ts.all (fun c => c.before a st) := by
  induction ts with
  | nil => rfl
  | cons c t ih =>
    show (Jvm.Cond.and c (allAtoms t)).before a st = _
    rw [Jvm.Cond.before_and, ih, List.all_cons]
def words1 : List Jvm.Cond := Jvm.Cond.code x code maxLocals ret :: tables_1
/-- a 'code' word, met by the world's own term for the bytes: nothing is compared byte by byte -/
theorem code_word {y : MethodName} {bytes : ByteArray} {mx : Nat} {rt : Option FieldType} {a : Array Value} {s : State} {m : MethodId} {meth : Method} {c : Code} (h1 : s.methodNamed? y = some m) (h2 : s.vm.method? m = some meth) (h3 : meth.code = some c) (h4 : c.code = bytes)
    (h5 : (c.maxLocals == mx && c.exceptionTable.isEmpty && decide (c.maxStack ≤ mostOperands) && decide (meth.sig.returnType = rt) && !meth.locks && decide (parseMethodDescriptor y.desc = some meth.sig)) = true) : (Jvm.Cond.code y bytes mx rt).before a s = true := by
  simp only [Bool.and_eq_true, beq_iff_eq, Bool.not_eq_true', decide_eq_true_eq] at h5
  obtain ⟨⟨⟨⟨⟨g1, g2⟩, g3⟩, g4⟩, g5⟩, g6⟩ := h5
  simp [Cond.before, Cond.holds, Cond.value, h1, h2, h3, h4, g1, g2, g3, g4, g5, g6]
def isCode : Jvm.Cond → Bool
  | .code _ _ _ _ => true
  | _ => false
theorem all_split {L : List Jvm.Cond} {P : Jvm.Cond → Bool} (h1 : L.all (fun c => isCode c || P c) = true) (h2 : ∀ c ∈ L.filter isCode, P c = true) : L.all P = true := by
  refine List.all_eq_true.mpr fun c hc => ?_
  have h := List.all_eq_true.mp h1 c hc
  rcases Bool.eq_false_or_eq_true (isCode c) with hi | hi
  · exact h2 c (List.mem_filter.mpr ⟨hc, hi⟩)
  · simpa [hi] using h
set_option maxRecDepth 65536 in
theorem w_c0 : (Jvm.Cond.code x code maxLocals ret).before args0 about1 = true := code_word (m := ⟨1, 3⟩) (meth := k1m3) (c := k1c3) (by decide +kernel) rfl rfl rfl (by decide +kernel)
set_option maxRecDepth 65536 in
theorem w_c1 : (Jvm.Cond.code ({ cls := "dev/lyewire/xml/XmlNames", name := "isNameChar", desc := "(I)Z" } : Jvm.MethodName) prog_81_method_17_code (1 : Nat) (Option.some Jvm.ClassFile.FieldType.boolean)).before args0 about1 = true := code_word (m := ⟨2, 2⟩) (meth := k2m2) (c := k2c2) (by decide +kernel) rfl rfl rfl (by decide +kernel)
set_option maxRecDepth 65536 in
theorem w_c2 : (Jvm.Cond.code ({ cls := "dev/lyewire/xml/XmlNames", name := "isNameStartChar", desc := "(I)Z" } : Jvm.MethodName) prog_81_method_16_code (1 : Nat) (Option.some Jvm.ClassFile.FieldType.boolean)).before args0 about1 = true := code_word (m := ⟨2, 1⟩) (meth := k2m1) (c := k2c1) (by decide +kernel) rfl rfl rfl (by decide +kernel)
set_option maxRecDepth 65536 in
theorem w_c3 : (Jvm.Cond.code ({ cls := "dev/lyewire/xml/XmlNamesIsNameCharPinLaw", name := "reference", desc := "(I)Z" } : Jvm.MethodName) method_3_code (1 : Nat) (Option.some Jvm.ClassFile.FieldType.boolean)).before args0 about1 = true := code_word (m := ⟨1, 2⟩) (meth := k1m2) (c := k1c2) (by decide +kernel) rfl rfl rfl (by decide +kernel)
set_option maxRecDepth 65536 in
theorem w_c4 : (Jvm.Cond.code ({ cls := "dev/lyewire/xml/XmlNamesIsNameCharPinLaw", name := "in", desc := "(III)Z" } : Jvm.MethodName) method_2_code (3 : Nat) (Option.some Jvm.ClassFile.FieldType.boolean)).before args0 about1 = true := code_word (m := ⟨1, 1⟩) (meth := k1m1) (c := k1c1) (by decide +kernel) rfl rfl rfl (by decide +kernel)
def codes1 : List Jvm.Cond := [Jvm.Cond.code x code maxLocals ret, Jvm.Cond.code ({ cls := "dev/lyewire/xml/XmlNames", name := "isNameChar", desc := "(I)Z" } : Jvm.MethodName) prog_81_method_17_code (1 : Nat) (Option.some Jvm.ClassFile.FieldType.boolean), Jvm.Cond.code ({ cls := "dev/lyewire/xml/XmlNames", name := "isNameStartChar", desc := "(I)Z" } : Jvm.MethodName) prog_81_method_16_code (1 : Nat) (Option.some Jvm.ClassFile.FieldType.boolean), Jvm.Cond.code ({ cls := "dev/lyewire/xml/XmlNamesIsNameCharPinLaw", name := "reference", desc := "(I)Z" } : Jvm.MethodName) method_3_code (1 : Nat) (Option.some Jvm.ClassFile.FieldType.boolean), Jvm.Cond.code ({ cls := "dev/lyewire/xml/XmlNamesIsNameCharPinLaw", name := "in", desc := "(III)Z" } : Jvm.MethodName) method_2_code (3 : Nat) (Option.some Jvm.ClassFile.FieldType.boolean)]
set_option maxRecDepth 65536 in
theorem codes_eq : words1.filter isCode = codes1 := rfl
theorem w_codes : ∀ c ∈ words1.filter isCode, c.before args0 about1 = true := by
  rw [codes_eq]
  intro c hc
  simp only [codes1, List.mem_cons, List.not_mem_nil, or_false] at hc
  rcases hc with rfl | rfl | rfl | rfl | rfl
  · exact w_c0
  · exact w_c1
  · exact w_c2
  · exact w_c3
  · exact w_c4
set_option maxRecDepth 65536 in
theorem w_t1 : (words1.take 24).all (fun c => isCode c || c.before args0 about1) = true := by decide +kernel
set_option maxRecDepth 65536 in
theorem w_t2 : (words1.drop 24).all (fun c => isCode c || c.before args0 about1) = true := by decide +kernel
theorem w_tables : (allAtoms (Jvm.Cond.code x code maxLocals ret :: tables_1)).before args0 about1 = true := by
  rw [allAtoms_all]
  show words1.all (fun c => c.before args0 about1) = true
  refine all_split ?_ w_codes
  rw [← List.take_append_drop 24 words1, List.all_append, w_t1, w_t2]
  rfl
set_option maxRecDepth 65536 in
theorem w_case : (Jvm.Cond.and given_1 narrow_1).before args0 about1 = true := by decide +kernel
theorem w_applies : (headSpec (Jvm.Cond.code x code maxLocals ret :: tables_1) room_1).applies x e0.platform about1 = true :=
  (Spec.applies_iff w_frames).mpr ⟨w_running, w_runnable, w_alone, w_named, w_hears, w_ripe, w_room, w_tables⟩
theorem atStart : AtStart classFile x code maxLocals ret World_1 tables_1 room_1 Calls_1 rest_1 Pre_1 launch0 p0 e0 about1 theMethod args0 below0 :=
  ⟨lists_1, trivial, launch0.admits_env _ _ _, launch0.least_env, fairChoices_fair.cas, fairChoices_fair.clock, w_frames, w_args, w_heap, w_applies, trivial, trivial, w_case⟩
end start1
theorem witness_1 : WitnessClaimed_1 := ⟨start1.p0, start1.e0, start1.about1, start1.theMethod, start1.args0, start1.below0, start1.atStart⟩
end Jvm.Pilot.@@N@@
