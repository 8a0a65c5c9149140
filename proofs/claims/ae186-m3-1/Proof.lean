import JvmDerived
import JvmDerived.Pilot.@@N@@Statement
import JvmDerived.Pilot.@@N@@Code
set_option linter.unusedVariables false
set_option linter.unusedSimpArgs false
@@BLOCK:HandJ.lean.txt@@
@@BLOCK:SymMore.lean.txt@@
namespace Jvm.Pilot.@@N@@
open Jvm Jvm.ClassFile Sem Op Lib Jvm.Free Jvm.Stand Jvm.LawKit Jvm.RoadKit Bundle Jvm.Pilot.@@N@@.Jvm.D
/-! ## A small logic of runs over a virtual heap (own work, the same text in every proof of this seat)
References count from the first cell that the law makes (n0): `shV n0`. `Ob`: an object by its class (a place in K) and its laid fields, or an array by its component type and values.
`Runs K l Z n0 mi pc ls st H v H'`: whoever stands in the method mi at pc with locals ls, stack st and virtual heap H comes out returning v with heap H'. -/
def shV (n0 : Nat) : Value → Value
  | .ref a => .ref (n0 + a)
  | v => v
def shS (n0 : Nat) : Slot → Slot
  | .val v => .val (shV n0 v)
  | s => s
abbrev Ob : Type := (Nat × List Value) ⊕ (FieldType × List Value)
/-- a field: who declares it, its name, its descriptor, its type -/
abbrev FI : Type := String × String × String × FieldType
/-- a class: its name, the number of its slots, its fields -/
abbrev CI : Type := String × Nat × List FI
/-- a method: name, bytes, max_locals, return type; frames and words that its callees need -/
abbrev MI : Type := MethodName × ByteArray × Nat × Option FieldType × Nat × Nat
def osz (K : List CI) : Ob → Nat
  | .inl (c, _) => ((K[c]?).map (fun ci => ci.2.1)).getD 0
  | .inr (_, vs) => vs.length
def szs (K : List CI) (H : List Ob) : Nat := (H.map (osz K)).sum
def OOk (K : List CI) (Z : State) (n0 : Nat) (h : Heap) (a : Addr) : Ob → Prop
  | .inl (c, vs) => ∃ ci, K[c]? = some ci ∧ Exa Z h a ci.1 ∧ ∀ (i : Nat) (f : FI) (v : Value), ci.2.2[i]? = some f → vs[i]? = some v → Fld Z h a f.1 f.2.1 f.2.2.1 (shV n0 v)
  | .inr (ty, vs) => ∃ cl, Arr Z h a cl ty ∧ cl.slots.size = vs.length ∧ vs.length < 2 ^ 31 ∧ ∀ (i : Nat) (v : Value), vs[i]? = some v → cl.slots[i]? = some (shV n0 v) ∧ fits ty v = true
def Rel (K : List CI) (Z : State) (n0 : Nat) (H : List Ob) (h : Heap) : Prop := h.size = n0 + H.length ∧ ∀ (k : Nat) (o : Ob), H[k]? = some o → OOk K Z n0 h (n0 + k) o
def KOk (K : List CI) (Z : State) (a0 : Array Value) : Prop := ∀ (k : Nat) (ci : CI), K[k]? = some ci → (Jvm.Cond.instantiable ci.1 ci.2.1).before a0 Z = true ∧ (∀ f ∈ ci.2.2, Laid Z a0 ci.1 f.1 f.2.1 f.2.2.1 ∧ parseFieldDescriptor f.2.2.1 = some f.2.2.2) ∧ ci.2.2.Pairwise (fun f g => f.2.1 ≠ g.2.1)
theorem cat_sh (n0 : Nat) (v : Value) : (shV n0 v).category = v.category := by cases v <;> rfl
theorem cats_sh (n0 : Nat) (st : List Value) : ((st.map (shV n0)).map fun v => v.category).sum = (st.map fun v => v.category).sum := by
  rw [List.map_map]; congr 1; exact List.map_congr_left fun v _ => cat_sh n0 v
theorem laid_map (n0 : Nat) : ∀ as : List Value, Jvm.Sym.laidSlots (as.map (shV n0)) = (Jvm.Sym.laidSlots as).map (shS n0)
  | [] => rfl
  | v :: vs => by
    simp only [List.map_cons, Jvm.Sym.laidSlots, cat_sh, laid_map n0 vs]
    split <;> rfl
theorem entry_eq (n0 : Nat) (m : MethodId) (as : List Value) (n : Nat) {ls : List Slot} (h : Jvm.Sym.laidSlots as ++ List.replicate (n - (Jvm.Sym.laidSlots as).length) .unset = ls) :
    entryFrame m (as.map (shV n0)).toArray n = mkF m 0 (ls.map (shS n0)).toArray [] := by
  have e : argsToLocals (as.map (shV n0)).toArray n = (ls.map (shS n0)).toArray := Array.toList_inj.mp (by
    rw [Jvm.Sym.argsToLocals_toList]
    simp only [laid_map, List.length_map, ← h, List.map_append, List.map_replicate]
    rfl)
  show ({ method := m, pc := 0, locals := argsToLocals (as.map (shV n0)).toArray n, stack := [], locked := none } : JFrame) = _
  rw [e]
theorem loc_at {n0 : Nat} {ls : List Slot} {k : Nat} {s : Slot} (h : ls[k]? = some s) : ((ls.map (shS n0)).toArray)[k]? = some (shS n0 s) := by
  simp [h]
/-- the place k may take a value of one word -/
def P1 (ls : List Slot) (k : Nat) : Bool := match ls[k]? with | some .unset => true | some (.val w) => w.category == 1 | _ => false
/-- the places k and k + 1 may take a value of two words -/
def P2 (ls : List Slot) (k : Nat) : Bool := match ls[k]?, ls[k + 1]? with | some (.val w), some .second => w.category == 2 | _, _ => P1 ls k && P1 ls (k + 1)
theorem P1_slot {ls : List Slot} {k : Nat} (h : P1 ls k = true) : ∃ s, ls[k]? = some s ∧ (match s with | .second => False | .val old => old.category = 1 | .unset => True) := by
  unfold P1 at h
  split at h
  · rename_i e; exact ⟨_, e, trivial⟩
  · rename_i w e; exact ⟨_, e, by simpa using h⟩
  · cases h
theorem st1 {n0 : Nat} {ls ls' : List Slot} {k : Nat} {v : Value} (hp : P1 ls k = true) (hv : v.category = 1) (hs : ls.set k (.val v) = ls') : storeLocals (ls.map (shS n0)).toArray k (shV n0 v) = some (ls'.map (shS n0)).toArray := by
  obtain ⟨s, e, q⟩ := P1_slot hp
  rw [storeLocals_cat1 (loc_at (n0 := n0) e) (by rw [cat_sh]; exact hv) (by cases s <;> simp_all [shS, cat_sh]), ← hs]
  simp [List.map_set, shS]
theorem st2 {n0 : Nat} {ls ls' : List Slot} {k : Nat} {v : Value} (hp : P2 ls k = true) (hv : v.category = 2) (hs : (ls.set k (.val v)).set (k + 1) .second = ls') : storeLocals (ls.map (shS n0)).toArray k (shV n0 v) = some (ls'.map (shS n0)).toArray := by
  have key : ∃ x y, ls[k]? = some x ∧ ls[k + 1]? = some y ∧ ((Jvm.Free.Fl.Plain1 (shS n0 x) ∧ Jvm.Free.Fl.Plain1 (shS n0 y)) ∨ ((∃ old, shS n0 x = .val old ∧ old.category = 2) ∧ shS n0 y = .second)) := by
    unfold P2 at hp
    split at hp
    · rename_i w e1 e2
      exact ⟨_, _, e1, e2, Or.inr ⟨⟨_, rfl, by rw [cat_sh]; simpa using hp⟩, rfl⟩⟩
    · rw [Bool.and_eq_true] at hp
      obtain ⟨s, e, q⟩ := P1_slot hp.1
      obtain ⟨s', e', q'⟩ := P1_slot hp.2
      exact ⟨s, s', e, e', Or.inl ⟨by cases s <;> simp_all [shS, cat_sh, Jvm.Free.Fl.Plain1], by cases s' <;> simp_all [shS, cat_sh, Jvm.Free.Fl.Plain1]⟩⟩
  obtain ⟨x, y, e1, e2, q⟩ := key
  rw [Jvm.Free.Fl.storeLocals_cat2 (loc_at (n0 := n0) e1) (loc_at (n0 := n0) e2) (by rw [cat_sh]; exact hv) q, ← hs]
  simp [List.map_set, shS]
def Runs (K : List CI) (l : Launch) (Z : State) (n0 : Nat) (mi : MI) (pc : Nat) (ls : List Slot) (st : List Value) (H : List Ob) (v : Option Value) (H' : List Ob) : Prop :=
  H.length ≤ H'.length ∧ szs K H ≤ szs K H' ∧
  ∀ (p : Program) (e : Env) (R : Room) (s : State) (m : MethodId) (args : Array Value) (below : List Frame) (meth : Method) (c : Code) (T : State) (locs : List Loc) (cells slots : Nat),
    Stand p l e R s m args below meth c T locs cells slots → p.tables.exec = Jvm.exec → Z.Warmed39 s.vm → c.code = mi.2.1 → c.maxLocals = mi.2.2.1 → meth.sig.returnType = mi.2.2.2.1 → s.vm.findClass mi.1.cls = some m.cls → meth.name = mi.1.name →
    Rel K Z n0 H T.heap → Fr n0 locs → mi.2.2.2.2.1 ≤ R.frames → mi.2.2.2.2.2 ≤ R.locals → s.heap.size + cells = n0 + H.length → cells + H'.length ≤ R.cells + H.length → slots + szs K H' ≤ R.slots + szs K H →
    ∃ (T' : State) (locs' : List Loc) (cells' slots' : Nat), Stand p l e R s m args below meth c T' locs' cells' slots' ∧ Rel K Z n0 H' T'.heap ∧ Fr n0 locs' ∧ s.heap.size + cells' = n0 + H'.length ∧ slots' + szs K H ≤ slots + szs K H' ∧
      ∀ fs, (∀ (f : JFrame) (acts : List Action), f.method = m → f.locked = none → f.entered = [] → (doReturn e (T'.setTop f) acts (v.map (shV n0))).1 = T'.setFrames fs) →
        Steps p.tables e below (T.setTop (mkF m pc (ls.map (shS n0)).toArray (st.map (shV n0)))) (T'.setFrames fs)
def rmOf (K : List CI) (mi : MI) (H H' : List Ob) : Room := { frames := mi.2.2.2.2.1, cells := H'.length - H.length, slots := szs K H' - szs K H, locals := mi.2.2.2.2.2 }
def Meets (K : List CI) (l : Launch) (Z : State) (n0 : Nat) (mi : MI) (as : List Value) (H : List Ob) (v : Option Value) (H' : List Ob) : Prop :=
  H.length ≤ H'.length ∧ szs K H ≤ szs K H' ∧ ∀ h, Rel K Z n0 H h →
    MetFree l mi.1 (head1 [Jvm.Cond.code mi.1 mi.2.1 mi.2.2.1 mi.2.2.2.1] (rmOf K mi H H')) (fun a U => a = (as.map (shV n0)).toArray ∧ Z.Warmed39 U.vm ∧ U.heap = h) (fun _ _ _ _ _ => True)
      (fun _ U o U' => ∃ w L, o = .returned w ∧ (w = v.map (shV n0) ∧ Rel K Z n0 H' U'.heap ∧ Fr n0 L) ∧ FrameEnd U o U' L (rmOf K mi H H').cells (rmOf K mi H H').slots)
theorem leB {a b : Nat} (h : Nat.ble a b = true) : a ≤ b := Nat.le_of_ble_eq_true h
theorem ltB {a b : Nat} (h : Nat.ble (a + 1) b = true) : a < b := Nat.le_of_ble_eq_true h
section Logic
variable {K : List CI} {l : Launch} {Z : State} {a0 : Array Value} {n0 : Nat} {mi : MI} {pc np tp : Nat} {ls ls' : List Slot} {st rest : List Value} {H H' H1 : List Ob} {v : Option Value}
/-- from a run of the body to the method's contract, in any room that holds it -/
theorem met_gen {as : List Value} (ws : List Jvm.Cond) (R0 : Room) (hp : plainFor mi.1 = true) (hls : Jvm.Sym.laidSlots as ++ List.replicate (mi.2.2.1 - (Jvm.Sym.laidSlots as).length) .unset = ls) (hv : mi.2.2.2.1 = none → v = none)
    (k : Runs K l Z n0 mi 0 ls [] H v H') (hfr : mi.2.2.2.2.1 ≤ R0.frames) (hlo : mi.2.2.2.2.2 ≤ R0.locals) (hcl : H'.length ≤ R0.cells + H.length) (hsl : szs K H' ≤ R0.slots + szs K H) {h : Heap} (hrel : Rel K Z n0 H h) :
    MetFree l mi.1 (head1 (Jvm.Cond.code mi.1 mi.2.1 mi.2.2.1 mi.2.2.2.1 :: ws) R0) (fun a U => a = (as.map (shV n0)).toArray ∧ Z.Warmed39 U.vm ∧ U.heap = h) (fun _ _ _ _ _ => True)
      (fun _ U o U' => ∃ w L, o = .returned w ∧ (w = v.map (shV n0) ∧ Rel K Z n0 H' U'.heap ∧ Fr n0 L) ∧ FrameEnd U o U' L (H'.length - H.length) (szs K H' - szs K H)) := by
  refine MetFree.of_bodySF hp hisR ?_
  intro p e s m args below meth c s₁ Bd hml0 hP hK
  obtain ⟨rfl, hZ, hh⟩ := hP
  have hx := Bd.exec
  have hby := Bd.bytes
  have hown : s.vm.findClass mi.1.cls = some m.cls := findClass_of_methodNamed Bd.named
  have hnm := (name_of_methodNamed Bd.named Bd.method).1
  have X0 : Stand p l e R0 s m (as.map (shV n0)).toArray below meth c s₁ [] 0 0 := Stand.of_body Bd
  have e0 : s₁.heap = h := by rw [← hh, Bd.state]; rfl
  obtain ⟨T', locs', cells', slots', X', rel', fr', hc', hs', stp⟩ := k.2.2 p e R0 s m _ below meth c s₁ [] 0 0 X0 hx hZ hby hml0 Bd.returns hown hnm (e0 ▸ hrel) (Fr.nil n0) hfr hlo (by rw [hh, hrel.1]; rfl) (by omega) (by omega)
  have hsz : s.heap.size = n0 + H.length := by rw [hh, hrel.1]
  obtain ⟨fs, hr, hrun, hended, hW, hsame⟩ := X'.leave (v := v.map (shV n0)) (fun q => by rw [Bd.returns] at q; rw [hv q]; rfl)
  exact ⟨_, _, castTop (entry_eq n0 m as mi.2.2.1 hls) (stp fs hr), hrun, hended, _, _, rfl, ⟨rfl, rel', fr'⟩, ⟨_, rfl⟩, hW, hsame.mono (by omega) (by omega)⟩
theorem meets {as : List Value} (hp : plainFor mi.1 = true) (hls : Jvm.Sym.laidSlots as ++ List.replicate (mi.2.2.1 - (Jvm.Sym.laidSlots as).length) .unset = ls) (hv : mi.2.2.2.1 = none → v = none) (k : Runs K l Z n0 mi 0 ls [] H v H') : Meets K l Z n0 mi as H v H' :=
  ⟨k.1, k.2.1, fun h hrel => met_gen [] (rmOf K mi H H') hp hls hv k (Nat.le_refl _) (Nat.le_refl _) (by have := k.1; show _ ≤ (H'.length - H.length) + _; omega) (by have := k.2.1; show _ ≤ (szs K H' - szs K H) + _; omega) hrel⟩
/-- a run that ends in some heap of at most c cells and n slots -/
def RunsB (K : List CI) (l : Launch) (Z : State) (n0 : Nat) (mi : MI) (pc : Nat) (ls : List Slot) (st : List Value) (H : List Ob) (v : Option Value) (c n : Nat) : Prop := ∃ H' : List Ob, Runs K l Z n0 mi pc ls st H v H' ∧ H'.length ≤ c ∧ szs K H' ≤ n
theorem lift {st2 : List Value} {c n : Nat} (f : ∀ H' : List Ob, Runs K l Z n0 mi np ls' st2 H1 v H' → Runs K l Z n0 mi pc ls st H v H') (k : RunsB K l Z n0 mi np ls' st2 H1 v c n) : RunsB K l Z n0 mi pc ls st H v c n := by
  obtain ⟨H', k1, k2⟩ := k
  exact ⟨H', f H' k1, k2⟩
/-- a run that ends in a value and a heap of which Q holds -/
def RunsP (K : List CI) (l : Launch) (Z : State) (n0 : Nat) (mi : MI) (pc : Nat) (ls : List Slot) (st : List Value) (H : List Ob) (Q : Option Value → List Ob → Prop) : Prop := ∃ v H', Runs K l Z n0 mi pc ls st H v H' ∧ Q v H'
theorem liftP {st2 : List Value} {Q : Option Value → List Ob → Prop} (f : ∀ (v : Option Value) (H' : List Ob), Runs K l Z n0 mi np ls' st2 H1 v H' → Runs K l Z n0 mi pc ls st H v H') (k : RunsP K l Z n0 mi np ls' st2 H1 Q) : RunsP K l Z n0 mi pc ls st H Q := by
  obtain ⟨v, H', k1, k2⟩ := k
  exact ⟨v, H', f v H' k1, k2⟩
/-- a step that reads no heap -/
theorem Runs.pure {st2 : List Value} (hstep : ∀ (p : Program) (e : Env) (R : Room) (s : State) (m : MethodId) (args : Array Value) (below : List Frame) (meth : Method) (c : Code) (T : State) (locs : List Loc) (cells slots : Nat),
      Stand p l e R s m args below meth c T locs cells slots → p.tables.exec = Jvm.exec → Z.Warmed39 s.vm → c.code = mi.2.1 → s.vm.findClass mi.1.cls = some m.cls → ∀ target,
      Steps p.tables e below (T.setTop (mkF m np (ls'.map (shS n0)).toArray (st2.map (shV n0)))) target → Steps p.tables e below (T.setTop (mkF m pc (ls.map (shS n0)).toArray (st.map (shV n0)))) target)
    (k : Runs K l Z n0 mi np ls' st2 H v H') : Runs K l Z n0 mi pc ls st H v H' := by
  refine ⟨k.1, k.2.1, fun p e R s m args below meth c T locs cells slots X hx hZ hc hml hret hown hnm hrel hfr hf hlo hsz hcl hsl => ?_⟩
  obtain ⟨T', locs', cells', slots', X', rel', fr', hc', hs', stp⟩ := k.2.2 p e R s m args below meth c T locs cells slots X hx hZ hc hml hret hown hnm hrel hfr hf hlo hsz hcl hsl
  exact ⟨T', locs', cells', slots', X', rel', fr', hc', hs', fun fs hr => hstep p e R s m args below meth c T locs cells slots X hx hZ hc hown _ (stp fs hr)⟩
theorem isRef_sh {n0 : Nat} {x : Value} (h : x.isRef = true) : (shV n0 x).isRef = true := by cases x <;> first | rfl | cases h
theorem P1_int {ls : List Slot} {k : Nat} {x : Int32} (h : ls[k]? = some (.val (.int x))) : P1 ls k = true := by unfold P1; rw [h]; rfl
theorem r_iloadN {k : Fin 4} {x : Int32} (hd : decode mi.2.1 pc = .ok (.iload_n k, 1) ∧ pc + 1 = np) (hl : ls[k.val]? = some (.val (.int x))) (kk : Runs K l Z n0 mi np ls (.int x :: st) H v H') : Runs K l Z n0 mi pc ls st H v H' := by
  obtain ⟨hd, rfl⟩ := hd
  exact Runs.pure (fun _ _ _ _ _ _ _ _ _ _ _ _ _ X hx hZ hc hown t h => XS.iloadN X.here hx rfl (hb hc hd) (loc_at hl) h) kk
theorem r_iload {k : Nat} {x : Int32} (hd : decode mi.2.1 pc = .ok (.iload k, 2) ∧ pc + 2 = np) (hl : ls[k]? = some (.val (.int x))) (kk : Runs K l Z n0 mi np ls (.int x :: st) H v H') : Runs K l Z n0 mi pc ls st H v H' := by
  obtain ⟨hd, rfl⟩ := hd
  exact Runs.pure (fun _ _ _ _ _ _ _ _ _ _ _ _ _ X hx hZ hc hown t h => XS.iload X.here hx rfl (hb hc hd) (loc_at hl) h) kk
theorem r_lloadN {k : Fin 4} {x : Int64} (hd : decode mi.2.1 pc = .ok (.lload_n k, 1) ∧ pc + 1 = np) (hl : ls[k.val]? = some (.val (.long x))) (kk : Runs K l Z n0 mi np ls (.long x :: st) H v H') : Runs K l Z n0 mi pc ls st H v H' := by
  obtain ⟨hd, rfl⟩ := hd
  exact Runs.pure (fun _ _ _ _ _ _ _ _ _ _ _ _ _ X hx hZ hc hown t h => XT.lloadN X.here hx rfl (hb hc hd) (loc_at hl) h) kk
theorem r_lload {k : Nat} {x : Int64} (hd : decode mi.2.1 pc = .ok (.lload k, 2) ∧ pc + 2 = np) (hl : ls[k]? = some (.val (.long x))) (kk : Runs K l Z n0 mi np ls (.long x :: st) H v H') : Runs K l Z n0 mi pc ls st H v H' := by
  obtain ⟨hd, rfl⟩ := hd
  exact Runs.pure (fun _ _ _ _ _ _ _ _ _ _ _ _ _ X hx hZ hc hown t h => XT.lload X.here hx rfl (hb hc hd) (loc_at hl) h) kk
theorem r_aloadN {k : Fin 4} {x : Value} (hd : decode mi.2.1 pc = .ok (.aload_n k, 1) ∧ pc + 1 = np) (hl : ls[k.val]? = some (.val x)) (hv : x.isRef = true) (kk : Runs K l Z n0 mi np ls (x :: st) H v H') : Runs K l Z n0 mi pc ls st H v H' := by
  obtain ⟨hd, rfl⟩ := hd
  exact Runs.pure (fun _ _ _ _ _ _ _ _ _ _ _ _ _ X hx hZ hc hown t h => XS.aloadN X.here hx rfl (hb hc hd) (loc_at hl) (isRef_sh hv) h) kk
theorem r_aload {k : Nat} {x : Value} (hd : decode mi.2.1 pc = .ok (.aload k, 2) ∧ pc + 2 = np) (hl : ls[k]? = some (.val x)) (hv : x.isRef = true) (kk : Runs K l Z n0 mi np ls (x :: st) H v H') : Runs K l Z n0 mi pc ls st H v H' := by
  obtain ⟨hd, rfl⟩ := hd
  exact Runs.pure (fun _ _ _ _ _ _ _ _ _ _ _ _ _ X hx hZ hc hown t h => XS.aload X.here hx rfl (hb hc hd) (loc_at hl) (isRef_sh hv) h) kk
theorem r_istoreN {k : Fin 4} {x : Int32} (hd : decode mi.2.1 pc = .ok (.istore_n k, 1) ∧ pc + 1 = np) (hp : P1 ls k.val = true) (hs : ls.set k.val (.val (.int x)) = ls') (kk : Runs K l Z n0 mi np ls' st H v H') : Runs K l Z n0 mi pc ls (.int x :: st) H v H' := by
  obtain ⟨hd, rfl⟩ := hd
  exact Runs.pure (fun _ _ _ _ _ _ _ _ _ _ _ _ _ X hx hZ hc hown t h => XS.istoreN X.here hx rfl (hb hc hd) rfl (st1 hp rfl hs) h) kk
theorem r_istore {k : Nat} {x : Int32} (hd : decode mi.2.1 pc = .ok (.istore k, 2) ∧ pc + 2 = np) (hp : P1 ls k = true) (hs : ls.set k (.val (.int x)) = ls') (kk : Runs K l Z n0 mi np ls' st H v H') : Runs K l Z n0 mi pc ls (.int x :: st) H v H' := by
  obtain ⟨hd, rfl⟩ := hd
  exact Runs.pure (fun _ _ _ _ _ _ _ _ _ _ _ _ _ X hx hZ hc hown t h => XS.istore X.here hx rfl (hb hc hd) rfl (st1 hp rfl hs) h) kk
theorem r_lstoreN {k : Fin 4} {x : Int64} (hd : decode mi.2.1 pc = .ok (.lstore_n k, 1) ∧ pc + 1 = np) (hp : P2 ls k.val = true) (hs : (ls.set k.val (.val (.long x))).set (k.val + 1) .second = ls') (kk : Runs K l Z n0 mi np ls' st H v H') : Runs K l Z n0 mi pc ls (.long x :: st) H v H' := by
  obtain ⟨hd, rfl⟩ := hd
  exact Runs.pure (fun _ _ _ _ _ _ _ _ _ _ _ _ _ X hx hZ hc hown t h => XT.lstoreN X.here hx rfl (hb hc hd) rfl (st2 hp rfl hs) h) kk
theorem r_lstore {k : Nat} {x : Int64} (hd : decode mi.2.1 pc = .ok (.lstore k, 2) ∧ pc + 2 = np) (hp : P2 ls k = true) (hs : (ls.set k (.val (.long x))).set (k + 1) .second = ls') (kk : Runs K l Z n0 mi np ls' st H v H') : Runs K l Z n0 mi pc ls (.long x :: st) H v H' := by
  obtain ⟨hd, rfl⟩ := hd
  exact Runs.pure (fun _ _ _ _ _ _ _ _ _ _ _ _ _ X hx hZ hc hown t h => XT.lstore X.here hx rfl (hb hc hd) rfl (st2 hp rfl hs) h) kk
theorem r_astoreN {k : Fin 4} {x : Value} (hd : decode mi.2.1 pc = .ok (.astore_n k, 1) ∧ pc + 1 = np) (hp : P1 ls k.val = true) (hv : x.isRef = true) (hs : ls.set k.val (.val x) = ls') (kk : Runs K l Z n0 mi np ls' st H v H') : Runs K l Z n0 mi pc ls (x :: st) H v H' := by
  obtain ⟨hd, rfl⟩ := hd
  exact Runs.pure (fun _ _ _ _ _ _ _ _ _ _ _ _ _ X hx hZ hc hown t h => XS.astoreN X.here hx rfl (hb hc hd) rfl (isRef_sh hv) (st1 hp (XT.cat1 hv) hs) h) kk
theorem r_astore {k : Nat} {x : Value} (hd : decode mi.2.1 pc = .ok (.astore k, 2) ∧ pc + 2 = np) (hp : P1 ls k = true) (hv : x.isRef = true) (hs : ls.set k (.val x) = ls') (kk : Runs K l Z n0 mi np ls' st H v H') : Runs K l Z n0 mi pc ls (x :: st) H v H' := by
  obtain ⟨hd, rfl⟩ := hd
  exact Runs.pure (fun _ _ _ _ _ _ _ _ _ _ _ _ _ X hx hZ hc hown t h => XS.astore X.here hx rfl (hb hc hd) rfl (isRef_sh hv) (st1 hp (XT.cat1 hv) hs) h) kk
theorem r_iadd {x y : Int32} (hd : decode mi.2.1 pc = .ok (.iadd, 1) ∧ pc + 1 = np) (kk : Runs K l Z n0 mi np ls (.int (x + y) :: st) H v H') : Runs K l Z n0 mi pc ls (.int y :: .int x :: st) H v H' := by
  obtain ⟨hd, rfl⟩ := hd
  exact Runs.pure (fun _ _ _ _ _ _ _ _ _ _ _ _ _ X hx hZ hc hown t h => XS.iadd X.here hx rfl (hb hc hd) rfl h) kk
theorem r_isub {x y : Int32} (hd : decode mi.2.1 pc = .ok (.isub, 1) ∧ pc + 1 = np) (kk : Runs K l Z n0 mi np ls (.int (x - y) :: st) H v H') : Runs K l Z n0 mi pc ls (.int y :: .int x :: st) H v H' := by
  obtain ⟨hd, rfl⟩ := hd
  exact Runs.pure (fun _ _ _ _ _ _ _ _ _ _ _ _ _ X hx hZ hc hown t h => XS.isub X.here hx rfl (hb hc hd) rfl h) kk
theorem r_imul {x y : Int32} (hd : decode mi.2.1 pc = .ok (.imul, 1) ∧ pc + 1 = np) (kk : Runs K l Z n0 mi np ls (.int (x * y) :: st) H v H') : Runs K l Z n0 mi pc ls (.int y :: .int x :: st) H v H' := by
  obtain ⟨hd, rfl⟩ := hd
  exact Runs.pure (fun _ _ _ _ _ _ _ _ _ _ _ _ _ X hx hZ hc hown t h => XS.imul X.here hx rfl (hb hc hd) rfl h) kk
theorem r_iand {x y : Int32} (hd : decode mi.2.1 pc = .ok (.iand, 1) ∧ pc + 1 = np) (kk : Runs K l Z n0 mi np ls (.int (x &&& y) :: st) H v H') : Runs K l Z n0 mi pc ls (.int y :: .int x :: st) H v H' := by
  obtain ⟨hd, rfl⟩ := hd
  exact Runs.pure (fun _ _ _ _ _ _ _ _ _ _ _ _ _ X hx hZ hc hown t h => XS.iand X.here hx rfl (hb hc hd) rfl h) kk
theorem r_ior {x y : Int32} (hd : decode mi.2.1 pc = .ok (.ior, 1) ∧ pc + 1 = np) (kk : Runs K l Z n0 mi np ls (.int (x ||| y) :: st) H v H') : Runs K l Z n0 mi pc ls (.int y :: .int x :: st) H v H' := by
  obtain ⟨hd, rfl⟩ := hd
  exact Runs.pure (fun _ _ _ _ _ _ _ _ _ _ _ _ _ X hx hZ hc hown t h => XT.ior X.here hx rfl (hb hc hd) rfl h) kk
theorem r_ixor {x y : Int32} (hd : decode mi.2.1 pc = .ok (.ixor, 1) ∧ pc + 1 = np) (kk : Runs K l Z n0 mi np ls (.int (x ^^^ y) :: st) H v H') : Runs K l Z n0 mi pc ls (.int y :: .int x :: st) H v H' := by
  obtain ⟨hd, rfl⟩ := hd
  exact Runs.pure (fun _ _ _ _ _ _ _ _ _ _ _ _ _ X hx hZ hc hown t h => XT.ixor X.here hx rfl (hb hc hd) rfl h) kk
theorem r_ishl {x y : Int32} (hd : decode mi.2.1 pc = .ok (.ishl, 1) ∧ pc + 1 = np) (kk : Runs K l Z n0 mi np ls (.int (x <<< (y &&& 31)) :: st) H v H') : Runs K l Z n0 mi pc ls (.int y :: .int x :: st) H v H' := by
  obtain ⟨hd, rfl⟩ := hd
  exact Runs.pure (fun _ _ _ _ _ _ _ _ _ _ _ _ _ X hx hZ hc hown t h => XT.ishl X.here hx rfl (hb hc hd) rfl h) kk
theorem r_ishr {x y : Int32} (hd : decode mi.2.1 pc = .ok (.ishr, 1) ∧ pc + 1 = np) (kk : Runs K l Z n0 mi np ls (.int (x >>> (y &&& 31)) :: st) H v H') : Runs K l Z n0 mi pc ls (.int y :: .int x :: st) H v H' := by
  obtain ⟨hd, rfl⟩ := hd
  exact Runs.pure (fun _ _ _ _ _ _ _ _ _ _ _ _ _ X hx hZ hc hown t h => XT.ishr X.here hx rfl (hb hc hd) rfl h) kk
theorem r_iushr {x y : Int32} (hd : decode mi.2.1 pc = .ok (.iushr, 1) ∧ pc + 1 = np) (kk : Runs K l Z n0 mi np ls (.int (XT.ushr x y) :: st) H v H') : Runs K l Z n0 mi pc ls (.int y :: .int x :: st) H v H' := by
  obtain ⟨hd, rfl⟩ := hd
  exact Runs.pure (fun _ _ _ _ _ _ _ _ _ _ _ _ _ X hx hZ hc hown t h => XT.iushr X.here hx rfl (hb hc hd) rfl h) kk
theorem r_idiv {x y : Int32} (hd : decode mi.2.1 pc = .ok (.idiv, 1) ∧ pc + 1 = np) (hy : y ≠ 0) (kk : Runs K l Z n0 mi np ls (.int (x / y) :: st) H v H') : Runs K l Z n0 mi pc ls (.int y :: .int x :: st) H v H' := by
  obtain ⟨hd, rfl⟩ := hd
  exact Runs.pure (fun _ _ _ _ _ _ _ _ _ _ _ _ _ X hx hZ hc hown t h => XS.idiv X.here hx rfl (hb hc hd) rfl hy h) kk
theorem r_irem {x y : Int32} (hd : decode mi.2.1 pc = .ok (.irem, 1) ∧ pc + 1 = np) (hy : y ≠ 0) (kk : Runs K l Z n0 mi np ls (.int (x % y) :: st) H v H') : Runs K l Z n0 mi pc ls (.int y :: .int x :: st) H v H' := by
  obtain ⟨hd, rfl⟩ := hd
  exact Runs.pure (fun _ _ _ _ _ _ _ _ _ _ _ _ _ X hx hZ hc hown t h => iremM X hx rfl (hb hc hd) rfl hy h) kk
theorem r_ladd {x y : Int64} (hd : decode mi.2.1 pc = .ok (.ladd, 1) ∧ pc + 1 = np) (kk : Runs K l Z n0 mi np ls (.long (x + y) :: st) H v H') : Runs K l Z n0 mi pc ls (.long y :: .long x :: st) H v H' := by
  obtain ⟨hd, rfl⟩ := hd
  exact Runs.pure (fun _ _ _ _ _ _ _ _ _ _ _ _ _ X hx hZ hc hown t h => XT.ladd X.here hx rfl (hb hc hd) rfl h) kk
theorem r_lsub {x y : Int64} (hd : decode mi.2.1 pc = .ok (.lsub, 1) ∧ pc + 1 = np) (kk : Runs K l Z n0 mi np ls (.long (x - y) :: st) H v H') : Runs K l Z n0 mi pc ls (.long y :: .long x :: st) H v H' := by
  obtain ⟨hd, rfl⟩ := hd
  exact Runs.pure (fun _ _ _ _ _ _ _ _ _ _ _ _ _ X hx hZ hc hown t h => XT.lsub X.here hx rfl (hb hc hd) rfl h) kk
theorem r_lmul {x y : Int64} (hd : decode mi.2.1 pc = .ok (.lmul, 1) ∧ pc + 1 = np) (kk : Runs K l Z n0 mi np ls (.long (x * y) :: st) H v H') : Runs K l Z n0 mi pc ls (.long y :: .long x :: st) H v H' := by
  obtain ⟨hd, rfl⟩ := hd
  exact Runs.pure (fun _ _ _ _ _ _ _ _ _ _ _ _ _ X hx hZ hc hown t h => XT.lmul X.here hx rfl (hb hc hd) rfl h) kk
theorem r_land {x y : Int64} (hd : decode mi.2.1 pc = .ok (.land, 1) ∧ pc + 1 = np) (kk : Runs K l Z n0 mi np ls (.long (x &&& y) :: st) H v H') : Runs K l Z n0 mi pc ls (.long y :: .long x :: st) H v H' := by
  obtain ⟨hd, rfl⟩ := hd
  exact Runs.pure (fun _ _ _ _ _ _ _ _ _ _ _ _ _ X hx hZ hc hown t h => XT.land X.here hx rfl (hb hc hd) rfl h) kk
theorem r_lor {x y : Int64} (hd : decode mi.2.1 pc = .ok (.lor, 1) ∧ pc + 1 = np) (kk : Runs K l Z n0 mi np ls (.long (x ||| y) :: st) H v H') : Runs K l Z n0 mi pc ls (.long y :: .long x :: st) H v H' := by
  obtain ⟨hd, rfl⟩ := hd
  exact Runs.pure (fun _ _ _ _ _ _ _ _ _ _ _ _ _ X hx hZ hc hown t h => XT.lor X.here hx rfl (hb hc hd) rfl h) kk
theorem r_lxor {x y : Int64} (hd : decode mi.2.1 pc = .ok (.lxor, 1) ∧ pc + 1 = np) (kk : Runs K l Z n0 mi np ls (.long (x ^^^ y) :: st) H v H') : Runs K l Z n0 mi pc ls (.long y :: .long x :: st) H v H' := by
  obtain ⟨hd, rfl⟩ := hd
  exact Runs.pure (fun _ _ _ _ _ _ _ _ _ _ _ _ _ X hx hZ hc hown t h => XT.lxor X.here hx rfl (hb hc hd) rfl h) kk
theorem r_lshl {x : Int64} {y : Int32} (hd : decode mi.2.1 pc = .ok (.lshl, 1) ∧ pc + 1 = np) (kk : Runs K l Z n0 mi np ls (.long (x <<< (y.toInt64 &&& 63)) :: st) H v H') : Runs K l Z n0 mi pc ls (.int y :: .long x :: st) H v H' := by
  obtain ⟨hd, rfl⟩ := hd
  exact Runs.pure (fun _ _ _ _ _ _ _ _ _ _ _ _ _ X hx hZ hc hown t h => XT.lshl X.here hx rfl (hb hc hd) rfl h) kk
theorem r_lshr {x : Int64} {y : Int32} (hd : decode mi.2.1 pc = .ok (.lshr, 1) ∧ pc + 1 = np) (kk : Runs K l Z n0 mi np ls (.long (x >>> (y.toInt64 &&& 63)) :: st) H v H') : Runs K l Z n0 mi pc ls (.int y :: .long x :: st) H v H' := by
  obtain ⟨hd, rfl⟩ := hd
  exact Runs.pure (fun _ _ _ _ _ _ _ _ _ _ _ _ _ X hx hZ hc hown t h => XT.lshr X.here hx rfl (hb hc hd) rfl h) kk
theorem r_lushr {x : Int64} {y : Int32} (hd : decode mi.2.1 pc = .ok (.lushr, 1) ∧ pc + 1 = np) (kk : Runs K l Z n0 mi np ls (.long (XT.ushrL x y) :: st) H v H') : Runs K l Z n0 mi pc ls (.int y :: .long x :: st) H v H' := by
  obtain ⟨hd, rfl⟩ := hd
  exact Runs.pure (fun _ _ _ _ _ _ _ _ _ _ _ _ _ X hx hZ hc hown t h => XT.lushr X.here hx rfl (hb hc hd) rfl h) kk
theorem r_ldiv {x y : Int64} (hd : decode mi.2.1 pc = .ok (.ldiv, 1) ∧ pc + 1 = np) (hy : y ≠ 0) (kk : Runs K l Z n0 mi np ls (.long (x / y) :: st) H v H') : Runs K l Z n0 mi pc ls (.long y :: .long x :: st) H v H' := by
  obtain ⟨hd, rfl⟩ := hd
  exact Runs.pure (fun _ _ _ _ _ _ _ _ _ _ _ _ _ X hx hZ hc hown t h => XT.ldiv X.here hx rfl (hb hc hd) rfl hy h) kk
theorem r_lrem {x y : Int64} (hd : decode mi.2.1 pc = .ok (.lrem, 1) ∧ pc + 1 = np) (hy : y ≠ 0) (kk : Runs K l Z n0 mi np ls (.long (x % y) :: st) H v H') : Runs K l Z n0 mi pc ls (.long y :: .long x :: st) H v H' := by
  obtain ⟨hd, rfl⟩ := hd
  exact Runs.pure (fun _ _ _ _ _ _ _ _ _ _ _ _ _ X hx hZ hc hown t h => XT.lrem X.here hx rfl (hb hc hd) rfl hy (by rw [lrem_mod]; exact h)) kk
theorem r_lcmp {x y : Int64} (hd : decode mi.2.1 pc = .ok (.lcmp, 1) ∧ pc + 1 = np) (kk : Runs K l Z n0 mi np ls (.int (XT.cmpL x y) :: st) H v H') : Runs K l Z n0 mi pc ls (.long y :: .long x :: st) H v H' := by
  obtain ⟨hd, rfl⟩ := hd
  exact Runs.pure (fun _ _ _ _ _ _ _ _ _ _ _ _ _ X hx hZ hc hown t h => XT.lcmp X.here hx rfl (hb hc hd) rfl h) kk
theorem r_ineg {x : Int32} (hd : decode mi.2.1 pc = .ok (.ineg, 1) ∧ pc + 1 = np) (kk : Runs K l Z n0 mi np ls (.int (-x) :: st) H v H') : Runs K l Z n0 mi pc ls (.int x :: st) H v H' := by
  obtain ⟨hd, rfl⟩ := hd
  exact Runs.pure (fun _ _ _ _ _ _ _ _ _ _ _ _ _ X hx hZ hc hown t h => XS.ineg X.here hx rfl (hb hc hd) rfl h) kk
theorem r_lneg {x : Int64} (hd : decode mi.2.1 pc = .ok (.lneg, 1) ∧ pc + 1 = np) (kk : Runs K l Z n0 mi np ls (.long (-x) :: st) H v H') : Runs K l Z n0 mi pc ls (.long x :: st) H v H' := by
  obtain ⟨hd, rfl⟩ := hd
  exact Runs.pure (fun _ _ _ _ _ _ _ _ _ _ _ _ _ X hx hZ hc hown t h => XT.lneg X.here hx rfl (hb hc hd) rfl h) kk
theorem r_i2l {x : Int32} (hd : decode mi.2.1 pc = .ok (.i2l, 1) ∧ pc + 1 = np) (kk : Runs K l Z n0 mi np ls (.long x.toInt64 :: st) H v H') : Runs K l Z n0 mi pc ls (.int x :: st) H v H' := by
  obtain ⟨hd, rfl⟩ := hd
  exact Runs.pure (fun _ _ _ _ _ _ _ _ _ _ _ _ _ X hx hZ hc hown t h => XT.i2l X.here hx rfl (hb hc hd) rfl h) kk
theorem r_l2i {x : Int64} (hd : decode mi.2.1 pc = .ok (.l2i, 1) ∧ pc + 1 = np) (kk : Runs K l Z n0 mi np ls (.int x.toInt32 :: st) H v H') : Runs K l Z n0 mi pc ls (.long x :: st) H v H' := by
  obtain ⟨hd, rfl⟩ := hd
  exact Runs.pure (fun _ _ _ _ _ _ _ _ _ _ _ _ _ X hx hZ hc hown t h => XT.l2i X.here hx rfl (hb hc hd) rfl h) kk
theorem r_i2b {x : Int32} (hd : decode mi.2.1 pc = .ok (.i2b, 1) ∧ pc + 1 = np) (kk : Runs K l Z n0 mi np ls (.int x.toInt8.toInt32 :: st) H v H') : Runs K l Z n0 mi pc ls (.int x :: st) H v H' := by
  obtain ⟨hd, rfl⟩ := hd
  exact Runs.pure (fun _ _ _ _ _ _ _ _ _ _ _ _ _ X hx hZ hc hown t h => XT.i2b X.here hx rfl (hb hc hd) rfl h) kk
theorem r_i2s {x : Int32} (hd : decode mi.2.1 pc = .ok (.i2s, 1) ∧ pc + 1 = np) (kk : Runs K l Z n0 mi np ls (.int x.toInt16.toInt32 :: st) H v H') : Runs K l Z n0 mi pc ls (.int x :: st) H v H' := by
  obtain ⟨hd, rfl⟩ := hd
  exact Runs.pure (fun _ _ _ _ _ _ _ _ _ _ _ _ _ X hx hZ hc hown t h => XT.i2s X.here hx rfl (hb hc hd) rfl h) kk
theorem r_i2c {x : Int32} (hd : decode mi.2.1 pc = .ok (.i2c, 1) ∧ pc + 1 = np) (kk : Runs K l Z n0 mi np ls (.int x.toUInt32.toUInt16.toUInt32.toInt32 :: st) H v H') : Runs K l Z n0 mi pc ls (.int x :: st) H v H' := by
  obtain ⟨hd, rfl⟩ := hd
  exact Runs.pure (fun _ _ _ _ _ _ _ _ _ _ _ _ _ X hx hZ hc hown t h => XT.i2c X.here hx rfl (hb hc hd) rfl h) kk
theorem r_dup {x : Value} (hd : decode mi.2.1 pc = .ok (.dup, 1) ∧ pc + 1 = np) (hx1 : x.category = 1) (kk : Runs K l Z n0 mi np ls (x :: x :: st) H v H') : Runs K l Z n0 mi pc ls (x :: st) H v H' := by
  obtain ⟨hd, rfl⟩ := hd
  exact Runs.pure (fun _ _ _ _ _ _ _ _ _ _ _ _ _ X hx hZ hc hown t h => XS.dup X.here hx rfl (hb hc hd) rfl ((cat_sh _ _).trans hx1) h) kk
theorem r_pop {x : Value} (hd : decode mi.2.1 pc = .ok (.pop, 1) ∧ pc + 1 = np) (hx1 : x.category = 1) (kk : Runs K l Z n0 mi np ls st H v H') : Runs K l Z n0 mi pc ls (x :: st) H v H' := by
  obtain ⟨hd, rfl⟩ := hd
  exact Runs.pure (fun _ _ _ _ _ _ _ _ _ _ _ _ _ X hx hZ hc hown t h => XT.pop X.here hx rfl (hb hc hd) rfl ((cat_sh _ _).trans hx1) h) kk
theorem r_dupX1 {x y : Value} (hd : decode mi.2.1 pc = .ok (.dup_x1, 1) ∧ pc + 1 = np) (hx1 : x.category = 1) (hy1 : y.category = 1) (kk : Runs K l Z n0 mi np ls (x :: y :: x :: st) H v H') : Runs K l Z n0 mi pc ls (x :: y :: st) H v H' := by
  obtain ⟨hd, rfl⟩ := hd
  exact Runs.pure (fun _ _ _ _ _ _ _ _ _ _ _ _ _ X hx hZ hc hown t h => XT.dupX1 X.here hx rfl (hb hc hd) rfl ((cat_sh _ _).trans hx1) ((cat_sh _ _).trans hy1) h) kk
theorem r_dup2 {x y : Value} (hd : decode mi.2.1 pc = .ok (.dup2, 1) ∧ pc + 1 = np) (hx1 : x.category = 1) (hy1 : y.category = 1) (kk : Runs K l Z n0 mi np ls (x :: y :: x :: y :: st) H v H') : Runs K l Z n0 mi pc ls (x :: y :: st) H v H' := by
  obtain ⟨hd, rfl⟩ := hd
  exact Runs.pure (fun _ _ _ _ _ _ _ _ _ _ _ _ _ X hx hZ hc hown t h => XT.dup2 X.here hx rfl (hb hc hd) rfl ((cat_sh _ _).trans hx1) ((cat_sh _ _).trans hy1) h) kk
theorem r_dup2L {x : Int64} (hd : decode mi.2.1 pc = .ok (.dup2, 1) ∧ pc + 1 = np) (kk : Runs K l Z n0 mi np ls (.long x :: .long x :: st) H v H') : Runs K l Z n0 mi pc ls (.long x :: st) H v H' := by
  obtain ⟨hd, rfl⟩ := hd
  exact Runs.pure (fun _ _ _ _ _ _ _ _ _ _ _ _ _ X hx hZ hc hown t h => XT.dup2L X.here hx rfl (hb hc hd) rfl h) kk
theorem r_aconstNull  (hd : decode mi.2.1 pc = .ok (.aconst_null, 1) ∧ pc + 1 = np) (kk : Runs K l Z n0 mi np ls (.null :: st) H v H') : Runs K l Z n0 mi pc ls st H v H' := by
  obtain ⟨hd, rfl⟩ := hd
  exact Runs.pure (fun _ _ _ _ _ _ _ _ _ _ _ _ _ X hx hZ hc hown t h => XS.aconstNull X.here hx rfl (hb hc hd) h) kk
theorem r_iconst {i : Int} {x : Int32} (hd : decode mi.2.1 pc = .ok (.iconst i, 1) ∧ pc + 1 = np ∧ Int32.ofInt i = x) (kk : Runs K l Z n0 mi np ls (.int x :: st) H v H') : Runs K l Z n0 mi pc ls st H v H' := by
  obtain ⟨hd, rfl, hx0⟩ := hd
  exact Runs.pure (fun _ _ _ _ _ _ _ _ _ _ _ _ _ X hx hZ hc hown t h => XT.iconstV X.here hx rfl x (hb hc hd) hx0 h) kk
theorem r_bipush {i : Int} {x : Int32} (hd : decode mi.2.1 pc = .ok (.bipush i, 2) ∧ pc + 2 = np ∧ (Int8.ofInt i).toInt32 = x) (kk : Runs K l Z n0 mi np ls (.int x :: st) H v H') : Runs K l Z n0 mi pc ls st H v H' := by
  obtain ⟨hd, rfl, hx0⟩ := hd
  exact Runs.pure (fun _ _ _ _ _ _ _ _ _ _ _ _ _ X hx hZ hc hown t h => XT.bipushV X.here hx rfl x (hb hc hd) hx0 h) kk
theorem r_sipush {i : Int} {x : Int32} (hd : decode mi.2.1 pc = .ok (.sipush i, 3) ∧ pc + 3 = np ∧ (Int16.ofInt i).toInt32 = x) (kk : Runs K l Z n0 mi np ls (.int x :: st) H v H') : Runs K l Z n0 mi pc ls st H v H' := by
  obtain ⟨hd, rfl, hx0⟩ := hd
  exact Runs.pure (fun _ _ _ _ _ _ _ _ _ _ _ _ _ X hx hZ hc hown t h => XT.sipushV X.here hx rfl x (hb hc hd) hx0 h) kk
theorem r_lconst {i : Fin 2} {x : Int64} (hd : decode mi.2.1 pc = .ok (.lconst i, 1) ∧ pc + 1 = np ∧ Int64.ofNat i = x) (kk : Runs K l Z n0 mi np ls (.long x :: st) H v H') : Runs K l Z n0 mi pc ls st H v H' := by
  obtain ⟨hd, rfl, hx0⟩ := hd
  exact Runs.pure (fun _ _ _ _ _ _ _ _ _ _ _ _ _ X hx hZ hc hown t h => XT.lconstV X.here hx rfl x (hb hc hd) hx0 h) kk
theorem r_ldc {i : Nat} {x : Int32} (hd : decode mi.2.1 pc = .ok (.ldc i, 2) ∧ pc + 2 = np) (w : (Jvm.Cond.constant mi.1.cls i x).before a0 Z = true) (kk : Runs K l Z n0 mi np ls (.int x :: st) H v H') : Runs K l Z n0 mi pc ls st H v H' := by
  obtain ⟨hd, rfl⟩ := hd
  exact Runs.pure (fun _ _ _ _ _ _ _ _ _ _ _ _ _ X hx hZ hc hown t h => X.ldcI hx hown (mv hZ w) rfl (hb hc hd) h) kk
theorem r_ldcW {i : Nat} {x : Int32} (hd : decode mi.2.1 pc = .ok (.ldc_w i, 3) ∧ pc + 3 = np) (w : (Jvm.Cond.constant mi.1.cls i x).before a0 Z = true) (kk : Runs K l Z n0 mi np ls (.int x :: st) H v H') : Runs K l Z n0 mi pc ls st H v H' := by
  obtain ⟨hd, rfl⟩ := hd
  exact Runs.pure (fun _ _ _ _ _ _ _ _ _ _ _ _ _ X hx hZ hc hown t h => X.ldcWI hx hown (mv hZ w) rfl (hb hc hd) h) kk
theorem r_ldc2 {i : Nat} {x : Int64} (hd : decode mi.2.1 pc = .ok (.ldc2_w i, 3) ∧ pc + 3 = np) (w : (Jvm.Cond.constantLong mi.1.cls i x).before a0 Z = true) (kk : Runs K l Z n0 mi np ls (.long x :: st) H v H') : Runs K l Z n0 mi pc ls st H v H' := by
  obtain ⟨hd, rfl⟩ := hd
  exact Runs.pure (fun _ _ _ _ _ _ _ _ _ _ _ _ _ X hx hZ hc hown t h => X.ldc2J hx hown (mv hZ w) rfl (hb hc hd) h) kk
theorem r_iinc {k : Nat} {i : Int} {x y : Int32} (hd : decode mi.2.1 pc = .ok (.iinc k i, 3) ∧ pc + 3 = np ∧ Int32.ofInt i = y) (hl : ls[k]? = some (.val (.int x))) (hs : ls.set k (.val (.int (x + y))) = ls') (kk : Runs K l Z n0 mi np ls' st H v H') : Runs K l Z n0 mi pc ls st H v H' := by
  obtain ⟨hd, rfl, hx0⟩ := hd
  exact Runs.pure (fun _ _ _ _ _ _ _ _ _ _ _ _ _ X hx hZ hc hown t h => XT.iincV X.here hx rfl y (hb hc hd) hx0 (loc_at hl) (st1 (P1_int hl) rfl hs) h) kk
theorem r_goto  {o : Int} (hd : decode mi.2.1 pc = .ok (.goto o, 3) ∧ pc + 3 = np ∧ 0 ≤ (pc : Int) + o ∧ ((pc : Int) + o).toNat = tp) (kk : Runs K l Z n0 mi tp ls st H v H') : Runs K l Z n0 mi pc ls st H v H' := by
  obtain ⟨hd, hn, h1, h2⟩ := hd
  exact Runs.pure (fun _ _ _ _ _ _ _ _ _ _ _ _ _ X hx hZ hc hown t h => XS.goto X.here hx rfl rfl (hb hc hd) h1 h2 h) kk
theorem r_ifT {cd : ClassFile.Cond} {x : Int32} {o : Int} (hd : decode mi.2.1 pc = .ok (.ifCond cd o, 3) ∧ pc + 3 = np ∧ 0 ≤ (pc : Int) + o ∧ ((pc : Int) + o).toNat = tp) (hq : ifCond.holds cd x = true) (kk : Runs K l Z n0 mi tp ls st H v H') : Runs K l Z n0 mi pc ls (.int x :: st) H v H' := by
  obtain ⟨hd, hn, h1, h2⟩ := hd
  exact Runs.pure (fun _ _ _ _ _ _ _ _ _ _ _ _ _ X hx hZ hc hown t h => XS.ifYes X.here hx rfl rfl (hb hc hd) rfl hq h1 h2 h) kk
theorem r_ifF {cd : ClassFile.Cond} {x : Int32} {o : Int} (hd : decode mi.2.1 pc = .ok (.ifCond cd o, 3) ∧ pc + 3 = np ∧ 0 ≤ (pc : Int) + o ∧ ((pc : Int) + o).toNat = tp) (hq : ifCond.holds cd x = false) (kk : Runs K l Z n0 mi np ls st H v H') : Runs K l Z n0 mi pc ls (.int x :: st) H v H' := by
  obtain ⟨hd, rfl, h1, h2⟩ := hd
  exact Runs.pure (fun _ _ _ _ _ _ _ _ _ _ _ _ _ X hx hZ hc hown t h => XS.ifNo X.here hx rfl (hb hc hd) rfl hq h) kk
theorem r_icT {cd : ClassFile.Cond} {x y : Int32} {o : Int} (hd : decode mi.2.1 pc = .ok (.if_icmp cd o, 3) ∧ pc + 3 = np ∧ 0 ≤ (pc : Int) + o ∧ ((pc : Int) + o).toNat = tp) (hq : if_icmp.holds cd x y = true) (kk : Runs K l Z n0 mi tp ls st H v H') : Runs K l Z n0 mi pc ls (.int y :: .int x :: st) H v H' := by
  obtain ⟨hd, hn, h1, h2⟩ := hd
  exact Runs.pure (fun _ _ _ _ _ _ _ _ _ _ _ _ _ X hx hZ hc hown t h => XS.icmpYes X.here hx rfl rfl (hb hc hd) rfl hq h1 h2 h) kk
theorem r_icF {cd : ClassFile.Cond} {x y : Int32} {o : Int} (hd : decode mi.2.1 pc = .ok (.if_icmp cd o, 3) ∧ pc + 3 = np ∧ 0 ≤ (pc : Int) + o ∧ ((pc : Int) + o).toNat = tp) (hq : if_icmp.holds cd x y = false) (kk : Runs K l Z n0 mi np ls st H v H') : Runs K l Z n0 mi pc ls (.int y :: .int x :: st) H v H' := by
  obtain ⟨hd, rfl, h1, h2⟩ := hd
  exact Runs.pure (fun _ _ _ _ _ _ _ _ _ _ _ _ _ X hx hZ hc hown t h => XS.icmpNo X.here hx rfl (hb hc hd) rfl hq h) kk
theorem r_nullT  {o : Int} (hd : decode mi.2.1 pc = .ok (.ifnull o, 3) ∧ pc + 3 = np ∧ 0 ≤ (pc : Int) + o ∧ ((pc : Int) + o).toNat = tp) (kk : Runs K l Z n0 mi tp ls st H v H') : Runs K l Z n0 mi pc ls (.null :: st) H v H' := by
  obtain ⟨hd, hn, h1, h2⟩ := hd
  exact Runs.pure (fun _ _ _ _ _ _ _ _ _ _ _ _ _ X hx hZ hc hown t h => XS.ifnullYes X.here hx rfl rfl (hb hc hd) rfl h1 h2 h) kk
theorem r_nullF {a : Addr} {o : Int} (hd : decode mi.2.1 pc = .ok (.ifnull o, 3) ∧ pc + 3 = np ∧ 0 ≤ (pc : Int) + o ∧ ((pc : Int) + o).toNat = tp) (kk : Runs K l Z n0 mi np ls st H v H') : Runs K l Z n0 mi pc ls (.ref a :: st) H v H' := by
  obtain ⟨hd, rfl, h1, h2⟩ := hd
  exact Runs.pure (fun _ _ _ _ _ _ _ _ _ _ _ _ _ X hx hZ hc hown t h => XS.ifnullNo X.here hx rfl (hb hc hd) rfl h) kk
theorem r_nonnullT {a : Addr} {o : Int} (hd : decode mi.2.1 pc = .ok (.ifnonnull o, 3) ∧ pc + 3 = np ∧ 0 ≤ (pc : Int) + o ∧ ((pc : Int) + o).toNat = tp) (kk : Runs K l Z n0 mi tp ls st H v H') : Runs K l Z n0 mi pc ls (.ref a :: st) H v H' := by
  obtain ⟨hd, hn, h1, h2⟩ := hd
  exact Runs.pure (fun _ _ _ _ _ _ _ _ _ _ _ _ _ X hx hZ hc hown t h => XT.ifnonnullYes X.here hx rfl rfl (hb hc hd) rfl h1 h2 h) kk
theorem r_nonnullF  {o : Int} (hd : decode mi.2.1 pc = .ok (.ifnonnull o, 3) ∧ pc + 3 = np ∧ 0 ≤ (pc : Int) + o ∧ ((pc : Int) + o).toNat = tp) (kk : Runs K l Z n0 mi np ls st H v H') : Runs K l Z n0 mi pc ls (.null :: st) H v H' := by
  obtain ⟨hd, rfl, h1, h2⟩ := hd
  exact Runs.pure (fun _ _ _ _ _ _ _ _ _ _ _ _ _ X hx hZ hc hown t h => XT.ifnonnullNo X.here hx rfl (hb hc hd) rfl h) kk
/-- a step that may turn the heap -/
theorem Runs.heap {st2 : List Value} (m1 : H.length ≤ H1.length) (m2 : szs K H ≤ szs K H1) (hstep : ∀ (p : Program) (e : Env) (R : Room) (s : State) (m : MethodId) (args : Array Value) (below : List Frame) (meth : Method) (c : Code) (T : State) (locs : List Loc) (cells slots : Nat),
      Stand p l e R s m args below meth c T locs cells slots → p.tables.exec = Jvm.exec → Z.Warmed39 s.vm → c.code = mi.2.1 → c.maxLocals = mi.2.2.1 → s.vm.findClass mi.1.cls = some m.cls → meth.name = mi.1.name → Rel K Z n0 H T.heap → Fr n0 locs → mi.2.2.2.2.1 ≤ R.frames → mi.2.2.2.2.2 ≤ R.locals →
      s.heap.size + cells = n0 + H.length → cells + H1.length ≤ R.cells + H.length → slots + szs K H1 ≤ R.slots + szs K H →
      ∃ (T1 : State) (locs1 : List Loc) (cells1 slots1 : Nat), Stand p l e R s m args below meth c T1 locs1 cells1 slots1 ∧ Rel K Z n0 H1 T1.heap ∧ Fr n0 locs1 ∧ s.heap.size + cells1 = n0 + H1.length ∧ slots1 + szs K H ≤ slots + szs K H1 ∧
        ∀ target, Steps p.tables e below (T1.setTop (mkF m np (ls'.map (shS n0)).toArray (st2.map (shV n0)))) target → Steps p.tables e below (T.setTop (mkF m pc (ls.map (shS n0)).toArray (st.map (shV n0)))) target)
    (k : Runs K l Z n0 mi np ls' st2 H1 v H') : Runs K l Z n0 mi pc ls st H v H' := by
  have k1 := k.1
  have k2 := k.2.1
  refine ⟨Nat.le_trans m1 k1, Nat.le_trans m2 k2, fun p e R s m args below meth c T locs cells slots X hx hZ hc hml hret hown hnm hrel hfr hf hlo hsz hcl hsl => ?_⟩
  obtain ⟨T1, locs1, cells1, slots1, X1, rel1, fr1, hc1, hs1, st1⟩ := hstep p e R s m args below meth c T locs cells slots X hx hZ hc hml hown hnm hrel hfr hf hlo hsz (by omega) (by omega)
  obtain ⟨T', locs', cells', slots', X', rel', fr', hc', hs', stp⟩ := k.2.2 p e R s m args below meth c T1 locs1 cells1 slots1 X1 hx hZ hc hml hret hown hnm rel1 fr1 hf hlo hc1 (by omega) (by omega)
  exact ⟨T', locs', cells', slots', X', rel', fr', hc', by omega, fun fs hr => st1 _ (stp fs hr)⟩
theorem r_ret {x : Value} {t : FieldType} {i : Instr} (hd : decode mi.2.1 pc = .ok (i, 1)) (hret : mi.2.2.2.1 = some t) (hn : narrow t x = x)
    (hi : (i = .ireturn ∧ (t = .int ∨ t = .boolean ∨ t = .byte ∨ t = .char ∨ t = .short) ∧ ∃ z, x = .int z) ∨ (i = .lreturn ∧ t = .long ∧ ∃ z, x = .long z) ∨ (i = .areturn ∧ t.isReference = true ∧ x.isRef = true)) : Runs K l Z n0 mi pc ls (x :: st) H (some x) H := by
  refine ⟨Nat.le_refl _, Nat.le_refl _, fun p e R s m args below meth c T locs cells slots X hx hZ hc hml hret' hown hnm hrel hfr hf hlo hsz hcl hsl => ⟨T, locs, cells, slots, X, hrel, hfr, hsz, Nat.le_refl _, fun fs hr => ?_⟩⟩
  have hn' : narrow t (shV n0 x) = shV n0 x := by
    rcases hi with ⟨-, -, z, rfl⟩ | ⟨-, -, z, rfl⟩ | ⟨-, -, q⟩
    · exact hn
    · exact hn
    · cases x <;> first | (cases q; done) | (cases t <;> rfl)
  refine retOut X hx (hret'.trans hret) hn' ?_ (hb hc hd) hr
  rcases hi with ⟨h1, h2, z, rfl⟩ | ⟨h1, h2, z, rfl⟩ | ⟨h1, h2, q⟩
  · exact Or.inl ⟨h1, h2, z, rfl⟩
  · exact Or.inr (Or.inl ⟨h1, h2, z, rfl⟩)
  · exact Or.inr (Or.inr (Or.inr (Or.inr ⟨h1, h2, isRef_sh q⟩)))
theorem r_ireturn {z : Int32} (hd : decode mi.2.1 pc = .ok (.ireturn, 1)) (hret : mi.2.2.2.1 = some .int) : Runs K l Z n0 mi pc ls (.int z :: st) H (some (.int z)) H := r_ret hd hret rfl (Or.inl ⟨rfl, Or.inl rfl, z, rfl⟩)
theorem r_ireturnE {z z' : Int32} (hd : decode mi.2.1 pc = .ok (.ireturn, 1)) (hret : mi.2.2.2.1 = some .int) (h : z = z') : Runs K l Z n0 mi pc ls (.int z :: st) H (some (.int z')) H := h ▸ r_ireturn hd hret
theorem r_zreturn {z : Int32} (hd : decode mi.2.1 pc = .ok (.ireturn, 1)) (hret : mi.2.2.2.1 = some .boolean) (hz : z = 0 ∨ z = 1) : Runs K l Z n0 mi pc ls (.int z :: st) H (some (.int z)) H := r_ret hd hret (by rcases hz with rfl | rfl <;> rfl) (Or.inl ⟨rfl, Or.inr (Or.inl rfl), z, rfl⟩)
theorem r_lreturn {z : Int64} (hd : decode mi.2.1 pc = .ok (.lreturn, 1)) (hret : mi.2.2.2.1 = some .long) : Runs K l Z n0 mi pc ls (.long z :: st) H (some (.long z)) H := r_ret hd hret rfl (Or.inr (Or.inl ⟨rfl, rfl, z, rfl⟩))
theorem r_areturn {x : Value} {t : FieldType} (hd : decode mi.2.1 pc = .ok (.areturn, 1)) (hret : mi.2.2.2.1 = some t) (ht : t.isReference = true) (hx : x.isRef = true) : Runs K l Z n0 mi pc ls (x :: st) H (some x) H := r_ret hd hret (by cases x <;> first | (cases hx; done) | (cases t <;> rfl)) (Or.inr (Or.inr ⟨rfl, ht, hx⟩))
theorem r_return (hd : decode mi.2.1 pc = .ok (.return_, 1)) (hret : mi.2.2.2.1 = none) : Runs K l Z n0 mi pc ls [] H none H := by
  refine ⟨Nat.le_refl _, Nat.le_refl _, fun p e R s m args below meth c T locs cells slots X hx hZ hc hml hret' hown hnm hrel hfr hf hlo hsz hcl hsl => ⟨T, locs, cells, slots, X, hrel, hfr, hsz, Nat.le_refl _, fun fs hr => ?_⟩⟩
  exact X.returnOut hx (hret'.trans hret) (hb hc hd) hr
theorem r_tswIn {dflt low high o : Int} {offs : Array Int} {len : Nat} {i : Int32} (hd : decode mi.2.1 pc = .ok (.tableswitch dflt low high offs, len)) (hin : ¬ (i.toInt < low ∨ i.toInt > high)) (hoff : offs[(i.toInt - low).toNat]? = some o) (ho : 0 ≤ (pc : Int) + o) (hp : ((pc : Int) + o).toNat = tp)
    (kk : Runs K l Z n0 mi tp ls st H v H') : Runs K l Z n0 mi pc ls (.int i :: st) H v H' :=
  Runs.pure (fun _ _ _ _ _ _ _ _ _ _ _ _ _ X hx hZ hc hown t h => XS.tswIn X.here hx rfl rfl (hb hc hd) rfl hin hoff ho hp h) kk
theorem r_tswOut {dflt low high : Int} {offs : Array Int} {len : Nat} {i : Int32} (hd : decode mi.2.1 pc = .ok (.tableswitch dflt low high offs, len)) (hout : i.toInt < low ∨ i.toInt > high) (ho : 0 ≤ (pc : Int) + dflt) (hp : ((pc : Int) + dflt).toNat = tp)
    (kk : Runs K l Z n0 mi tp ls st H v H') : Runs K l Z n0 mi pc ls (.int i :: st) H v H' :=
  Runs.pure (fun _ _ _ _ _ _ _ _ _ _ _ _ _ X hx hZ hc hown t h => XS.tswOut X.here hx rfl rfl (hb hc hd) rfl hout ho hp h) kk
/-! ### the heap -/
theorem OOk.ext {h h' : Heap} {a : Addr} {o : Ob} (E : Ext h h') (q : OOk K Z n0 h a o) : OOk K Z n0 h' a o := by
  cases o with
  | inl o => obtain ⟨ci, h1, h2, h3⟩ := q; exact ⟨ci, h1, h2.ext E, fun i f v a b => (h3 i f v a b).ext E⟩
  | inr o => obtain ⟨cl, h1, h2⟩ := q; exact ⟨cl, h1.ext E, h2⟩
theorem OOk.other {h h' : Heap} {a b : Addr} {sl : Nat} {x : Value} {o : Ob} (W : Wr h h' b sl x) (ne : a ≠ b) (q : OOk K Z n0 h a o) : OOk K Z n0 h' a o := by
  cases o with
  | inl o => obtain ⟨ci, h1, h2, h3⟩ := q; exact ⟨ci, h1, h2.wr W, fun i f v a b => (h3 i f v a b).other W (Or.inl ne)⟩
  | inr o => obtain ⟨cl, h1, h2⟩ := q; exact ⟨cl, h1.other W ne, h2⟩
theorem Rel.push {h h' : Heap} {o : Ob} (r : Rel K Z n0 H h) (E : Ext h h') (hs : h'.size = h.size + 1) (ho : OOk K Z n0 h' h.size o) : Rel K Z n0 (H ++ [o]) h' := by
  refine ⟨by rw [hs, r.1, List.length_append]; rfl, fun k q hk => ?_⟩
  by_cases hl : k < H.length
  · rw [List.getElem?_append_left hl] at hk; exact (r.2 k q hk).ext E
  · rw [List.getElem?_append_right (Nat.le_of_not_lt hl)] at hk
    have e : k - H.length = 0 := by
      cases hq : k - H.length with
      | zero => rfl
      | succ j => rw [hq] at hk; simp at hk
    rw [e] at hk
    simp at hk
    subst hk
    have : k = H.length := by omega
    subst this
    rw [← r.1]; exact ho
theorem Rel.put {h h' : Heap} {o : Ob} {a sl : Nat} {x : Value} (r : Rel K Z n0 H h) (W : Wr h h' (n0 + a) sl x) (ha : a < H.length) (ho : OOk K Z n0 h' (n0 + a) o) : Rel K Z n0 (H.set a o) h' := by
  refine ⟨by rw [W.size, r.1, List.length_set], fun k q hk => ?_⟩
  by_cases e : a = k
  · subst e
    rw [List.getElem?_set_self ha] at hk
    cases hk; exact ho
  · rw [List.getElem?_set_ne e] at hk
    exact (r.2 k q hk).other W (fun z => e (Nat.add_left_cancel z).symm)
theorem map_set_same {α β : Type} (f : α → β) : ∀ (H : List α) (a : Nat) (o o' : α), H[a]? = some o' → f o = f o' → (H.set a o).map f = H.map f
  | [], _, _, _, h, _ => by simp at h
  | x :: r, 0, o, o', h, e => by simp at h; subst h; simp [e]
  | x :: r, a + 1, o, o', h, e => by simp at h; simp [map_set_same f r a o o' h e]
theorem szs_set {a : Nat} {o o' : Ob} (h : H[a]? = some o') (e : osz K o = osz K o') : szs K (H.set a o) = szs K H := by unfold szs; rw [map_set_same (osz K) H a o o' h e]
theorem szs_push {o : Ob} : szs K (H ++ [o]) = szs K H + osz K o := by simp [szs]
theorem lt_of_at {α : Type} {L : List α} {a : Nat} {o : α} (h : L[a]? = some o) : a < L.length := (List.getElem?_eq_some_iff.mp h).1
theorem nar_sh {t : FieldType} {x : Value} (h : narrow t x = x) : narrow t (shV n0 x) = shV n0 x := by cases x <;> first | exact h | (cases t <;> rfl)
theorem fits_sh {t : FieldType} {x : Value} (h : fits t x = true) : fits t (shV n0 x) = true := by cases x <;> first | exact h | (cases t <;> first | rfl | cases h)
theorem sh_dflt (ty : FieldType) : shV n0 (defaultValue ty) = defaultValue ty := by cases ty <;> rfl
theorem r_getF {a cid i idx : Nat} {vs : List Value} {ci : CI} {f : FI} {x : Value} {R0 : String} (hd : decode mi.2.1 pc = .ok (.getfield idx, 3) ∧ pc + 3 = np) (w : (Jvm.Cond.fieldLink mi.1.cls idx R0 f.2.1 f.2.2.1).before a0 Z = true) (via : Via Z R0 f.1 f.2.1 f.2.2.1) (hci : K[cid]? = some ci) (hf : ci.2.2[i]? = some f)
    (ho : H[a]? = some (.inl (cid, vs))) (hv : vs[i]? = some x) (kk : Runs K l Z n0 mi np ls (x :: st) H v H') : Runs K l Z n0 mi pc ls (.ref a :: st) H v H' := by
  obtain ⟨hd, rfl⟩ := hd
  refine Runs.heap (Nat.le_refl _) (Nat.le_refl _) (fun p e R s m args below meth c T locs cells slots X hx hZ hc hml hown hnm hrel hfr hf' hlo hsz hcl hsl => ?_) kk
  obtain ⟨ci', q1, E, F⟩ := hrel.2 a _ ho
  cases hci.symm.trans q1
  obtain ⟨T1, X1, e1, st1⟩ := getF X hx hZ hown (host := "") (Or.inl w) via rfl (F i f x hf hv) (g := mkF m pc (ls.map (shS n0)).toArray (.ref (n0 + a) :: st.map (shV n0))) rfl rfl (hb hc hd)
  exact ⟨T1, _, _, _, X1, by rw [e1]; exact hrel, hfr, hsz, Nat.le_refl _, st1⟩
theorem r_putF {a cid i idx : Nat} {vs vs' : List Value} {ci : CI} {f : FI} {x : Value} {R0 : String} (hK : KOk K Z a0) (hd : decode mi.2.1 pc = .ok (.putfield idx, 3) ∧ pc + 3 = np) (w : (Jvm.Cond.fieldLink mi.1.cls idx R0 f.2.1 f.2.2.1).before a0 Z = true) (via : Via Z R0 f.1 f.2.1 f.2.2.1) (hci : K[cid]? = some ci) (hf : ci.2.2[i]? = some f)
    (L : (Jvm.Cond.lays ci.1 f.1 f.2.1 f.2.2.1).before a0 Z = true ∨ ((Jvm.Cond.laysFinal ci.1 f.1 f.2.1 f.2.2.1).before a0 Z = true ∧ mi.1.cls = f.1 ∧ mi.1.name = "<init>"))
    (ho : H[a]? = some (.inl (cid, vs))) (hi : i < vs.length) (hn : narrow f.2.2.2 x = x) (hft : fits f.2.2.2 x = true) (hvs : vs.set i x = vs') (hH : H.set a (.inl (cid, vs')) = H1) (kk : Runs K l Z n0 mi np ls st H1 v H') : Runs K l Z n0 mi pc ls (x :: .ref a :: st) H v H' := by
  obtain ⟨hd, rfl⟩ := hd
  subst hvs hH
  have ha := lt_of_at ho
  have es : szs K (H.set a (.inl (cid, vs.set i x))) = szs K H := szs_set ho rfl
  refine Runs.heap (by rw [List.length_set]; exact Nat.le_refl _) (by rw [es]; exact Nat.le_refl _) (fun p e R s m args below meth c T locs cells slots X hx hZ hc hml hown hnm hrel hfr hf' hlo hsz hcl hsl => ?_) kk
  obtain ⟨ci', q1, E, F⟩ := hrel.2 a _ ho
  cases hci.symm.trans q1
  obtain ⟨kk1, kk2, kk3⟩ := hK cid ci hci
  have hfm : f ∈ ci.2.2 := List.mem_of_getElem? hf
  obtain ⟨T1, h1, X1, e1, W1, st1⟩ := putF X hx hZ hown (host := "") (Or.inl w) via rfl (F i f _ hf (List.getElem?_eq_getElem hi)) E (L.imp id fun q => ⟨q.1, q.2.1, hnm.trans q.2.2⟩) kk1 (kk2 f hfm).2 (nar_sh hn) (fits_sh hft)
    (g := mkF m pc (ls.map (shS n0)).toArray (shV n0 x :: .ref (n0 + a) :: st.map (shV n0))) rfl rfl (hb hc hd)
  refine ⟨T1, _, _, _, X1, ?_, Fr.snoc X1 hfr (Nat.le_add_right _ _), by rw [List.length_set]; exact hsz, by rw [es]; exact Nat.le_refl _, st1⟩
  rw [e1]
  refine hrel.put W1 ha ⟨ci, hci, E.wr W1, fun j g y hg hy => ?_⟩
  by_cases ji : i = j
  · subst ji
    cases hf.symm.trans hg
    rw [List.getElem?_set_self hi] at hy
    cases hy
    exact (F i f _ hf (List.getElem?_eq_getElem hi)).same W1
  · rw [List.getElem?_set_ne ji] at hy
    have hgm : g ∈ ci.2.2 := List.mem_of_getElem? hg
    refine (F j g y hg hy).other W1 (Or.inr (slot_ne (kk2 g hgm).1 (kk2 f hfm).1 ?_ (kk2 g hgm).2 (kk2 f hfm).2))
    obtain ⟨li, ei⟩ := List.getElem?_eq_some_iff.mp hf
    obtain ⟨lj, ej⟩ := List.getElem?_eq_some_iff.mp hg
    have pw := List.pairwise_iff_getElem.mp kk3
    rcases Nat.lt_or_gt_of_ne ji with q | q
    · have := pw i j li lj q; rw [ei, ej] at this; exact fun z => this z.symm
    · have := pw j i lj li q; rw [ei, ej] at this; exact this
theorem r_new {a cid idx : Nat} {ci : CI} {o : List Value} (hK : KOk K Z a0) (hd : decode mi.2.1 pc = .ok (.new idx, 3) ∧ pc + 3 = np) (w : (Jvm.Cond.classLink mi.1.cls idx ci.1).before a0 Z = true) (wz : (Jvm.Cond.initialized ci.1).before a0 Z = true) (hci : K[cid]? = some ci)
    (ho : ci.2.2.map (fun f => defaultValue f.2.2.2) = o) (ha : H.length = a) (hH : H ++ [.inl (cid, o)] = H1) (kk : Runs K l Z n0 mi np ls (.ref a :: st) H1 v H') : Runs K l Z n0 mi pc ls st H v H' := by
  obtain ⟨hd, rfl⟩ := hd
  subst ho ha hH
  obtain ⟨kk1, kk2, kk3⟩ := hK cid ci hci
  have es : osz K (.inl (cid, ci.2.2.map (fun f => defaultValue f.2.2.2))) = ci.2.1 := by show ((K[cid]?).map (fun ci => ci.2.1)).getD 0 = _; rw [hci]; rfl
  refine Runs.heap (by simp) (by rw [szs_push]; exact Nat.le_add_right _ _) (fun p e R s m args below meth c T locs cells slots X hx hZ hc hml hown hnm hrel hfr hf' hlo hsz hcl hsl => ?_) kk
  rw [szs_push, es] at hsl
  simp only [List.length_append, List.length_cons, List.length_nil] at hcl
  obtain ⟨T1, h1, X1, e1, E1, A1, D1, -, st1⟩ := newO X hx hZ hown w kk1 wz rfl (g := mkF m pc (ls.map (shS n0)).toArray (st.map (shV n0))) rfl (hb hc hd) (by omega) (by omega)
  have hs1 := X1.heapSize
  have hlt : T.heap.size < h1.size := A1.lt
  have hh := hrel.1
  rw [e1] at hs1
  refine ⟨T1, _, _, _, X1, ?_, hfr, by simp only [List.length_append, List.length_cons, List.length_nil]; omega, by rw [szs_push, es]; omega, fun t q => st1 t ?_⟩
  · rw [e1]
    refine hrel.push E1 (by omega) ⟨ci, hci, A1, fun i f x hf hx => ?_⟩
    have hfm : f ∈ ci.2.2 := List.mem_of_getElem? hf
    rw [List.getElem?_map, hf] at hx
    cases hx
    show Fld Z h1 T.heap.size f.1 f.2.1 f.2.2.1 (shV n0 (defaultValue f.2.2.2))
    rw [sh_dflt]
    exact D1 (kk2 f hfm).1 (kk2 f hfm).2
  · show Steps _ _ _ (T1.setTop (mkF m (pc + 3) _ (.ref T.heap.size :: _))) t
    rw [hh]; exact q
theorem toNat_of {n : Int32} (h : ¬ n < 0) : n.toNatClampNeg < 2 ^ 31 := (back32 h).2
theorem r_newA {a : Nat} {n : Int32} {aty : ArrayType} {o : List Value} (hd : decode mi.2.1 pc = .ok (.newarray aty, 2) ∧ pc + 2 = np) (w : (Jvm.Cond.arrayClass (newarray.typeOf aty)).before a0 Z = true) (hn : ¬ n < 0) (hb8 : n.toNatClampNeg * 8 ≤ 536870912)
    (ho : List.replicate n.toNatClampNeg (defaultValue (newarray.typeOf aty)) = o) (ha : H.length = a) (hH : H ++ [.inr (newarray.typeOf aty, o)] = H1) (kk : Runs K l Z n0 mi np ls (.ref a :: st) H1 v H') : Runs K l Z n0 mi pc ls (.int n :: st) H v H' := by
  obtain ⟨hd, rfl⟩ := hd
  subst ho ha hH
  have es : osz K (.inr (newarray.typeOf aty, List.replicate n.toNatClampNeg (defaultValue (newarray.typeOf aty)))) = n.toNatClampNeg := by show (List.replicate _ _).length = _; simp
  refine Runs.heap (by simp) (by rw [szs_push]; exact Nat.le_add_right _ _) (fun p e R s m args below meth c T locs cells slots X hx hZ hc hml hown hnm hrel hfr hf' hlo hsz hcl hsl => ?_) kk
  rw [szs_push, es] at hsl
  simp only [List.length_append, List.length_cons, List.length_nil] at hcl
  obtain ⟨T1, h1, cA, X1, e1, E1, A1, st1⟩ := newP X hx hZ w rfl (g := mkF m pc (ls.map (shS n0)).toArray (.int n :: st.map (shV n0))) rfl (hb hc hd) rfl hn (cap := n.toNatClampNeg) (Nat.le_refl _) hb8 (by omega) (by omega)
  have hs1 := X1.heapSize
  have hlt : T.heap.size < h1.size := A1.lt
  have hh := hrel.1
  rw [e1] at hs1
  refine ⟨T1, _, _, _, X1, ?_, hfr, by simp only [List.length_append, List.length_cons, List.length_nil]; omega, by rw [szs_push, es]; omega, fun t q => st1 t ?_⟩
  · rw [e1]
    refine hrel.push E1 (by omega) ⟨_, A1, by rw [sz_new]; simp, by simpa using toNat_of hn, fun i x hx => ?_⟩
    rw [List.getElem?_replicate] at hx
    split at hx
    · rename_i hi
      cases hx
      have q1 : (newA cA (newarray.typeOf aty) n).slots[i]? = some (defaultValue (newarray.typeOf aty)) := by simp [newA, hi]
      exact ⟨by rw [q1]; cases newarray.typeOf aty <;> rfl, by cases newarray.typeOf aty <;> rfl⟩
    · cases hx
  · show Steps _ _ _ (T1.setTop (mkF m (pc + 2) _ (.ref T.heap.size :: _))) t
    rw [hh]; exact q
theorem fits_byte (x : Int32) : fits .byte (.int x.toInt8.toInt32) = true := by
  have h1 : (x.toInt8.toInt32).toInt = x.toInt8.toInt := Int8.toInt_toInt32 _
  have h2 := x.toInt8.toInt_lt
  have h3 := x.toInt8.le_toInt
  have e1 : (-128 : Int32).toInt = -128 := by decide
  have e2 : (127 : Int32).toInt = 127 := by decide
  simp only [fits, Bool.and_eq_true, decide_eq_true_eq]
  rw [Int32.le_iff_toInt_le, Int32.le_iff_toInt_le, h1, e1, e2]
  omega
/-- the int j names the place i -/
def Ix (j : Int32) (i : Nat) : Prop := ¬ j < 0 ∧ j.toNatClampNeg = i
theorem r_len {a : Nat} {ty : FieldType} {vs : List Value} {n : Int32} (hd : decode mi.2.1 pc = .ok (.arraylength, 1) ∧ pc + 1 = np) (ho : H[a]? = some (.inr (ty, vs))) (hn : vs.length.toInt32 = n) (kk : Runs K l Z n0 mi np ls (.int n :: st) H v H') : Runs K l Z n0 mi pc ls (.ref a :: st) H v H' := by
  obtain ⟨hd, rfl⟩ := hd
  subst hn
  refine Runs.heap (Nat.le_refl _) (Nat.le_refl _) (fun p e R s m args below meth c T locs cells slots X hx hZ hc hml hown hnm hrel hfr hf' hlo hsz hcl hsl => ?_) kk
  obtain ⟨cl, A, hs, hl, hv⟩ := hrel.2 a _ ho
  refine ⟨T, _, _, _, X, hrel, hfr, hsz, Nat.le_refl _, fun t q => ?_⟩
  refine X.arraylength hx A.1 (State.isArrayOf_alike hZ.alike A.2.1) (g := mkF m pc (ls.map (shS n0)).toArray (.ref (n0 + a) :: st.map (shV n0))) rfl rfl (hb hc hd) _ ?_
  rw [hs]; exact q
theorem r_iaload {a i : Nat} {vs : List Value} {j : Int32} {x : Value} (hd : decode mi.2.1 pc = .ok (.iaload, 1) ∧ pc + 1 = np) (ho : H[a]? = some (.inr (.int, vs))) (hj : Ix j i) (hv : vs[i]? = some x) (kk : Runs K l Z n0 mi np ls (x :: st) H v H') : Runs K l Z n0 mi pc ls (.int j :: .ref a :: st) H v H' := by
  obtain ⟨hd, rfl⟩ := hd
  obtain ⟨hj0, rfl⟩ := hj
  refine Runs.heap (Nat.le_refl _) (Nat.le_refl _) (fun p e R s m args below meth c T locs cells slots X hx hZ hc hml hown hnm hrel hfr hf' hlo hsz hcl hsl => ?_) kk
  obtain ⟨cl, A, hs, hl, hvs⟩ := hrel.2 a _ ho
  have hi := lt_of_at hv
  refine ⟨T, _, _, _, X, hrel, hfr, hsz, Nat.le_refl _, fun t q => ?_⟩
  exact X.iaload hx (j := j) (v := shV n0 x) A.1 (State.isArrayOf_alike hZ.alike A.2.1) A.2.2 (fun z => z.elim hj0 (fun q => by rw [hs] at q; omega)) (hvs _ _ hv).1 (g := mkF m pc (ls.map (shS n0)).toArray (.int j :: .ref (n0 + a) :: st.map (shV n0))) rfl rfl (hb hc hd) _ q
theorem r_laload {a i : Nat} {vs : List Value} {j : Int32} {x : Value} (hd : decode mi.2.1 pc = .ok (.laload, 1) ∧ pc + 1 = np) (ho : H[a]? = some (.inr (.long, vs))) (hj : Ix j i) (hv : vs[i]? = some x) (kk : Runs K l Z n0 mi np ls (x :: st) H v H') : Runs K l Z n0 mi pc ls (.int j :: .ref a :: st) H v H' := by
  obtain ⟨hd, rfl⟩ := hd
  obtain ⟨hj0, rfl⟩ := hj
  refine Runs.heap (Nat.le_refl _) (Nat.le_refl _) (fun p e R s m args below meth c T locs cells slots X hx hZ hc hml hown hnm hrel hfr hf' hlo hsz hcl hsl => ?_) kk
  obtain ⟨cl, A, hs, hl, hvs⟩ := hrel.2 a _ ho
  have hi := lt_of_at hv
  refine ⟨T, _, _, _, X, hrel, hfr, hsz, Nat.le_refl _, fun t q => ?_⟩
  exact X.laload hx (j := j) (v := shV n0 x) A.1 (State.isArrayOf_alike hZ.alike A.2.1) A.2.2 (fun z => z.elim hj0 (fun q => by rw [hs] at q; omega)) (hvs _ _ hv).1 (g := mkF m pc (ls.map (shS n0)).toArray (.int j :: .ref (n0 + a) :: st.map (shV n0))) rfl rfl (hb hc hd) _ q
theorem r_baload {a i : Nat} {vs : List Value} {j : Int32} {x : Value} (hd : decode mi.2.1 pc = .ok (.baload, 1) ∧ pc + 1 = np) (ho : H[a]? = some (.inr (.byte, vs))) (hj : Ix j i) (hv : vs[i]? = some x) (kk : Runs K l Z n0 mi np ls (x :: st) H v H') : Runs K l Z n0 mi pc ls (.int j :: .ref a :: st) H v H' := by
  obtain ⟨hd, rfl⟩ := hd
  obtain ⟨hj0, rfl⟩ := hj
  refine Runs.heap (Nat.le_refl _) (Nat.le_refl _) (fun p e R s m args below meth c T locs cells slots X hx hZ hc hml hown hnm hrel hfr hf' hlo hsz hcl hsl => ?_) kk
  obtain ⟨cl, A, hs, hl, hvs⟩ := hrel.2 a _ ho
  have hi := lt_of_at hv
  refine ⟨T, _, _, _, X, hrel, hfr, hsz, Nat.le_refl _, fun t q => ?_⟩
  exact X.baloadBytes hx (j := j) (v := shV n0 x) A.1 (State.isArrayOf_alike hZ.alike A.2.1) A.2.2 (fun z => z.elim hj0 (fun q => by rw [hs] at q; omega)) (hvs _ _ hv).1 (g := mkF m pc (ls.map (shS n0)).toArray (.int j :: .ref (n0 + a) :: st.map (shV n0))) rfl rfl (hb hc hd) _ q
theorem r_caload {a i : Nat} {vs : List Value} {j : Int32} {x : Value} (hd : decode mi.2.1 pc = .ok (.caload, 1) ∧ pc + 1 = np) (ho : H[a]? = some (.inr (.char, vs))) (hj : Ix j i) (hv : vs[i]? = some x) (kk : Runs K l Z n0 mi np ls (x :: st) H v H') : Runs K l Z n0 mi pc ls (.int j :: .ref a :: st) H v H' := by
  obtain ⟨hd, rfl⟩ := hd
  obtain ⟨hj0, rfl⟩ := hj
  refine Runs.heap (Nat.le_refl _) (Nat.le_refl _) (fun p e R s m args below meth c T locs cells slots X hx hZ hc hml hown hnm hrel hfr hf' hlo hsz hcl hsl => ?_) kk
  obtain ⟨cl, A, hs, hl, hvs⟩ := hrel.2 a _ ho
  have hi := lt_of_at hv
  refine ⟨T, _, _, _, X, hrel, hfr, hsz, Nat.le_refl _, fun t q => ?_⟩
  exact X.caload hx (j := j) (v := shV n0 x) A.1 (State.isArrayOf_alike hZ.alike A.2.1) A.2.2 (fun z => z.elim hj0 (fun q => by rw [hs] at q; omega)) (hvs _ _ hv).1 (g := mkF m pc (ls.map (shS n0)).toArray (.int j :: .ref (n0 + a) :: st.map (shV n0))) rfl rfl (hb hc hd) _ q
theorem r_iastore {a i : Nat} {vs vs' : List Value} {j : Int32} {x : Int32} (hd : decode mi.2.1 pc = .ok (.iastore, 1) ∧ pc + 1 = np) (ho : H[a]? = some (.inr (.int, vs))) (hj : Ix j i) (hi : i < vs.length) (hvs : vs.set i (.int x) = vs') (hH : H.set a (.inr (.int, vs')) = H1) (kk : Runs K l Z n0 mi np ls st H1 v H') : Runs K l Z n0 mi pc ls (.int x :: .int j :: .ref a :: st) H v H' := by
  obtain ⟨hd, rfl⟩ := hd
  obtain ⟨hj0, rfl⟩ := hj
  subst hvs hH
  have ha := lt_of_at ho
  have es : szs K (H.set a (.inr (.int, vs.set j.toNatClampNeg (.int x)))) = szs K H := szs_set ho (by show (List.set _ _ _).length = _; simp [osz])
  refine Runs.heap (by rw [List.length_set]; exact Nat.le_refl _) (by rw [es]; exact Nat.le_refl _) (fun p e R s m args below meth c T locs cells slots X hx hZ hc hml hown hnm hrel hfr hf' hlo hsz hcl hsl => ?_) kk
  obtain ⟨cl, A, hs, hl, hvs⟩ := hrel.2 a _ ho
  have hin : ¬ (j < 0 ∨ cl.slots.size ≤ j.toNatClampNeg) := fun z => z.elim hj0 (fun q => by rw [hs] at q; omega)
  obtain ⟨T1, h1, X1, e1, W1, st1⟩ := stI X hx hZ rfl A hin (g := mkF m pc (ls.map (shS n0)).toArray (.int x :: .int j :: .ref (n0 + a) :: st.map (shV n0))) rfl rfl (hb hc hd)
  refine ⟨T1, _, _, _, X1, ?_, Fr.snoc X1 hfr (Nat.le_add_right _ _), by rw [List.length_set]; exact hsz, by rw [es]; exact Nat.le_refl _, st1⟩
  rw [e1]
  refine hrel.put W1 ha ⟨_, A.same W1, by rw [sz_set, hs, List.length_set], by rw [List.length_set]; exact hl, fun k y hy => ?_⟩
  by_cases e : j.toNatClampNeg = k
  · subst e
    rw [List.getElem?_set_self hi] at hy
    cases hy
    exact ⟨by simp [Cell.setSlot, hs, hi, shV, nar], rfl⟩
  · rw [List.getElem?_set_ne e] at hy
    refine ⟨?_, (hvs k y hy).2⟩
    exact (Array.getElem?_setIfInBounds_ne e).trans (hvs k y hy).1
theorem r_lastore {a i : Nat} {vs vs' : List Value} {j : Int32} {x : Int64} (hd : decode mi.2.1 pc = .ok (.lastore, 1) ∧ pc + 1 = np) (ho : H[a]? = some (.inr (.long, vs))) (hj : Ix j i) (hi : i < vs.length) (hvs : vs.set i (.long x) = vs') (hH : H.set a (.inr (.long, vs')) = H1) (kk : Runs K l Z n0 mi np ls st H1 v H') : Runs K l Z n0 mi pc ls (.long x :: .int j :: .ref a :: st) H v H' := by
  obtain ⟨hd, rfl⟩ := hd
  obtain ⟨hj0, rfl⟩ := hj
  subst hvs hH
  have ha := lt_of_at ho
  have es : szs K (H.set a (.inr (.long, vs.set j.toNatClampNeg (.long x)))) = szs K H := szs_set ho (by show (List.set _ _ _).length = _; simp [osz])
  refine Runs.heap (by rw [List.length_set]; exact Nat.le_refl _) (by rw [es]; exact Nat.le_refl _) (fun p e R s m args below meth c T locs cells slots X hx hZ hc hml hown hnm hrel hfr hf' hlo hsz hcl hsl => ?_) kk
  obtain ⟨cl, A, hs, hl, hvs⟩ := hrel.2 a _ ho
  have hin : ¬ (j < 0 ∨ cl.slots.size ≤ j.toNatClampNeg) := fun z => z.elim hj0 (fun q => by rw [hs] at q; omega)
  obtain ⟨T1, h1, X1, e1, W1, st1⟩ := stJ X hx hZ rfl A hin (g := mkF m pc (ls.map (shS n0)).toArray (.long x :: .int j :: .ref (n0 + a) :: st.map (shV n0))) rfl rfl (hb hc hd)
  refine ⟨T1, _, _, _, X1, ?_, Fr.snoc X1 hfr (Nat.le_add_right _ _), by rw [List.length_set]; exact hsz, by rw [es]; exact Nat.le_refl _, st1⟩
  rw [e1]
  refine hrel.put W1 ha ⟨_, A.same W1, by rw [sz_set, hs, List.length_set], by rw [List.length_set]; exact hl, fun k y hy => ?_⟩
  by_cases e : j.toNatClampNeg = k
  · subst e
    rw [List.getElem?_set_self hi] at hy
    cases hy
    exact ⟨by simp [Cell.setSlot, hs, hi, shV, nar], rfl⟩
  · rw [List.getElem?_set_ne e] at hy
    refine ⟨?_, (hvs k y hy).2⟩
    exact (Array.getElem?_setIfInBounds_ne e).trans (hvs k y hy).1
theorem r_bastore {a i : Nat} {vs vs' : List Value} {j : Int32} {x : Int32} (hd : decode mi.2.1 pc = .ok (.bastore, 1) ∧ pc + 1 = np) (ho : H[a]? = some (.inr (.byte, vs))) (hj : Ix j i) (hi : i < vs.length) (hvs : vs.set i (.int x.toInt8.toInt32) = vs') (hH : H.set a (.inr (.byte, vs')) = H1) (kk : Runs K l Z n0 mi np ls st H1 v H') : Runs K l Z n0 mi pc ls (.int x :: .int j :: .ref a :: st) H v H' := by
  obtain ⟨hd, rfl⟩ := hd
  obtain ⟨hj0, rfl⟩ := hj
  subst hvs hH
  have ha := lt_of_at ho
  have es : szs K (H.set a (.inr (.byte, vs.set j.toNatClampNeg (.int x.toInt8.toInt32)))) = szs K H := szs_set ho (by show (List.set _ _ _).length = _; simp [osz])
  refine Runs.heap (by rw [List.length_set]; exact Nat.le_refl _) (by rw [es]; exact Nat.le_refl _) (fun p e R s m args below meth c T locs cells slots X hx hZ hc hml hown hnm hrel hfr hf' hlo hsz hcl hsl => ?_) kk
  obtain ⟨cl, A, hs, hl, hvs⟩ := hrel.2 a _ ho
  have hin : ¬ (j < 0 ∨ cl.slots.size ≤ j.toNatClampNeg) := fun z => z.elim hj0 (fun q => by rw [hs] at q; omega)
  obtain ⟨T1, h1, X1, e1, W1, st1⟩ := stB X hx hZ rfl A hin (g := mkF m pc (ls.map (shS n0)).toArray (.int x :: .int j :: .ref (n0 + a) :: st.map (shV n0))) rfl rfl (hb hc hd)
  refine ⟨T1, _, _, _, X1, ?_, Fr.snoc X1 hfr (Nat.le_add_right _ _), by rw [List.length_set]; exact hsz, by rw [es]; exact Nat.le_refl _, st1⟩
  rw [e1]
  refine hrel.put W1 ha ⟨_, A.same W1, by rw [sz_set, hs, List.length_set], by rw [List.length_set]; exact hl, fun k y hy => ?_⟩
  by_cases e : j.toNatClampNeg = k
  · subst e
    rw [List.getElem?_set_self hi] at hy
    cases hy
    exact ⟨by simp [Cell.setSlot, hs, hi, shV, nar], fits_byte x⟩
  · rw [List.getElem?_set_ne e] at hy
    refine ⟨?_, (hvs k y hy).2⟩
    exact (Array.getElem?_setIfInBounds_ne e).trans (hvs k y hy).1
/-! ### calls -/
theorem map_toList (w : Option Value) (rest : List Value) : ((w.toList ++ rest).map (shV n0)) = (w.map (shV n0)).toList ++ rest.map (shV n0) := by cases w <;> simp
theorem r_initO {a idx : Nat} (hd : decode mi.2.1 pc = .ok (.invokespecial idx, 3) ∧ pc + 3 = np) (w1 : (Jvm.Cond.methodLink mi.1.cls idx Lib.objectInit).before a0 Z = true) (w2 : (Jvm.Cond.instanceMethod Lib.objectInit).before a0 Z = true) (w3 : (Jvm.Cond.code Lib.objectInit ⟨#[0xb1]⟩ 1 none).before a0 Z = true)
    (hls : ls.length = mi.2.2.1) (hf : 1 ≤ mi.2.2.2.2.1) (hlo : (st.map fun v => v.category).sum + 12 ≤ mi.2.2.2.2.2) (kk : Runs K l Z n0 mi np ls st H v H') : Runs K l Z n0 mi pc ls (.ref a :: st) H v H' := by
  obtain ⟨hd, rfl⟩ := hd
  refine Runs.heap (Nat.le_refl _) (Nat.le_refl _) (fun p e R s m args below meth c T locs cells slots X hx hZ hc hml hown hnm hrel hfr hf' hlo' hsz hcl hsl => ?_) kk
  obtain ⟨T1, X1, e1, st1⟩ := initO X hx hZ hown w1 w2 w3 rfl (g := mkF m pc (ls.map (shS n0)).toArray (.ref (n0 + a) :: st.map (shV n0))) rfl (by rw [hml, ← hls]; simp) rfl (hb hc hd) (by omega) (W := (st.map fun v => v.category).sum) (by rw [cats_sh]; show 2 * 0 + _ ≤ _; omega) (by omega)
  exact ⟨T1, _, _, _, X1, by rw [e1]; exact hrel, hfr, hsz, Nat.le_refl _, st1⟩
theorem backM {mj : MI} {as : List Value} {w : Option Value} {h : Heap} {p : Program} {e : Env} {R : Room} {s : State} {args : Array Value} {below : List Frame} {len W : Nat} (M : Meets K l Z n0 mj as H w H1) (hrel : Rel K Z n0 H h) (hZ : Z.Warmed39 s.vm) (w4 : (Jvm.Cond.code mj.1 mj.2.1 mj.2.2.1 mj.2.2.2.1).before a0 Z = true) (w3 : (Jvm.Cond.initialized mj.1.cls).before a0 Z = true)
    (hf : mj.2.2.2.2.1 + 1 ≤ R.frames) (hl : W + (mj.2.2.1 + 11) + mj.2.2.2.2.2 ≤ R.locals) :
    Back l R p e below s args mj.1 len W (fun A a => a = (as.map (shV n0)).toArray ∧ A.U.heap = h ∧ A.cells + (H1.length - H.length) ≤ R.cells ∧ A.slots + (szs K H1 - szs K H) ≤ R.slots)
      (fun A _ v B => ∃ L, (v = w.map (shV n0) ∧ Rel K Z n0 H1 B.U.heap ∧ Fr n0 L) ∧ B.locs = A.locs ++ L ∧ B.cells = A.cells + (H1.length - H.length) ∧ B.slots = A.slots + (szs K H1 - szs K H)) :=
  backOf (rm := rmOf K mj H H1) (Q := fun v h L => v = w.map (shV n0) ∧ Rel K Z n0 H1 h ∧ Fr n0 L) (M.2.2 h hrel) hZ w4 w3 hf hl
theorem r_static {mj : MI} {as : List Value} {w : Option Value} {idx : Nat} (hd : decode mi.2.1 pc = .ok (.invokestatic idx, 3) ∧ pc + 3 = np) (w1 : (Jvm.Cond.methodLink mi.1.cls idx mj.1).before a0 Z = true) (w2 : (Jvm.Cond.static mj.1).before a0 Z = true) (w3 : (Jvm.Cond.initialized mj.1.cls).before a0 Z = true) (w4 : (Jvm.Cond.code mj.1 mj.2.1 mj.2.2.1 mj.2.2.2.1).before a0 Z = true)
    (hy : mj.1.cls ≠ "java/lang/invoke/MethodHandle" ∧ mj.1.cls ≠ "java/lang/invoke/VarHandle") (hlen : ∀ sig, parseMethodDescriptor mj.1.desc = some sig → as.length = sig.parameters.length) (hfr : mj.2.2.2.2.1 + 1 ≤ mi.2.2.2.2.1)
    (hst : as.reverse ++ rest = st) (hls : ls.length = mi.2.2.1) (hlo : (rest.map fun v => v.category).sum + (mj.2.2.1 + 11) + mj.2.2.2.2.2 ≤ mi.2.2.2.2.2)
    (M : Meets K l Z n0 mj as H w H1) (kk : Runs K l Z n0 mi np ls (w.toList ++ rest) H1 v H') : Runs K l Z n0 mi pc ls st H v H' := by
  obtain ⟨hd, rfl⟩ := hd
  subst hst
  have m1 := M.1
  have m2 := M.2.1
  refine Runs.heap m1 m2 (fun p e R s m args below meth c T locs cells slots X hx hZ hc hml hown hnm hrel hfr' hf' hlo' hsz hcl hsl => ?_) kk
  obtain ⟨_, _, ⟨T1, L1, k1, n1⟩, -, X1, ⟨Lc, hQ, l1, y1, z1⟩, st1⟩ := Jvm.LawKit.callS X hx (y := mj.1) hown (mvT hZ w1) (mvT hZ w2) (mvT hZ w3) (mvT hZ w4) hy
    (backM (W := (rest.map fun v => v.category).sum) M hrel hZ w4 w3 (by omega) (by omega))
    (g := mkF m pc (ls.map (shS n0)).toArray ((as.reverse ++ rest).map (shV n0))) rfl (by rw [hml, ← hls]; simp) (argsL := as.map (shV n0)) (rest := rest.map (shV n0)) (fun sig q => by rw [List.length_map]; exact hlen sig q) (by simp) (by rw [cats_sh]; show 2 * 0 + _ ≤ _; omega) (hb hc hd)
    (fun _ _ => ⟨rfl, rfl, (by show cells + (H1.length - H.length) ≤ _; omega), (by show slots + (szs K H1 - szs K H) ≤ _; omega)⟩)
  dsimp only [Pt.U, Pt.locs, Pt.cells, Pt.slots] at X1 l1 y1 z1 st1 hQ
  subst l1 y1 z1
  obtain ⟨rfl, R1, F1⟩ := hQ
  refine ⟨T1, _, _, _, X1, R1, Fr.app hfr' F1, by show s.heap.size + (cells + (H1.length - H.length)) = _; omega, by show slots + (szs K H1 - szs K H) + _ ≤ _; omega, fun t q => st1 t ?_⟩
  rw [map_toList] at q; exact q
theorem r_special {mj : MI} {as : List Value} {a idx : Nat} (hd : decode mi.2.1 pc = .ok (.invokespecial idx, 3) ∧ pc + 3 = np) (hy1 : mj.1.name = "<init>") (hr : mj.2.2.2.1 = none) (w1 : (Jvm.Cond.methodLink mi.1.cls idx mj.1).before a0 Z = true) (w2 : (Jvm.Cond.instanceMethod mj.1).before a0 Z = true) (w3 : (Jvm.Cond.initialized mj.1.cls).before a0 Z = true) (w4 : (Jvm.Cond.code mj.1 mj.2.1 mj.2.2.1 mj.2.2.2.1).before a0 Z = true)
    (hy : mj.1.cls ≠ "java/lang/invoke/MethodHandle" ∧ mj.1.cls ≠ "java/lang/invoke/VarHandle") (hlen : ∀ sig, parseMethodDescriptor mj.1.desc = some sig → as.length = sig.parameters.length) (hfr : mj.2.2.2.2.1 + 1 ≤ mi.2.2.2.2.1)
    (hst : as.reverse ++ .ref a :: rest = st) (hls : ls.length = mi.2.2.1) (hlo : (rest.map fun v => v.category).sum + (mj.2.2.1 + 11) + mj.2.2.2.2.2 ≤ mi.2.2.2.2.2)
    (M : Meets K l Z n0 mj (.ref a :: as) H none H1) (kk : Runs K l Z n0 mi np ls rest H1 v H') : Runs K l Z n0 mi pc ls st H v H' := by
  obtain ⟨hd, rfl⟩ := hd
  subst hst
  have m1 := M.1
  have m2 := M.2.1
  refine Runs.heap m1 m2 (fun p e R s m args below meth c T locs cells slots X hx hZ hc hml hown hnm hrel hfr' hf' hlo' hsz hcl hsl => ?_) kk
  have w4' := w4
  rw [hr] at w4'
  obtain ⟨_, _, ⟨T1, L1, k1, n1⟩, -, X1, ⟨Lc, hQ, l1, y1, z1⟩, st1⟩ := X.specialBack hx (y := mj.1) hy1 hown (mvT hZ w1) (mvT hZ w2) (mvT hZ w4') hy
    (backM (W := (rest.map fun v => v.category).sum) M hrel hZ w4 w3 (by omega) (by omega))
    (g := mkF m pc (ls.map (shS n0)).toArray ((as.reverse ++ .ref a :: rest).map (shV n0))) rfl (by rw [hml, ← hls]; simp) (Steps.refl _) (a := n0 + a) (argsL := as.map (shV n0)) (rest := rest.map (shV n0)) (fun sig q => by rw [List.length_map]; exact hlen sig q) (by simp [shV]) (by rw [cats_sh]; show 2 * 0 + _ ≤ _; omega) (hb hc hd)
    (fun _ _ => ⟨rfl, rfl, (by show cells + (H1.length - H.length) ≤ _; omega), (by show slots + (szs K H1 - szs K H) ≤ _; omega)⟩)
  dsimp only [Pt.U, Pt.locs, Pt.cells, Pt.slots] at X1 l1 y1 z1 st1 hQ
  subst l1 y1 z1
  obtain ⟨rfl, R1, F1⟩ := hQ
  exact ⟨T1, _, _, _, X1, R1, Fr.app hfr' F1, by show s.heap.size + (cells + (H1.length - H.length)) = _; omega, by show slots + (szs K H1 - szs K H) + _ ≤ _; omega, fun t q => st1.trans q⟩
theorem r_virtual {mj : MI} {as : List Value} {w : Option Value} {a cid idx : Nat} {ci : CI} {vs : List Value} (hd : decode mi.2.1 pc = .ok (.invokevirtual idx, 3) ∧ pc + 3 = np) (w1 : (Jvm.Cond.methodLink mi.1.cls idx mj.1).before a0 Z = true) (w2 : (Jvm.Cond.declares mj.1).before a0 Z = true) (w5 : (Jvm.Cond.selects ci.1 mj.1 mj.1).before a0 Z = true) (w6 : (Jvm.Cond.instanceMethod mj.1).before a0 Z = true) (w3 : (Jvm.Cond.initialized mj.1.cls).before a0 Z = true) (w4 : (Jvm.Cond.code mj.1 mj.2.1 mj.2.2.1 mj.2.2.2.1).before a0 Z = true)
    (hy : mj.1.cls ≠ "java/lang/invoke/MethodHandle" ∧ mj.1.cls ≠ "java/lang/invoke/VarHandle") (hlen : ∀ sig, parseMethodDescriptor mj.1.desc = some sig → as.length = sig.parameters.length) (hfr : mj.2.2.2.2.1 + 1 ≤ mi.2.2.2.2.1) (hci : K[cid]? = some ci)
    (hst : as.reverse ++ .ref a :: rest = st) (ho : H[a]? = some (.inl (cid, vs))) (hls : ls.length = mi.2.2.1) (hlo : (rest.map fun v => v.category).sum + (mj.2.2.1 + 11) + mj.2.2.2.2.2 ≤ mi.2.2.2.2.2)
    (M : Meets K l Z n0 mj (.ref a :: as) H w H1) (kk : Runs K l Z n0 mi np ls (w.toList ++ rest) H1 v H') : Runs K l Z n0 mi pc ls st H v H' := by
  obtain ⟨hd, rfl⟩ := hd
  subst hst
  have m1 := M.1
  have m2 := M.2.1
  refine Runs.heap m1 m2 (fun p e R s m args below meth c T locs cells slots X hx hZ hc hml hown hnm hrel hfr' hf' hlo' hsz hcl hsl => ?_) kk
  obtain ⟨ci', q1, E, F⟩ := hrel.2 a _ ho
  cases hci.symm.trans q1
  obtain ⟨cq, kq, qa, qb, qc⟩ := isOf hZ rfl E
  obtain ⟨_, _, ⟨T1, L1, k1, n1⟩, -, X1, ⟨Lc, hQ, l1, y1, z1⟩, st1⟩ := X.virtualBack hx (y := mj.1) (z := mj.1) hown (mvT hZ w1) (mvT hZ w2) (notFace_of_selects (args := #[]) (mvT hZ w5)) (mvT hZ w5) (mvT hZ w6) hy
    (backM (W := (rest.map fun v => v.category).sum) M hrel hZ w4 w3 (by omega) (by omega)) qa qc
    (g := mkF m pc (ls.map (shS n0)).toArray ((as.reverse ++ .ref a :: rest).map (shV n0))) rfl (by rw [hml, ← hls]; simp) (Steps.refl _) (argsL := as.map (shV n0)) (rest := rest.map (shV n0)) (fun sig q => by rw [List.length_map]; exact hlen sig q) (by simp [shV]) (by rw [cats_sh]; show 2 * 0 + _ ≤ _; omega) (hb hc hd)
    (fun _ _ => ⟨rfl, rfl, (by show cells + (H1.length - H.length) ≤ _; omega), (by show slots + (szs K H1 - szs K H) ≤ _; omega)⟩)
  dsimp only [Pt.U, Pt.locs, Pt.cells, Pt.slots] at X1 l1 y1 z1 st1 hQ
  subst l1 y1 z1
  obtain ⟨rfl, R1, F1⟩ := hQ
  refine ⟨T1, _, _, _, X1, R1, Fr.app hfr' F1, by show s.heap.size + (cells + (H1.length - H.length)) = _; omega, by show slots + (szs K H1 - szs K H) + _ ≤ _; omega, fun t q => st1.trans ?_⟩
  rw [map_toList] at q; exact q
theorem r_private {mj : MI} {as : List Value} {w : Option Value} {a cid idx : Nat} {ci : CI} {vs : List Value} (hd : decode mi.2.1 pc = .ok (.invokevirtual idx, 3) ∧ pc + 3 = np) (w1 : (Jvm.Cond.methodLink mi.1.cls idx mj.1).before a0 Z = true) (w5 : (Jvm.Cond.selects mj.1.cls mj.1 mj.1).before a0 Z = true) (w7 : (Jvm.Cond.privateMethod mj.1).before a0 Z = true) (w6 : (Jvm.Cond.instanceMethod mj.1).before a0 Z = true) (w3 : (Jvm.Cond.initialized mj.1.cls).before a0 Z = true) (w4 : (Jvm.Cond.code mj.1 mj.2.1 mj.2.2.1 mj.2.2.2.1).before a0 Z = true)
    (hy : mj.1.cls ≠ "java/lang/invoke/MethodHandle" ∧ mj.1.cls ≠ "java/lang/invoke/VarHandle") (hlen : ∀ sig, parseMethodDescriptor mj.1.desc = some sig → as.length = sig.parameters.length) (hfr : mj.2.2.2.2.1 + 1 ≤ mi.2.2.2.2.1) (hci : K[cid]? = some ci)
    (hst : as.reverse ++ .ref a :: rest = st) (ho : H[a]? = some (.inl (cid, vs))) (hls : ls.length = mi.2.2.1) (hlo : (rest.map fun v => v.category).sum + (mj.2.2.1 + 11) + mj.2.2.2.2.2 ≤ mi.2.2.2.2.2)
    (M : Meets K l Z n0 mj (.ref a :: as) H w H1) (kk : Runs K l Z n0 mi np ls (w.toList ++ rest) H1 v H') : Runs K l Z n0 mi pc ls st H v H' := by
  obtain ⟨hd, rfl⟩ := hd
  subst hst
  have m1 := M.1
  have m2 := M.2.1
  refine Runs.heap m1 m2 (fun p e R s m args below meth c T locs cells slots X hx hZ hc hml hown hnm hrel hfr' hf' hlo' hsz hcl hsl => ?_) kk
  obtain ⟨ci', q1, E, F⟩ := hrel.2 a _ ho
  cases hci.symm.trans q1
  obtain ⟨cq, qa, qc⟩ := E.cell
  obtain ⟨_, _, ⟨T1, L1, k1, n1⟩, -, X1, ⟨Lc, hQ, l1, y1, z1⟩, st1⟩ := X.privateBack hx (y := mj.1) hown (mvT hZ w1) (mvT hZ w6) (mvT hZ w5) (Cond.privateMethod_at (mvP hZ w7 (args := #[]))) (mvT hZ w4) hy
    (backM (W := (rest.map fun v => v.category).sum) M hrel hZ w4 w3 (by omega) (by omega))
    (g := mkF m pc (ls.map (shS n0)).toArray ((as.reverse ++ .ref a :: rest).map (shV n0))) rfl (by rw [hml, ← hls]; simp) (Steps.refl _) (a := n0 + a) qa qc (argsL := as.map (shV n0)) (rest := rest.map (shV n0)) (fun sig q => by rw [List.length_map]; exact hlen sig q) (by simp [shV]) (by rw [cats_sh]; show 2 * 0 + _ ≤ _; omega) (hb hc hd)
    (fun _ _ => ⟨rfl, rfl, (by show cells + (H1.length - H.length) ≤ _; omega), (by show slots + (szs K H1 - szs K H) ≤ _; omega)⟩)
  dsimp only [Pt.U, Pt.locs, Pt.cells, Pt.slots] at X1 l1 y1 z1 st1 hQ
  subst l1 y1 z1
  obtain ⟨rfl, R1, F1⟩ := hQ
  refine ⟨T1, _, _, _, X1, R1, Fr.app hfr' F1, by show s.heap.size + (cells + (H1.length - H.length)) = _; omega, by show slots + (szs K H1 - szs K H) + _ ≤ _; omega, fun t q => st1.trans ?_⟩
  rw [map_toList] at q; exact q
end Logic
/-! ### arrays by a function of the place; small naturals as ints -/
def arrF (m : Nat) (f : Nat → Int32) : List Value := (List.range m).map (fun j => Value.int (f j))
def arrJ (m : Nat) (f : Nat → Int64) : List Value := (List.range m).map (fun j => Value.long (f j))
theorem arrF_len {m : Nat} {f : Nat → Int32} : (arrF m f).length = m := by simp [arrF]
theorem arrJ_len {m : Nat} {f : Nat → Int64} : (arrJ m f).length = m := by simp [arrJ]
theorem arrF_at {m i : Nat} {f : Nat → Int32} (h : i < m) : (arrF m f)[i]? = some (.int (f i)) := by simp [arrF, h]
theorem arrJ_at {m i : Nat} {f : Nat → Int64} (h : i < m) : (arrJ m f)[i]? = some (.long (f i)) := by simp [arrJ, h]
theorem arrF_set {m i : Nat} {f : Nat → Int32} {x : Int32} : (arrF m f).set i (.int x) = arrF m (fun j => if j = i then x else f j) := by
  apply List.ext_getElem?
  intro j
  by_cases hj : j < m
  · rw [arrF_at hj]
    by_cases e : i = j
    · subst e; rw [List.getElem?_set_self (by rw [arrF_len]; exact hj), if_pos rfl]
    · rw [List.getElem?_set_ne e, arrF_at hj, if_neg (fun q => e q.symm)]
  · rw [List.getElem?_eq_none (by rw [List.length_set, arrF_len]; omega), List.getElem?_eq_none (by rw [arrF_len]; omega)]
theorem arrJ_set {m i : Nat} {f : Nat → Int64} {x : Int64} : (arrJ m f).set i (.long x) = arrJ m (fun j => if j = i then x else f j) := by
  apply List.ext_getElem?
  intro j
  by_cases hj : j < m
  · rw [arrJ_at hj]
    by_cases e : i = j
    · subst e; rw [List.getElem?_set_self (by rw [arrJ_len]; exact hj), if_pos rfl]
    · rw [List.getElem?_set_ne e, arrJ_at hj, if_neg (fun q => e q.symm)]
  · rw [List.getElem?_eq_none (by rw [List.length_set, arrJ_len]; omega), List.getElem?_eq_none (by rw [arrJ_len]; omega)]
theorem arrF_congr {m : Nat} {f g : Nat → Int32} (h : ∀ j, j < m → f j = g j) : arrF m f = arrF m g := List.map_congr_left fun j hj => by rw [h j (List.mem_range.mp hj)]
theorem arrJ_congr {m : Nat} {f g : Nat → Int64} (h : ∀ j, j < m → f j = g j) : arrJ m f = arrJ m g := List.map_congr_left fun j hj => by rw [h j (List.mem_range.mp hj)]
theorem arrF_zero {m : Nat} : List.replicate m (Value.int 0) = arrF m (fun _ => 0) := by
  apply List.ext_getElem?
  intro j
  by_cases hj : j < m
  · rw [arrF_at hj, List.getElem?_replicate, if_pos hj]
  · rw [List.getElem?_eq_none (by simp; omega), List.getElem?_eq_none (by rw [arrF_len]; omega)]
theorem arrJ_zero {m : Nat} : List.replicate m (Value.long 0) = arrJ m (fun _ => 0) := by
  apply List.ext_getElem?
  intro j
  by_cases hj : j < m
  · rw [arrJ_at hj, List.getElem?_replicate, if_pos hj]
  · rw [List.getElem?_eq_none (by simp; omega), List.getElem?_eq_none (by rw [arrJ_len]; omega)]
theorem ti_int {n : Nat} (h : n < 2 ^ 31) : n.toInt32.toInt = n := len_toInt h
theorem ti_ix {n : Nat} (h : n < 2 ^ 31) : Ix n.toInt32 n := by
  have q := ti_int h
  have e0 : (0 : Int32).toInt = 0 := by decide
  refine ⟨?_, ?_⟩
  · rw [Int32.lt_iff_toInt_lt]; omega
  · simp only [Int32.toNatClampNeg]; omega
theorem ti_lt {a b : Nat} (ha : a < 2 ^ 31) (hb : b < 2 ^ 31) : a.toInt32 < b.toInt32 ↔ a < b := by
  rw [Int32.lt_iff_toInt_lt, ti_int ha, ti_int hb]; omega
theorem ti_eq {a b : Nat} (ha : a < 2 ^ 31) (hb : b < 2 ^ 31) : a.toInt32 = b.toInt32 ↔ a = b := by
  rw [← Int32.toInt_inj, ti_int ha, ti_int hb]; omega
theorem ti_add {a b : Nat} (h : a + b < 2 ^ 31) : a.toInt32 + b.toInt32 = (a + b).toInt32 := by
  apply Int32.toInt_inj.mp
  have q := c_iadd a.toInt32 b.toInt32
  have l1 := Int32.le_toInt (a.toInt32 + b.toInt32)
  have l2 := Int32.toInt_lt (a.toInt32 + b.toInt32)
  have e1 := ti_int (show a < 2 ^ 31 by omega)
  have e2 := ti_int (show b < 2 ^ 31 by omega)
  have e3 := ti_int h
  omega
theorem ti_succ {a : Nat} (h : a + 1 < 2 ^ 31) : a.toInt32 + 1 = (a + 1).toInt32 := ti_add (b := 1) h
theorem ti_of {x : Int32} (h : 0 ≤ x.toInt) : x = x.toNatClampNeg.toInt32 := by
  have b := Int32.toInt_lt x
  apply Int32.toInt_inj.mp
  rw [ti_int (by simp only [Int32.toNatClampNeg]; omega)]
  simp only [Int32.toNatClampNeg]; omega
theorem ix_of {x : Int32} (h : 0 ≤ x.toInt) : Ix x x.toNatClampNeg := by
  refine ⟨?_, rfl⟩
  have e0 : (0 : Int32).toInt = 0 := by decide
  rw [Int32.lt_iff_toInt_lt]; omega
section Logic2
variable {K : List CI} {l : Launch} {Z : State} {a0 : Array Value} {n0 : Nat} {mi : MI} {pc np tp : Nat} {ls ls' : List Slot} {st rest : List Value} {H H' H1 : List Ob} {v : Option Value}
theorem OOk.keep {h h' : Heap} {a : Addr} {o : Ob} {ws : List Addr} (E : Keep h h' ws) (ne : a ∉ ws) (q : OOk K Z n0 h a o) : OOk K Z n0 h' a o := by
  cases o with
  | inl o => obtain ⟨ci, h1, h2, h3⟩ := q; exact ⟨ci, h1, h2.keep E, fun i f v a b => (h3 i f v a b).keep E ne⟩
  | inr o => obtain ⟨cl, h1, h2⟩ := q; exact ⟨cl, ⟨E.2.1 a cl h1.1 ne, h1.2⟩, h2⟩
theorem getD_sh {vs : List Value} {i : Nat} {x : Value} (h : vs[i]? = some x) (d : Value) : (vs.map (shV n0)).getD i d = shV n0 x := by
  rw [List.getD_eq_getElem?_getD, List.getElem?_map, h]; rfl
theorem OOk.arv {h : Heap} {a : Addr} {ty : FieldType} {vs : List Value} (q : OOk K Z n0 h a (.inr (ty, vs))) : ∃ k, Arv Z h a k ty vs.length.toInt32 (vs.map (shV n0)) (.int 0) := by
  obtain ⟨cl, A, hs, hl, hv⟩ := q
  have j := ti_ix hl
  refine ⟨cl.cls, cl, A, rfl, by rw [j.2]; exact hs, j.1, fun i hi => ?_, fun i hi => ?_⟩
  · rw [hs] at hi
    have e := List.getElem?_eq_getElem hi
    rw [getD_sh e]; exact (hv i _ e).1
  · rw [hs] at hi
    have e := List.getElem?_eq_getElem hi
    rw [getD_sh e]; exact fits_sh (hv i _ e).2
theorem us_eq {vs : List Value} {sp n : Nat} (h : sp + n ≤ vs.length) (d : Value) : ((vs.drop sp).take n).map (shV n0) = (List.range n).map fun i => (vs.map (shV n0)).getD (sp + i) d := by
  apply List.ext_getElem?
  intro i
  by_cases hi : i < n
  · rw [List.getElem?_map, List.getElem?_map, List.getElem?_take_of_lt hi, List.getElem?_drop, List.getElem?_range hi]
    have e := List.getElem?_eq_getElem (show sp + i < vs.length by omega)
    rw [e]
    show some _ = some ((vs.map (shV n0)).getD (sp + i) d)
    rw [getD_sh e]
  · rw [List.getElem?_eq_none (by simp; omega), List.getElem?_eq_none (by simp; omega)]
theorem r_acopy {a b idx : Nat} {ty : FieldType} {vs wd wd' : List Value} {sp dp nn : Int32} {spN dpN nN : Nat} (hd : decode mi.2.1 pc = .ok (.invokestatic idx, 3) ∧ pc + 3 = np) (w1 : (Jvm.Cond.methodLink mi.1.cls idx Jvm.Stand.acN).before a0 Z = true) (w2 : (Jvm.Cond.native Jvm.Stand.acN).before a0 Z = true) (w3 : (Jvm.Cond.static Jvm.Stand.acN).before a0 Z = true) (w4 : (Jvm.Cond.initialized "java/lang/System").before a0 Z = true)
    (hty : refKind ty = false) (ho : H[a]? = some (.inr (ty, vs))) (ho' : H[b]? = some (.inr (ty, wd))) (h1 : Ix sp spN) (h2 : Ix dp dpN) (h3 : Ix nn nN) (h4 : spN + nN ≤ vs.length) (h5 : dpN + nN ≤ wd.length) (hwd : wd.take dpN ++ (vs.drop spN).take nN ++ wd.drop (dpN + nN) = wd') (hH : H.set b (.inr (ty, wd')) = H1)
    (hls : ls.length = mi.2.2.1) (hf : 1 ≤ mi.2.2.2.2.1) (hlo : (st.map fun v => v.category).sum + 18 ≤ mi.2.2.2.2.2) (kk : Runs K l Z n0 mi np ls st H1 v H') : Runs K l Z n0 mi pc ls (.int nn :: .int dp :: .ref b :: .int sp :: .ref a :: st) H v H' := by
  obtain ⟨hd, rfl⟩ := hd
  obtain ⟨h1, rfl⟩ := h1
  obtain ⟨h2, rfl⟩ := h2
  obtain ⟨h3, rfl⟩ := h3
  subst hH
  have hb2 := lt_of_at ho'
  have hlen : wd'.length = wd.length := by rw [← hwd]; simp only [List.length_append, List.length_take, List.length_drop]; omega
  have es : szs K (H.set b (.inr (ty, wd'))) = szs K H := szs_set ho' hlen
  refine Runs.heap (by rw [List.length_set]; exact Nat.le_refl _) (by rw [es]; exact Nat.le_refl _) (fun p e R s m args below meth c T locs cells slots X hx hZ hc hml hown hnm hrel hfr hf' hlo' hsz hcl hsl => ?_) kk
  have qa := hrel.2 a _ ho
  have qb := hrel.2 b _ ho'
  obtain ⟨k1, A⟩ := qa.arv
  obtain ⟨k2, B⟩ := qb.arv
  obtain ⟨-, -, -, va, -⟩ := qa
  obtain ⟨-, -, -, vb, -⟩ := qb
  obtain ⟨T1, h', L1, X1, e1, F1, K1, B1, st1⟩ := cpA X hx hZ hown w1 w2 w3 w4 rfl A B (Or.inl ⟨rfl, hty⟩) h1 h2 h3 (by rw [(ti_ix va).2]; exact h4) (by rw [(ti_ix vb).2]; exact h5) (us := (((vs.drop sp.toNatClampNeg).take nn.toNatClampNeg).map (shV n0))) (us_eq h4 _) (by rw [List.length_map]; exact h5) hfr (Nat.le_add_right _ _)
    (g := mkF m pc (ls.map (shS n0)).toArray (.int nn :: .int dp :: .ref (n0 + b) :: .int sp :: .ref (n0 + a) :: st.map (shV n0))) rfl (by rw [hml, ← hls]; simp) rfl (hb hc hd) (by omega) (W := (st.map fun v => v.category).sum) (by rw [cats_sh]; show 2 * 0 + _ ≤ _; omega) (by show _ + (7 + 11) ≤ _; omega)
  have hs1 := X1.heapSize
  rw [e1] at hs1
  have hk := K1.1
  have hh := hrel.1
  refine ⟨T1, _, _, _, X1, ?_, F1, by rw [List.length_set]; exact hsz, by rw [es]; exact Nat.le_refl _, st1⟩
  rw [e1]
  refine ⟨by rw [List.length_set]; omega, fun k o hk2 => ?_⟩
  by_cases e : b = k
  · subst e
    rw [List.getElem?_set_self hb2] at hk2
    cases hk2
    obtain ⟨c', A', -, S', -, V', G'⟩ := B1
    rw [(ti_ix vb).2] at S'
    have ew : ((wd.map (shV n0)).take dp.toNatClampNeg ++ ((vs.drop sp.toNatClampNeg).take nn.toNatClampNeg).map (shV n0) ++ (wd.map (shV n0)).drop (dp.toNatClampNeg + nn.toNatClampNeg)) = wd'.map (shV n0) := by
      rw [← hwd]; simp only [List.map_append, List.map_take, List.map_drop]
    rw [ew] at V' G'
    refine ⟨c', A', by rw [S', hlen], by rw [hlen]; exact vb, fun i x hx2 => ?_⟩
    have hi := lt_of_at hx2
    have q1 := V' i (by rw [S', ← hlen]; exact hi)
    have q2 := G' i (by rw [S', ← hlen]; exact hi)
    rw [getD_sh hx2] at q1 q2
    refine ⟨q1, ?_⟩
    cases x with
    | ref y => cases ty <;> first | (simp [refKind] at hty; done) | (simp [shV, fits] at q2)
    | _ => exact q2
  · rw [List.getElem?_set_ne e] at hk2
    exact (hrel.2 k o hk2).keep K1 (fun z => e ((Nat.add_left_cancel (List.mem_singleton.mp z)).symm))
end Logic2
abbrev HW (Z : State) (a0 : Array Value) : Prop := ∀ d ∈ tables_1, d.before a0 Z = true
def K : List CI := [("com/example/acquaint/acquaint/RowCounts", 5, [("com/example/acquaint/acquaint/RowCounts", "slots", "[I", (.array .int)), ("com/example/acquaint/acquaint/RowCounts", "shift", "I", .int), ("com/example/acquaint/acquaint/RowCounts", "rows", "[I", (.array .int)), ("com/example/acquaint/acquaint/RowCounts", "counts", "[I", (.array .int)), ("com/example/acquaint/acquaint/RowCounts", "size", "I", .int)])]
theorem allL0 {α : Type} {P : α → Prop} : ∀ x ∈ ([] : List α), P x := fun _ q => nomatch q
theorem allLS {α : Type} {P : α → Prop} {y : α} {L : List α} (q : P y) (r : ∀ x ∈ L, P x) : ∀ x ∈ y :: L, P x := fun x z => (List.mem_cons.mp z).elim (fun u => u ▸ q) (r x)
theorem kok {Z : State} {a0 : Array Value} (hw : HW Z a0) : KOk K Z a0 := by
  intro k ci h
  match k, h with
  | 0, h => cases h; exact ⟨(hw _ (List.mem_of_getElem? (i := 2) rfl)), (allLS ⟨Or.inl (hw _ (List.mem_of_getElem? (i := 16) rfl)), by decide⟩ (allLS ⟨Or.inl (hw _ (List.mem_of_getElem? (i := 22) rfl)), by decide⟩ (allLS ⟨Or.inl (hw _ (List.mem_of_getElem? (i := 24) rfl)), by decide⟩ (allLS ⟨Or.inl (hw _ (List.mem_of_getElem? (i := 26) rfl)), by decide⟩ (allLS ⟨Or.inl (hw _ (List.mem_of_getElem? (i := 42) rfl)), by decide⟩ (allL0)))))), by decide⟩
  | (k + 1), h => simp [K] at h
def m0 : MI := (x, code, 17, some .boolean, 5, 71)
def m1 : MI := (⟨"com/example/acquaint/acquaint/RowCounts", "<init>", "()V"⟩, prog_58_method_1_code, 1, none, 2, 28)
def m3 : MI := (⟨"com/example/acquaint/acquaint/RowCounts", "allocate", "(I)V"⟩, prog_58_method_2_code, 2, none, 1, 15)
def m4 : MI := (⟨"java/util/Arrays", "fill", "([II)V"⟩, jdk_65_method_103_code, 4, none, 0, 0)
def m5 : MI := (⟨"com/example/acquaint/acquaint/RowCounts", "add", "(II)V"⟩, prog_58_method_3_code, 5, none, 4, 55)
def m6 : MI := (⟨"com/example/acquaint/acquaint/RowCounts", "slot", "(I)I"⟩, prog_58_method_12_code, 4, some .int, 0, 0)
def m7 : MI := (⟨"com/example/acquaint/acquaint/RowCounts", "insert", "(II)I"⟩, prog_58_method_4_code, 3, some .int, 3, 41)
def m8 : MI := (⟨"com/example/acquaint/acquaint/RowCounts", "count", "(I)I"⟩, prog_58_method_5_code, 3, some .int, 1, 16)
def m9 : MI := (⟨"com/example/acquaint/acquaint/RowCountsCountPinLaw", "hit", "(III)I"⟩, method_2_code, 3, some .int, 0, 0)
def m10 : MI := (⟨"com/example/acquaint/acquaint/Column", "grow", "(IJ)I"⟩, prog_15_method_3_code, 3, some .int, 1, 19)
def m11 : MI := (⟨"java/lang/Math", "max", "(JJ)J"⟩, jdk_29_method_66_code, 4, some .long, 0, 0)
def m12 : MI := (⟨"java/lang/Math", "min", "(JJ)J"⟩, jdk_29_method_70_code, 4, some .long, 0, 0)
def m13 : MI := (⟨"java/util/Arrays", "copyOf", "([II)[I"⟩, jdk_65_method_123_code, 3, some (.array .int), 1, 18)
def m14 : MI := (⟨"java/lang/Math", "min", "(II)I"⟩, jdk_29_method_69_code, 2, some .int, 0, 0)
def m15 : MI := (⟨"com/example/acquaint/acquaint/RowCounts", "grow", "()V"⟩, prog_58_method_11_code, 2, none, 2, 28)
theorem pd0 : parseMethodDescriptor "(IIIIII)Z" = some ⟨[.int, .int, .int, .int, .int, .int], some .boolean⟩ := by decide +kernel
theorem pf0 : plainFor m0.1 = true := by first | exact plainFor_of_name (by first | (simp [m0, x, plainName, overriddenIn]; done) | decide +kernel) | decide +kernel
theorem pd1 : parseMethodDescriptor "()V" = some ⟨[], none⟩ := by decide +kernel
theorem pf1 : plainFor m1.1 = true := by first | exact plainFor_of_name (by first | (simp [m1, x, plainName, overriddenIn]; done) | decide +kernel) | decide +kernel
theorem pd3 : parseMethodDescriptor "(I)V" = some ⟨[.int], none⟩ := by decide +kernel
theorem pf3 : plainFor m3.1 = true := by first | exact plainFor_of_name (by first | (simp [m3, x, plainName, overriddenIn]; done) | decide +kernel) | decide +kernel
theorem pd4 : parseMethodDescriptor "([II)V" = some ⟨[(.array .int), .int], none⟩ := by decide +kernel
theorem pf4 : plainFor m4.1 = true := by first | exact plainFor_of_name (by first | (simp [m4, x, plainName, overriddenIn]; done) | decide +kernel) | decide +kernel
theorem pd5 : parseMethodDescriptor "(II)V" = some ⟨[.int, .int], none⟩ := by decide +kernel
theorem pf5 : plainFor m5.1 = true := by first | exact plainFor_of_name (by first | (simp [m5, x, plainName, overriddenIn]; done) | decide +kernel) | decide +kernel
theorem pd6 : parseMethodDescriptor "(I)I" = some ⟨[.int], some .int⟩ := by decide +kernel
theorem pf6 : plainFor m6.1 = true := by first | exact plainFor_of_name (by first | (simp [m6, x, plainName, overriddenIn]; done) | decide +kernel) | decide +kernel
theorem pd7 : parseMethodDescriptor "(II)I" = some ⟨[.int, .int], some .int⟩ := by decide +kernel
theorem pf7 : plainFor m7.1 = true := by first | exact plainFor_of_name (by first | (simp [m7, x, plainName, overriddenIn]; done) | decide +kernel) | decide +kernel
theorem pd8 : parseMethodDescriptor "(I)I" = some ⟨[.int], some .int⟩ := by decide +kernel
theorem pf8 : plainFor m8.1 = true := by first | exact plainFor_of_name (by first | (simp [m8, x, plainName, overriddenIn]; done) | decide +kernel) | decide +kernel
theorem pd9 : parseMethodDescriptor "(III)I" = some ⟨[.int, .int, .int], some .int⟩ := by decide +kernel
theorem pf9 : plainFor m9.1 = true := by first | exact plainFor_of_name (by first | (simp [m9, x, plainName, overriddenIn]; done) | decide +kernel) | decide +kernel
theorem pd10 : parseMethodDescriptor "(IJ)I" = some ⟨[.int, .long], some .int⟩ := by decide +kernel
theorem pf10 : plainFor m10.1 = true := by first | exact plainFor_of_name (by first | (simp [m10, x, plainName, overriddenIn]; done) | decide +kernel) | decide +kernel
theorem pd11 : parseMethodDescriptor "(JJ)J" = some ⟨[.long, .long], some .long⟩ := by decide +kernel
theorem pf11 : plainFor m11.1 = true := by first | exact plainFor_of_name (by first | (simp [m11, x, plainName, overriddenIn]; done) | decide +kernel) | decide +kernel
theorem pd12 : parseMethodDescriptor "(JJ)J" = some ⟨[.long, .long], some .long⟩ := by decide +kernel
theorem pf12 : plainFor m12.1 = true := by first | exact plainFor_of_name (by first | (simp [m12, x, plainName, overriddenIn]; done) | decide +kernel) | decide +kernel
theorem pd13 : parseMethodDescriptor "([II)[I" = some ⟨[(.array .int), .int], some (.array .int)⟩ := by decide +kernel
theorem pf13 : plainFor m13.1 = true := by first | exact plainFor_of_name (by first | (simp [m13, x, plainName, overriddenIn]; done) | decide +kernel) | decide +kernel
theorem pd14 : parseMethodDescriptor "(II)I" = some ⟨[.int, .int], some .int⟩ := by decide +kernel
theorem pf14 : plainFor m14.1 = true := by first | exact plainFor_of_name (by first | (simp [m14, x, plainName, overriddenIn]; done) | decide +kernel) | decide +kernel
theorem pd15 : parseMethodDescriptor "()V" = some ⟨[], none⟩ := by decide +kernel
theorem pf15 : plainFor m15.1 = true := by first | exact plainFor_of_name (by first | (simp [m15, x, plainName, overriddenIn]; done) | decide +kernel) | decide +kernel
theorem i0_0 : decode m0.2.1 0 = .ok (.iload_n 0, 1) ∧ 0 + 1 = 1 := ⟨by decide +kernel, rfl⟩
theorem i0_1 : decode m0.2.1 1 = .ok (.ldc 7, 2) ∧ 1 + 2 = 3 := ⟨by decide +kernel, rfl⟩
theorem i0_3 : decode m0.2.1 3 = .ok (.iand, 1) ∧ 3 + 1 = 4 := ⟨by decide +kernel, rfl⟩
theorem i0_4 : decode m0.2.1 4 = .ok (.istore 6, 2) ∧ 4 + 2 = 6 := ⟨by decide +kernel, rfl⟩
theorem i0_6 : decode m0.2.1 6 = .ok (.iload_n 1, 1) ∧ 6 + 1 = 7 := ⟨by decide +kernel, rfl⟩
theorem i0_7 : decode m0.2.1 7 = .ok (.ldc 7, 2) ∧ 7 + 2 = 9 := ⟨by decide +kernel, rfl⟩
theorem i0_9 : decode m0.2.1 9 = .ok (.iand, 1) ∧ 9 + 1 = 10 := ⟨by decide +kernel, rfl⟩
theorem i0_10 : decode m0.2.1 10 = .ok (.istore 7, 2) ∧ 10 + 2 = 12 := ⟨by decide +kernel, rfl⟩
theorem i0_12 : decode m0.2.1 12 = .ok (.iload_n 2, 1) ∧ 12 + 1 = 13 := ⟨by decide +kernel, rfl⟩
theorem i0_13 : decode m0.2.1 13 = .ok (.ldc 7, 2) ∧ 13 + 2 = 15 := ⟨by decide +kernel, rfl⟩
theorem i0_15 : decode m0.2.1 15 = .ok (.iand, 1) ∧ 15 + 1 = 16 := ⟨by decide +kernel, rfl⟩
theorem i0_16 : decode m0.2.1 16 = .ok (.istore 8, 2) ∧ 16 + 2 = 18 := ⟨by decide +kernel, rfl⟩
theorem i0_18 : decode m0.2.1 18 = .ok (.iload_n 3, 1) ∧ 18 + 1 = 19 := ⟨by decide +kernel, rfl⟩
theorem i0_19 : decode m0.2.1 19 = .ok (.ldc 7, 2) ∧ 19 + 2 = 21 := ⟨by decide +kernel, rfl⟩
theorem i0_21 : decode m0.2.1 21 = .ok (.iand, 1) ∧ 21 + 1 = 22 := ⟨by decide +kernel, rfl⟩
theorem i0_22 : decode m0.2.1 22 = .ok (.istore 9, 2) ∧ 22 + 2 = 24 := ⟨by decide +kernel, rfl⟩
theorem i0_24 : decode m0.2.1 24 = .ok (.iload 4, 2) ∧ 24 + 2 = 26 := ⟨by decide +kernel, rfl⟩
theorem i0_26 : decode m0.2.1 26 = .ok (.ldc 7, 2) ∧ 26 + 2 = 28 := ⟨by decide +kernel, rfl⟩
theorem i0_28 : decode m0.2.1 28 = .ok (.iand, 1) ∧ 28 + 1 = 29 := ⟨by decide +kernel, rfl⟩
theorem i0_29 : decode m0.2.1 29 = .ok (.istore 10, 2) ∧ 29 + 2 = 31 := ⟨by decide +kernel, rfl⟩
theorem i0_31 : decode m0.2.1 31 = .ok (.iload 5, 2) ∧ 31 + 2 = 33 := ⟨by decide +kernel, rfl⟩
theorem i0_33 : decode m0.2.1 33 = .ok (.ifCond .ge 7, 3) ∧ 33 + 3 = 36 ∧ 0 ≤ ((33 : Nat) : Int) + 7 ∧ (((33 : Nat) : Int) + 7).toNat = 40 := ⟨by decide +kernel, rfl, by decide, by decide⟩
theorem i0_36 : decode m0.2.1 36 = .ok (.iconst (-1), 1) ∧ 36 + 1 = 37 ∧ Int32.ofInt (-1) = (-1) := ⟨by decide +kernel, rfl, by decide⟩
theorem i0_37 : decode m0.2.1 37 = .ok (.goto 5, 3) ∧ 37 + 3 = 40 ∧ 0 ≤ ((37 : Nat) : Int) + 5 ∧ (((37 : Nat) : Int) + 5).toNat = 42 := ⟨by decide +kernel, rfl, by decide, by decide⟩
theorem i0_40 : decode m0.2.1 40 = .ok (.iload 5, 2) ∧ 40 + 2 = 42 := ⟨by decide +kernel, rfl⟩
theorem i0_42 : decode m0.2.1 42 = .ok (.istore 11, 2) ∧ 42 + 2 = 44 := ⟨by decide +kernel, rfl⟩
theorem i0_44 : decode m0.2.1 44 = .ok (.new 8, 3) ∧ 44 + 3 = 47 := ⟨by decide +kernel, rfl⟩
theorem i0_47 : decode m0.2.1 47 = .ok (.dup, 1) ∧ 47 + 1 = 48 := ⟨by decide +kernel, rfl⟩
theorem i0_48 : decode m0.2.1 48 = .ok (.invokespecial 10, 3) ∧ 48 + 3 = 51 := ⟨by decide +kernel, rfl⟩
theorem i0_51 : decode m0.2.1 51 = .ok (.astore 12, 2) ∧ 51 + 2 = 53 := ⟨by decide +kernel, rfl⟩
theorem i0_53 : decode m0.2.1 53 = .ok (.aload 12, 2) ∧ 53 + 2 = 55 := ⟨by decide +kernel, rfl⟩
theorem i0_55 : decode m0.2.1 55 = .ok (.iload 6, 2) ∧ 55 + 2 = 57 := ⟨by decide +kernel, rfl⟩
theorem i0_57 : decode m0.2.1 57 = .ok (.iconst 1, 1) ∧ 57 + 1 = 58 ∧ Int32.ofInt 1 = 1 := ⟨by decide +kernel, rfl, by decide⟩
theorem i0_58 : decode m0.2.1 58 = .ok (.invokevirtual 11, 3) ∧ 58 + 3 = 61 := ⟨by decide +kernel, rfl⟩
theorem i0_61 : decode m0.2.1 61 = .ok (.aload 12, 2) ∧ 61 + 2 = 63 := ⟨by decide +kernel, rfl⟩
theorem i0_63 : decode m0.2.1 63 = .ok (.iload 7, 2) ∧ 63 + 2 = 65 := ⟨by decide +kernel, rfl⟩
theorem i0_65 : decode m0.2.1 65 = .ok (.iconst 2, 1) ∧ 65 + 1 = 66 ∧ Int32.ofInt 2 = 2 := ⟨by decide +kernel, rfl, by decide⟩
theorem i0_66 : decode m0.2.1 66 = .ok (.invokevirtual 11, 3) ∧ 66 + 3 = 69 := ⟨by decide +kernel, rfl⟩
theorem i0_69 : decode m0.2.1 69 = .ok (.aload 12, 2) ∧ 69 + 2 = 71 := ⟨by decide +kernel, rfl⟩
theorem i0_71 : decode m0.2.1 71 = .ok (.iload 8, 2) ∧ 71 + 2 = 73 := ⟨by decide +kernel, rfl⟩
theorem i0_73 : decode m0.2.1 73 = .ok (.iconst 4, 1) ∧ 73 + 1 = 74 ∧ Int32.ofInt 4 = 4 := ⟨by decide +kernel, rfl, by decide⟩
theorem i0_74 : decode m0.2.1 74 = .ok (.invokevirtual 11, 3) ∧ 74 + 3 = 77 := ⟨by decide +kernel, rfl⟩
theorem i0_77 : decode m0.2.1 77 = .ok (.aload 12, 2) ∧ 77 + 2 = 79 := ⟨by decide +kernel, rfl⟩
theorem i0_79 : decode m0.2.1 79 = .ok (.iload 9, 2) ∧ 79 + 2 = 81 := ⟨by decide +kernel, rfl⟩
theorem i0_81 : decode m0.2.1 81 = .ok (.bipush 8, 2) ∧ 81 + 2 = 83 ∧ (Int8.ofInt 8).toInt32 = 8 := ⟨by decide +kernel, rfl, by decide⟩
theorem i0_83 : decode m0.2.1 83 = .ok (.invokevirtual 11, 3) ∧ 83 + 3 = 86 := ⟨by decide +kernel, rfl⟩
theorem i0_86 : decode m0.2.1 86 = .ok (.aload 12, 2) ∧ 86 + 2 = 88 := ⟨by decide +kernel, rfl⟩
theorem i0_88 : decode m0.2.1 88 = .ok (.iload 11, 2) ∧ 88 + 2 = 90 := ⟨by decide +kernel, rfl⟩
theorem i0_90 : decode m0.2.1 90 = .ok (.invokevirtual 15, 3) ∧ 90 + 3 = 93 := ⟨by decide +kernel, rfl⟩
theorem i0_93 : decode m0.2.1 93 = .ok (.istore 13, 2) ∧ 93 + 2 = 95 := ⟨by decide +kernel, rfl⟩
theorem i0_95 : decode m0.2.1 95 = .ok (.aload 12, 2) ∧ 95 + 2 = 97 := ⟨by decide +kernel, rfl⟩
theorem i0_97 : decode m0.2.1 97 = .ok (.iload 10, 2) ∧ 97 + 2 = 99 := ⟨by decide +kernel, rfl⟩
theorem i0_99 : decode m0.2.1 99 = .ok (.bipush 16, 2) ∧ 99 + 2 = 101 ∧ (Int8.ofInt 16).toInt32 = 16 := ⟨by decide +kernel, rfl, by decide⟩
theorem i0_101 : decode m0.2.1 101 = .ok (.invokevirtual 11, 3) ∧ 101 + 3 = 104 := ⟨by decide +kernel, rfl⟩
theorem i0_104 : decode m0.2.1 104 = .ok (.aload 12, 2) ∧ 104 + 2 = 106 := ⟨by decide +kernel, rfl⟩
theorem i0_106 : decode m0.2.1 106 = .ok (.iload 11, 2) ∧ 106 + 2 = 108 := ⟨by decide +kernel, rfl⟩
theorem i0_108 : decode m0.2.1 108 = .ok (.invokevirtual 15, 3) ∧ 108 + 3 = 111 := ⟨by decide +kernel, rfl⟩
theorem i0_111 : decode m0.2.1 111 = .ok (.istore 14, 2) ∧ 111 + 2 = 113 := ⟨by decide +kernel, rfl⟩
theorem i0_113 : decode m0.2.1 113 = .ok (.iload 11, 2) ∧ 113 + 2 = 115 := ⟨by decide +kernel, rfl⟩
theorem i0_115 : decode m0.2.1 115 = .ok (.iload 6, 2) ∧ 115 + 2 = 117 := ⟨by decide +kernel, rfl⟩
theorem i0_117 : decode m0.2.1 117 = .ok (.iconst 1, 1) ∧ 117 + 1 = 118 ∧ Int32.ofInt 1 = 1 := ⟨by decide +kernel, rfl, by decide⟩
theorem i0_118 : decode m0.2.1 118 = .ok (.invokestatic 19, 3) ∧ 118 + 3 = 121 := ⟨by decide +kernel, rfl⟩
theorem i0_121 : decode m0.2.1 121 = .ok (.iload 11, 2) ∧ 121 + 2 = 123 := ⟨by decide +kernel, rfl⟩
theorem i0_123 : decode m0.2.1 123 = .ok (.iload 7, 2) ∧ 123 + 2 = 125 := ⟨by decide +kernel, rfl⟩
theorem i0_125 : decode m0.2.1 125 = .ok (.iconst 2, 1) ∧ 125 + 1 = 126 ∧ Int32.ofInt 2 = 2 := ⟨by decide +kernel, rfl, by decide⟩
theorem i0_126 : decode m0.2.1 126 = .ok (.invokestatic 19, 3) ∧ 126 + 3 = 129 := ⟨by decide +kernel, rfl⟩
theorem i0_129 : decode m0.2.1 129 = .ok (.iadd, 1) ∧ 129 + 1 = 130 := ⟨by decide +kernel, rfl⟩
theorem i0_130 : decode m0.2.1 130 = .ok (.iload 11, 2) ∧ 130 + 2 = 132 := ⟨by decide +kernel, rfl⟩
theorem i0_132 : decode m0.2.1 132 = .ok (.iload 8, 2) ∧ 132 + 2 = 134 := ⟨by decide +kernel, rfl⟩
theorem i0_134 : decode m0.2.1 134 = .ok (.iconst 4, 1) ∧ 134 + 1 = 135 ∧ Int32.ofInt 4 = 4 := ⟨by decide +kernel, rfl, by decide⟩
theorem i0_135 : decode m0.2.1 135 = .ok (.invokestatic 19, 3) ∧ 135 + 3 = 138 := ⟨by decide +kernel, rfl⟩
theorem i0_138 : decode m0.2.1 138 = .ok (.iadd, 1) ∧ 138 + 1 = 139 := ⟨by decide +kernel, rfl⟩
theorem i0_139 : decode m0.2.1 139 = .ok (.iload 11, 2) ∧ 139 + 2 = 141 := ⟨by decide +kernel, rfl⟩
theorem i0_141 : decode m0.2.1 141 = .ok (.iload 9, 2) ∧ 141 + 2 = 143 := ⟨by decide +kernel, rfl⟩
theorem i0_143 : decode m0.2.1 143 = .ok (.bipush 8, 2) ∧ 143 + 2 = 145 ∧ (Int8.ofInt 8).toInt32 = 8 := ⟨by decide +kernel, rfl, by decide⟩
theorem i0_145 : decode m0.2.1 145 = .ok (.invokestatic 19, 3) ∧ 145 + 3 = 148 := ⟨by decide +kernel, rfl⟩
theorem i0_148 : decode m0.2.1 148 = .ok (.iadd, 1) ∧ 148 + 1 = 149 := ⟨by decide +kernel, rfl⟩
theorem i0_149 : decode m0.2.1 149 = .ok (.istore 15, 2) ∧ 149 + 2 = 151 := ⟨by decide +kernel, rfl⟩
theorem i0_151 : decode m0.2.1 151 = .ok (.iload 15, 2) ∧ 151 + 2 = 153 := ⟨by decide +kernel, rfl⟩
theorem i0_153 : decode m0.2.1 153 = .ok (.iload 11, 2) ∧ 153 + 2 = 155 := ⟨by decide +kernel, rfl⟩
theorem i0_155 : decode m0.2.1 155 = .ok (.iload 10, 2) ∧ 155 + 2 = 157 := ⟨by decide +kernel, rfl⟩
theorem i0_157 : decode m0.2.1 157 = .ok (.bipush 16, 2) ∧ 157 + 2 = 159 ∧ (Int8.ofInt 16).toInt32 = 16 := ⟨by decide +kernel, rfl, by decide⟩
theorem i0_159 : decode m0.2.1 159 = .ok (.invokestatic 19, 3) ∧ 159 + 3 = 162 := ⟨by decide +kernel, rfl⟩
theorem i0_162 : decode m0.2.1 162 = .ok (.iadd, 1) ∧ 162 + 1 = 163 := ⟨by decide +kernel, rfl⟩
theorem i0_163 : decode m0.2.1 163 = .ok (.istore 16, 2) ∧ 163 + 2 = 165 := ⟨by decide +kernel, rfl⟩
theorem i0_165 : decode m0.2.1 165 = .ok (.iload 13, 2) ∧ 165 + 2 = 167 := ⟨by decide +kernel, rfl⟩
theorem i0_167 : decode m0.2.1 167 = .ok (.iload 15, 2) ∧ 167 + 2 = 169 := ⟨by decide +kernel, rfl⟩
theorem i0_169 : decode m0.2.1 169 = .ok (.if_icmp .ne 14, 3) ∧ 169 + 3 = 172 ∧ 0 ≤ ((169 : Nat) : Int) + 14 ∧ (((169 : Nat) : Int) + 14).toNat = 183 := ⟨by decide +kernel, rfl, by decide, by decide⟩
theorem i0_172 : decode m0.2.1 172 = .ok (.iload 14, 2) ∧ 172 + 2 = 174 := ⟨by decide +kernel, rfl⟩
theorem i0_174 : decode m0.2.1 174 = .ok (.iload 16, 2) ∧ 174 + 2 = 176 := ⟨by decide +kernel, rfl⟩
theorem i0_176 : decode m0.2.1 176 = .ok (.if_icmp .ne 7, 3) ∧ 176 + 3 = 179 ∧ 0 ≤ ((176 : Nat) : Int) + 7 ∧ (((176 : Nat) : Int) + 7).toNat = 183 := ⟨by decide +kernel, rfl, by decide, by decide⟩
theorem i0_179 : decode m0.2.1 179 = .ok (.iconst 1, 1) ∧ 179 + 1 = 180 ∧ Int32.ofInt 1 = 1 := ⟨by decide +kernel, rfl, by decide⟩
theorem i0_180 : decode m0.2.1 180 = .ok (.goto 4, 3) ∧ 180 + 3 = 183 ∧ 0 ≤ ((180 : Nat) : Int) + 4 ∧ (((180 : Nat) : Int) + 4).toNat = 184 := ⟨by decide +kernel, rfl, by decide, by decide⟩
theorem i0_183 : decode m0.2.1 183 = .ok (.iconst 0, 1) ∧ 183 + 1 = 184 ∧ Int32.ofInt 0 = 0 := ⟨by decide +kernel, rfl, by decide⟩
theorem i0_184 : decode m0.2.1 184 = .ok (.ireturn, 1) := by decide +kernel
theorem i1_0 : decode m1.2.1 0 = .ok (.aload_n 0, 1) ∧ 0 + 1 = 1 := ⟨by decide +kernel, rfl⟩
theorem i1_1 : decode m1.2.1 1 = .ok (.invokespecial 1, 3) ∧ 1 + 3 = 4 := ⟨by decide +kernel, rfl⟩
theorem i1_4 : decode m1.2.1 4 = .ok (.aload_n 0, 1) ∧ 4 + 1 = 5 := ⟨by decide +kernel, rfl⟩
theorem i1_5 : decode m1.2.1 5 = .ok (.iconst 3, 1) ∧ 5 + 1 = 6 ∧ Int32.ofInt 3 = 3 := ⟨by decide +kernel, rfl, by decide⟩
theorem i1_6 : decode m1.2.1 6 = .ok (.invokevirtual 9, 3) ∧ 6 + 3 = 9 := ⟨by decide +kernel, rfl⟩
theorem i1_9 : decode m1.2.1 9 = .ok (.aload_n 0, 1) ∧ 9 + 1 = 10 := ⟨by decide +kernel, rfl⟩
theorem i1_10 : decode m1.2.1 10 = .ok (.aload_n 0, 1) ∧ 10 + 1 = 11 := ⟨by decide +kernel, rfl⟩
theorem i1_11 : decode m1.2.1 11 = .ok (.getfield 13, 3) ∧ 11 + 3 = 14 := ⟨by decide +kernel, rfl⟩
theorem i1_14 : decode m1.2.1 14 = .ok (.arraylength, 1) ∧ 14 + 1 = 15 := ⟨by decide +kernel, rfl⟩
theorem i1_15 : decode m1.2.1 15 = .ok (.iconst 2, 1) ∧ 15 + 1 = 16 ∧ Int32.ofInt 2 = 2 := ⟨by decide +kernel, rfl, by decide⟩
theorem i1_16 : decode m1.2.1 16 = .ok (.idiv, 1) ∧ 16 + 1 = 17 := ⟨by decide +kernel, rfl⟩
theorem i1_17 : decode m1.2.1 17 = .ok (.newarray .int, 2) ∧ 17 + 2 = 19 := ⟨by decide +kernel, rfl⟩
theorem i1_19 : decode m1.2.1 19 = .ok (.putfield 17, 3) ∧ 19 + 3 = 22 := ⟨by decide +kernel, rfl⟩
theorem i1_22 : decode m1.2.1 22 = .ok (.aload_n 0, 1) ∧ 22 + 1 = 23 := ⟨by decide +kernel, rfl⟩
theorem i1_23 : decode m1.2.1 23 = .ok (.aload_n 0, 1) ∧ 23 + 1 = 24 := ⟨by decide +kernel, rfl⟩
theorem i1_24 : decode m1.2.1 24 = .ok (.getfield 13, 3) ∧ 24 + 3 = 27 := ⟨by decide +kernel, rfl⟩
theorem i1_27 : decode m1.2.1 27 = .ok (.arraylength, 1) ∧ 27 + 1 = 28 := ⟨by decide +kernel, rfl⟩
theorem i1_28 : decode m1.2.1 28 = .ok (.iconst 2, 1) ∧ 28 + 1 = 29 ∧ Int32.ofInt 2 = 2 := ⟨by decide +kernel, rfl, by decide⟩
theorem i1_29 : decode m1.2.1 29 = .ok (.idiv, 1) ∧ 29 + 1 = 30 := ⟨by decide +kernel, rfl⟩
theorem i1_30 : decode m1.2.1 30 = .ok (.newarray .int, 2) ∧ 30 + 2 = 32 := ⟨by decide +kernel, rfl⟩
theorem i1_32 : decode m1.2.1 32 = .ok (.putfield 20, 3) ∧ 32 + 3 = 35 := ⟨by decide +kernel, rfl⟩
theorem i1_35 : decode m1.2.1 35 = .ok (.return_, 1) := by decide +kernel
theorem i3_0 : decode m3.2.1 0 = .ok (.aload_n 0, 1) ∧ 0 + 1 = 1 := ⟨by decide +kernel, rfl⟩
theorem i3_1 : decode m3.2.1 1 = .ok (.iconst 1, 1) ∧ 1 + 1 = 2 ∧ Int32.ofInt 1 = 1 := ⟨by decide +kernel, rfl, by decide⟩
theorem i3_2 : decode m3.2.1 2 = .ok (.iload_n 1, 1) ∧ 2 + 1 = 3 := ⟨by decide +kernel, rfl⟩
theorem i3_3 : decode m3.2.1 3 = .ok (.ishl, 1) ∧ 3 + 1 = 4 := ⟨by decide +kernel, rfl⟩
theorem i3_4 : decode m3.2.1 4 = .ok (.newarray .int, 2) ∧ 4 + 2 = 6 := ⟨by decide +kernel, rfl⟩
theorem i3_6 : decode m3.2.1 6 = .ok (.putfield 13, 3) ∧ 6 + 3 = 9 := ⟨by decide +kernel, rfl⟩
theorem i3_9 : decode m3.2.1 9 = .ok (.aload_n 0, 1) ∧ 9 + 1 = 10 := ⟨by decide +kernel, rfl⟩
theorem i3_10 : decode m3.2.1 10 = .ok (.getfield 13, 3) ∧ 10 + 3 = 13 := ⟨by decide +kernel, rfl⟩
theorem i3_13 : decode m3.2.1 13 = .ok (.iconst (-1), 1) ∧ 13 + 1 = 14 ∧ Int32.ofInt (-1) = (-1) := ⟨by decide +kernel, rfl, by decide⟩
theorem i3_14 : decode m3.2.1 14 = .ok (.invokestatic 23, 3) ∧ 14 + 3 = 17 := ⟨by decide +kernel, rfl⟩
theorem i3_17 : decode m3.2.1 17 = .ok (.aload_n 0, 1) ∧ 17 + 1 = 18 := ⟨by decide +kernel, rfl⟩
theorem i3_18 : decode m3.2.1 18 = .ok (.bipush 32, 2) ∧ 18 + 2 = 20 ∧ (Int8.ofInt 32).toInt32 = 32 := ⟨by decide +kernel, rfl, by decide⟩
theorem i3_20 : decode m3.2.1 20 = .ok (.iload_n 1, 1) ∧ 20 + 1 = 21 := ⟨by decide +kernel, rfl⟩
theorem i3_21 : decode m3.2.1 21 = .ok (.isub, 1) ∧ 21 + 1 = 22 := ⟨by decide +kernel, rfl⟩
theorem i3_22 : decode m3.2.1 22 = .ok (.putfield 31, 3) ∧ 22 + 3 = 25 := ⟨by decide +kernel, rfl⟩
theorem i3_25 : decode m3.2.1 25 = .ok (.return_, 1) := by decide +kernel
theorem i4_0 : decode m4.2.1 0 = .ok (.iconst 0, 1) ∧ 0 + 1 = 1 ∧ Int32.ofInt 0 = 0 := ⟨by decide +kernel, rfl, by decide⟩
theorem i4_1 : decode m4.2.1 1 = .ok (.istore_n 2, 1) ∧ 1 + 1 = 2 := ⟨by decide +kernel, rfl⟩
theorem i4_2 : decode m4.2.1 2 = .ok (.aload_n 0, 1) ∧ 2 + 1 = 3 := ⟨by decide +kernel, rfl⟩
theorem i4_3 : decode m4.2.1 3 = .ok (.arraylength, 1) ∧ 3 + 1 = 4 := ⟨by decide +kernel, rfl⟩
theorem i4_4 : decode m4.2.1 4 = .ok (.istore_n 3, 1) ∧ 4 + 1 = 5 := ⟨by decide +kernel, rfl⟩
theorem i4_5 : decode m4.2.1 5 = .ok (.iload_n 2, 1) ∧ 5 + 1 = 6 := ⟨by decide +kernel, rfl⟩
theorem i4_6 : decode m4.2.1 6 = .ok (.iload_n 3, 1) ∧ 6 + 1 = 7 := ⟨by decide +kernel, rfl⟩
theorem i4_7 : decode m4.2.1 7 = .ok (.if_icmp .ge 13, 3) ∧ 7 + 3 = 10 ∧ 0 ≤ ((7 : Nat) : Int) + 13 ∧ (((7 : Nat) : Int) + 13).toNat = 20 := ⟨by decide +kernel, rfl, by decide, by decide⟩
theorem i4_10 : decode m4.2.1 10 = .ok (.aload_n 0, 1) ∧ 10 + 1 = 11 := ⟨by decide +kernel, rfl⟩
theorem i4_11 : decode m4.2.1 11 = .ok (.iload_n 2, 1) ∧ 11 + 1 = 12 := ⟨by decide +kernel, rfl⟩
theorem i4_12 : decode m4.2.1 12 = .ok (.iload_n 1, 1) ∧ 12 + 1 = 13 := ⟨by decide +kernel, rfl⟩
theorem i4_13 : decode m4.2.1 13 = .ok (.iastore, 1) ∧ 13 + 1 = 14 := ⟨by decide +kernel, rfl⟩
theorem i4_14 : decode m4.2.1 14 = .ok (.iinc 2 1, 3) ∧ 14 + 3 = 17 ∧ Int32.ofInt 1 = 1 := ⟨by decide +kernel, rfl, by decide⟩
theorem i4_17 : decode m4.2.1 17 = .ok (.goto (-12), 3) ∧ 17 + 3 = 20 ∧ 0 ≤ ((17 : Nat) : Int) + (-12) ∧ (((17 : Nat) : Int) + (-12)).toNat = 5 := ⟨by decide +kernel, rfl, by decide, by decide⟩
theorem i4_20 : decode m4.2.1 20 = .ok (.return_, 1) := by decide +kernel
theorem i5_0 : decode m5.2.1 0 = .ok (.aload_n 0, 1) ∧ 0 + 1 = 1 := ⟨by decide +kernel, rfl⟩
theorem i5_1 : decode m5.2.1 1 = .ok (.iload_n 1, 1) ∧ 1 + 1 = 2 := ⟨by decide +kernel, rfl⟩
theorem i5_2 : decode m5.2.1 2 = .ok (.invokevirtual 35, 3) ∧ 2 + 3 = 5 := ⟨by decide +kernel, rfl⟩
theorem i5_5 : decode m5.2.1 5 = .ok (.istore_n 3, 1) ∧ 5 + 1 = 6 := ⟨by decide +kernel, rfl⟩
theorem i5_6 : decode m5.2.1 6 = .ok (.aload_n 0, 1) ∧ 6 + 1 = 7 := ⟨by decide +kernel, rfl⟩
theorem i5_7 : decode m5.2.1 7 = .ok (.getfield 13, 3) ∧ 7 + 3 = 10 := ⟨by decide +kernel, rfl⟩
theorem i5_10 : decode m5.2.1 10 = .ok (.iload_n 3, 1) ∧ 10 + 1 = 11 := ⟨by decide +kernel, rfl⟩
theorem i5_11 : decode m5.2.1 11 = .ok (.iaload, 1) ∧ 11 + 1 = 12 := ⟨by decide +kernel, rfl⟩
theorem i5_12 : decode m5.2.1 12 = .ok (.istore 4, 2) ∧ 12 + 2 = 14 := ⟨by decide +kernel, rfl⟩
theorem i5_14 : decode m5.2.1 14 = .ok (.iload 4, 2) ∧ 14 + 2 = 16 := ⟨by decide +kernel, rfl⟩
theorem i5_16 : decode m5.2.1 16 = .ok (.iconst (-1), 1) ∧ 16 + 1 = 17 ∧ Int32.ofInt (-1) = (-1) := ⟨by decide +kernel, rfl, by decide⟩
theorem i5_17 : decode m5.2.1 17 = .ok (.if_icmp .ne 11, 3) ∧ 17 + 3 = 20 ∧ 0 ≤ ((17 : Nat) : Int) + 11 ∧ (((17 : Nat) : Int) + 11).toNat = 28 := ⟨by decide +kernel, rfl, by decide, by decide⟩
theorem i5_20 : decode m5.2.1 20 = .ok (.aload_n 0, 1) ∧ 20 + 1 = 21 := ⟨by decide +kernel, rfl⟩
theorem i5_21 : decode m5.2.1 21 = .ok (.iload_n 1, 1) ∧ 21 + 1 = 22 := ⟨by decide +kernel, rfl⟩
theorem i5_22 : decode m5.2.1 22 = .ok (.iload_n 3, 1) ∧ 22 + 1 = 23 := ⟨by decide +kernel, rfl⟩
theorem i5_23 : decode m5.2.1 23 = .ok (.invokevirtual 39, 3) ∧ 23 + 3 = 26 := ⟨by decide +kernel, rfl⟩
theorem i5_26 : decode m5.2.1 26 = .ok (.istore 4, 2) ∧ 26 + 2 = 28 := ⟨by decide +kernel, rfl⟩
theorem i5_28 : decode m5.2.1 28 = .ok (.aload_n 0, 1) ∧ 28 + 1 = 29 := ⟨by decide +kernel, rfl⟩
theorem i5_29 : decode m5.2.1 29 = .ok (.getfield 20, 3) ∧ 29 + 3 = 32 := ⟨by decide +kernel, rfl⟩
theorem i5_32 : decode m5.2.1 32 = .ok (.iload 4, 2) ∧ 32 + 2 = 34 := ⟨by decide +kernel, rfl⟩
theorem i5_34 : decode m5.2.1 34 = .ok (.dup2, 1) ∧ 34 + 1 = 35 := ⟨by decide +kernel, rfl⟩
theorem i5_35 : decode m5.2.1 35 = .ok (.iaload, 1) ∧ 35 + 1 = 36 := ⟨by decide +kernel, rfl⟩
theorem i5_36 : decode m5.2.1 36 = .ok (.iload_n 2, 1) ∧ 36 + 1 = 37 := ⟨by decide +kernel, rfl⟩
theorem i5_37 : decode m5.2.1 37 = .ok (.iadd, 1) ∧ 37 + 1 = 38 := ⟨by decide +kernel, rfl⟩
theorem i5_38 : decode m5.2.1 38 = .ok (.iastore, 1) ∧ 38 + 1 = 39 := ⟨by decide +kernel, rfl⟩
theorem i5_39 : decode m5.2.1 39 = .ok (.return_, 1) := by decide +kernel
theorem i6_0 : decode m6.2.1 0 = .ok (.aload_n 0, 1) ∧ 0 + 1 = 1 := ⟨by decide +kernel, rfl⟩
theorem i6_1 : decode m6.2.1 1 = .ok (.getfield 13, 3) ∧ 1 + 3 = 4 := ⟨by decide +kernel, rfl⟩
theorem i6_4 : decode m6.2.1 4 = .ok (.arraylength, 1) ∧ 4 + 1 = 5 := ⟨by decide +kernel, rfl⟩
theorem i6_5 : decode m6.2.1 5 = .ok (.iconst 1, 1) ∧ 5 + 1 = 6 ∧ Int32.ofInt 1 = 1 := ⟨by decide +kernel, rfl, by decide⟩
theorem i6_6 : decode m6.2.1 6 = .ok (.isub, 1) ∧ 6 + 1 = 7 := ⟨by decide +kernel, rfl⟩
theorem i6_7 : decode m6.2.1 7 = .ok (.istore_n 2, 1) ∧ 7 + 1 = 8 := ⟨by decide +kernel, rfl⟩
theorem i6_8 : decode m6.2.1 8 = .ok (.iload_n 1, 1) ∧ 8 + 1 = 9 := ⟨by decide +kernel, rfl⟩
theorem i6_9 : decode m6.2.1 9 = .ok (.ldc 60, 2) ∧ 9 + 2 = 11 := ⟨by decide +kernel, rfl⟩
theorem i6_11 : decode m6.2.1 11 = .ok (.imul, 1) ∧ 11 + 1 = 12 := ⟨by decide +kernel, rfl⟩
theorem i6_12 : decode m6.2.1 12 = .ok (.aload_n 0, 1) ∧ 12 + 1 = 13 := ⟨by decide +kernel, rfl⟩
theorem i6_13 : decode m6.2.1 13 = .ok (.getfield 31, 3) ∧ 13 + 3 = 16 := ⟨by decide +kernel, rfl⟩
theorem i6_16 : decode m6.2.1 16 = .ok (.iushr, 1) ∧ 16 + 1 = 17 := ⟨by decide +kernel, rfl⟩
theorem i6_17 : decode m6.2.1 17 = .ok (.istore_n 3, 1) ∧ 17 + 1 = 18 := ⟨by decide +kernel, rfl⟩
theorem i6_18 : decode m6.2.1 18 = .ok (.aload_n 0, 1) ∧ 18 + 1 = 19 := ⟨by decide +kernel, rfl⟩
theorem i6_19 : decode m6.2.1 19 = .ok (.getfield 13, 3) ∧ 19 + 3 = 22 := ⟨by decide +kernel, rfl⟩
theorem i6_22 : decode m6.2.1 22 = .ok (.iload_n 3, 1) ∧ 22 + 1 = 23 := ⟨by decide +kernel, rfl⟩
theorem i6_23 : decode m6.2.1 23 = .ok (.iaload, 1) ∧ 23 + 1 = 24 := ⟨by decide +kernel, rfl⟩
theorem i6_24 : decode m6.2.1 24 = .ok (.iconst (-1), 1) ∧ 24 + 1 = 25 ∧ Int32.ofInt (-1) = (-1) := ⟨by decide +kernel, rfl, by decide⟩
theorem i6_25 : decode m6.2.1 25 = .ok (.if_icmp .eq 27, 3) ∧ 25 + 3 = 28 ∧ 0 ≤ ((25 : Nat) : Int) + 27 ∧ (((25 : Nat) : Int) + 27).toNat = 52 := ⟨by decide +kernel, rfl, by decide, by decide⟩
theorem i6_28 : decode m6.2.1 28 = .ok (.aload_n 0, 1) ∧ 28 + 1 = 29 := ⟨by decide +kernel, rfl⟩
theorem i6_29 : decode m6.2.1 29 = .ok (.getfield 17, 3) ∧ 29 + 3 = 32 := ⟨by decide +kernel, rfl⟩
theorem i6_32 : decode m6.2.1 32 = .ok (.aload_n 0, 1) ∧ 32 + 1 = 33 := ⟨by decide +kernel, rfl⟩
theorem i6_33 : decode m6.2.1 33 = .ok (.getfield 13, 3) ∧ 33 + 3 = 36 := ⟨by decide +kernel, rfl⟩
theorem i6_36 : decode m6.2.1 36 = .ok (.iload_n 3, 1) ∧ 36 + 1 = 37 := ⟨by decide +kernel, rfl⟩
theorem i6_37 : decode m6.2.1 37 = .ok (.iaload, 1) ∧ 37 + 1 = 38 := ⟨by decide +kernel, rfl⟩
theorem i6_38 : decode m6.2.1 38 = .ok (.iaload, 1) ∧ 38 + 1 = 39 := ⟨by decide +kernel, rfl⟩
theorem i6_39 : decode m6.2.1 39 = .ok (.iload_n 1, 1) ∧ 39 + 1 = 40 := ⟨by decide +kernel, rfl⟩
theorem i6_40 : decode m6.2.1 40 = .ok (.if_icmp .eq 12, 3) ∧ 40 + 3 = 43 ∧ 0 ≤ ((40 : Nat) : Int) + 12 ∧ (((40 : Nat) : Int) + 12).toNat = 52 := ⟨by decide +kernel, rfl, by decide, by decide⟩
theorem i6_43 : decode m6.2.1 43 = .ok (.iload_n 3, 1) ∧ 43 + 1 = 44 := ⟨by decide +kernel, rfl⟩
theorem i6_44 : decode m6.2.1 44 = .ok (.iconst 1, 1) ∧ 44 + 1 = 45 ∧ Int32.ofInt 1 = 1 := ⟨by decide +kernel, rfl, by decide⟩
theorem i6_45 : decode m6.2.1 45 = .ok (.iadd, 1) ∧ 45 + 1 = 46 := ⟨by decide +kernel, rfl⟩
theorem i6_46 : decode m6.2.1 46 = .ok (.iload_n 2, 1) ∧ 46 + 1 = 47 := ⟨by decide +kernel, rfl⟩
theorem i6_47 : decode m6.2.1 47 = .ok (.iand, 1) ∧ 47 + 1 = 48 := ⟨by decide +kernel, rfl⟩
theorem i6_48 : decode m6.2.1 48 = .ok (.istore_n 3, 1) ∧ 48 + 1 = 49 := ⟨by decide +kernel, rfl⟩
theorem i6_49 : decode m6.2.1 49 = .ok (.goto (-31), 3) ∧ 49 + 3 = 52 ∧ 0 ≤ ((49 : Nat) : Int) + (-31) ∧ (((49 : Nat) : Int) + (-31)).toNat = 18 := ⟨by decide +kernel, rfl, by decide, by decide⟩
theorem i6_52 : decode m6.2.1 52 = .ok (.iload_n 3, 1) ∧ 52 + 1 = 53 := ⟨by decide +kernel, rfl⟩
theorem i6_53 : decode m6.2.1 53 = .ok (.ireturn, 1) := by decide +kernel
theorem i7_0 : decode m7.2.1 0 = .ok (.aload_n 0, 1) ∧ 0 + 1 = 1 := ⟨by decide +kernel, rfl⟩
theorem i7_1 : decode m7.2.1 1 = .ok (.getfield 43, 3) ∧ 1 + 3 = 4 := ⟨by decide +kernel, rfl⟩
theorem i7_4 : decode m7.2.1 4 = .ok (.aload_n 0, 1) ∧ 4 + 1 = 5 := ⟨by decide +kernel, rfl⟩
theorem i7_5 : decode m7.2.1 5 = .ok (.getfield 17, 3) ∧ 5 + 3 = 8 := ⟨by decide +kernel, rfl⟩
theorem i7_8 : decode m7.2.1 8 = .ok (.arraylength, 1) ∧ 8 + 1 = 9 := ⟨by decide +kernel, rfl⟩
theorem i7_9 : decode m7.2.1 9 = .ok (.if_icmp .ne 45, 3) ∧ 9 + 3 = 12 ∧ 0 ≤ ((9 : Nat) : Int) + 45 ∧ (((9 : Nat) : Int) + 45).toNat = 54 := ⟨by decide +kernel, rfl, by decide, by decide⟩
theorem i7_12 : decode m7.2.1 12 = .ok (.aload_n 0, 1) ∧ 12 + 1 = 13 := ⟨by decide +kernel, rfl⟩
theorem i7_13 : decode m7.2.1 13 = .ok (.aload_n 0, 1) ∧ 13 + 1 = 14 := ⟨by decide +kernel, rfl⟩
theorem i7_14 : decode m7.2.1 14 = .ok (.getfield 17, 3) ∧ 14 + 3 = 17 := ⟨by decide +kernel, rfl⟩
theorem i7_17 : decode m7.2.1 17 = .ok (.aload_n 0, 1) ∧ 17 + 1 = 18 := ⟨by decide +kernel, rfl⟩
theorem i7_18 : decode m7.2.1 18 = .ok (.getfield 17, 3) ∧ 18 + 3 = 21 := ⟨by decide +kernel, rfl⟩
theorem i7_21 : decode m7.2.1 21 = .ok (.arraylength, 1) ∧ 21 + 1 = 22 := ⟨by decide +kernel, rfl⟩
theorem i7_22 : decode m7.2.1 22 = .ok (.aload_n 0, 1) ∧ 22 + 1 = 23 := ⟨by decide +kernel, rfl⟩
theorem i7_23 : decode m7.2.1 23 = .ok (.getfield 43, 3) ∧ 23 + 3 = 26 := ⟨by decide +kernel, rfl⟩
theorem i7_26 : decode m7.2.1 26 = .ok (.i2l, 1) ∧ 26 + 1 = 27 := ⟨by decide +kernel, rfl⟩
theorem i7_27 : decode m7.2.1 27 = .ok (.lconst 1, 1) ∧ 27 + 1 = 28 ∧ Int64.ofNat ((1 : Fin 2) : Nat) = 1 := ⟨by decide +kernel, rfl, by decide⟩
theorem i7_28 : decode m7.2.1 28 = .ok (.ladd, 1) ∧ 28 + 1 = 29 := ⟨by decide +kernel, rfl⟩
theorem i7_29 : decode m7.2.1 29 = .ok (.invokestatic 46, 3) ∧ 29 + 3 = 32 := ⟨by decide +kernel, rfl⟩
theorem i7_32 : decode m7.2.1 32 = .ok (.invokestatic 52, 3) ∧ 32 + 3 = 35 := ⟨by decide +kernel, rfl⟩
theorem i7_35 : decode m7.2.1 35 = .ok (.putfield 17, 3) ∧ 35 + 3 = 38 := ⟨by decide +kernel, rfl⟩
theorem i7_38 : decode m7.2.1 38 = .ok (.aload_n 0, 1) ∧ 38 + 1 = 39 := ⟨by decide +kernel, rfl⟩
theorem i7_39 : decode m7.2.1 39 = .ok (.aload_n 0, 1) ∧ 39 + 1 = 40 := ⟨by decide +kernel, rfl⟩
theorem i7_40 : decode m7.2.1 40 = .ok (.getfield 20, 3) ∧ 40 + 3 = 43 := ⟨by decide +kernel, rfl⟩
theorem i7_43 : decode m7.2.1 43 = .ok (.aload_n 0, 1) ∧ 43 + 1 = 44 := ⟨by decide +kernel, rfl⟩
theorem i7_44 : decode m7.2.1 44 = .ok (.getfield 17, 3) ∧ 44 + 3 = 47 := ⟨by decide +kernel, rfl⟩
theorem i7_47 : decode m7.2.1 47 = .ok (.arraylength, 1) ∧ 47 + 1 = 48 := ⟨by decide +kernel, rfl⟩
theorem i7_48 : decode m7.2.1 48 = .ok (.invokestatic 52, 3) ∧ 48 + 3 = 51 := ⟨by decide +kernel, rfl⟩
theorem i7_51 : decode m7.2.1 51 = .ok (.putfield 20, 3) ∧ 51 + 3 = 54 := ⟨by decide +kernel, rfl⟩
theorem i7_54 : decode m7.2.1 54 = .ok (.aload_n 0, 1) ∧ 54 + 1 = 55 := ⟨by decide +kernel, rfl⟩
theorem i7_55 : decode m7.2.1 55 = .ok (.getfield 17, 3) ∧ 55 + 3 = 58 := ⟨by decide +kernel, rfl⟩
theorem i7_58 : decode m7.2.1 58 = .ok (.aload_n 0, 1) ∧ 58 + 1 = 59 := ⟨by decide +kernel, rfl⟩
theorem i7_59 : decode m7.2.1 59 = .ok (.getfield 43, 3) ∧ 59 + 3 = 62 := ⟨by decide +kernel, rfl⟩
theorem i7_62 : decode m7.2.1 62 = .ok (.iload_n 1, 1) ∧ 62 + 1 = 63 := ⟨by decide +kernel, rfl⟩
theorem i7_63 : decode m7.2.1 63 = .ok (.iastore, 1) ∧ 63 + 1 = 64 := ⟨by decide +kernel, rfl⟩
theorem i7_64 : decode m7.2.1 64 = .ok (.aload_n 0, 1) ∧ 64 + 1 = 65 := ⟨by decide +kernel, rfl⟩
theorem i7_65 : decode m7.2.1 65 = .ok (.getfield 20, 3) ∧ 65 + 3 = 68 := ⟨by decide +kernel, rfl⟩
theorem i7_68 : decode m7.2.1 68 = .ok (.aload_n 0, 1) ∧ 68 + 1 = 69 := ⟨by decide +kernel, rfl⟩
theorem i7_69 : decode m7.2.1 69 = .ok (.getfield 43, 3) ∧ 69 + 3 = 72 := ⟨by decide +kernel, rfl⟩
theorem i7_72 : decode m7.2.1 72 = .ok (.iconst 0, 1) ∧ 72 + 1 = 73 ∧ Int32.ofInt 0 = 0 := ⟨by decide +kernel, rfl, by decide⟩
theorem i7_73 : decode m7.2.1 73 = .ok (.iastore, 1) ∧ 73 + 1 = 74 := ⟨by decide +kernel, rfl⟩
theorem i7_74 : decode m7.2.1 74 = .ok (.aload_n 0, 1) ∧ 74 + 1 = 75 := ⟨by decide +kernel, rfl⟩
theorem i7_75 : decode m7.2.1 75 = .ok (.getfield 13, 3) ∧ 75 + 3 = 78 := ⟨by decide +kernel, rfl⟩
theorem i7_78 : decode m7.2.1 78 = .ok (.iload_n 2, 1) ∧ 78 + 1 = 79 := ⟨by decide +kernel, rfl⟩
theorem i7_79 : decode m7.2.1 79 = .ok (.aload_n 0, 1) ∧ 79 + 1 = 80 := ⟨by decide +kernel, rfl⟩
theorem i7_80 : decode m7.2.1 80 = .ok (.dup, 1) ∧ 80 + 1 = 81 := ⟨by decide +kernel, rfl⟩
theorem i7_81 : decode m7.2.1 81 = .ok (.getfield 43, 3) ∧ 81 + 3 = 84 := ⟨by decide +kernel, rfl⟩
theorem i7_84 : decode m7.2.1 84 = .ok (.dup_x1, 1) ∧ 84 + 1 = 85 := ⟨by decide +kernel, rfl⟩
theorem i7_85 : decode m7.2.1 85 = .ok (.iconst 1, 1) ∧ 85 + 1 = 86 ∧ Int32.ofInt 1 = 1 := ⟨by decide +kernel, rfl, by decide⟩
theorem i7_86 : decode m7.2.1 86 = .ok (.iadd, 1) ∧ 86 + 1 = 87 := ⟨by decide +kernel, rfl⟩
theorem i7_87 : decode m7.2.1 87 = .ok (.putfield 43, 3) ∧ 87 + 3 = 90 := ⟨by decide +kernel, rfl⟩
theorem i7_90 : decode m7.2.1 90 = .ok (.iastore, 1) ∧ 90 + 1 = 91 := ⟨by decide +kernel, rfl⟩
theorem i7_91 : decode m7.2.1 91 = .ok (.ldc2_w 56, 3) ∧ 91 + 3 = 94 := ⟨by decide +kernel, rfl⟩
theorem i7_94 : decode m7.2.1 94 = .ok (.aload_n 0, 1) ∧ 94 + 1 = 95 := ⟨by decide +kernel, rfl⟩
theorem i7_95 : decode m7.2.1 95 = .ok (.getfield 43, 3) ∧ 95 + 3 = 98 := ⟨by decide +kernel, rfl⟩
theorem i7_98 : decode m7.2.1 98 = .ok (.i2l, 1) ∧ 98 + 1 = 99 := ⟨by decide +kernel, rfl⟩
theorem i7_99 : decode m7.2.1 99 = .ok (.lmul, 1) ∧ 99 + 1 = 100 := ⟨by decide +kernel, rfl⟩
theorem i7_100 : decode m7.2.1 100 = .ok (.aload_n 0, 1) ∧ 100 + 1 = 101 := ⟨by decide +kernel, rfl⟩
theorem i7_101 : decode m7.2.1 101 = .ok (.getfield 13, 3) ∧ 101 + 3 = 104 := ⟨by decide +kernel, rfl⟩
theorem i7_104 : decode m7.2.1 104 = .ok (.arraylength, 1) ∧ 104 + 1 = 105 := ⟨by decide +kernel, rfl⟩
theorem i7_105 : decode m7.2.1 105 = .ok (.i2l, 1) ∧ 105 + 1 = 106 := ⟨by decide +kernel, rfl⟩
theorem i7_106 : decode m7.2.1 106 = .ok (.lcmp, 1) ∧ 106 + 1 = 107 := ⟨by decide +kernel, rfl⟩
theorem i7_107 : decode m7.2.1 107 = .ok (.ifCond .le 7, 3) ∧ 107 + 3 = 110 ∧ 0 ≤ ((107 : Nat) : Int) + 7 ∧ (((107 : Nat) : Int) + 7).toNat = 114 := ⟨by decide +kernel, rfl, by decide, by decide⟩
theorem i7_110 : decode m7.2.1 110 = .ok (.aload_n 0, 1) ∧ 110 + 1 = 111 := ⟨by decide +kernel, rfl⟩
theorem i7_111 : decode m7.2.1 111 = .ok (.invokevirtual 58, 3) ∧ 111 + 3 = 114 := ⟨by decide +kernel, rfl⟩
theorem i7_114 : decode m7.2.1 114 = .ok (.aload_n 0, 1) ∧ 114 + 1 = 115 := ⟨by decide +kernel, rfl⟩
theorem i7_115 : decode m7.2.1 115 = .ok (.getfield 43, 3) ∧ 115 + 3 = 118 := ⟨by decide +kernel, rfl⟩
theorem i7_118 : decode m7.2.1 118 = .ok (.iconst 1, 1) ∧ 118 + 1 = 119 ∧ Int32.ofInt 1 = 1 := ⟨by decide +kernel, rfl, by decide⟩
theorem i7_119 : decode m7.2.1 119 = .ok (.isub, 1) ∧ 119 + 1 = 120 := ⟨by decide +kernel, rfl⟩
theorem i7_120 : decode m7.2.1 120 = .ok (.ireturn, 1) := by decide +kernel
theorem i8_0 : decode m8.2.1 0 = .ok (.aload_n 0, 1) ∧ 0 + 1 = 1 := ⟨by decide +kernel, rfl⟩
theorem i8_1 : decode m8.2.1 1 = .ok (.getfield 13, 3) ∧ 1 + 3 = 4 := ⟨by decide +kernel, rfl⟩
theorem i8_4 : decode m8.2.1 4 = .ok (.aload_n 0, 1) ∧ 4 + 1 = 5 := ⟨by decide +kernel, rfl⟩
theorem i8_5 : decode m8.2.1 5 = .ok (.iload_n 1, 1) ∧ 5 + 1 = 6 := ⟨by decide +kernel, rfl⟩
theorem i8_6 : decode m8.2.1 6 = .ok (.invokevirtual 35, 3) ∧ 6 + 3 = 9 := ⟨by decide +kernel, rfl⟩
theorem i8_9 : decode m8.2.1 9 = .ok (.iaload, 1) ∧ 9 + 1 = 10 := ⟨by decide +kernel, rfl⟩
theorem i8_10 : decode m8.2.1 10 = .ok (.istore_n 2, 1) ∧ 10 + 1 = 11 := ⟨by decide +kernel, rfl⟩
theorem i8_11 : decode m8.2.1 11 = .ok (.iload_n 2, 1) ∧ 11 + 1 = 12 := ⟨by decide +kernel, rfl⟩
theorem i8_12 : decode m8.2.1 12 = .ok (.iconst (-1), 1) ∧ 12 + 1 = 13 ∧ Int32.ofInt (-1) = (-1) := ⟨by decide +kernel, rfl, by decide⟩
theorem i8_13 : decode m8.2.1 13 = .ok (.if_icmp .ne 7, 3) ∧ 13 + 3 = 16 ∧ 0 ≤ ((13 : Nat) : Int) + 7 ∧ (((13 : Nat) : Int) + 7).toNat = 20 := ⟨by decide +kernel, rfl, by decide, by decide⟩
theorem i8_16 : decode m8.2.1 16 = .ok (.iconst 0, 1) ∧ 16 + 1 = 17 ∧ Int32.ofInt 0 = 0 := ⟨by decide +kernel, rfl, by decide⟩
theorem i8_17 : decode m8.2.1 17 = .ok (.goto 9, 3) ∧ 17 + 3 = 20 ∧ 0 ≤ ((17 : Nat) : Int) + 9 ∧ (((17 : Nat) : Int) + 9).toNat = 26 := ⟨by decide +kernel, rfl, by decide, by decide⟩
theorem i8_20 : decode m8.2.1 20 = .ok (.aload_n 0, 1) ∧ 20 + 1 = 21 := ⟨by decide +kernel, rfl⟩
theorem i8_21 : decode m8.2.1 21 = .ok (.getfield 20, 3) ∧ 21 + 3 = 24 := ⟨by decide +kernel, rfl⟩
theorem i8_24 : decode m8.2.1 24 = .ok (.iload_n 2, 1) ∧ 24 + 1 = 25 := ⟨by decide +kernel, rfl⟩
theorem i8_25 : decode m8.2.1 25 = .ok (.iaload, 1) ∧ 25 + 1 = 26 := ⟨by decide +kernel, rfl⟩
theorem i8_26 : decode m8.2.1 26 = .ok (.ireturn, 1) := by decide +kernel
theorem i9_0 : decode m9.2.1 0 = .ok (.iload_n 0, 1) ∧ 0 + 1 = 1 := ⟨by decide +kernel, rfl⟩
theorem i9_1 : decode m9.2.1 1 = .ok (.iload_n 1, 1) ∧ 1 + 1 = 2 := ⟨by decide +kernel, rfl⟩
theorem i9_2 : decode m9.2.1 2 = .ok (.if_icmp .ne 7, 3) ∧ 2 + 3 = 5 ∧ 0 ≤ ((2 : Nat) : Int) + 7 ∧ (((2 : Nat) : Int) + 7).toNat = 9 := ⟨by decide +kernel, rfl, by decide, by decide⟩
theorem i9_5 : decode m9.2.1 5 = .ok (.iload_n 2, 1) ∧ 5 + 1 = 6 := ⟨by decide +kernel, rfl⟩
theorem i9_6 : decode m9.2.1 6 = .ok (.goto 4, 3) ∧ 6 + 3 = 9 ∧ 0 ≤ ((6 : Nat) : Int) + 4 ∧ (((6 : Nat) : Int) + 4).toNat = 10 := ⟨by decide +kernel, rfl, by decide, by decide⟩
theorem i9_9 : decode m9.2.1 9 = .ok (.iconst 0, 1) ∧ 9 + 1 = 10 ∧ Int32.ofInt 0 = 0 := ⟨by decide +kernel, rfl, by decide⟩
theorem i9_10 : decode m9.2.1 10 = .ok (.ireturn, 1) := by decide +kernel
theorem i10_0 : decode m10.2.1 0 = .ok (.lload_n 1, 1) ∧ 0 + 1 = 1 := ⟨by decide +kernel, rfl⟩
theorem i10_1 : decode m10.2.1 1 = .ok (.ldc2_w 5, 3) ∧ 1 + 3 = 4 := ⟨by decide +kernel, rfl⟩
theorem i10_4 : decode m10.2.1 4 = .ok (.lcmp, 1) ∧ 4 + 1 = 5 := ⟨by decide +kernel, rfl⟩
theorem i10_5 : decode m10.2.1 5 = .ok (.ifCond .le 13, 3) ∧ 5 + 3 = 8 ∧ 0 ≤ ((5 : Nat) : Int) + 13 ∧ (((5 : Nat) : Int) + 13).toNat = 18 := ⟨by decide +kernel, rfl, by decide, by decide⟩
theorem i10_8 : decode m10.2.1 8 = .ok (.new 7, 3) ∧ 8 + 3 = 11 := ⟨by decide +kernel, rfl⟩
theorem i10_11 : decode m10.2.1 11 = .ok (.dup, 1) ∧ 11 + 1 = 12 := ⟨by decide +kernel, rfl⟩
theorem i10_12 : decode m10.2.1 12 = .ok (.ldc 9, 2) ∧ 12 + 2 = 14 := ⟨by decide +kernel, rfl⟩
theorem i10_14 : decode m10.2.1 14 = .ok (.invokespecial 11, 3) ∧ 14 + 3 = 17 := ⟨by decide +kernel, rfl⟩
theorem i10_17 : decode m10.2.1 17 = .ok (.athrow, 1) ∧ 17 + 1 = 18 := ⟨by decide +kernel, rfl⟩
theorem i10_18 : decode m10.2.1 18 = .ok (.ldc2_w 5, 3) ∧ 18 + 3 = 21 := ⟨by decide +kernel, rfl⟩
theorem i10_21 : decode m10.2.1 21 = .ok (.lload_n 1, 1) ∧ 21 + 1 = 22 := ⟨by decide +kernel, rfl⟩
theorem i10_22 : decode m10.2.1 22 = .ok (.ldc2_w 15, 3) ∧ 22 + 3 = 25 := ⟨by decide +kernel, rfl⟩
theorem i10_25 : decode m10.2.1 25 = .ok (.iload_n 0, 1) ∧ 25 + 1 = 26 := ⟨by decide +kernel, rfl⟩
theorem i10_26 : decode m10.2.1 26 = .ok (.i2l, 1) ∧ 26 + 1 = 27 := ⟨by decide +kernel, rfl⟩
theorem i10_27 : decode m10.2.1 27 = .ok (.iload_n 0, 1) ∧ 27 + 1 = 28 := ⟨by decide +kernel, rfl⟩
theorem i10_28 : decode m10.2.1 28 = .ok (.iconst 1, 1) ∧ 28 + 1 = 29 ∧ Int32.ofInt 1 = 1 := ⟨by decide +kernel, rfl, by decide⟩
theorem i10_29 : decode m10.2.1 29 = .ok (.ishr, 1) ∧ 29 + 1 = 30 := ⟨by decide +kernel, rfl⟩
theorem i10_30 : decode m10.2.1 30 = .ok (.i2l, 1) ∧ 30 + 1 = 31 := ⟨by decide +kernel, rfl⟩
theorem i10_31 : decode m10.2.1 31 = .ok (.ladd, 1) ∧ 31 + 1 = 32 := ⟨by decide +kernel, rfl⟩
theorem i10_32 : decode m10.2.1 32 = .ok (.invokestatic 17, 3) ∧ 32 + 3 = 35 := ⟨by decide +kernel, rfl⟩
theorem i10_35 : decode m10.2.1 35 = .ok (.invokestatic 17, 3) ∧ 35 + 3 = 38 := ⟨by decide +kernel, rfl⟩
theorem i10_38 : decode m10.2.1 38 = .ok (.invokestatic 23, 3) ∧ 38 + 3 = 41 := ⟨by decide +kernel, rfl⟩
theorem i10_41 : decode m10.2.1 41 = .ok (.l2i, 1) ∧ 41 + 1 = 42 := ⟨by decide +kernel, rfl⟩
theorem i10_42 : decode m10.2.1 42 = .ok (.ireturn, 1) := by decide +kernel
theorem i11_0 : decode m11.2.1 0 = .ok (.lload_n 0, 1) ∧ 0 + 1 = 1 := ⟨by decide +kernel, rfl⟩
theorem i11_1 : decode m11.2.1 1 = .ok (.lload_n 2, 1) ∧ 1 + 1 = 2 := ⟨by decide +kernel, rfl⟩
theorem i11_2 : decode m11.2.1 2 = .ok (.lcmp, 1) ∧ 2 + 1 = 3 := ⟨by decide +kernel, rfl⟩
theorem i11_3 : decode m11.2.1 3 = .ok (.ifCond .lt 7, 3) ∧ 3 + 3 = 6 ∧ 0 ≤ ((3 : Nat) : Int) + 7 ∧ (((3 : Nat) : Int) + 7).toNat = 10 := ⟨by decide +kernel, rfl, by decide, by decide⟩
theorem i11_6 : decode m11.2.1 6 = .ok (.lload_n 0, 1) ∧ 6 + 1 = 7 := ⟨by decide +kernel, rfl⟩
theorem i11_7 : decode m11.2.1 7 = .ok (.goto 4, 3) ∧ 7 + 3 = 10 ∧ 0 ≤ ((7 : Nat) : Int) + 4 ∧ (((7 : Nat) : Int) + 4).toNat = 11 := ⟨by decide +kernel, rfl, by decide, by decide⟩
theorem i11_10 : decode m11.2.1 10 = .ok (.lload_n 2, 1) ∧ 10 + 1 = 11 := ⟨by decide +kernel, rfl⟩
theorem i11_11 : decode m11.2.1 11 = .ok (.lreturn, 1) := by decide +kernel
theorem i12_0 : decode m12.2.1 0 = .ok (.lload_n 0, 1) ∧ 0 + 1 = 1 := ⟨by decide +kernel, rfl⟩
theorem i12_1 : decode m12.2.1 1 = .ok (.lload_n 2, 1) ∧ 1 + 1 = 2 := ⟨by decide +kernel, rfl⟩
theorem i12_2 : decode m12.2.1 2 = .ok (.lcmp, 1) ∧ 2 + 1 = 3 := ⟨by decide +kernel, rfl⟩
theorem i12_3 : decode m12.2.1 3 = .ok (.ifCond .gt 7, 3) ∧ 3 + 3 = 6 ∧ 0 ≤ ((3 : Nat) : Int) + 7 ∧ (((3 : Nat) : Int) + 7).toNat = 10 := ⟨by decide +kernel, rfl, by decide, by decide⟩
theorem i12_6 : decode m12.2.1 6 = .ok (.lload_n 0, 1) ∧ 6 + 1 = 7 := ⟨by decide +kernel, rfl⟩
theorem i12_7 : decode m12.2.1 7 = .ok (.goto 4, 3) ∧ 7 + 3 = 10 ∧ 0 ≤ ((7 : Nat) : Int) + 4 ∧ (((7 : Nat) : Int) + 4).toNat = 11 := ⟨by decide +kernel, rfl, by decide, by decide⟩
theorem i12_10 : decode m12.2.1 10 = .ok (.lload_n 2, 1) ∧ 10 + 1 = 11 := ⟨by decide +kernel, rfl⟩
theorem i12_11 : decode m12.2.1 11 = .ok (.lreturn, 1) := by decide +kernel
theorem i13_0 : decode m13.2.1 0 = .ok (.iload_n 1, 1) ∧ 0 + 1 = 1 := ⟨by decide +kernel, rfl⟩
theorem i13_1 : decode m13.2.1 1 = .ok (.aload_n 0, 1) ∧ 1 + 1 = 2 := ⟨by decide +kernel, rfl⟩
theorem i13_2 : decode m13.2.1 2 = .ok (.arraylength, 1) ∧ 2 + 1 = 3 := ⟨by decide +kernel, rfl⟩
theorem i13_3 : decode m13.2.1 3 = .ok (.if_icmp .ne 11, 3) ∧ 3 + 3 = 6 ∧ 0 ≤ ((3 : Nat) : Int) + 11 ∧ (((3 : Nat) : Int) + 11).toNat = 14 := ⟨by decide +kernel, rfl, by decide, by decide⟩
theorem i13_6 : decode m13.2.1 6 = .ok (.aload_n 0, 1) ∧ 6 + 1 = 7 := ⟨by decide +kernel, rfl⟩
theorem i13_7 : decode m13.2.1 7 = .ok (.invokevirtual 316, 3) ∧ 7 + 3 = 10 := ⟨by decide +kernel, rfl⟩
theorem i13_10 : decode m13.2.1 10 = .ok (.checkcast 317, 3) ∧ 10 + 3 = 13 := ⟨by decide +kernel, rfl⟩
theorem i13_13 : decode m13.2.1 13 = .ok (.areturn, 1) := by decide +kernel
theorem i13_14 : decode m13.2.1 14 = .ok (.iload_n 1, 1) ∧ 14 + 1 = 15 := ⟨by decide +kernel, rfl⟩
theorem i13_15 : decode m13.2.1 15 = .ok (.newarray .int, 2) ∧ 15 + 2 = 17 := ⟨by decide +kernel, rfl⟩
theorem i13_17 : decode m13.2.1 17 = .ok (.astore_n 2, 1) ∧ 17 + 1 = 18 := ⟨by decide +kernel, rfl⟩
theorem i13_18 : decode m13.2.1 18 = .ok (.aload_n 0, 1) ∧ 18 + 1 = 19 := ⟨by decide +kernel, rfl⟩
theorem i13_19 : decode m13.2.1 19 = .ok (.iconst 0, 1) ∧ 19 + 1 = 20 ∧ Int32.ofInt 0 = 0 := ⟨by decide +kernel, rfl, by decide⟩
theorem i13_20 : decode m13.2.1 20 = .ok (.aload_n 2, 1) ∧ 20 + 1 = 21 := ⟨by decide +kernel, rfl⟩
theorem i13_21 : decode m13.2.1 21 = .ok (.iconst 0, 1) ∧ 21 + 1 = 22 ∧ Int32.ofInt 0 = 0 := ⟨by decide +kernel, rfl, by decide⟩
theorem i13_22 : decode m13.2.1 22 = .ok (.aload_n 0, 1) ∧ 22 + 1 = 23 := ⟨by decide +kernel, rfl⟩
theorem i13_23 : decode m13.2.1 23 = .ok (.arraylength, 1) ∧ 23 + 1 = 24 := ⟨by decide +kernel, rfl⟩
theorem i13_24 : decode m13.2.1 24 = .ok (.iload_n 1, 1) ∧ 24 + 1 = 25 := ⟨by decide +kernel, rfl⟩
theorem i13_25 : decode m13.2.1 25 = .ok (.invokestatic 304, 3) ∧ 25 + 3 = 28 := ⟨by decide +kernel, rfl⟩
theorem i13_28 : decode m13.2.1 28 = .ok (.invokestatic 150, 3) ∧ 28 + 3 = 31 := ⟨by decide +kernel, rfl⟩
theorem i13_31 : decode m13.2.1 31 = .ok (.aload_n 2, 1) ∧ 31 + 1 = 32 := ⟨by decide +kernel, rfl⟩
theorem i13_32 : decode m13.2.1 32 = .ok (.areturn, 1) := by decide +kernel
theorem i14_0 : decode m14.2.1 0 = .ok (.iload_n 0, 1) ∧ 0 + 1 = 1 := ⟨by decide +kernel, rfl⟩
theorem i14_1 : decode m14.2.1 1 = .ok (.iload_n 1, 1) ∧ 1 + 1 = 2 := ⟨by decide +kernel, rfl⟩
theorem i14_2 : decode m14.2.1 2 = .ok (.if_icmp .gt 7, 3) ∧ 2 + 3 = 5 ∧ 0 ≤ ((2 : Nat) : Int) + 7 ∧ (((2 : Nat) : Int) + 7).toNat = 9 := ⟨by decide +kernel, rfl, by decide, by decide⟩
theorem i14_5 : decode m14.2.1 5 = .ok (.iload_n 0, 1) ∧ 5 + 1 = 6 := ⟨by decide +kernel, rfl⟩
theorem i14_6 : decode m14.2.1 6 = .ok (.goto 4, 3) ∧ 6 + 3 = 9 ∧ 0 ≤ ((6 : Nat) : Int) + 4 ∧ (((6 : Nat) : Int) + 4).toNat = 10 := ⟨by decide +kernel, rfl, by decide, by decide⟩
theorem i14_9 : decode m14.2.1 9 = .ok (.iload_n 1, 1) ∧ 9 + 1 = 10 := ⟨by decide +kernel, rfl⟩
theorem i14_10 : decode m14.2.1 10 = .ok (.ireturn, 1) := by decide +kernel
theorem i15_0 : decode m15.2.1 0 = .ok (.aload_n 0, 1) ∧ 0 + 1 = 1 := ⟨by decide +kernel, rfl⟩
theorem i15_1 : decode m15.2.1 1 = .ok (.bipush 32, 2) ∧ 1 + 2 = 3 ∧ (Int8.ofInt 32).toInt32 = 32 := ⟨by decide +kernel, rfl, by decide⟩
theorem i15_3 : decode m15.2.1 3 = .ok (.aload_n 0, 1) ∧ 3 + 1 = 4 := ⟨by decide +kernel, rfl⟩
theorem i15_4 : decode m15.2.1 4 = .ok (.getfield 31, 3) ∧ 4 + 3 = 7 := ⟨by decide +kernel, rfl⟩
theorem i15_7 : decode m15.2.1 7 = .ok (.isub, 1) ∧ 7 + 1 = 8 := ⟨by decide +kernel, rfl⟩
theorem i15_8 : decode m15.2.1 8 = .ok (.iconst 1, 1) ∧ 8 + 1 = 9 ∧ Int32.ofInt 1 = 1 := ⟨by decide +kernel, rfl, by decide⟩
theorem i15_9 : decode m15.2.1 9 = .ok (.iadd, 1) ∧ 9 + 1 = 10 := ⟨by decide +kernel, rfl⟩
theorem i15_10 : decode m15.2.1 10 = .ok (.invokevirtual 9, 3) ∧ 10 + 3 = 13 := ⟨by decide +kernel, rfl⟩
theorem i15_13 : decode m15.2.1 13 = .ok (.iconst 0, 1) ∧ 13 + 1 = 14 ∧ Int32.ofInt 0 = 0 := ⟨by decide +kernel, rfl, by decide⟩
theorem i15_14 : decode m15.2.1 14 = .ok (.istore_n 1, 1) ∧ 14 + 1 = 15 := ⟨by decide +kernel, rfl⟩
theorem i15_15 : decode m15.2.1 15 = .ok (.iload_n 1, 1) ∧ 15 + 1 = 16 := ⟨by decide +kernel, rfl⟩
theorem i15_16 : decode m15.2.1 16 = .ok (.aload_n 0, 1) ∧ 16 + 1 = 17 := ⟨by decide +kernel, rfl⟩
theorem i15_17 : decode m15.2.1 17 = .ok (.getfield 43, 3) ∧ 17 + 3 = 20 := ⟨by decide +kernel, rfl⟩
theorem i15_20 : decode m15.2.1 20 = .ok (.if_icmp .ge 25, 3) ∧ 20 + 3 = 23 ∧ 0 ≤ ((20 : Nat) : Int) + 25 ∧ (((20 : Nat) : Int) + 25).toNat = 45 := ⟨by decide +kernel, rfl, by decide, by decide⟩
theorem i15_23 : decode m15.2.1 23 = .ok (.aload_n 0, 1) ∧ 23 + 1 = 24 := ⟨by decide +kernel, rfl⟩
theorem i15_24 : decode m15.2.1 24 = .ok (.getfield 13, 3) ∧ 24 + 3 = 27 := ⟨by decide +kernel, rfl⟩
theorem i15_27 : decode m15.2.1 27 = .ok (.aload_n 0, 1) ∧ 27 + 1 = 28 := ⟨by decide +kernel, rfl⟩
theorem i15_28 : decode m15.2.1 28 = .ok (.aload_n 0, 1) ∧ 28 + 1 = 29 := ⟨by decide +kernel, rfl⟩
theorem i15_29 : decode m15.2.1 29 = .ok (.getfield 17, 3) ∧ 29 + 3 = 32 := ⟨by decide +kernel, rfl⟩
theorem i15_32 : decode m15.2.1 32 = .ok (.iload_n 1, 1) ∧ 32 + 1 = 33 := ⟨by decide +kernel, rfl⟩
theorem i15_33 : decode m15.2.1 33 = .ok (.iaload, 1) ∧ 33 + 1 = 34 := ⟨by decide +kernel, rfl⟩
theorem i15_34 : decode m15.2.1 34 = .ok (.invokevirtual 35, 3) ∧ 34 + 3 = 37 := ⟨by decide +kernel, rfl⟩
theorem i15_37 : decode m15.2.1 37 = .ok (.iload_n 1, 1) ∧ 37 + 1 = 38 := ⟨by decide +kernel, rfl⟩
theorem i15_38 : decode m15.2.1 38 = .ok (.iastore, 1) ∧ 38 + 1 = 39 := ⟨by decide +kernel, rfl⟩
theorem i15_39 : decode m15.2.1 39 = .ok (.iinc 1 1, 3) ∧ 39 + 3 = 42 ∧ Int32.ofInt 1 = 1 := ⟨by decide +kernel, rfl, by decide⟩
theorem i15_42 : decode m15.2.1 42 = .ok (.goto (-27), 3) ∧ 42 + 3 = 45 ∧ 0 ≤ ((42 : Nat) : Int) + (-27) ∧ (((42 : Nat) : Int) + (-27)).toNat = 15 := ⟨by decide +kernel, rfl, by decide, by decide⟩
theorem i15_45 : decode m15.2.1 45 = .ok (.return_, 1) := by decide +kernel
theorem s0_1 {l : Launch} {Z : State} {a0 : Array Value} {n0 : Nat} {ls : List Slot} {st : List Value} {H H' : List Ob} {v : Option Value} (hw : HW Z a0) (kk : Runs K l Z n0 m0 3 ls (.int 2147483647 :: st) H v H') : Runs K l Z n0 m0 1 ls st H v H' := r_ldc i0_1 (hw _ (List.mem_of_getElem? (i := 0) rfl)) kk
theorem s0_7 {l : Launch} {Z : State} {a0 : Array Value} {n0 : Nat} {ls : List Slot} {st : List Value} {H H' : List Ob} {v : Option Value} (hw : HW Z a0) (kk : Runs K l Z n0 m0 9 ls (.int 2147483647 :: st) H v H') : Runs K l Z n0 m0 7 ls st H v H' := r_ldc i0_7 (hw _ (List.mem_of_getElem? (i := 0) rfl)) kk
theorem s0_13 {l : Launch} {Z : State} {a0 : Array Value} {n0 : Nat} {ls : List Slot} {st : List Value} {H H' : List Ob} {v : Option Value} (hw : HW Z a0) (kk : Runs K l Z n0 m0 15 ls (.int 2147483647 :: st) H v H') : Runs K l Z n0 m0 13 ls st H v H' := r_ldc i0_13 (hw _ (List.mem_of_getElem? (i := 0) rfl)) kk
theorem s0_19 {l : Launch} {Z : State} {a0 : Array Value} {n0 : Nat} {ls : List Slot} {st : List Value} {H H' : List Ob} {v : Option Value} (hw : HW Z a0) (kk : Runs K l Z n0 m0 21 ls (.int 2147483647 :: st) H v H') : Runs K l Z n0 m0 19 ls st H v H' := r_ldc i0_19 (hw _ (List.mem_of_getElem? (i := 0) rfl)) kk
theorem s0_26 {l : Launch} {Z : State} {a0 : Array Value} {n0 : Nat} {ls : List Slot} {st : List Value} {H H' : List Ob} {v : Option Value} (hw : HW Z a0) (kk : Runs K l Z n0 m0 28 ls (.int 2147483647 :: st) H v H') : Runs K l Z n0 m0 26 ls st H v H' := r_ldc i0_26 (hw _ (List.mem_of_getElem? (i := 0) rfl)) kk
theorem s0_44 {l : Launch} {Z : State} {a0 : Array Value} {n0 : Nat} {ls : List Slot} {st : List Value} {H H' H1 : List Ob} {v : Option Value} (hw : HW Z a0) {a : Nat} (ha : H.length = a) (hH : H ++ [.inl (0, [.null, .int 0, .null, .null, .int 0])] = H1) (kk : Runs K l Z n0 m0 47 ls (.ref a :: st) H1 v H') : Runs K l Z n0 m0 44 ls st H v H' := r_new (cid := 0) (kok hw) i0_44 (hw _ (List.mem_of_getElem? (i := 1) rfl)) (hw _ (List.mem_of_getElem? (i := 3) rfl)) rfl rfl ha hH kk
theorem s0_48 {l : Launch} {Z : State} {a0 : Array Value} {n0 : Nat} {ls : List Slot} {st : List Value} {H H' H1 : List Ob} {v : Option Value} (hw : HW Z a0) {a : Nat} (M : Meets K l Z n0 m1 [.ref a] H none H1) (hls : ls.length = 17) (hlo : (st.map fun v => v.category).sum ≤ 31) (kk : Runs K l Z n0 m0 51 ls st H1 v H') : Runs K l Z n0 m0 48 ls (.ref a :: st) H v H' := r_special (mj := m1) (as := []) (rest := st) i0_48 rfl rfl (hw _ (List.mem_of_getElem? (i := 4) rfl)) (hw _ (List.mem_of_getElem? (i := 5) rfl)) (hw _ (List.mem_of_getElem? (i := 3) rfl)) (hw _ (List.mem_of_getElem? (i := 6) rfl)) (by decide) (lenOf pd1 rfl) (by decide) rfl hls (by show _ + (1 + 11) + 28 ≤ 71; omega) M kk
theorem s0_58 {l : Launch} {Z : State} {a0 : Array Value} {n0 : Nat} {ls : List Slot} {st : List Value} {H H' H1 : List Ob} {v : Option Value} (hw : HW Z a0) {a : Nat} {vs : List Value} {x0 x1 : Value} (ho : H[a]? = some (.inl (0, vs))) (M : Meets K l Z n0 m5 [.ref a, x0, x1] H none H1) (hls : ls.length = 17) (hlo : (st.map fun v => v.category).sum ≤ 0) (kk : Runs K l Z n0 m0 61 ls st H1 v H') : Runs K l Z n0 m0 58 ls (x1 :: x0 :: .ref a :: st) H v H' := r_virtual (mj := m5) (cid := 0) (as := [x0, x1]) (rest := st) i0_58 (hw _ (List.mem_of_getElem? (i := 27) rfl)) (hw _ (List.mem_of_getElem? (i := 28) rfl)) (hw _ (List.mem_of_getElem? (i := 30) rfl)) (hw _ (List.mem_of_getElem? (i := 29) rfl)) (hw _ (List.mem_of_getElem? (i := 3) rfl)) (hw _ (List.mem_of_getElem? (i := 31) rfl)) (by decide) (lenOf pd5 rfl) (by decide) rfl rfl ho hls (by show _ + (5 + 11) + 55 ≤ 71; omega) M kk
theorem s0_66 {l : Launch} {Z : State} {a0 : Array Value} {n0 : Nat} {ls : List Slot} {st : List Value} {H H' H1 : List Ob} {v : Option Value} (hw : HW Z a0) {a : Nat} {vs : List Value} {x0 x1 : Value} (ho : H[a]? = some (.inl (0, vs))) (M : Meets K l Z n0 m5 [.ref a, x0, x1] H none H1) (hls : ls.length = 17) (hlo : (st.map fun v => v.category).sum ≤ 0) (kk : Runs K l Z n0 m0 69 ls st H1 v H') : Runs K l Z n0 m0 66 ls (x1 :: x0 :: .ref a :: st) H v H' := r_virtual (mj := m5) (cid := 0) (as := [x0, x1]) (rest := st) i0_66 (hw _ (List.mem_of_getElem? (i := 27) rfl)) (hw _ (List.mem_of_getElem? (i := 28) rfl)) (hw _ (List.mem_of_getElem? (i := 30) rfl)) (hw _ (List.mem_of_getElem? (i := 29) rfl)) (hw _ (List.mem_of_getElem? (i := 3) rfl)) (hw _ (List.mem_of_getElem? (i := 31) rfl)) (by decide) (lenOf pd5 rfl) (by decide) rfl rfl ho hls (by show _ + (5 + 11) + 55 ≤ 71; omega) M kk
theorem s0_74 {l : Launch} {Z : State} {a0 : Array Value} {n0 : Nat} {ls : List Slot} {st : List Value} {H H' H1 : List Ob} {v : Option Value} (hw : HW Z a0) {a : Nat} {vs : List Value} {x0 x1 : Value} (ho : H[a]? = some (.inl (0, vs))) (M : Meets K l Z n0 m5 [.ref a, x0, x1] H none H1) (hls : ls.length = 17) (hlo : (st.map fun v => v.category).sum ≤ 0) (kk : Runs K l Z n0 m0 77 ls st H1 v H') : Runs K l Z n0 m0 74 ls (x1 :: x0 :: .ref a :: st) H v H' := r_virtual (mj := m5) (cid := 0) (as := [x0, x1]) (rest := st) i0_74 (hw _ (List.mem_of_getElem? (i := 27) rfl)) (hw _ (List.mem_of_getElem? (i := 28) rfl)) (hw _ (List.mem_of_getElem? (i := 30) rfl)) (hw _ (List.mem_of_getElem? (i := 29) rfl)) (hw _ (List.mem_of_getElem? (i := 3) rfl)) (hw _ (List.mem_of_getElem? (i := 31) rfl)) (by decide) (lenOf pd5 rfl) (by decide) rfl rfl ho hls (by show _ + (5 + 11) + 55 ≤ 71; omega) M kk
theorem s0_83 {l : Launch} {Z : State} {a0 : Array Value} {n0 : Nat} {ls : List Slot} {st : List Value} {H H' H1 : List Ob} {v : Option Value} (hw : HW Z a0) {a : Nat} {vs : List Value} {x0 x1 : Value} (ho : H[a]? = some (.inl (0, vs))) (M : Meets K l Z n0 m5 [.ref a, x0, x1] H none H1) (hls : ls.length = 17) (hlo : (st.map fun v => v.category).sum ≤ 0) (kk : Runs K l Z n0 m0 86 ls st H1 v H') : Runs K l Z n0 m0 83 ls (x1 :: x0 :: .ref a :: st) H v H' := r_virtual (mj := m5) (cid := 0) (as := [x0, x1]) (rest := st) i0_83 (hw _ (List.mem_of_getElem? (i := 27) rfl)) (hw _ (List.mem_of_getElem? (i := 28) rfl)) (hw _ (List.mem_of_getElem? (i := 30) rfl)) (hw _ (List.mem_of_getElem? (i := 29) rfl)) (hw _ (List.mem_of_getElem? (i := 3) rfl)) (hw _ (List.mem_of_getElem? (i := 31) rfl)) (by decide) (lenOf pd5 rfl) (by decide) rfl rfl ho hls (by show _ + (5 + 11) + 55 ≤ 71; omega) M kk
theorem s0_90 {l : Launch} {Z : State} {a0 : Array Value} {n0 : Nat} {ls : List Slot} {st : List Value} {H H' H1 : List Ob} {v : Option Value} (hw : HW Z a0) {a : Nat} {vs : List Value} {x0 : Value} {w : Value} (ho : H[a]? = some (.inl (0, vs))) (M : Meets K l Z n0 m8 [.ref a, x0] H (some w) H1) (hls : ls.length = 17) (hlo : (st.map fun v => v.category).sum ≤ 41) (kk : Runs K l Z n0 m0 93 ls (w :: st) H1 v H') : Runs K l Z n0 m0 90 ls (x0 :: .ref a :: st) H v H' := r_virtual (mj := m8) (cid := 0) (as := [x0]) (rest := st) i0_90 (hw _ (List.mem_of_getElem? (i := 44) rfl)) (hw _ (List.mem_of_getElem? (i := 45) rfl)) (hw _ (List.mem_of_getElem? (i := 47) rfl)) (hw _ (List.mem_of_getElem? (i := 46) rfl)) (hw _ (List.mem_of_getElem? (i := 3) rfl)) (hw _ (List.mem_of_getElem? (i := 48) rfl)) (by decide) (lenOf pd8 rfl) (by decide) rfl rfl ho hls (by show _ + (3 + 11) + 16 ≤ 71; omega) M kk
theorem s0_101 {l : Launch} {Z : State} {a0 : Array Value} {n0 : Nat} {ls : List Slot} {st : List Value} {H H' H1 : List Ob} {v : Option Value} (hw : HW Z a0) {a : Nat} {vs : List Value} {x0 x1 : Value} (ho : H[a]? = some (.inl (0, vs))) (M : Meets K l Z n0 m5 [.ref a, x0, x1] H none H1) (hls : ls.length = 17) (hlo : (st.map fun v => v.category).sum ≤ 0) (kk : Runs K l Z n0 m0 104 ls st H1 v H') : Runs K l Z n0 m0 101 ls (x1 :: x0 :: .ref a :: st) H v H' := r_virtual (mj := m5) (cid := 0) (as := [x0, x1]) (rest := st) i0_101 (hw _ (List.mem_of_getElem? (i := 27) rfl)) (hw _ (List.mem_of_getElem? (i := 28) rfl)) (hw _ (List.mem_of_getElem? (i := 30) rfl)) (hw _ (List.mem_of_getElem? (i := 29) rfl)) (hw _ (List.mem_of_getElem? (i := 3) rfl)) (hw _ (List.mem_of_getElem? (i := 31) rfl)) (by decide) (lenOf pd5 rfl) (by decide) rfl rfl ho hls (by show _ + (5 + 11) + 55 ≤ 71; omega) M kk
theorem s0_108 {l : Launch} {Z : State} {a0 : Array Value} {n0 : Nat} {ls : List Slot} {st : List Value} {H H' H1 : List Ob} {v : Option Value} (hw : HW Z a0) {a : Nat} {vs : List Value} {x0 : Value} {w : Value} (ho : H[a]? = some (.inl (0, vs))) (M : Meets K l Z n0 m8 [.ref a, x0] H (some w) H1) (hls : ls.length = 17) (hlo : (st.map fun v => v.category).sum ≤ 41) (kk : Runs K l Z n0 m0 111 ls (w :: st) H1 v H') : Runs K l Z n0 m0 108 ls (x0 :: .ref a :: st) H v H' := r_virtual (mj := m8) (cid := 0) (as := [x0]) (rest := st) i0_108 (hw _ (List.mem_of_getElem? (i := 44) rfl)) (hw _ (List.mem_of_getElem? (i := 45) rfl)) (hw _ (List.mem_of_getElem? (i := 47) rfl)) (hw _ (List.mem_of_getElem? (i := 46) rfl)) (hw _ (List.mem_of_getElem? (i := 3) rfl)) (hw _ (List.mem_of_getElem? (i := 48) rfl)) (by decide) (lenOf pd8 rfl) (by decide) rfl rfl ho hls (by show _ + (3 + 11) + 16 ≤ 71; omega) M kk
theorem s0_118 {l : Launch} {Z : State} {a0 : Array Value} {n0 : Nat} {ls : List Slot} {st : List Value} {H H' H1 : List Ob} {v : Option Value} (hw : HW Z a0) {x0 x1 x2 : Value} {w : Value} (M : Meets K l Z n0 m9 [x0, x1, x2] H (some w) H1) (hls : ls.length = 17) (hlo : (st.map fun v => v.category).sum ≤ 57) (kk : Runs K l Z n0 m0 121 ls (w :: st) H1 v H') : Runs K l Z n0 m0 118 ls (x2 :: x1 :: x0 :: st) H v H' := r_static (mj := m9) (as := [x0, x1, x2]) (rest := st) i0_118 (hw _ (List.mem_of_getElem? (i := 49) rfl)) (hw _ (List.mem_of_getElem? (i := 50) rfl)) (hw _ (List.mem_of_getElem? (i := 51) rfl)) (hw _ (List.mem_of_getElem? (i := 52) rfl)) (by decide) (lenOf pd9 rfl) (by decide) rfl hls (by show _ + (3 + 11) + 0 ≤ 71; omega) M kk
theorem s0_126 {l : Launch} {Z : State} {a0 : Array Value} {n0 : Nat} {ls : List Slot} {st : List Value} {H H' H1 : List Ob} {v : Option Value} (hw : HW Z a0) {x0 x1 x2 : Value} {w : Value} (M : Meets K l Z n0 m9 [x0, x1, x2] H (some w) H1) (hls : ls.length = 17) (hlo : (st.map fun v => v.category).sum ≤ 57) (kk : Runs K l Z n0 m0 129 ls (w :: st) H1 v H') : Runs K l Z n0 m0 126 ls (x2 :: x1 :: x0 :: st) H v H' := r_static (mj := m9) (as := [x0, x1, x2]) (rest := st) i0_126 (hw _ (List.mem_of_getElem? (i := 49) rfl)) (hw _ (List.mem_of_getElem? (i := 50) rfl)) (hw _ (List.mem_of_getElem? (i := 51) rfl)) (hw _ (List.mem_of_getElem? (i := 52) rfl)) (by decide) (lenOf pd9 rfl) (by decide) rfl hls (by show _ + (3 + 11) + 0 ≤ 71; omega) M kk
theorem s0_135 {l : Launch} {Z : State} {a0 : Array Value} {n0 : Nat} {ls : List Slot} {st : List Value} {H H' H1 : List Ob} {v : Option Value} (hw : HW Z a0) {x0 x1 x2 : Value} {w : Value} (M : Meets K l Z n0 m9 [x0, x1, x2] H (some w) H1) (hls : ls.length = 17) (hlo : (st.map fun v => v.category).sum ≤ 57) (kk : Runs K l Z n0 m0 138 ls (w :: st) H1 v H') : Runs K l Z n0 m0 135 ls (x2 :: x1 :: x0 :: st) H v H' := r_static (mj := m9) (as := [x0, x1, x2]) (rest := st) i0_135 (hw _ (List.mem_of_getElem? (i := 49) rfl)) (hw _ (List.mem_of_getElem? (i := 50) rfl)) (hw _ (List.mem_of_getElem? (i := 51) rfl)) (hw _ (List.mem_of_getElem? (i := 52) rfl)) (by decide) (lenOf pd9 rfl) (by decide) rfl hls (by show _ + (3 + 11) + 0 ≤ 71; omega) M kk
theorem s0_145 {l : Launch} {Z : State} {a0 : Array Value} {n0 : Nat} {ls : List Slot} {st : List Value} {H H' H1 : List Ob} {v : Option Value} (hw : HW Z a0) {x0 x1 x2 : Value} {w : Value} (M : Meets K l Z n0 m9 [x0, x1, x2] H (some w) H1) (hls : ls.length = 17) (hlo : (st.map fun v => v.category).sum ≤ 57) (kk : Runs K l Z n0 m0 148 ls (w :: st) H1 v H') : Runs K l Z n0 m0 145 ls (x2 :: x1 :: x0 :: st) H v H' := r_static (mj := m9) (as := [x0, x1, x2]) (rest := st) i0_145 (hw _ (List.mem_of_getElem? (i := 49) rfl)) (hw _ (List.mem_of_getElem? (i := 50) rfl)) (hw _ (List.mem_of_getElem? (i := 51) rfl)) (hw _ (List.mem_of_getElem? (i := 52) rfl)) (by decide) (lenOf pd9 rfl) (by decide) rfl hls (by show _ + (3 + 11) + 0 ≤ 71; omega) M kk
theorem s0_159 {l : Launch} {Z : State} {a0 : Array Value} {n0 : Nat} {ls : List Slot} {st : List Value} {H H' H1 : List Ob} {v : Option Value} (hw : HW Z a0) {x0 x1 x2 : Value} {w : Value} (M : Meets K l Z n0 m9 [x0, x1, x2] H (some w) H1) (hls : ls.length = 17) (hlo : (st.map fun v => v.category).sum ≤ 57) (kk : Runs K l Z n0 m0 162 ls (w :: st) H1 v H') : Runs K l Z n0 m0 159 ls (x2 :: x1 :: x0 :: st) H v H' := r_static (mj := m9) (as := [x0, x1, x2]) (rest := st) i0_159 (hw _ (List.mem_of_getElem? (i := 49) rfl)) (hw _ (List.mem_of_getElem? (i := 50) rfl)) (hw _ (List.mem_of_getElem? (i := 51) rfl)) (hw _ (List.mem_of_getElem? (i := 52) rfl)) (by decide) (lenOf pd9 rfl) (by decide) rfl hls (by show _ + (3 + 11) + 0 ≤ 71; omega) M kk
theorem s1_1 {l : Launch} {Z : State} {a0 : Array Value} {n0 : Nat} {ls : List Slot} {st : List Value} {H H' : List Ob} {v : Option Value} (hw : HW Z a0) {a : Nat} (hls : ls.length = 1) (hlo : (st.map fun v => v.category).sum ≤ 16) (kk : Runs K l Z n0 m1 4 ls st H v H') : Runs K l Z n0 m1 1 ls (.ref a :: st) H v H' := r_initO i1_1 (hw _ (List.mem_of_getElem? (i := 7) rfl)) (hw _ (List.mem_of_getElem? (i := 8) rfl)) (hw _ (List.mem_of_getElem? (i := 9) rfl)) hls (by decide) (Nat.add_le_add_right hlo 12) kk
theorem s1_6 {l : Launch} {Z : State} {a0 : Array Value} {n0 : Nat} {ls : List Slot} {st : List Value} {H H' H1 : List Ob} {v : Option Value} (hw : HW Z a0) {a : Nat} {vs : List Value} {x0 : Value} (ho : H[a]? = some (.inl (0, vs))) (M : Meets K l Z n0 m3 [.ref a, x0] H none H1) (hls : ls.length = 1) (hlo : (st.map fun v => v.category).sum ≤ 0) (kk : Runs K l Z n0 m1 9 ls st H1 v H') : Runs K l Z n0 m1 6 ls (x0 :: .ref a :: st) H v H' := r_private (mj := m3) (cid := 0) (as := [x0]) (rest := st) i1_6 (hw _ (List.mem_of_getElem? (i := 10) rfl)) (Jvm.Kit.selects_private (by decide) (hw _ (List.mem_of_getElem? (i := 2) rfl)) (hw _ (List.mem_of_getElem? (i := 12) rfl)) (hw _ (List.mem_of_getElem? (i := 11) rfl))) (hw _ (List.mem_of_getElem? (i := 12) rfl)) (hw _ (List.mem_of_getElem? (i := 11) rfl)) (hw _ (List.mem_of_getElem? (i := 3) rfl)) (hw _ (List.mem_of_getElem? (i := 13) rfl)) (by decide) (lenOf pd3 rfl) (by decide) rfl rfl ho hls (by show _ + (2 + 11) + 15 ≤ 28; omega) M kk
theorem s1_11 {l : Launch} {Z : State} {a0 : Array Value} {n0 : Nat} {ls : List Slot} {st : List Value} {H H' : List Ob} {v : Option Value} (hw : HW Z a0) {a : Nat} {f0 f1 f2 f3 f4 : Value} (ho : H[a]? = some (.inl (0, [f0, f1, f2, f3, f4]))) (kk : Runs K l Z n0 m1 14 ls (f0 :: st) H v H') : Runs K l Z n0 m1 11 ls (.ref a :: st) H v H' := r_getF (cid := 0) (i := 0) i1_11 (hw _ (List.mem_of_getElem? (i := 15) rfl)) Via.refl rfl rfl ho rfl kk
theorem s1_17 {l : Launch} {Z : State} {a0 : Array Value} {n0 : Nat} {ls : List Slot} {st : List Value} {H H' H1 : List Ob} {v : Option Value} (hw : HW Z a0) {a : Nat} {n : Int32} {o : List Value} (hn : ¬ n < 0) (h8 : n.toNatClampNeg * 8 ≤ 536870912) (ho : List.replicate n.toNatClampNeg (.int 0) = o) (ha : H.length = a) (hH : H ++ [.inr (.int, o)] = H1) (kk : Runs K l Z n0 m1 19 ls (.ref a :: st) H1 v H') : Runs K l Z n0 m1 17 ls (.int n :: st) H v H' := r_newA i1_17 (hw _ (List.mem_of_getElem? (i := 14) rfl)) hn h8 ho ha hH kk
theorem s1_19 {l : Launch} {Z : State} {a0 : Array Value} {n0 : Nat} {ls : List Slot} {st : List Value} {H H' H1 : List Ob} {v : Option Value} (hw : HW Z a0) {a : Nat} {f0 f1 f2 f3 f4 x : Value} (ho : H[a]? = some (.inl (0, [f0, f1, f2, f3, f4]))) (hn : narrow (.array .int) x = x) (hf : fits (.array .int) x = true) (hH : H.set a (.inl (0, [f0, f1, x, f3, f4])) = H1) (kk : Runs K l Z n0 m1 22 ls st H1 v H') : Runs K l Z n0 m1 19 ls (x :: .ref a :: st) H v H' := r_putF (cid := 0) (i := 2) (kok hw) i1_19 (hw _ (List.mem_of_getElem? (i := 23) rfl)) Via.refl rfl rfl (Or.inl (hw _ (List.mem_of_getElem? (i := 24) rfl))) ho (ltB rfl) hn hf rfl hH kk
theorem s1_24 {l : Launch} {Z : State} {a0 : Array Value} {n0 : Nat} {ls : List Slot} {st : List Value} {H H' : List Ob} {v : Option Value} (hw : HW Z a0) {a : Nat} {f0 f1 f2 f3 f4 : Value} (ho : H[a]? = some (.inl (0, [f0, f1, f2, f3, f4]))) (kk : Runs K l Z n0 m1 27 ls (f0 :: st) H v H') : Runs K l Z n0 m1 24 ls (.ref a :: st) H v H' := r_getF (cid := 0) (i := 0) i1_24 (hw _ (List.mem_of_getElem? (i := 15) rfl)) Via.refl rfl rfl ho rfl kk
theorem s1_30 {l : Launch} {Z : State} {a0 : Array Value} {n0 : Nat} {ls : List Slot} {st : List Value} {H H' H1 : List Ob} {v : Option Value} (hw : HW Z a0) {a : Nat} {n : Int32} {o : List Value} (hn : ¬ n < 0) (h8 : n.toNatClampNeg * 8 ≤ 536870912) (ho : List.replicate n.toNatClampNeg (.int 0) = o) (ha : H.length = a) (hH : H ++ [.inr (.int, o)] = H1) (kk : Runs K l Z n0 m1 32 ls (.ref a :: st) H1 v H') : Runs K l Z n0 m1 30 ls (.int n :: st) H v H' := r_newA i1_30 (hw _ (List.mem_of_getElem? (i := 14) rfl)) hn h8 ho ha hH kk
theorem s1_32 {l : Launch} {Z : State} {a0 : Array Value} {n0 : Nat} {ls : List Slot} {st : List Value} {H H' H1 : List Ob} {v : Option Value} (hw : HW Z a0) {a : Nat} {f0 f1 f2 f3 f4 x : Value} (ho : H[a]? = some (.inl (0, [f0, f1, f2, f3, f4]))) (hn : narrow (.array .int) x = x) (hf : fits (.array .int) x = true) (hH : H.set a (.inl (0, [f0, f1, f2, x, f4])) = H1) (kk : Runs K l Z n0 m1 35 ls st H1 v H') : Runs K l Z n0 m1 32 ls (x :: .ref a :: st) H v H' := r_putF (cid := 0) (i := 3) (kok hw) i1_32 (hw _ (List.mem_of_getElem? (i := 25) rfl)) Via.refl rfl rfl (Or.inl (hw _ (List.mem_of_getElem? (i := 26) rfl))) ho (ltB rfl) hn hf rfl hH kk
theorem s3_4 {l : Launch} {Z : State} {a0 : Array Value} {n0 : Nat} {ls : List Slot} {st : List Value} {H H' H1 : List Ob} {v : Option Value} (hw : HW Z a0) {a : Nat} {n : Int32} {o : List Value} (hn : ¬ n < 0) (h8 : n.toNatClampNeg * 8 ≤ 536870912) (ho : List.replicate n.toNatClampNeg (.int 0) = o) (ha : H.length = a) (hH : H ++ [.inr (.int, o)] = H1) (kk : Runs K l Z n0 m3 6 ls (.ref a :: st) H1 v H') : Runs K l Z n0 m3 4 ls (.int n :: st) H v H' := r_newA i3_4 (hw _ (List.mem_of_getElem? (i := 14) rfl)) hn h8 ho ha hH kk
theorem s3_6 {l : Launch} {Z : State} {a0 : Array Value} {n0 : Nat} {ls : List Slot} {st : List Value} {H H' H1 : List Ob} {v : Option Value} (hw : HW Z a0) {a : Nat} {f0 f1 f2 f3 f4 x : Value} (ho : H[a]? = some (.inl (0, [f0, f1, f2, f3, f4]))) (hn : narrow (.array .int) x = x) (hf : fits (.array .int) x = true) (hH : H.set a (.inl (0, [x, f1, f2, f3, f4])) = H1) (kk : Runs K l Z n0 m3 9 ls st H1 v H') : Runs K l Z n0 m3 6 ls (x :: .ref a :: st) H v H' := r_putF (cid := 0) (i := 0) (kok hw) i3_6 (hw _ (List.mem_of_getElem? (i := 15) rfl)) Via.refl rfl rfl (Or.inl (hw _ (List.mem_of_getElem? (i := 16) rfl))) ho (ltB rfl) hn hf rfl hH kk
theorem s3_10 {l : Launch} {Z : State} {a0 : Array Value} {n0 : Nat} {ls : List Slot} {st : List Value} {H H' : List Ob} {v : Option Value} (hw : HW Z a0) {a : Nat} {f0 f1 f2 f3 f4 : Value} (ho : H[a]? = some (.inl (0, [f0, f1, f2, f3, f4]))) (kk : Runs K l Z n0 m3 13 ls (f0 :: st) H v H') : Runs K l Z n0 m3 10 ls (.ref a :: st) H v H' := r_getF (cid := 0) (i := 0) i3_10 (hw _ (List.mem_of_getElem? (i := 15) rfl)) Via.refl rfl rfl ho rfl kk
theorem s3_14 {l : Launch} {Z : State} {a0 : Array Value} {n0 : Nat} {ls : List Slot} {st : List Value} {H H' H1 : List Ob} {v : Option Value} (hw : HW Z a0) {x0 x1 : Value} (M : Meets K l Z n0 m4 [x0, x1] H none H1) (hls : ls.length = 2) (hlo : (st.map fun v => v.category).sum ≤ 0) (kk : Runs K l Z n0 m3 17 ls st H1 v H') : Runs K l Z n0 m3 14 ls (x1 :: x0 :: st) H v H' := r_static (mj := m4) (as := [x0, x1]) (rest := st) i3_14 (hw _ (List.mem_of_getElem? (i := 17) rfl)) (hw _ (List.mem_of_getElem? (i := 18) rfl)) (hw _ (List.mem_of_getElem? (i := 19) rfl)) (hw _ (List.mem_of_getElem? (i := 20) rfl)) (by decide) (lenOf pd4 rfl) (by decide) rfl hls (by show _ + (4 + 11) + 0 ≤ 15; omega) M kk
theorem s3_22 {l : Launch} {Z : State} {a0 : Array Value} {n0 : Nat} {ls : List Slot} {st : List Value} {H H' H1 : List Ob} {v : Option Value} (hw : HW Z a0) {a : Nat} {f0 f1 f2 f3 f4 x : Value} (ho : H[a]? = some (.inl (0, [f0, f1, f2, f3, f4]))) (hn : narrow .int x = x) (hf : fits .int x = true) (hH : H.set a (.inl (0, [f0, x, f2, f3, f4])) = H1) (kk : Runs K l Z n0 m3 25 ls st H1 v H') : Runs K l Z n0 m3 22 ls (x :: .ref a :: st) H v H' := r_putF (cid := 0) (i := 1) (kok hw) i3_22 (hw _ (List.mem_of_getElem? (i := 21) rfl)) Via.refl rfl rfl (Or.inl (hw _ (List.mem_of_getElem? (i := 22) rfl))) ho (ltB rfl) hn hf rfl hH kk
theorem s5_2 {l : Launch} {Z : State} {a0 : Array Value} {n0 : Nat} {ls : List Slot} {st : List Value} {H H' H1 : List Ob} {v : Option Value} (hw : HW Z a0) {a : Nat} {vs : List Value} {x0 : Value} {w : Value} (ho : H[a]? = some (.inl (0, vs))) (M : Meets K l Z n0 m6 [.ref a, x0] H (some w) H1) (hls : ls.length = 5) (hlo : (st.map fun v => v.category).sum ≤ 40) (kk : Runs K l Z n0 m5 5 ls (w :: st) H1 v H') : Runs K l Z n0 m5 2 ls (x0 :: .ref a :: st) H v H' := r_private (mj := m6) (cid := 0) (as := [x0]) (rest := st) i5_2 (hw _ (List.mem_of_getElem? (i := 32) rfl)) (Jvm.Kit.selects_private (by decide) (hw _ (List.mem_of_getElem? (i := 2) rfl)) (hw _ (List.mem_of_getElem? (i := 34) rfl)) (hw _ (List.mem_of_getElem? (i := 33) rfl))) (hw _ (List.mem_of_getElem? (i := 34) rfl)) (hw _ (List.mem_of_getElem? (i := 33) rfl)) (hw _ (List.mem_of_getElem? (i := 3) rfl)) (hw _ (List.mem_of_getElem? (i := 35) rfl)) (by decide) (lenOf pd6 rfl) (by decide) rfl rfl ho hls (by show _ + (4 + 11) + 0 ≤ 55; omega) M kk
theorem s5_7 {l : Launch} {Z : State} {a0 : Array Value} {n0 : Nat} {ls : List Slot} {st : List Value} {H H' : List Ob} {v : Option Value} (hw : HW Z a0) {a : Nat} {f0 f1 f2 f3 f4 : Value} (ho : H[a]? = some (.inl (0, [f0, f1, f2, f3, f4]))) (kk : Runs K l Z n0 m5 10 ls (f0 :: st) H v H') : Runs K l Z n0 m5 7 ls (.ref a :: st) H v H' := r_getF (cid := 0) (i := 0) i5_7 (hw _ (List.mem_of_getElem? (i := 15) rfl)) Via.refl rfl rfl ho rfl kk
theorem s5_23 {l : Launch} {Z : State} {a0 : Array Value} {n0 : Nat} {ls : List Slot} {st : List Value} {H H' H1 : List Ob} {v : Option Value} (hw : HW Z a0) {a : Nat} {vs : List Value} {x0 x1 : Value} {w : Value} (ho : H[a]? = some (.inl (0, vs))) (M : Meets K l Z n0 m7 [.ref a, x0, x1] H (some w) H1) (hls : ls.length = 5) (hlo : (st.map fun v => v.category).sum ≤ 0) (kk : Runs K l Z n0 m5 26 ls (w :: st) H1 v H') : Runs K l Z n0 m5 23 ls (x1 :: x0 :: .ref a :: st) H v H' := r_private (mj := m7) (cid := 0) (as := [x0, x1]) (rest := st) i5_23 (hw _ (List.mem_of_getElem? (i := 37) rfl)) (Jvm.Kit.selects_private (by decide) (hw _ (List.mem_of_getElem? (i := 2) rfl)) (hw _ (List.mem_of_getElem? (i := 39) rfl)) (hw _ (List.mem_of_getElem? (i := 38) rfl))) (hw _ (List.mem_of_getElem? (i := 39) rfl)) (hw _ (List.mem_of_getElem? (i := 38) rfl)) (hw _ (List.mem_of_getElem? (i := 3) rfl)) (hw _ (List.mem_of_getElem? (i := 40) rfl)) (by decide) (lenOf pd7 rfl) (by decide) rfl rfl ho hls (by show _ + (3 + 11) + 41 ≤ 55; omega) M kk
theorem s5_29 {l : Launch} {Z : State} {a0 : Array Value} {n0 : Nat} {ls : List Slot} {st : List Value} {H H' : List Ob} {v : Option Value} (hw : HW Z a0) {a : Nat} {f0 f1 f2 f3 f4 : Value} (ho : H[a]? = some (.inl (0, [f0, f1, f2, f3, f4]))) (kk : Runs K l Z n0 m5 32 ls (f3 :: st) H v H') : Runs K l Z n0 m5 29 ls (.ref a :: st) H v H' := r_getF (cid := 0) (i := 3) i5_29 (hw _ (List.mem_of_getElem? (i := 25) rfl)) Via.refl rfl rfl ho rfl kk
theorem s6_1 {l : Launch} {Z : State} {a0 : Array Value} {n0 : Nat} {ls : List Slot} {st : List Value} {H H' : List Ob} {v : Option Value} (hw : HW Z a0) {a : Nat} {f0 f1 f2 f3 f4 : Value} (ho : H[a]? = some (.inl (0, [f0, f1, f2, f3, f4]))) (kk : Runs K l Z n0 m6 4 ls (f0 :: st) H v H') : Runs K l Z n0 m6 1 ls (.ref a :: st) H v H' := r_getF (cid := 0) (i := 0) i6_1 (hw _ (List.mem_of_getElem? (i := 15) rfl)) Via.refl rfl rfl ho rfl kk
theorem s6_9 {l : Launch} {Z : State} {a0 : Array Value} {n0 : Nat} {ls : List Slot} {st : List Value} {H H' : List Ob} {v : Option Value} (hw : HW Z a0) (kk : Runs K l Z n0 m6 11 ls (.int (-1640531527) :: st) H v H') : Runs K l Z n0 m6 9 ls st H v H' := r_ldc i6_9 (hw _ (List.mem_of_getElem? (i := 36) rfl)) kk
theorem s6_13 {l : Launch} {Z : State} {a0 : Array Value} {n0 : Nat} {ls : List Slot} {st : List Value} {H H' : List Ob} {v : Option Value} (hw : HW Z a0) {a : Nat} {f0 f1 f2 f3 f4 : Value} (ho : H[a]? = some (.inl (0, [f0, f1, f2, f3, f4]))) (kk : Runs K l Z n0 m6 16 ls (f1 :: st) H v H') : Runs K l Z n0 m6 13 ls (.ref a :: st) H v H' := r_getF (cid := 0) (i := 1) i6_13 (hw _ (List.mem_of_getElem? (i := 21) rfl)) Via.refl rfl rfl ho rfl kk
theorem s6_19 {l : Launch} {Z : State} {a0 : Array Value} {n0 : Nat} {ls : List Slot} {st : List Value} {H H' : List Ob} {v : Option Value} (hw : HW Z a0) {a : Nat} {f0 f1 f2 f3 f4 : Value} (ho : H[a]? = some (.inl (0, [f0, f1, f2, f3, f4]))) (kk : Runs K l Z n0 m6 22 ls (f0 :: st) H v H') : Runs K l Z n0 m6 19 ls (.ref a :: st) H v H' := r_getF (cid := 0) (i := 0) i6_19 (hw _ (List.mem_of_getElem? (i := 15) rfl)) Via.refl rfl rfl ho rfl kk
theorem s6_29 {l : Launch} {Z : State} {a0 : Array Value} {n0 : Nat} {ls : List Slot} {st : List Value} {H H' : List Ob} {v : Option Value} (hw : HW Z a0) {a : Nat} {f0 f1 f2 f3 f4 : Value} (ho : H[a]? = some (.inl (0, [f0, f1, f2, f3, f4]))) (kk : Runs K l Z n0 m6 32 ls (f2 :: st) H v H') : Runs K l Z n0 m6 29 ls (.ref a :: st) H v H' := r_getF (cid := 0) (i := 2) i6_29 (hw _ (List.mem_of_getElem? (i := 23) rfl)) Via.refl rfl rfl ho rfl kk
theorem s6_33 {l : Launch} {Z : State} {a0 : Array Value} {n0 : Nat} {ls : List Slot} {st : List Value} {H H' : List Ob} {v : Option Value} (hw : HW Z a0) {a : Nat} {f0 f1 f2 f3 f4 : Value} (ho : H[a]? = some (.inl (0, [f0, f1, f2, f3, f4]))) (kk : Runs K l Z n0 m6 36 ls (f0 :: st) H v H') : Runs K l Z n0 m6 33 ls (.ref a :: st) H v H' := r_getF (cid := 0) (i := 0) i6_33 (hw _ (List.mem_of_getElem? (i := 15) rfl)) Via.refl rfl rfl ho rfl kk
theorem s7_1 {l : Launch} {Z : State} {a0 : Array Value} {n0 : Nat} {ls : List Slot} {st : List Value} {H H' : List Ob} {v : Option Value} (hw : HW Z a0) {a : Nat} {f0 f1 f2 f3 f4 : Value} (ho : H[a]? = some (.inl (0, [f0, f1, f2, f3, f4]))) (kk : Runs K l Z n0 m7 4 ls (f4 :: st) H v H') : Runs K l Z n0 m7 1 ls (.ref a :: st) H v H' := r_getF (cid := 0) (i := 4) i7_1 (hw _ (List.mem_of_getElem? (i := 41) rfl)) Via.refl rfl rfl ho rfl kk
theorem s7_5 {l : Launch} {Z : State} {a0 : Array Value} {n0 : Nat} {ls : List Slot} {st : List Value} {H H' : List Ob} {v : Option Value} (hw : HW Z a0) {a : Nat} {f0 f1 f2 f3 f4 : Value} (ho : H[a]? = some (.inl (0, [f0, f1, f2, f3, f4]))) (kk : Runs K l Z n0 m7 8 ls (f2 :: st) H v H') : Runs K l Z n0 m7 5 ls (.ref a :: st) H v H' := r_getF (cid := 0) (i := 2) i7_5 (hw _ (List.mem_of_getElem? (i := 23) rfl)) Via.refl rfl rfl ho rfl kk
theorem s7_14 {l : Launch} {Z : State} {a0 : Array Value} {n0 : Nat} {ls : List Slot} {st : List Value} {H H' : List Ob} {v : Option Value} (hw : HW Z a0) {a : Nat} {f0 f1 f2 f3 f4 : Value} (ho : H[a]? = some (.inl (0, [f0, f1, f2, f3, f4]))) (kk : Runs K l Z n0 m7 17 ls (f2 :: st) H v H') : Runs K l Z n0 m7 14 ls (.ref a :: st) H v H' := r_getF (cid := 0) (i := 2) i7_14 (hw _ (List.mem_of_getElem? (i := 23) rfl)) Via.refl rfl rfl ho rfl kk
theorem s7_18 {l : Launch} {Z : State} {a0 : Array Value} {n0 : Nat} {ls : List Slot} {st : List Value} {H H' : List Ob} {v : Option Value} (hw : HW Z a0) {a : Nat} {f0 f1 f2 f3 f4 : Value} (ho : H[a]? = some (.inl (0, [f0, f1, f2, f3, f4]))) (kk : Runs K l Z n0 m7 21 ls (f2 :: st) H v H') : Runs K l Z n0 m7 18 ls (.ref a :: st) H v H' := r_getF (cid := 0) (i := 2) i7_18 (hw _ (List.mem_of_getElem? (i := 23) rfl)) Via.refl rfl rfl ho rfl kk
theorem s7_23 {l : Launch} {Z : State} {a0 : Array Value} {n0 : Nat} {ls : List Slot} {st : List Value} {H H' : List Ob} {v : Option Value} (hw : HW Z a0) {a : Nat} {f0 f1 f2 f3 f4 : Value} (ho : H[a]? = some (.inl (0, [f0, f1, f2, f3, f4]))) (kk : Runs K l Z n0 m7 26 ls (f4 :: st) H v H') : Runs K l Z n0 m7 23 ls (.ref a :: st) H v H' := r_getF (cid := 0) (i := 4) i7_23 (hw _ (List.mem_of_getElem? (i := 41) rfl)) Via.refl rfl rfl ho rfl kk
theorem s7_29 {l : Launch} {Z : State} {a0 : Array Value} {n0 : Nat} {ls : List Slot} {st : List Value} {H H' H1 : List Ob} {v : Option Value} (hw : HW Z a0) {x0 x1 : Value} {w : Value} (M : Meets K l Z n0 m10 [x0, x1] H (some w) H1) (hls : ls.length = 3) (hlo : (st.map fun v => v.category).sum ≤ 8) (kk : Runs K l Z n0 m7 32 ls (w :: st) H1 v H') : Runs K l Z n0 m7 29 ls (x1 :: x0 :: st) H v H' := r_static (mj := m10) (as := [x0, x1]) (rest := st) i7_29 (hw _ (List.mem_of_getElem? (i := 53) rfl)) (hw _ (List.mem_of_getElem? (i := 54) rfl)) (hw _ (List.mem_of_getElem? (i := 55) rfl)) (hw _ (List.mem_of_getElem? (i := 56) rfl)) (by decide) (lenOf pd10 rfl) (by decide) rfl hls (by show _ + (3 + 11) + 19 ≤ 41; omega) M kk
theorem s7_32 {l : Launch} {Z : State} {a0 : Array Value} {n0 : Nat} {ls : List Slot} {st : List Value} {H H' H1 : List Ob} {v : Option Value} (hw : HW Z a0) {x0 x1 : Value} {w : Value} (M : Meets K l Z n0 m13 [x0, x1] H (some w) H1) (hls : ls.length = 3) (hlo : (st.map fun v => v.category).sum ≤ 9) (kk : Runs K l Z n0 m7 35 ls (w :: st) H1 v H') : Runs K l Z n0 m7 32 ls (x1 :: x0 :: st) H v H' := r_static (mj := m13) (as := [x0, x1]) (rest := st) i7_32 (hw _ (List.mem_of_getElem? (i := 66) rfl)) (hw _ (List.mem_of_getElem? (i := 67) rfl)) (hw _ (List.mem_of_getElem? (i := 19) rfl)) (hw _ (List.mem_of_getElem? (i := 68) rfl)) (by decide) (lenOf pd13 rfl) (by decide) rfl hls (by show _ + (3 + 11) + 18 ≤ 41; omega) M kk
theorem s7_35 {l : Launch} {Z : State} {a0 : Array Value} {n0 : Nat} {ls : List Slot} {st : List Value} {H H' H1 : List Ob} {v : Option Value} (hw : HW Z a0) {a : Nat} {f0 f1 f2 f3 f4 x : Value} (ho : H[a]? = some (.inl (0, [f0, f1, f2, f3, f4]))) (hn : narrow (.array .int) x = x) (hf : fits (.array .int) x = true) (hH : H.set a (.inl (0, [f0, f1, x, f3, f4])) = H1) (kk : Runs K l Z n0 m7 38 ls st H1 v H') : Runs K l Z n0 m7 35 ls (x :: .ref a :: st) H v H' := r_putF (cid := 0) (i := 2) (kok hw) i7_35 (hw _ (List.mem_of_getElem? (i := 23) rfl)) Via.refl rfl rfl (Or.inl (hw _ (List.mem_of_getElem? (i := 24) rfl))) ho (ltB rfl) hn hf rfl hH kk
theorem s7_40 {l : Launch} {Z : State} {a0 : Array Value} {n0 : Nat} {ls : List Slot} {st : List Value} {H H' : List Ob} {v : Option Value} (hw : HW Z a0) {a : Nat} {f0 f1 f2 f3 f4 : Value} (ho : H[a]? = some (.inl (0, [f0, f1, f2, f3, f4]))) (kk : Runs K l Z n0 m7 43 ls (f3 :: st) H v H') : Runs K l Z n0 m7 40 ls (.ref a :: st) H v H' := r_getF (cid := 0) (i := 3) i7_40 (hw _ (List.mem_of_getElem? (i := 25) rfl)) Via.refl rfl rfl ho rfl kk
theorem s7_44 {l : Launch} {Z : State} {a0 : Array Value} {n0 : Nat} {ls : List Slot} {st : List Value} {H H' : List Ob} {v : Option Value} (hw : HW Z a0) {a : Nat} {f0 f1 f2 f3 f4 : Value} (ho : H[a]? = some (.inl (0, [f0, f1, f2, f3, f4]))) (kk : Runs K l Z n0 m7 47 ls (f2 :: st) H v H') : Runs K l Z n0 m7 44 ls (.ref a :: st) H v H' := r_getF (cid := 0) (i := 2) i7_44 (hw _ (List.mem_of_getElem? (i := 23) rfl)) Via.refl rfl rfl ho rfl kk
theorem s7_48 {l : Launch} {Z : State} {a0 : Array Value} {n0 : Nat} {ls : List Slot} {st : List Value} {H H' H1 : List Ob} {v : Option Value} (hw : HW Z a0) {x0 x1 : Value} {w : Value} (M : Meets K l Z n0 m13 [x0, x1] H (some w) H1) (hls : ls.length = 3) (hlo : (st.map fun v => v.category).sum ≤ 9) (kk : Runs K l Z n0 m7 51 ls (w :: st) H1 v H') : Runs K l Z n0 m7 48 ls (x1 :: x0 :: st) H v H' := r_static (mj := m13) (as := [x0, x1]) (rest := st) i7_48 (hw _ (List.mem_of_getElem? (i := 66) rfl)) (hw _ (List.mem_of_getElem? (i := 67) rfl)) (hw _ (List.mem_of_getElem? (i := 19) rfl)) (hw _ (List.mem_of_getElem? (i := 68) rfl)) (by decide) (lenOf pd13 rfl) (by decide) rfl hls (by show _ + (3 + 11) + 18 ≤ 41; omega) M kk
theorem s7_51 {l : Launch} {Z : State} {a0 : Array Value} {n0 : Nat} {ls : List Slot} {st : List Value} {H H' H1 : List Ob} {v : Option Value} (hw : HW Z a0) {a : Nat} {f0 f1 f2 f3 f4 x : Value} (ho : H[a]? = some (.inl (0, [f0, f1, f2, f3, f4]))) (hn : narrow (.array .int) x = x) (hf : fits (.array .int) x = true) (hH : H.set a (.inl (0, [f0, f1, f2, x, f4])) = H1) (kk : Runs K l Z n0 m7 54 ls st H1 v H') : Runs K l Z n0 m7 51 ls (x :: .ref a :: st) H v H' := r_putF (cid := 0) (i := 3) (kok hw) i7_51 (hw _ (List.mem_of_getElem? (i := 25) rfl)) Via.refl rfl rfl (Or.inl (hw _ (List.mem_of_getElem? (i := 26) rfl))) ho (ltB rfl) hn hf rfl hH kk
theorem s7_55 {l : Launch} {Z : State} {a0 : Array Value} {n0 : Nat} {ls : List Slot} {st : List Value} {H H' : List Ob} {v : Option Value} (hw : HW Z a0) {a : Nat} {f0 f1 f2 f3 f4 : Value} (ho : H[a]? = some (.inl (0, [f0, f1, f2, f3, f4]))) (kk : Runs K l Z n0 m7 58 ls (f2 :: st) H v H') : Runs K l Z n0 m7 55 ls (.ref a :: st) H v H' := r_getF (cid := 0) (i := 2) i7_55 (hw _ (List.mem_of_getElem? (i := 23) rfl)) Via.refl rfl rfl ho rfl kk
theorem s7_59 {l : Launch} {Z : State} {a0 : Array Value} {n0 : Nat} {ls : List Slot} {st : List Value} {H H' : List Ob} {v : Option Value} (hw : HW Z a0) {a : Nat} {f0 f1 f2 f3 f4 : Value} (ho : H[a]? = some (.inl (0, [f0, f1, f2, f3, f4]))) (kk : Runs K l Z n0 m7 62 ls (f4 :: st) H v H') : Runs K l Z n0 m7 59 ls (.ref a :: st) H v H' := r_getF (cid := 0) (i := 4) i7_59 (hw _ (List.mem_of_getElem? (i := 41) rfl)) Via.refl rfl rfl ho rfl kk
theorem s7_65 {l : Launch} {Z : State} {a0 : Array Value} {n0 : Nat} {ls : List Slot} {st : List Value} {H H' : List Ob} {v : Option Value} (hw : HW Z a0) {a : Nat} {f0 f1 f2 f3 f4 : Value} (ho : H[a]? = some (.inl (0, [f0, f1, f2, f3, f4]))) (kk : Runs K l Z n0 m7 68 ls (f3 :: st) H v H') : Runs K l Z n0 m7 65 ls (.ref a :: st) H v H' := r_getF (cid := 0) (i := 3) i7_65 (hw _ (List.mem_of_getElem? (i := 25) rfl)) Via.refl rfl rfl ho rfl kk
theorem s7_69 {l : Launch} {Z : State} {a0 : Array Value} {n0 : Nat} {ls : List Slot} {st : List Value} {H H' : List Ob} {v : Option Value} (hw : HW Z a0) {a : Nat} {f0 f1 f2 f3 f4 : Value} (ho : H[a]? = some (.inl (0, [f0, f1, f2, f3, f4]))) (kk : Runs K l Z n0 m7 72 ls (f4 :: st) H v H') : Runs K l Z n0 m7 69 ls (.ref a :: st) H v H' := r_getF (cid := 0) (i := 4) i7_69 (hw _ (List.mem_of_getElem? (i := 41) rfl)) Via.refl rfl rfl ho rfl kk
theorem s7_75 {l : Launch} {Z : State} {a0 : Array Value} {n0 : Nat} {ls : List Slot} {st : List Value} {H H' : List Ob} {v : Option Value} (hw : HW Z a0) {a : Nat} {f0 f1 f2 f3 f4 : Value} (ho : H[a]? = some (.inl (0, [f0, f1, f2, f3, f4]))) (kk : Runs K l Z n0 m7 78 ls (f0 :: st) H v H') : Runs K l Z n0 m7 75 ls (.ref a :: st) H v H' := r_getF (cid := 0) (i := 0) i7_75 (hw _ (List.mem_of_getElem? (i := 15) rfl)) Via.refl rfl rfl ho rfl kk
theorem s7_81 {l : Launch} {Z : State} {a0 : Array Value} {n0 : Nat} {ls : List Slot} {st : List Value} {H H' : List Ob} {v : Option Value} (hw : HW Z a0) {a : Nat} {f0 f1 f2 f3 f4 : Value} (ho : H[a]? = some (.inl (0, [f0, f1, f2, f3, f4]))) (kk : Runs K l Z n0 m7 84 ls (f4 :: st) H v H') : Runs K l Z n0 m7 81 ls (.ref a :: st) H v H' := r_getF (cid := 0) (i := 4) i7_81 (hw _ (List.mem_of_getElem? (i := 41) rfl)) Via.refl rfl rfl ho rfl kk
theorem s7_87 {l : Launch} {Z : State} {a0 : Array Value} {n0 : Nat} {ls : List Slot} {st : List Value} {H H' H1 : List Ob} {v : Option Value} (hw : HW Z a0) {a : Nat} {f0 f1 f2 f3 f4 x : Value} (ho : H[a]? = some (.inl (0, [f0, f1, f2, f3, f4]))) (hn : narrow .int x = x) (hf : fits .int x = true) (hH : H.set a (.inl (0, [f0, f1, f2, f3, x])) = H1) (kk : Runs K l Z n0 m7 90 ls st H1 v H') : Runs K l Z n0 m7 87 ls (x :: .ref a :: st) H v H' := r_putF (cid := 0) (i := 4) (kok hw) i7_87 (hw _ (List.mem_of_getElem? (i := 41) rfl)) Via.refl rfl rfl (Or.inl (hw _ (List.mem_of_getElem? (i := 42) rfl))) ho (ltB rfl) hn hf rfl hH kk
theorem s7_91 {l : Launch} {Z : State} {a0 : Array Value} {n0 : Nat} {ls : List Slot} {st : List Value} {H H' : List Ob} {v : Option Value} (hw : HW Z a0) (kk : Runs K l Z n0 m7 94 ls (.long 2 :: st) H v H') : Runs K l Z n0 m7 91 ls st H v H' := r_ldc2 i7_91 (hw _ (List.mem_of_getElem? (i := 43) rfl)) kk
theorem s7_95 {l : Launch} {Z : State} {a0 : Array Value} {n0 : Nat} {ls : List Slot} {st : List Value} {H H' : List Ob} {v : Option Value} (hw : HW Z a0) {a : Nat} {f0 f1 f2 f3 f4 : Value} (ho : H[a]? = some (.inl (0, [f0, f1, f2, f3, f4]))) (kk : Runs K l Z n0 m7 98 ls (f4 :: st) H v H') : Runs K l Z n0 m7 95 ls (.ref a :: st) H v H' := r_getF (cid := 0) (i := 4) i7_95 (hw _ (List.mem_of_getElem? (i := 41) rfl)) Via.refl rfl rfl ho rfl kk
theorem s7_101 {l : Launch} {Z : State} {a0 : Array Value} {n0 : Nat} {ls : List Slot} {st : List Value} {H H' : List Ob} {v : Option Value} (hw : HW Z a0) {a : Nat} {f0 f1 f2 f3 f4 : Value} (ho : H[a]? = some (.inl (0, [f0, f1, f2, f3, f4]))) (kk : Runs K l Z n0 m7 104 ls (f0 :: st) H v H') : Runs K l Z n0 m7 101 ls (.ref a :: st) H v H' := r_getF (cid := 0) (i := 0) i7_101 (hw _ (List.mem_of_getElem? (i := 15) rfl)) Via.refl rfl rfl ho rfl kk
theorem s7_111 {l : Launch} {Z : State} {a0 : Array Value} {n0 : Nat} {ls : List Slot} {st : List Value} {H H' H1 : List Ob} {v : Option Value} (hw : HW Z a0) {a : Nat} {vs : List Value} (ho : H[a]? = some (.inl (0, vs))) (M : Meets K l Z n0 m15 [.ref a] H none H1) (hls : ls.length = 3) (hlo : (st.map fun v => v.category).sum ≤ 0) (kk : Runs K l Z n0 m7 114 ls st H1 v H') : Runs K l Z n0 m7 111 ls (.ref a :: st) H v H' := r_private (mj := m15) (cid := 0) (as := []) (rest := st) i7_111 (hw _ (List.mem_of_getElem? (i := 76) rfl)) (Jvm.Kit.selects_private (by decide) (hw _ (List.mem_of_getElem? (i := 2) rfl)) (hw _ (List.mem_of_getElem? (i := 78) rfl)) (hw _ (List.mem_of_getElem? (i := 77) rfl))) (hw _ (List.mem_of_getElem? (i := 78) rfl)) (hw _ (List.mem_of_getElem? (i := 77) rfl)) (hw _ (List.mem_of_getElem? (i := 3) rfl)) (hw _ (List.mem_of_getElem? (i := 79) rfl)) (by decide) (lenOf pd15 rfl) (by decide) rfl rfl ho hls (by show _ + (2 + 11) + 28 ≤ 41; omega) M kk
theorem s7_115 {l : Launch} {Z : State} {a0 : Array Value} {n0 : Nat} {ls : List Slot} {st : List Value} {H H' : List Ob} {v : Option Value} (hw : HW Z a0) {a : Nat} {f0 f1 f2 f3 f4 : Value} (ho : H[a]? = some (.inl (0, [f0, f1, f2, f3, f4]))) (kk : Runs K l Z n0 m7 118 ls (f4 :: st) H v H') : Runs K l Z n0 m7 115 ls (.ref a :: st) H v H' := r_getF (cid := 0) (i := 4) i7_115 (hw _ (List.mem_of_getElem? (i := 41) rfl)) Via.refl rfl rfl ho rfl kk
theorem s8_1 {l : Launch} {Z : State} {a0 : Array Value} {n0 : Nat} {ls : List Slot} {st : List Value} {H H' : List Ob} {v : Option Value} (hw : HW Z a0) {a : Nat} {f0 f1 f2 f3 f4 : Value} (ho : H[a]? = some (.inl (0, [f0, f1, f2, f3, f4]))) (kk : Runs K l Z n0 m8 4 ls (f0 :: st) H v H') : Runs K l Z n0 m8 1 ls (.ref a :: st) H v H' := r_getF (cid := 0) (i := 0) i8_1 (hw _ (List.mem_of_getElem? (i := 15) rfl)) Via.refl rfl rfl ho rfl kk
theorem s8_6 {l : Launch} {Z : State} {a0 : Array Value} {n0 : Nat} {ls : List Slot} {st : List Value} {H H' H1 : List Ob} {v : Option Value} (hw : HW Z a0) {a : Nat} {vs : List Value} {x0 : Value} {w : Value} (ho : H[a]? = some (.inl (0, vs))) (M : Meets K l Z n0 m6 [.ref a, x0] H (some w) H1) (hls : ls.length = 3) (hlo : (st.map fun v => v.category).sum ≤ 1) (kk : Runs K l Z n0 m8 9 ls (w :: st) H1 v H') : Runs K l Z n0 m8 6 ls (x0 :: .ref a :: st) H v H' := r_private (mj := m6) (cid := 0) (as := [x0]) (rest := st) i8_6 (hw _ (List.mem_of_getElem? (i := 32) rfl)) (Jvm.Kit.selects_private (by decide) (hw _ (List.mem_of_getElem? (i := 2) rfl)) (hw _ (List.mem_of_getElem? (i := 34) rfl)) (hw _ (List.mem_of_getElem? (i := 33) rfl))) (hw _ (List.mem_of_getElem? (i := 34) rfl)) (hw _ (List.mem_of_getElem? (i := 33) rfl)) (hw _ (List.mem_of_getElem? (i := 3) rfl)) (hw _ (List.mem_of_getElem? (i := 35) rfl)) (by decide) (lenOf pd6 rfl) (by decide) rfl rfl ho hls (by show _ + (4 + 11) + 0 ≤ 16; omega) M kk
theorem s8_21 {l : Launch} {Z : State} {a0 : Array Value} {n0 : Nat} {ls : List Slot} {st : List Value} {H H' : List Ob} {v : Option Value} (hw : HW Z a0) {a : Nat} {f0 f1 f2 f3 f4 : Value} (ho : H[a]? = some (.inl (0, [f0, f1, f2, f3, f4]))) (kk : Runs K l Z n0 m8 24 ls (f3 :: st) H v H') : Runs K l Z n0 m8 21 ls (.ref a :: st) H v H' := r_getF (cid := 0) (i := 3) i8_21 (hw _ (List.mem_of_getElem? (i := 25) rfl)) Via.refl rfl rfl ho rfl kk
theorem s10_1 {l : Launch} {Z : State} {a0 : Array Value} {n0 : Nat} {ls : List Slot} {st : List Value} {H H' : List Ob} {v : Option Value} (hw : HW Z a0) (kk : Runs K l Z n0 m10 4 ls (.long 2147483639 :: st) H v H') : Runs K l Z n0 m10 1 ls st H v H' := r_ldc2 i10_1 (hw _ (List.mem_of_getElem? (i := 57) rfl)) kk
-- 10_8 .new 7: no link word
-- 10_12 .ldc 9: no link word
-- 10_14 .invokespecial 11: no link word
theorem s10_18 {l : Launch} {Z : State} {a0 : Array Value} {n0 : Nat} {ls : List Slot} {st : List Value} {H H' : List Ob} {v : Option Value} (hw : HW Z a0) (kk : Runs K l Z n0 m10 21 ls (.long 2147483639 :: st) H v H') : Runs K l Z n0 m10 18 ls st H v H' := r_ldc2 i10_18 (hw _ (List.mem_of_getElem? (i := 57) rfl)) kk
theorem s10_22 {l : Launch} {Z : State} {a0 : Array Value} {n0 : Nat} {ls : List Slot} {st : List Value} {H H' : List Ob} {v : Option Value} (hw : HW Z a0) (kk : Runs K l Z n0 m10 25 ls (.long 16 :: st) H v H') : Runs K l Z n0 m10 22 ls st H v H' := r_ldc2 i10_22 (hw _ (List.mem_of_getElem? (i := 58) rfl)) kk
theorem s10_32 {l : Launch} {Z : State} {a0 : Array Value} {n0 : Nat} {ls : List Slot} {st : List Value} {H H' H1 : List Ob} {v : Option Value} (hw : HW Z a0) {x0 x1 : Value} {w : Value} (M : Meets K l Z n0 m11 [x0, x1] H (some w) H1) (hls : ls.length = 3) (hlo : (st.map fun v => v.category).sum ≤ 4) (kk : Runs K l Z n0 m10 35 ls (w :: st) H1 v H') : Runs K l Z n0 m10 32 ls (x1 :: x0 :: st) H v H' := r_static (mj := m11) (as := [x0, x1]) (rest := st) i10_32 (hw _ (List.mem_of_getElem? (i := 59) rfl)) (hw _ (List.mem_of_getElem? (i := 60) rfl)) (hw _ (List.mem_of_getElem? (i := 61) rfl)) (hw _ (List.mem_of_getElem? (i := 62) rfl)) (by decide) (lenOf pd11 rfl) (by decide) rfl hls (by show _ + (4 + 11) + 0 ≤ 19; omega) M kk
theorem s10_35 {l : Launch} {Z : State} {a0 : Array Value} {n0 : Nat} {ls : List Slot} {st : List Value} {H H' H1 : List Ob} {v : Option Value} (hw : HW Z a0) {x0 x1 : Value} {w : Value} (M : Meets K l Z n0 m11 [x0, x1] H (some w) H1) (hls : ls.length = 3) (hlo : (st.map fun v => v.category).sum ≤ 4) (kk : Runs K l Z n0 m10 38 ls (w :: st) H1 v H') : Runs K l Z n0 m10 35 ls (x1 :: x0 :: st) H v H' := r_static (mj := m11) (as := [x0, x1]) (rest := st) i10_35 (hw _ (List.mem_of_getElem? (i := 59) rfl)) (hw _ (List.mem_of_getElem? (i := 60) rfl)) (hw _ (List.mem_of_getElem? (i := 61) rfl)) (hw _ (List.mem_of_getElem? (i := 62) rfl)) (by decide) (lenOf pd11 rfl) (by decide) rfl hls (by show _ + (4 + 11) + 0 ≤ 19; omega) M kk
theorem s10_38 {l : Launch} {Z : State} {a0 : Array Value} {n0 : Nat} {ls : List Slot} {st : List Value} {H H' H1 : List Ob} {v : Option Value} (hw : HW Z a0) {x0 x1 : Value} {w : Value} (M : Meets K l Z n0 m12 [x0, x1] H (some w) H1) (hls : ls.length = 3) (hlo : (st.map fun v => v.category).sum ≤ 4) (kk : Runs K l Z n0 m10 41 ls (w :: st) H1 v H') : Runs K l Z n0 m10 38 ls (x1 :: x0 :: st) H v H' := r_static (mj := m12) (as := [x0, x1]) (rest := st) i10_38 (hw _ (List.mem_of_getElem? (i := 63) rfl)) (hw _ (List.mem_of_getElem? (i := 64) rfl)) (hw _ (List.mem_of_getElem? (i := 61) rfl)) (hw _ (List.mem_of_getElem? (i := 65) rfl)) (by decide) (lenOf pd12 rfl) (by decide) rfl hls (by show _ + (4 + 11) + 0 ≤ 19; omega) M kk
-- 13_7 .invokevirtual 316: no link word
-- 13_10 .checkcast 317: no link word
theorem s13_15 {l : Launch} {Z : State} {a0 : Array Value} {n0 : Nat} {ls : List Slot} {st : List Value} {H H' H1 : List Ob} {v : Option Value} (hw : HW Z a0) {a : Nat} {n : Int32} {o : List Value} (hn : ¬ n < 0) (h8 : n.toNatClampNeg * 8 ≤ 536870912) (ho : List.replicate n.toNatClampNeg (.int 0) = o) (ha : H.length = a) (hH : H ++ [.inr (.int, o)] = H1) (kk : Runs K l Z n0 m13 17 ls (.ref a :: st) H1 v H') : Runs K l Z n0 m13 15 ls (.int n :: st) H v H' := r_newA i13_15 (hw _ (List.mem_of_getElem? (i := 14) rfl)) hn h8 ho ha hH kk
theorem s13_25 {l : Launch} {Z : State} {a0 : Array Value} {n0 : Nat} {ls : List Slot} {st : List Value} {H H' H1 : List Ob} {v : Option Value} (hw : HW Z a0) {x0 x1 : Value} {w : Value} (M : Meets K l Z n0 m14 [x0, x1] H (some w) H1) (hls : ls.length = 3) (hlo : (st.map fun v => v.category).sum ≤ 5) (kk : Runs K l Z n0 m13 28 ls (w :: st) H1 v H') : Runs K l Z n0 m13 25 ls (x1 :: x0 :: st) H v H' := r_static (mj := m14) (as := [x0, x1]) (rest := st) i13_25 (hw _ (List.mem_of_getElem? (i := 69) rfl)) (hw _ (List.mem_of_getElem? (i := 70) rfl)) (hw _ (List.mem_of_getElem? (i := 61) rfl)) (hw _ (List.mem_of_getElem? (i := 71) rfl)) (by decide) (lenOf pd14 rfl) (by decide) rfl hls (by show _ + (2 + 11) + 0 ≤ 18; omega) M kk
theorem s13_28 {l : Launch} {Z : State} {a0 : Array Value} {n0 : Nat} {ls : List Slot} {st : List Value} {H H' H1 : List Ob} {v : Option Value} (hw : HW Z a0) {a b : Nat} {ty : FieldType} {vs wd wd' : List Value} {sp dp nn : Int32} {spN dpN nN : Nat} (hty : refKind ty = false) (ho : H[a]? = some (.inr (ty, vs))) (ho' : H[b]? = some (.inr (ty, wd))) (h1 : Ix sp spN) (h2 : Ix dp dpN) (h3 : Ix nn nN) (h4 : spN + nN ≤ vs.length) (h5 : dpN + nN ≤ wd.length) (hwd : wd.take dpN ++ (vs.drop spN).take nN ++ wd.drop (dpN + nN) = wd') (hH : H.set b (.inr (ty, wd')) = H1) (hls : ls.length = 3) (hlo : (st.map fun v => v.category).sum ≤ 0) (kk : Runs K l Z n0 m13 31 ls st H1 v H') : Runs K l Z n0 m13 28 ls (.int nn :: .int dp :: .ref b :: .int sp :: .ref a :: st) H v H' := r_acopy i13_28 (hw _ (List.mem_of_getElem? (i := 72) rfl)) (hw _ (List.mem_of_getElem? (i := 75) rfl)) (hw _ (List.mem_of_getElem? (i := 73) rfl)) (hw _ (List.mem_of_getElem? (i := 74) rfl)) hty ho ho' h1 h2 h3 h4 h5 hwd hH hls (by decide) (Nat.add_le_add_right hlo 18) kk
theorem s15_4 {l : Launch} {Z : State} {a0 : Array Value} {n0 : Nat} {ls : List Slot} {st : List Value} {H H' : List Ob} {v : Option Value} (hw : HW Z a0) {a : Nat} {f0 f1 f2 f3 f4 : Value} (ho : H[a]? = some (.inl (0, [f0, f1, f2, f3, f4]))) (kk : Runs K l Z n0 m15 7 ls (f1 :: st) H v H') : Runs K l Z n0 m15 4 ls (.ref a :: st) H v H' := r_getF (cid := 0) (i := 1) i15_4 (hw _ (List.mem_of_getElem? (i := 21) rfl)) Via.refl rfl rfl ho rfl kk
theorem s15_10 {l : Launch} {Z : State} {a0 : Array Value} {n0 : Nat} {ls : List Slot} {st : List Value} {H H' H1 : List Ob} {v : Option Value} (hw : HW Z a0) {a : Nat} {vs : List Value} {x0 : Value} (ho : H[a]? = some (.inl (0, vs))) (M : Meets K l Z n0 m3 [.ref a, x0] H none H1) (hls : ls.length = 2) (hlo : (st.map fun v => v.category).sum ≤ 0) (kk : Runs K l Z n0 m15 13 ls st H1 v H') : Runs K l Z n0 m15 10 ls (x0 :: .ref a :: st) H v H' := r_private (mj := m3) (cid := 0) (as := [x0]) (rest := st) i15_10 (hw _ (List.mem_of_getElem? (i := 10) rfl)) (Jvm.Kit.selects_private (by decide) (hw _ (List.mem_of_getElem? (i := 2) rfl)) (hw _ (List.mem_of_getElem? (i := 12) rfl)) (hw _ (List.mem_of_getElem? (i := 11) rfl))) (hw _ (List.mem_of_getElem? (i := 12) rfl)) (hw _ (List.mem_of_getElem? (i := 11) rfl)) (hw _ (List.mem_of_getElem? (i := 3) rfl)) (hw _ (List.mem_of_getElem? (i := 13) rfl)) (by decide) (lenOf pd3 rfl) (by decide) rfl rfl ho hls (by show _ + (2 + 11) + 15 ≤ 28; omega) M kk
theorem s15_17 {l : Launch} {Z : State} {a0 : Array Value} {n0 : Nat} {ls : List Slot} {st : List Value} {H H' : List Ob} {v : Option Value} (hw : HW Z a0) {a : Nat} {f0 f1 f2 f3 f4 : Value} (ho : H[a]? = some (.inl (0, [f0, f1, f2, f3, f4]))) (kk : Runs K l Z n0 m15 20 ls (f4 :: st) H v H') : Runs K l Z n0 m15 17 ls (.ref a :: st) H v H' := r_getF (cid := 0) (i := 4) i15_17 (hw _ (List.mem_of_getElem? (i := 41) rfl)) Via.refl rfl rfl ho rfl kk
theorem s15_24 {l : Launch} {Z : State} {a0 : Array Value} {n0 : Nat} {ls : List Slot} {st : List Value} {H H' : List Ob} {v : Option Value} (hw : HW Z a0) {a : Nat} {f0 f1 f2 f3 f4 : Value} (ho : H[a]? = some (.inl (0, [f0, f1, f2, f3, f4]))) (kk : Runs K l Z n0 m15 27 ls (f0 :: st) H v H') : Runs K l Z n0 m15 24 ls (.ref a :: st) H v H' := r_getF (cid := 0) (i := 0) i15_24 (hw _ (List.mem_of_getElem? (i := 15) rfl)) Via.refl rfl rfl ho rfl kk
theorem s15_29 {l : Launch} {Z : State} {a0 : Array Value} {n0 : Nat} {ls : List Slot} {st : List Value} {H H' : List Ob} {v : Option Value} (hw : HW Z a0) {a : Nat} {f0 f1 f2 f3 f4 : Value} (ho : H[a]? = some (.inl (0, [f0, f1, f2, f3, f4]))) (kk : Runs K l Z n0 m15 32 ls (f2 :: st) H v H') : Runs K l Z n0 m15 29 ls (.ref a :: st) H v H' := r_getF (cid := 0) (i := 2) i15_29 (hw _ (List.mem_of_getElem? (i := 23) rfl)) Via.refl rfl rfl ho rfl kk
theorem s15_34 {l : Launch} {Z : State} {a0 : Array Value} {n0 : Nat} {ls : List Slot} {st : List Value} {H H' H1 : List Ob} {v : Option Value} (hw : HW Z a0) {a : Nat} {vs : List Value} {x0 : Value} {w : Value} (ho : H[a]? = some (.inl (0, vs))) (M : Meets K l Z n0 m6 [.ref a, x0] H (some w) H1) (hls : ls.length = 2) (hlo : (st.map fun v => v.category).sum ≤ 13) (kk : Runs K l Z n0 m15 37 ls (w :: st) H1 v H') : Runs K l Z n0 m15 34 ls (x0 :: .ref a :: st) H v H' := r_private (mj := m6) (cid := 0) (as := [x0]) (rest := st) i15_34 (hw _ (List.mem_of_getElem? (i := 32) rfl)) (Jvm.Kit.selects_private (by decide) (hw _ (List.mem_of_getElem? (i := 2) rfl)) (hw _ (List.mem_of_getElem? (i := 34) rfl)) (hw _ (List.mem_of_getElem? (i := 33) rfl))) (hw _ (List.mem_of_getElem? (i := 34) rfl)) (hw _ (List.mem_of_getElem? (i := 33) rfl)) (hw _ (List.mem_of_getElem? (i := 3) rfl)) (hw _ (List.mem_of_getElem? (i := 35) rfl)) (by decide) (lenOf pd6 rfl) (by decide) rfl rfl ho hls (by show _ + (4 + 11) + 0 ≤ 28; omega) M kk
def hN (s r : Int32) : Nat := (XT.ushr (r * (-1640531527)) s).toNatClampNeg
theorem hN29 (r : Int32) : hN 29 r < 8 ∧ XT.ushr (r * (-1640531527)) 29 = (hN 29 r).toInt32 := by
  have h : (XT.ushr (r * (-1640531527)) 29).toInt = ((r * (-1640531527)).toInt % 4294967296) / (2 ^ 29 : Nat) := c_iushr (r * (-1640531527)) 29 29 (by decide) (by decide)
  have e : ((2 ^ 29 : Nat) : Int) = 536870912 := by decide
  rw [e] at h
  unfold hN
  refine ⟨?_, ti_of (by omega)⟩
  simp only [Int32.toNatClampNeg]; omega
theorem hN28 (r : Int32) : hN 28 r < 16 ∧ XT.ushr (r * (-1640531527)) 28 = (hN 28 r).toInt32 := by
  have h : (XT.ushr (r * (-1640531527)) 28).toInt = ((r * (-1640531527)).toInt % 4294967296) / (2 ^ 28 : Nat) := c_iushr (r * (-1640531527)) 28 28 (by decide) (by decide)
  have e : ((2 ^ 28 : Nat) : Int) = 268435456 := by decide
  rw [e] at h
  unfold hN
  refine ⟨?_, ti_of (by omega)⟩
  simp only [Int32.toNatClampNeg]; omega
theorem ti_nm {k : Nat} (h : k < 2 ^ 31) : k.toInt32 ≠ -1 := fun z => by
  have q := congrArg Int32.toInt z
  rw [ti_int h] at q
  have e : (-1 : Int32).toInt = -1 := by decide
  omega
theorem mk8 (i : Nat) (h : i < 8) : i.toInt32 + 1 &&& (8 : Nat).toInt32 - 1 = ((i + 1) % 8).toInt32 := by
  match i, h with
  | 0, _ => decide
  | 1, _ => decide
  | 2, _ => decide
  | 3, _ => decide
  | 4, _ => decide
  | 5, _ => decide
  | 6, _ => decide
  | 7, _ => decide
theorem own_least (P : Nat → Prop) (n : Nat) : P n → ∃ m, m ≤ n ∧ P m ∧ ∀ e, e < m → ¬ P e := by
  induction n using Nat.strongRecOn with
  | _ n ih =>
    intro hn
    by_cases q : ∃ e, e < n ∧ P e
    · obtain ⟨e, he, pe⟩ := q
      obtain ⟨m, hm, pm, hl⟩ := ih e he pe
      exact ⟨m, by omega, pm, hl⟩
    · exact ⟨n, Nat.le_refl _, hn, fun e he pe => q ⟨e, he, pe⟩⟩
def Inv (C : Nat) (h : Int32 → Nat) (sl : Nat → Int32) (rs : List Int32) : Prop :=
  (∀ i, i < C → sl i = -1 ∨ ∃ k, k < rs.length ∧ sl i = k.toInt32) ∧
  (∀ (k : Nat) (r : Int32), rs[k]? = some r → ∃ d, d < C ∧ sl ((h r + d) % C) = k.toInt32 ∧ ∀ e, e < d → ∃ j, j < k ∧ sl ((h r + e) % C) = j.toInt32) ∧
  (∀ i j, i < C → j < C → sl i = sl j → sl i ≠ -1 → i = j) ∧
  (∀ (i j : Nat) (r : Int32), rs[i]? = some r → rs[j]? = some r → i = j) ∧
  (∃ E : List Nat, E.Nodup ∧ C ≤ E.length + rs.length ∧ ∀ i, i ∈ E → i < C ∧ sl i = -1)
def Fnd (C : Nat) (h : Int32 → Nat) (sl : Nat → Int32) (rs : List Int32) (r : Int32) (i : Nat) : Prop :=
  i < C ∧ ((∃ k : Nat, rs[k]? = some r ∧ sl i = k.toInt32) ∨ ((∀ k : Nat, rs[k]? ≠ some r) ∧ sl i = -1 ∧ ∃ d, d < C ∧ i = (h r + d) % C ∧ ∀ e, e < d → ∃ j, j < rs.length ∧ sl ((h r + e) % C) = j.toInt32))
theorem own_find {C : Nat} {h : Int32 → Nat} {sl : Nat → Int32} {rs : List Int32} (r : Int32) (I : Inv C h sl rs) (hC : C < 100) (hl : rs.length < C) (hh : h r < C) : ∃ D, D < C ∧ (∀ e, e < D → ∃ k, k < rs.length ∧ sl ((h r + e) % C) = k.toInt32 ∧ rs[k]? ≠ some r) ∧ (sl ((h r + D) % C) = -1 ∨ ∃ k : Nat, rs[k]? = some r ∧ sl ((h r + D) % C) = k.toInt32) ∧ Fnd C h sl rs r ((h r + D) % C) := by
  obtain ⟨I1, I2, I3, I4, E, E1, E2, E3⟩ := I
  obtain ⟨i, hi, hsl⟩ : ∃ i, i < C ∧ sl i = -1 := by
    match E, E2, E3 with
    | [], E2, _ => exact absurd E2 (by simp; omega)
    | i :: _, _, E3 => exact ⟨i, E3 i (List.mem_cons_self ..)⟩
  let P : Nat → Prop := fun d => sl ((h r + d) % C) = -1 ∨ ∃ k : Nat, rs[k]? = some r ∧ sl ((h r + d) % C) = k.toInt32
  obtain ⟨n, hn, hP⟩ : ∃ n, n < C ∧ P n := by
    by_cases q : h r ≤ i
    · refine ⟨i - h r, by omega, Or.inl ?_⟩
      rw [show h r + (i - h r) = i by omega, Nat.mod_eq_of_lt hi]; exact hsl
    · refine ⟨i + C - h r, by omega, Or.inl ?_⟩
      rw [show h r + (i + C - h r) = i + C by omega, Nat.add_mod_right, Nat.mod_eq_of_lt hi]; exact hsl
  obtain ⟨D, hD, pD, hlow⟩ := own_least P n hP
  have hpos : ∀ e, (h r + e) % C < C := fun e => Nat.mod_lt _ (by omega)
  have hb : ∀ e, e < D → ∃ k, k < rs.length ∧ sl ((h r + e) % C) = k.toInt32 ∧ rs[k]? ≠ some r := fun e he => by
    rcases I1 _ (hpos e) with q | ⟨k, hk, q⟩
    · exact absurd (Or.inl q) (hlow e he)
    · exact ⟨k, hk, q, fun z => hlow e he (Or.inr ⟨k, z, q⟩)⟩
  refine ⟨D, by omega, hb, pD, hpos D, ?_⟩
  rcases pD with q | q
  · refine Or.inr ⟨fun k hk => ?_, q, D, by omega, rfl, fun e he => ?_⟩
    · obtain ⟨d, hd, h1, h2⟩ := I2 k r hk
      have hkl := lt_of_at hk
      rcases Nat.lt_trichotomy d D with z | z | z
      · exact hlow d z (Or.inr ⟨k, hk, h1⟩)
      · subst z; rw [q] at h1; exact ti_nm (show k < 2 ^ 31 by omega) h1.symm
      · obtain ⟨j, hj, hs⟩ := h2 D z
        rw [q] at hs; exact ti_nm (show j < 2 ^ 31 by omega) hs.symm
    · obtain ⟨k, hk, hs, _⟩ := hb e he
      exact ⟨k, hk, hs⟩
  · exact Or.inl q
theorem own_ins {C : Nat} {h : Int32 → Nat} {sl : Nat → Int32} {rs : List Int32} {r : Int32} {i : Nat} (I : Inv C h sl rs) (hC : C < 100) (hl : rs.length < C) (F : Fnd C h sl rs r i) (hn : ∀ k : Nat, rs[k]? ≠ some r) : Inv C h (fun j => if j = i then rs.length.toInt32 else sl j) (rs ++ [r]) := by
  obtain ⟨I1, I2, I3, I4, E, E1, E2, E3⟩ := I
  obtain ⟨hi, ⟨k, hk, _⟩ | ⟨_, hm, d, hd, hid, hp⟩⟩ := F
  · exact absurd hk (hn k)
  have old : ∀ (j k : Nat), k < 2 ^ 31 → sl j = k.toInt32 → j ≠ i := fun j k hk hs z => by subst z; rw [hm] at hs; exact ti_nm hk hs.symm
  refine ⟨fun j hj => ?_, fun k x hx => ?_, fun a b ha hb hab hne => ?_, fun a b x ha hb => ?_, E.erase i, E1.erase i, ?_, fun j hj => ?_⟩
  · show (if j = i then rs.length.toInt32 else sl j) = -1 ∨ ∃ k, k < (rs ++ [r]).length ∧ (if j = i then rs.length.toInt32 else sl j) = k.toInt32
    by_cases e : j = i
    · rw [if_pos e]; exact Or.inr ⟨rs.length, by simp, rfl⟩
    · rw [if_neg e]
      rcases I1 j hj with q | ⟨k, hk, q⟩
      · exact Or.inl q
      · exact Or.inr ⟨k, by simp; omega, q⟩
  · show ∃ d, d < C ∧ (if (h x + d) % C = i then rs.length.toInt32 else sl ((h x + d) % C)) = k.toInt32 ∧ ∀ e, e < d → ∃ j, j < k ∧ (if (h x + e) % C = i then rs.length.toInt32 else sl ((h x + e) % C)) = j.toInt32
    by_cases e : k < rs.length
    · rw [List.getElem?_append_left e] at hx
      obtain ⟨d', h1, h2, h3⟩ := I2 k x hx
      refine ⟨d', h1, ?_, fun e' he' => ?_⟩
      · rw [if_neg (old _ k (by omega) h2)]; exact h2
      · obtain ⟨j, hj, hs⟩ := h3 e' he'
        exact ⟨j, hj, by rw [if_neg (old _ j (by omega) hs)]; exact hs⟩
    · have hk := lt_of_at hx
      simp at hk
      obtain rfl : k = rs.length := by omega
      rw [List.getElem?_append_right (Nat.le_refl _), Nat.sub_self] at hx
      obtain rfl : r = x := by simpa using hx
      refine ⟨d, hd, ?_, fun e' he' => ?_⟩
      · rw [if_pos hid.symm]
      · obtain ⟨j, hj, hs⟩ := hp e' he'
        exact ⟨j, hj, by rw [if_neg (old _ j (by omega) hs)]; exact hs⟩
  · replace hab : (if a = i then rs.length.toInt32 else sl a) = (if b = i then rs.length.toInt32 else sl b) := hab
    replace hne : (if a = i then rs.length.toInt32 else sl a) ≠ -1 := hne
    by_cases e1 : a = i
    · by_cases e2 : b = i
      · rw [e1, e2]
      · rw [if_pos e1, if_neg e2] at hab
        rcases I1 b hb with q | ⟨k, hk, q⟩
        · rw [q] at hab; exact absurd hab (ti_nm (by omega))
        · rw [q] at hab; have := (ti_eq (by omega) (by omega)).mp hab; omega
    · rw [if_neg e1] at hab hne
      by_cases e2 : b = i
      · rw [if_pos e2] at hab
        rcases I1 a ha with q | ⟨k, hk, q⟩
        · exact absurd q hne
        · rw [q] at hab; have := (ti_eq (by omega) (by omega)).mp hab; omega
      · rw [if_neg e2] at hab; exact I3 a b ha hb hab hne
  · have la := lt_of_at ha
    have lb := lt_of_at hb
    simp at la lb
    by_cases e1 : a < rs.length
    · rw [List.getElem?_append_left e1] at ha
      by_cases e2 : b < rs.length
      · rw [List.getElem?_append_left e2] at hb; exact I4 a b x ha hb
      · rw [List.getElem?_append_right (by omega), show b - rs.length = 0 by omega] at hb
        obtain rfl : r = x := by simpa using hb
        exact absurd ha (hn a)
    · rw [List.getElem?_append_right (by omega), show a - rs.length = 0 by omega] at ha
      obtain rfl : r = x := by simpa using ha
      by_cases e2 : b < rs.length
      · rw [List.getElem?_append_left e2] at hb; exact absurd hb (hn b)
      · omega
  · rw [List.length_append]
    show C ≤ (E.erase i).length + (rs.length + 1)
    rw [List.length_erase]
    split <;> omega
  · have hne : j ≠ i := fun z => by subst z; exact (List.Nodup.not_mem_erase E1) hj
    have q := E3 j (List.mem_of_mem_erase hj)
    exact ⟨q.1, by show (if j = i then _ else sl j) = -1; rw [if_neg hne]; exact q.2⟩
theorem own_empty (C : Nat) (h : Int32 → Nat) : Inv C h (fun _ => -1) [] :=
  ⟨fun _ _ => Or.inl rfl, fun k r hk => by simp at hk, fun i j _ _ _ hne => absurd rfl hne, fun i j r hi => by simp at hi, List.range C, List.nodup_range, by simp, fun i hi => ⟨by simpa using hi, rfl⟩⟩
theorem slot_loop {l : Launch} {Z : State} {a0 : Array Value} {n0 : Nat} (hw : HW Z a0) {H : List Ob} {C Lr s rr cc : Nat} {h : Int32 → Nat} {sl fr : Nat → Int32} {rs : List Int32} {sh n : Int32} (r : Int32) (h0 : H[0]? = some (.inl (0, [.ref s, .int sh, .ref rr, .ref cc, .int n]))) (hs : H[s]? = some (.inr (.int, arrF C sl))) (hr : H[rr]? = some (.inr (.int, arrF Lr fr))) (hC : C < 100) (hm : ∀ i, i < C → i.toInt32 + 1 &&& C.toInt32 - 1 = ((i + 1) % C).toInt32) (hl : rs.length < C) (hlr : rs.length ≤ Lr) (hL : Lr < 100) (hfr : ∀ (k : Nat) (r : Int32), rs[k]? = some r → fr k = r) {D : Nat} (hb : ∀ e, e < D → ∃ k, k < rs.length ∧ sl ((h r + e) % C) = k.toInt32 ∧ rs[k]? ≠ some r) (hd : sl ((h r + D) % C) = -1 ∨ ∃ k : Nat, rs[k]? = some r ∧ sl ((h r + D) % C) = k.toInt32) :
    ∀ t d, d + t = D → Runs K l Z n0 m6 18 [.val (.ref 0), .val (.int r), .val (.int (C.toInt32 - 1)), .val (.int ((h r + d) % C).toInt32)] [] H (some (.int ((h r + D) % C).toInt32)) H
  | 0, d, hdt => by
    obtain rfl : d = D := by omega
    have hpos : (h r + d) % C < C := Nat.mod_lt _ (by omega)
    have va := arrF_at (f := sl) hpos
    rcases hd with q | ⟨k, hk, q⟩
    · rw [q] at va
      refine r_aloadN i6_18 rfl rfl ?_
      refine s6_19 hw h0 ?_
      refine r_iloadN i6_22 rfl ?_
      refine r_iaload i6_23 hs (ti_ix (by omega)) va ?_
      refine r_iconst i6_24 ?_
      refine r_icT i6_25 (XT.ii_eq_t rfl) ?_
      refine r_iloadN i6_52 rfl ?_
      exact r_ireturn i6_53 rfl
    · rw [q] at va
      have kl := lt_of_at hk
      have vb := arrF_at (f := fr) (show k < Lr by omega)
      rw [hfr k r hk] at vb
      refine r_aloadN i6_18 rfl rfl ?_
      refine s6_19 hw h0 ?_
      refine r_iloadN i6_22 rfl ?_
      refine r_iaload i6_23 hs (ti_ix (by omega)) va ?_
      refine r_iconst i6_24 ?_
      refine r_icF i6_25 (XT.ii_eq_f (ti_nm (by omega))) ?_
      refine r_aloadN i6_28 rfl rfl ?_
      refine s6_29 hw h0 ?_
      refine r_aloadN i6_32 rfl rfl ?_
      refine s6_33 hw h0 ?_
      refine r_iloadN i6_36 rfl ?_
      refine r_iaload i6_37 hs (ti_ix (by omega)) va ?_
      refine r_iaload i6_38 hr (ti_ix (by omega)) vb ?_
      refine r_iloadN i6_39 rfl ?_
      refine r_icT i6_40 (XT.ii_eq_t rfl) ?_
      refine r_iloadN i6_52 rfl ?_
      exact r_ireturn i6_53 rfl
  | t + 1, d, hdt => by
    have hpos : (h r + d) % C < C := Nat.mod_lt _ (by omega)
    have va := arrF_at (f := sl) hpos
    obtain ⟨k, kl, q, hk⟩ := hb d (by omega)
    rw [q] at va
    have vb := arrF_at (f := fr) (show k < Lr by omega)
    have ne : ¬ fr k = r := fun z => hk (by
      have := List.getElem?_eq_getElem kl
      rw [this, ← hfr k _ this, z])
    refine r_aloadN i6_18 rfl rfl ?_
    refine s6_19 hw h0 ?_
    refine r_iloadN i6_22 rfl ?_
    refine r_iaload i6_23 hs (ti_ix (by omega)) va ?_
    refine r_iconst i6_24 ?_
    refine r_icF i6_25 (XT.ii_eq_f (ti_nm (by omega))) ?_
    refine r_aloadN i6_28 rfl rfl ?_
    refine s6_29 hw h0 ?_
    refine r_aloadN i6_32 rfl rfl ?_
    refine s6_33 hw h0 ?_
    refine r_iloadN i6_36 rfl ?_
    refine r_iaload i6_37 hs (ti_ix (by omega)) va ?_
    refine r_iaload i6_38 hr (ti_ix (by omega)) vb ?_
    refine r_iloadN i6_39 rfl ?_
    refine r_icF i6_40 (XT.ii_eq_f ne) ?_
    refine r_iloadN i6_43 rfl ?_
    refine r_iconst i6_44 ?_
    refine r_iadd i6_45 ?_
    refine r_iloadN i6_46 rfl ?_
    refine r_iand i6_47 ?_
    refine r_istoreN (ls' := [_, _, _, _]) i6_48 rfl rfl ?_
    refine r_goto i6_49 ?_
    rw [hm _ hpos, Nat.mod_add_mod, Nat.add_assoc]
    exact slot_loop hw r h0 hs hr hC hm hl hlr hL hfr hb hd t (d + 1) (by omega)
theorem slot_m {l : Launch} {Z : State} {a0 : Array Value} {n0 : Nat} (hw : HW Z a0) {H : List Ob} {C Lr s rr cc : Nat} {h : Int32 → Nat} {sl fr : Nat → Int32} {rs : List Int32} {sh n : Int32} (r : Int32) (h0 : H[0]? = some (.inl (0, [.ref s, .int sh, .ref rr, .ref cc, .int n]))) (hs : H[s]? = some (.inr (.int, arrF C sl))) (hr : H[rr]? = some (.inr (.int, arrF Lr fr))) (hC : C < 100) (hm : ∀ i, i < C → i.toInt32 + 1 &&& C.toInt32 - 1 = ((i + 1) % C).toInt32) (hl : rs.length < C) (hlr : rs.length ≤ Lr) (hL : Lr < 100) (hfr : ∀ (k : Nat) (r : Int32), rs[k]? = some r → fr k = r) (I : Inv C h sl rs) (hh : h r < C ∧ XT.ushr (r * (-1640531527)) sh = (h r).toInt32) : ∃ i, Meets K l Z n0 m6 [.ref 0, .int r] H (some (.int i.toInt32)) H ∧ Fnd C h sl rs r i := by
  obtain ⟨D, hD, hb, hd, F⟩ := own_find r I hC hl hh.1
  refine ⟨_, meets (ls := [_, _, _, _]) pf6 rfl (fun h => nomatch h) ?_, F⟩
  refine r_aloadN i6_0 rfl rfl ?_
  refine s6_1 hw h0 ?_
  refine r_len (n := C.toInt32) i6_4 hs (by rw [arrF_len]) ?_
  refine r_iconst i6_5 ?_
  refine r_isub i6_6 ?_
  refine r_istoreN (ls' := [_, _, _, _]) i6_7 rfl rfl ?_
  refine r_iloadN i6_8 rfl ?_
  refine s6_9 hw ?_
  refine r_imul i6_11 ?_
  refine r_aloadN i6_12 rfl rfl ?_
  refine s6_13 hw h0 ?_
  refine r_iushr i6_16 ?_
  rw [hh.2]
  refine r_istoreN (ls' := [_, _, _, _]) i6_17 rfl rfl ?_
  have k := slot_loop (l := l) (n0 := n0) hw (h := h) r h0 hs hr hC hm hl hlr hL hfr hb hd D 0 (by omega)
  rw [Nat.add_zero, Nat.mod_eq_of_lt hh.1] at k
  exact k
theorem fill_loop {l : Launch} {Z : State} {a0 : Array Value} {n0 : Nat} (hw : HW Z a0) {H : List Ob} {a C : Nat} {x : Int32} (ha : a < H.length) (hC : C < 100) : ∀ (t i : Nat) (f : Nat → Int32), i + t = C → (∀ j, j < i → f j = x) → Runs K l Z n0 m4 5 [.val (.ref a), .val (.int x), .val (.int i.toInt32), .val (.int C.toInt32)] [] (H.set a (.inr (.int, arrF C f))) none (H.set a (.inr (.int, arrF C (fun _ => x))))
  | 0, i, f, hi, hf => by
    obtain rfl : i = C := by omega
    rw [arrF_congr (g := fun _ => x) (fun j hj => hf j hj)]
    refine r_iloadN i4_5 rfl ?_
    refine r_iloadN i4_6 rfl ?_
    refine r_icT i4_7 (XT.ii_ge_t (fun z => absurd ((ti_lt (by omega) (by omega)).mp z) (Nat.lt_irrefl _))) ?_
    exact r_return i4_20 rfl
  | t + 1, i, f, hi, hf => by
    have qa : (H.set a (.inr (.int, arrF C f)))[a]? = some (.inr (.int, arrF C f)) := List.getElem?_set_self ha
    refine r_iloadN i4_5 rfl ?_
    refine r_iloadN i4_6 rfl ?_
    refine r_icF i4_7 (XT.ii_ge_f ((ti_lt (by omega) (by omega)).mpr (by omega))) ?_
    refine r_aloadN i4_10 rfl rfl ?_
    refine r_iloadN i4_11 rfl ?_
    refine r_iloadN i4_12 rfl ?_
    refine r_iastore i4_13 qa (ti_ix (by omega)) (by rw [arrF_len]; omega) arrF_set (List.set_set _) ?_
    refine r_iinc (ls' := [_, _, _, _]) i4_14 rfl rfl ?_
    refine r_goto i4_17 ?_
    rw [ti_succ (by omega)]
    exact fill_loop hw ha hC t (i + 1) _ (by omega) (fun j hj => by
      by_cases e : j = i
      · rw [if_pos e]
      · rw [if_neg e]; exact hf j (by omega))
theorem fill_m {l : Launch} {Z : State} {a0 : Array Value} {n0 : Nat} (hw : HW Z a0) {H : List Ob} {a C : Nat} {x : Int32} {f : Nat → Int32} (ha : H[a]? = some (.inr (.int, arrF C f))) (hC : C < 100) : Meets K l Z n0 m4 [.ref a, .int x] H none (H.set a (.inr (.int, arrF C (fun _ => x)))) := by
  have hl := lt_of_at ha
  have e : H.set a (.inr (.int, arrF C f)) = H := by
    apply List.ext_getElem?
    intro i
    by_cases q : a = i
    · subst q; rw [List.getElem?_set_self hl, ha]
    · rw [List.getElem?_set_ne q]
  refine meets (ls := [_, _, _, _]) pf4 rfl (fun _ => rfl) ?_
  refine r_iconst i4_0 ?_
  refine r_istoreN (ls' := [_, _, _, _]) i4_1 rfl rfl ?_
  refine r_aloadN i4_2 rfl rfl ?_
  refine r_len (n := C.toInt32) i4_3 ha (by rw [arrF_len]) ?_
  refine r_istoreN (ls' := [_, _, _, _]) i4_4 rfl rfl ?_
  have k := fill_loop (l := l) (n0 := n0) hw (x := x) hl hC C 0 f (by omega) (fun j hj => absurd hj (Nat.not_lt_zero _))
  rw [e] at k
  exact k
theorem alloc3_m {l : Launch} {Z : State} {a0 : Array Value} {n0 : Nat} (hw : HW Z a0) {v1 : Value} {v2 v3 v4 v5 : Value} : Meets K l Z n0 m3 [.ref 0, .int 3] [.inl (0, [v1, v2, v3, v4, v5])] none [.inl (0, [.ref 1, .int 29, v3, v4, v5]), .inr (.int, arrF 8 (fun _ => -1))] := by
  refine meets (ls := [_, _]) pf3 rfl (fun _ => rfl) ?_
  refine r_aloadN i3_0 rfl rfl ?_
  refine r_iconst i3_1 ?_
  refine r_iloadN i3_2 rfl ?_
  refine r_ishl i3_3 ?_
  refine s3_4 hw (a := 1) (o := arrF 8 (fun _ => 0)) (H1 := [_, _]) (by decide) (by decide) arrF_zero rfl rfl ?_
  refine s3_6 hw (H1 := [_, _]) rfl rfl rfl rfl ?_
  refine r_aloadN i3_9 rfl rfl ?_
  refine s3_10 hw rfl ?_
  refine r_iconst i3_13 ?_
  refine s3_14 hw (H1 := [_, _]) (fill_m hw (C := 8) rfl (by decide)) rfl (leB rfl) ?_
  refine r_aloadN i3_17 rfl rfl ?_
  refine r_bipush i3_18 ?_
  refine r_iloadN i3_20 rfl ?_
  refine r_isub i3_21 ?_
  refine s3_22 hw (H1 := [_, _]) rfl rfl rfl rfl ?_
  exact r_return i3_25 rfl
theorem init_m {l : Launch} {Z : State} {a0 : Array Value} {n0 : Nat} (hw : HW Z a0) : Meets K l Z n0 m1 [.ref 0] [.inl (0, [.null, .int 0, .null, .null, .int 0])] none [.inl (0, [.ref 1, .int 29, .ref 2, .ref 3, .int 0]), .inr (.int, arrF 8 (fun _ => -1)), .inr (.int, arrF 4 (fun _ => 0)), .inr (.int, arrF 4 (fun _ => 0))] := by
  refine meets (ls := [_]) pf1 rfl (fun _ => rfl) ?_
  refine r_aloadN i1_0 rfl rfl ?_
  refine s1_1 hw rfl (leB rfl) ?_
  refine r_aloadN i1_4 rfl rfl ?_
  refine r_iconst i1_5 ?_
  refine s1_6 hw (H1 := [_, _]) rfl (alloc3_m hw) rfl (leB rfl) ?_
  refine r_aloadN i1_9 rfl rfl ?_
  refine r_aloadN i1_10 rfl rfl ?_
  refine s1_11 hw rfl ?_
  refine r_len (n := 8) i1_14 rfl rfl ?_
  refine r_iconst i1_15 ?_
  refine r_idiv i1_16 (by decide) ?_
  refine s1_17 hw (a := 2) (o := arrF 4 (fun _ => 0)) (H1 := [_, _, _]) (by decide) (by decide) arrF_zero rfl rfl ?_
  refine s1_19 hw (H1 := [_, _, _]) rfl rfl rfl rfl ?_
  refine r_aloadN i1_22 rfl rfl ?_
  refine r_aloadN i1_23 rfl rfl ?_
  refine s1_24 hw rfl ?_
  refine r_len (n := 8) i1_27 rfl rfl ?_
  refine r_iconst i1_28 ?_
  refine r_idiv i1_29 (by decide) ?_
  refine s1_30 hw (a := 3) (o := arrF 4 (fun _ => 0)) (H1 := [_, _, _, _]) (by decide) (by decide) arrF_zero rfl rfl ?_
  refine s1_32 hw (H1 := [_, _, _, _]) rfl rfl rfl rfl ?_
  exact r_return i1_35 rfl
theorem insert_m {l : Launch} {Z : State} {a0 : Array Value} {n0 : Nat} (hw : HW Z a0) {sl fr fc : Nat → Int32} {i n : Nat} {r : Int32} (hn : n < 4) (hi : i < 8) : Meets K l Z n0 m7 [.ref 0, .int r, .int i.toInt32] [.inl (0, [.ref 1, .int 29, .ref 2, .ref 3, .int n.toInt32]), .inr (.int, arrF 8 sl), .inr (.int, arrF 4 fr), .inr (.int, arrF 4 fc)] (some (.int n.toInt32)) [.inl (0, [.ref 1, .int 29, .ref 2, .ref 3, .int (n + 1).toInt32]), .inr (.int, arrF 8 (fun j => if j = i then n.toInt32 else sl j)), .inr (.int, arrF 4 (fun j => if j = n then r else fr j)), .inr (.int, arrF 4 (fun j => if j = n then 0 else fc j))] := by
  have e := ti_succ (show n + 1 < 2 ^ 31 by omega)
  have ne : ¬ n.toInt32 = 4 := fun z => by have := (ti_eq (a := n) (b := 4) (by omega) (by omega)).mp z; omega
  have e2 : (2 : Int64).toInt = 2 := by decide
  have e8 : (8 : Int32).toInt64.toInt = 8 := by decide
  have q0 : (n + 1).toInt32.toInt64.toInt = (n + 1 : Nat) := by rw [c_i2l, ti_int (by omega)]
  have q1 : (2 * (n + 1).toInt32.toInt64).toInt = 2 * (n + 1 : Nat) := by
    have := XT.mul64 (x := 2) (y := (n + 1).toInt32.toInt64) ⟨by rw [e2, q0]; omega, by rw [e2, q0]; omega⟩
    rw [this, e2, q0]
  have nl : ¬ (8 : Int32).toInt64 < 2 * (n + 1).toInt32.toInt64 := by rw [Int64.lt_iff_toInt_lt, e8, q1]; omega
  have eb : (n + 1).toInt32 - 1 = n.toInt32 := by rw [← e, Int32.add_sub_cancel]
  have jn := ti_ix (show n < 2 ^ 31 by omega)
  refine meets (ls := [_, _, _]) pf7 rfl (fun h => nomatch h) ?_
  refine r_aloadN i7_0 rfl rfl ?_
  refine s7_1 hw rfl ?_
  refine r_aloadN i7_4 rfl rfl ?_
  refine s7_5 hw rfl ?_
  refine r_len (n := 4) i7_8 rfl rfl ?_
  refine r_icT i7_9 (XT.ii_ne_t ne) ?_
  refine r_aloadN i7_54 rfl rfl ?_
  refine s7_55 hw rfl ?_
  refine r_aloadN i7_58 rfl rfl ?_
  refine s7_59 hw rfl ?_
  refine r_iloadN i7_62 rfl ?_
  refine r_iastore (H1 := [_, _, _, _]) i7_63 rfl jn (by rw [arrF_len]; omega) arrF_set rfl ?_
  refine r_aloadN i7_64 rfl rfl ?_
  refine s7_65 hw rfl ?_
  refine r_aloadN i7_68 rfl rfl ?_
  refine s7_69 hw rfl ?_
  refine r_iconst i7_72 ?_
  refine r_iastore (H1 := [_, _, _, _]) i7_73 rfl jn (by rw [arrF_len]; omega) arrF_set rfl ?_
  refine r_aloadN i7_74 rfl rfl ?_
  refine s7_75 hw rfl ?_
  refine r_iloadN i7_78 rfl ?_
  refine r_aloadN i7_79 rfl rfl ?_
  refine r_dup i7_80 rfl ?_
  refine s7_81 hw rfl ?_
  refine r_dupX1 i7_84 rfl rfl ?_
  refine r_iconst i7_85 ?_
  refine r_iadd i7_86 ?_
  rw [e]
  refine s7_87 hw (H1 := [_, _, _, _]) rfl rfl rfl rfl ?_
  refine r_iastore (H1 := [_, _, _, _]) i7_90 rfl (ti_ix (by omega)) (by rw [arrF_len]; omega) arrF_set rfl ?_
  refine s7_91 hw ?_
  refine r_aloadN i7_94 rfl rfl ?_
  refine s7_95 hw rfl ?_
  refine r_i2l i7_98 ?_
  refine r_lmul i7_99 ?_
  refine r_aloadN i7_100 rfl rfl ?_
  refine s7_101 hw rfl ?_
  refine r_len (n := 8) i7_104 rfl rfl ?_
  refine r_i2l i7_105 ?_
  refine r_lcmp i7_106 ?_
  refine r_ifT i7_107 (XT.ll_le_t nl) ?_
  refine r_aloadN i7_114 rfl rfl ?_
  refine s7_115 hw rfl ?_
  refine r_iconst i7_118 ?_
  refine r_isub i7_119 ?_
  rw [eb]
  exact r_ireturn i7_120 rfl
def St (H : List Ob) (rs : List Int32) (cnt : Int32 → Int32) : Prop := ∃ sl fr fc, H = [.inl (0, [.ref 1, .int 29, .ref 2, .ref 3, .int rs.length.toInt32]), .inr (.int, arrF 8 sl), .inr (.int, arrF 4 fr), .inr (.int, arrF 4 fc)] ∧ Inv 8 (hN 29) sl rs ∧ (∀ (k : Nat) (r : Int32), rs[k]? = some r → fr k = r ∧ fc k = cnt r) ∧ (∀ r, (∀ k : Nat, rs[k]? ≠ some r) → cnt r = 0)
def bump (cnt : Int32 → Int32) (r a : Int32) (x : Int32) : Int32 := if x = r then cnt x + a else cnt x
theorem st_slot {l : Launch} {Z : State} {a0 : Array Value} {n0 : Nat} (hw : HW Z a0) {sl fr fc : Nat → Int32} {rs : List Int32} {n : Int32} (r : Int32) (I : Inv 8 (hN 29) sl rs) (hfr : ∀ (k : Nat) (r : Int32), rs[k]? = some r → fr k = r) (hl : rs.length ≤ 4) : ∃ i, Meets K l Z n0 m6 [.ref 0, .int r] [.inl (0, [.ref 1, .int 29, .ref 2, .ref 3, .int n]), .inr (.int, arrF 8 sl), .inr (.int, arrF 4 fr), .inr (.int, arrF 4 fc)] (some (.int i.toInt32)) [.inl (0, [.ref 1, .int 29, .ref 2, .ref 3, .int n]), .inr (.int, arrF 8 sl), .inr (.int, arrF 4 fr), .inr (.int, arrF 4 fc)] ∧ Fnd 8 (hN 29) sl rs r i :=
  slot_m hw r rfl rfl rfl (by decide) mk8 (by omega) hl (by decide) hfr I (hN29 r)
theorem add_m {l : Launch} {Z : State} {a0 : Array Value} {n0 : Nat} (hw : HW Z a0) {H : List Ob} {rs : List Int32} {cnt : Int32 → Int32} (r a : Int32) (S : St H rs cnt) (h4 : rs.length < 4 ∨ (rs.length ≤ 4 ∧ ∃ k : Nat, rs[k]? = some r)) : ∃ H' rs', Meets K l Z n0 m5 [.ref 0, .int r, .int a] H none H' ∧ St H' rs' (bump cnt r a) ∧ ((∃ k : Nat, rs[k]? = some r) ∧ rs' = rs ∨ (∀ k : Nat, rs[k]? ≠ some r) ∧ rs' = rs ++ [r]) := by
  obtain ⟨sl, fr, fc, rfl, I, hk, hz⟩ := S
  obtain ⟨i, M, F⟩ := st_slot (l := l) (n0 := n0) (fc := fc) (n := rs.length.toInt32) hw r I (fun k r h => (hk k r h).1) (by omega)
  have F0 := F
  obtain ⟨hi, ⟨k, hkr, hs⟩ | ⟨hno, hs, _⟩⟩ := F
  · have kl := lt_of_at hkr
    have va := arrF_at (f := sl) hi
    rw [hs] at va
    refine ⟨[.inl (0, [.ref 1, .int 29, .ref 2, .ref 3, .int rs.length.toInt32]), .inr (.int, arrF 8 sl), .inr (.int, arrF 4 fr), .inr (.int, arrF 4 (fun j => if j = k then fc k + a else fc j))], rs, meets (ls := [_, _, _, _, _]) pf5 rfl (fun _ => rfl) ?_, ⟨sl, fr, (fun j => if j = k then fc k + a else fc j), rfl, I, fun k' x hx => ⟨(hk k' x hx).1, ?_⟩, fun x hx => ?_⟩, Or.inl ⟨⟨k, hkr⟩, rfl⟩⟩
    rotate_left
    · show (if k' = k then fc k + a else fc k') = if x = r then cnt x + a else cnt x
      by_cases e : k' = k
      · subst e
        rw [hkr] at hx
        obtain rfl := Option.some.inj hx
        rw [if_pos rfl, if_pos rfl, (hk k' r hkr).2]
      · rw [if_neg e, if_neg (fun z => e (I.2.2.2.1 k' k r (by rw [hx, z]) hkr)), (hk k' x hx).2]
    · show (if x = r then cnt x + a else cnt x) = 0
      rw [if_neg (fun z => hx k (by rw [hkr, z]))]; exact hz x hx
    refine r_aloadN i5_0 rfl rfl ?_
    refine r_iloadN i5_1 rfl ?_
    refine s5_2 hw (H1 := [_, _, _, _]) rfl (M) rfl (leB rfl) ?_
    refine r_istoreN (ls' := [_, _, _, _, _]) i5_5 rfl rfl ?_
    refine r_aloadN i5_6 rfl rfl ?_
    refine s5_7 hw rfl ?_
    refine r_iloadN i5_10 rfl ?_
    refine r_iaload i5_11 rfl (ti_ix (by omega)) va ?_
    refine r_istore (ls' := [_, _, _, _, _]) i5_12 rfl rfl ?_
    refine r_iload i5_14 rfl ?_
    refine r_iconst i5_16 ?_
    refine r_icT i5_17 (XT.ii_ne_t (ti_nm (by omega))) ?_
    refine r_aloadN i5_28 rfl rfl ?_
    refine s5_29 hw rfl ?_
    refine r_iload i5_32 rfl ?_
    refine r_dup2 i5_34 rfl rfl ?_
    refine r_iaload i5_35 rfl (ti_ix (by omega)) (arrF_at (by omega)) ?_
    refine r_iloadN i5_36 rfl ?_
    refine r_iadd i5_37 ?_
    refine r_iastore (H1 := [_, _, _, _]) i5_38 rfl (ti_ix (by omega)) (by rw [arrF_len]; omega) arrF_set rfl ?_
    exact r_return i5_39 rfl
  · have hn : rs.length < 4 := by
      rcases h4 with h | ⟨_, k, h⟩
      · exact h
      · exact absurd h (hno k)
    have va := arrF_at (f := sl) hi
    rw [hs] at va
    refine ⟨[.inl (0, [.ref 1, .int 29, .ref 2, .ref 3, .int (rs.length + 1).toInt32]), .inr (.int, arrF 8 (fun j => if j = i then rs.length.toInt32 else sl j)), .inr (.int, arrF 4 (fun j => if j = rs.length then r else fr j)), .inr (.int, arrF 4 (fun j => if j = rs.length then (if rs.length = rs.length then 0 else fc rs.length) + a else if j = rs.length then 0 else fc j))], rs ++ [r], meets (ls := [_, _, _, _, _]) pf5 rfl (fun _ => rfl) ?_, ⟨(fun j => if j = i then rs.length.toInt32 else sl j), (fun j => if j = rs.length then r else fr j), (fun j => if j = rs.length then (if rs.length = rs.length then 0 else fc rs.length) + a else if j = rs.length then 0 else fc j), by rw [List.length_append]; rfl, own_ins I (by decide) (by omega) F0 hno, fun k x hx => ?_, fun x hx => ?_⟩, Or.inr ⟨hno, rfl⟩⟩
    rotate_left
    · show (if k = rs.length then r else fr k) = x ∧ (if k = rs.length then (if rs.length = rs.length then 0 else fc rs.length) + a else if k = rs.length then 0 else fc k) = if x = r then cnt x + a else cnt x
      have kl := lt_of_at hx
      simp at kl
      by_cases e : k = rs.length
      · subst e
        rw [List.getElem?_append_right (Nat.le_refl _), Nat.sub_self] at hx
        obtain rfl : r = x := by simpa using hx
        rw [if_pos rfl, if_pos rfl, if_pos rfl, if_pos rfl, hz r hno]
        exact ⟨rfl, rfl⟩
      · rw [List.getElem?_append_left (by omega)] at hx
        rw [if_neg e, if_neg e, if_neg e, if_neg (fun z => hno k (by rw [hx, z]))]
        exact hk k x hx
    · show (if x = r then cnt x + a else cnt x) = 0
      have hx' : ∀ k : Nat, rs[k]? ≠ some x := fun k hk' => hx k (by rw [List.getElem?_append_left (lt_of_at hk')]; exact hk')
      have hxr : x ≠ r := fun z => hx rs.length (by rw [List.getElem?_append_right (Nat.le_refl _), Nat.sub_self, z]; rfl)
      rw [if_neg hxr]; exact hz x hx'
    refine r_aloadN i5_0 rfl rfl ?_
    refine r_iloadN i5_1 rfl ?_
    refine s5_2 hw (H1 := [_, _, _, _]) rfl (M) rfl (leB rfl) ?_
    refine r_istoreN (ls' := [_, _, _, _, _]) i5_5 rfl rfl ?_
    refine r_aloadN i5_6 rfl rfl ?_
    refine s5_7 hw rfl ?_
    refine r_iloadN i5_10 rfl ?_
    refine r_iaload i5_11 rfl (ti_ix (by omega)) va ?_
    refine r_istore (ls' := [_, _, _, _, _]) i5_12 rfl rfl ?_
    refine r_iload i5_14 rfl ?_
    refine r_iconst i5_16 ?_
    refine r_icF i5_17 (XT.ii_ne_f rfl) ?_
    refine r_aloadN i5_20 rfl rfl ?_
    refine r_iloadN i5_21 rfl ?_
    refine r_iloadN i5_22 rfl ?_
    refine s5_23 hw (H1 := [_, _, _, _]) rfl (insert_m hw hn hi) rfl (leB rfl) ?_
    refine r_istore (ls' := [_, _, _, _, _]) i5_26 rfl rfl ?_
    refine r_aloadN i5_28 rfl rfl ?_
    refine s5_29 hw rfl ?_
    refine r_iload i5_32 rfl ?_
    refine r_dup2 i5_34 rfl rfl ?_
    refine r_iaload i5_35 rfl (ti_ix (by omega)) (arrF_at (by omega)) ?_
    refine r_iloadN i5_36 rfl ?_
    refine r_iadd i5_37 ?_
    refine r_iastore (H1 := [_, _, _, _]) i5_38 rfl (ti_ix (by omega)) (by rw [arrF_len]; omega) arrF_set rfl ?_
    exact r_return i5_39 rfl
theorem count_m {l : Launch} {Z : State} {a0 : Array Value} {n0 : Nat} (hw : HW Z a0) {H : List Ob} {cnt : Int32 → Int32} {fc : Nat → Int32} {C Lr s rr cc : Nat} {h : Int32 → Nat} {sl fr : Nat → Int32} {rs : List Int32} {sh n : Int32} (r : Int32) (h0 : H[0]? = some (.inl (0, [.ref s, .int sh, .ref rr, .ref cc, .int n]))) (hs : H[s]? = some (.inr (.int, arrF C sl))) (hr : H[rr]? = some (.inr (.int, arrF Lr fr))) (hC : C < 100) (hm : ∀ i, i < C → i.toInt32 + 1 &&& C.toInt32 - 1 = ((i + 1) % C).toInt32) (hl : rs.length < C) (hlr : rs.length ≤ Lr) (hL : Lr < 100) (hfr : ∀ (k : Nat) (r : Int32), rs[k]? = some r → fr k = r) (I : Inv C h sl rs) (hh : h r < C ∧ XT.ushr (r * (-1640531527)) sh = (h r).toInt32) (hc : H[cc]? = some (.inr (.int, arrF Lr fc))) (hk : ∀ (k : Nat) (r : Int32), rs[k]? = some r → fc k = cnt r) (hz : ∀ r, (∀ k : Nat, rs[k]? ≠ some r) → cnt r = 0) : Meets K l Z n0 m8 [.ref 0, .int r] H (some (.int (cnt r))) H := by
  obtain ⟨i, M, hi, ⟨k, hkr, hsl⟩ | ⟨hno, hsl, _⟩⟩ := slot_m (l := l) (n0 := n0) hw r h0 hs hr hC hm hl hlr hL hfr I hh
  · have kl := lt_of_at hkr
    have va := arrF_at (f := sl) hi
    rw [hsl] at va
    have vb := arrF_at (f := fc) (show k < Lr by omega)
    rw [hk k r hkr] at vb
    refine meets (ls := [_, _, _]) pf8 rfl (fun h => nomatch h) ?_
    refine r_aloadN i8_0 rfl rfl ?_
    refine s8_1 hw h0 ?_
    refine r_aloadN i8_4 rfl rfl ?_
    refine r_iloadN i8_5 rfl ?_
    refine s8_6 hw h0 M rfl (leB rfl) ?_
    refine r_iaload i8_9 hs (ti_ix (by omega)) va ?_
    refine r_istoreN (ls' := [_, _, _]) i8_10 rfl rfl ?_
    refine r_iloadN i8_11 rfl ?_
    refine r_iconst i8_12 ?_
    refine r_icT i8_13 (XT.ii_ne_t (ti_nm (by omega))) ?_
    refine r_aloadN i8_20 rfl rfl ?_
    refine s8_21 hw h0 ?_
    refine r_iloadN i8_24 rfl ?_
    refine r_iaload i8_25 hc (ti_ix (by omega)) vb ?_
    exact r_ireturn i8_26 rfl
  · have va := arrF_at (f := sl) hi
    rw [hsl] at va
    rw [hz r hno]
    refine meets (ls := [_, _, _]) pf8 rfl (fun h => nomatch h) ?_
    refine r_aloadN i8_0 rfl rfl ?_
    refine s8_1 hw h0 ?_
    refine r_aloadN i8_4 rfl rfl ?_
    refine r_iloadN i8_5 rfl ?_
    refine s8_6 hw h0 M rfl (leB rfl) ?_
    refine r_iaload i8_9 hs (ti_ix (by omega)) va ?_
    refine r_istoreN (ls' := [_, _, _]) i8_10 rfl rfl ?_
    refine r_iloadN i8_11 rfl ?_
    refine r_iconst i8_12 ?_
    refine r_icF i8_13 (XT.ii_ne_f rfl) ?_
    refine r_iconst i8_16 ?_
    refine r_goto i8_17 ?_
    exact r_ireturn i8_26 rfl
theorem st_count {l : Launch} {Z : State} {a0 : Array Value} {n0 : Nat} (hw : HW Z a0) {H : List Ob} {rs : List Int32} {cnt : Int32 → Int32} (r : Int32) (S : St H rs cnt) (hl : rs.length ≤ 4) : Meets K l Z n0 m8 [.ref 0, .int r] H (some (.int (cnt r))) H := by
  obtain ⟨sl, fr, fc, rfl, I, hk, hz⟩ := S
  exact count_m hw r rfl rfl rfl (by decide) mk8 (by omega) hl (by decide) (fun k r h => (hk k r h).1) I (hN29 r) rfl (fun k r h => (hk k r h).2) hz
theorem st_obj {H : List Ob} {rs : List Int32} {cnt : Int32 → Int32} (S : St H rs cnt) : H[0]? = some (.inl (0, [.ref 1, .int 29, .ref 2, .ref 3, .int rs.length.toInt32])) := by
  obtain ⟨sl, fr, fc, rfl, -⟩ := S
  rfl
theorem st_len {H : List Ob} {rs : List Int32} {cnt : Int32 → Int32} (S : St H rs cnt) : H.length = 4 ∧ szs K H = 21 := by
  obtain ⟨sl, fr, fc, rfl, -⟩ := S
  exact ⟨rfl, rfl⟩
theorem st_none {r : Int32} : ∀ k : Nat, ([] : List Int32)[k]? ≠ some r := fun k h => by simp at h
def f11_0 (x0 : Int64) (x2 : Int64) : Int64 := (if x0 < x2 then x2 else x0)
set_option maxRecDepth 4000 in
theorem g11_0 {l : Launch} {Z : State} {a0 : Array Value} {n0 : Nat} (hw : HW Z a0) {H : List Ob} (x0 : Int64) (x2 : Int64) : Runs K l Z n0 m11 0 [.val (.long x0), .second, .val (.long x2), .second] [] H (some (.long (f11_0 x0 x2))) H := by
  unfold f11_0
  refine r_lloadN i11_0 rfl ?_
  refine r_lloadN i11_1 rfl ?_
  refine r_lcmp i11_2 ?_
  by_cases h1 : x0 < x2
  · rw [if_pos h1]
    refine r_ifT i11_3 (XT.ll_lt_t h1) ?_
    refine r_lloadN i11_10 rfl ?_
    exact r_lreturn i11_11 rfl
  · rw [if_neg h1]
    refine r_ifF i11_3 (XT.ll_lt_f h1) ?_
    refine r_lloadN i11_6 rfl ?_
    refine r_goto i11_7 ?_
    exact r_lreturn i11_11 rfl
theorem c11 {l : Launch} {Z : State} {a0 : Array Value} {n0 : Nat} (hw : HW Z a0) {H : List Ob} (x0 : Int64) (x1 : Int64) : Meets K l Z n0 m11 [.long x0, .long x1] H (some (.long (f11_0 x0 x1))) H := meets pf11 rfl (fun h => nomatch h) (g11_0 hw x0 x1)
def f12_0 (x0 : Int64) (x2 : Int64) : Int64 := (if x2 < x0 then x2 else x0)
set_option maxRecDepth 4000 in
theorem g12_0 {l : Launch} {Z : State} {a0 : Array Value} {n0 : Nat} (hw : HW Z a0) {H : List Ob} (x0 : Int64) (x2 : Int64) : Runs K l Z n0 m12 0 [.val (.long x0), .second, .val (.long x2), .second] [] H (some (.long (f12_0 x0 x2))) H := by
  unfold f12_0
  refine r_lloadN i12_0 rfl ?_
  refine r_lloadN i12_1 rfl ?_
  refine r_lcmp i12_2 ?_
  by_cases h1 : x2 < x0
  · rw [if_pos h1]
    refine r_ifT i12_3 (XT.ll_gt_t h1) ?_
    refine r_lloadN i12_10 rfl ?_
    exact r_lreturn i12_11 rfl
  · rw [if_neg h1]
    refine r_ifF i12_3 (XT.ll_gt_f h1) ?_
    refine r_lloadN i12_6 rfl ?_
    refine r_goto i12_7 ?_
    exact r_lreturn i12_11 rfl
theorem c12 {l : Launch} {Z : State} {a0 : Array Value} {n0 : Nat} (hw : HW Z a0) {H : List Ob} (x0 : Int64) (x1 : Int64) : Meets K l Z n0 m12 [.long x0, .long x1] H (some (.long (f12_0 x0 x1))) H := meets pf12 rfl (fun h => nomatch h) (g12_0 hw x0 x1)
def f14_0 (x0 : Int32) (x1 : Int32) : Int32 := (if x1 < x0 then x1 else x0)
set_option maxRecDepth 4000 in
theorem g14_0 {l : Launch} {Z : State} {a0 : Array Value} {n0 : Nat} (hw : HW Z a0) {H : List Ob} (x0 : Int32) (x1 : Int32) : Runs K l Z n0 m14 0 [.val (.int x0), .val (.int x1)] [] H (some (.int (f14_0 x0 x1))) H := by
  unfold f14_0
  refine r_iloadN i14_0 rfl ?_
  refine r_iloadN i14_1 rfl ?_
  by_cases h1 : x1 < x0
  · rw [if_pos h1]
    refine r_icT i14_2 (XT.ii_gt_t h1) ?_
    refine r_iloadN i14_9 rfl ?_
    exact r_ireturn i14_10 rfl
  · rw [if_neg h1]
    refine r_icF i14_2 (XT.ii_gt_f h1) ?_
    refine r_iloadN i14_5 rfl ?_
    refine r_goto i14_6 ?_
    exact r_ireturn i14_10 rfl
theorem c14 {l : Launch} {Z : State} {a0 : Array Value} {n0 : Nat} (hw : HW Z a0) {H : List Ob} (x0 : Int32) (x1 : Int32) : Meets K l Z n0 m14 [.int x0, .int x1] H (some (.int (f14_0 x0 x1))) H := meets pf14 rfl (fun h => nomatch h) (g14_0 hw x0 x1)
def f9_0 (x0 : Int32) (x1 : Int32) (x2 : Int32) : Int32 := (if x0 = x1 then x2 else 0)
set_option maxRecDepth 4000 in
theorem g9_0 {l : Launch} {Z : State} {a0 : Array Value} {n0 : Nat} (hw : HW Z a0) {H : List Ob} (x0 : Int32) (x1 : Int32) (x2 : Int32) : Runs K l Z n0 m9 0 [.val (.int x0), .val (.int x1), .val (.int x2)] [] H (some (.int (f9_0 x0 x1 x2))) H := by
  unfold f9_0
  refine r_iloadN i9_0 rfl ?_
  refine r_iloadN i9_1 rfl ?_
  by_cases h1 : x0 = x1
  · rw [if_pos h1]
    refine r_icF i9_2 (XT.ii_ne_f h1) ?_
    refine r_iloadN i9_5 rfl ?_
    refine r_goto i9_6 ?_
    exact r_ireturn i9_10 rfl
  · rw [if_neg h1]
    refine r_icT i9_2 (XT.ii_ne_t h1) ?_
    refine r_iconst i9_9 ?_
    exact r_ireturn i9_10 rfl
theorem c9 {l : Launch} {Z : State} {a0 : Array Value} {n0 : Nat} (hw : HW Z a0) {H : List Ob} (x0 : Int32) (x1 : Int32) (x2 : Int32) : Meets K l Z n0 m9 [.int x0, .int x1, .int x2] H (some (.int (f9_0 x0 x1 x2))) H := meets pf9 rfl (fun h => nomatch h) (g9_0 hw x0 x1 x2)
theorem mk16 (i : Nat) (h : i < 16) : i.toInt32 + 1 &&& (16 : Nat).toInt32 - 1 = ((i + 1) % 16).toInt32 := by
  match i, h with
  | 0, _ => decide
  | 1, _ => decide
  | 2, _ => decide
  | 3, _ => decide
  | 4, _ => decide
  | 5, _ => decide
  | 6, _ => decide
  | 7, _ => decide
  | 8, _ => decide
  | 9, _ => decide
  | 10, _ => decide
  | 11, _ => decide
  | 12, _ => decide
  | 13, _ => decide
  | 14, _ => decide
  | 15, _ => decide
  | k + 16, h => exact absurd h (by omega)
theorem arrF_grow (L n : Nat) (f : Nat → Int32) (h : L ≤ n) : (arrF n (fun _ => 0)).take 0 ++ ((arrF L f).drop 0).take L ++ (arrF n (fun _ => 0)).drop (0 + L) = arrF n (fun i => if i < L then f i else 0) := by
  rw [List.take_zero, List.nil_append, List.drop_zero, List.take_of_length_le (by rw [arrF_len]; exact Nat.le_refl _), Nat.zero_add]
  apply List.ext_getElem?
  intro i
  by_cases hi : i < L
  · rw [List.getElem?_append_left (by rw [arrF_len]; exact hi), arrF_at hi, arrF_at (by omega), if_pos hi]
  · rw [List.getElem?_append_right (by rw [arrF_len]; omega), List.getElem?_drop, arrF_len, show L + (i - L) = i by omega]
    by_cases hn : i < n
    · rw [arrF_at hn, arrF_at hn, if_neg hi]
    · rw [List.getElem?_eq_none (by rw [arrF_len]; omega), List.getElem?_eq_none (by rw [arrF_len]; omega)]
theorem own_min32 (a b : Nat) (ha : a < 2 ^ 31) (hb : b < 2 ^ 31) (h : a < b) : f14_0 a.toInt32 b.toInt32 = a.toInt32 := by
  unfold f14_0
  rw [if_neg (fun z => by have := (ti_lt hb ha).mp z; omega)]
theorem copy_m {l : Launch} {Z : State} {a0 : Array Value} {n0 : Nat} (hw : HW Z a0) {H : List Ob} {a L n : Nat} {f : Nat → Int32} (ha : H[a]? = some (.inr (.int, arrF L f))) (hL : L < n) (hn : n < 100) : Meets K l Z n0 m13 [.ref a, .int n.toInt32] H (some (.ref H.length)) (H ++ [.inr (.int, arrF n (fun i => if i < L then f i else 0))]) := by
  have hlt := lt_of_at ha
  have ha' : (H ++ [.inr (.int, arrF n (fun _ => 0))])[a]? = some (.inr (.int, arrF L f)) := by rw [List.getElem?_append_left hlt]; exact ha
  have hb' : (H ++ [.inr (.int, arrF n (fun _ => 0))])[H.length]? = some (.inr (.int, arrF n (fun _ => 0))) := by rw [List.getElem?_append_right (Nat.le_refl _), Nat.sub_self]; rfl
  have jn := ti_ix (show n < 2 ^ 31 by omega)
  have nl : ¬ n.toInt32 = L.toInt32 := fun z => by have := (ti_eq (show n < 2 ^ 31 by omega) (show L < 2 ^ 31 by omega)).mp z; omega
  have mn := own_min32 L n (by omega) (by omega) hL
  refine meets (ls := [_, _, _]) pf13 rfl (fun h => nomatch h) ?_
  refine r_iloadN i13_0 rfl ?_
  refine r_aloadN i13_1 rfl rfl ?_
  refine r_len (n := L.toInt32) i13_2 ha (by rw [arrF_len]) ?_
  refine r_icT i13_3 (XT.ii_ne_t nl) ?_
  refine r_iloadN i13_14 rfl ?_
  refine s13_15 hw (a := H.length) (o := arrF n (fun _ => 0)) jn.1 (by rw [jn.2]; omega) (by rw [jn.2]; exact arrF_zero) rfl rfl ?_
  refine r_astoreN (ls' := [_, _, _]) i13_17 rfl rfl rfl ?_
  refine r_aloadN i13_18 rfl rfl ?_
  refine r_iconst i13_19 ?_
  refine r_aloadN i13_20 rfl rfl ?_
  refine r_iconst i13_21 ?_
  refine r_aloadN i13_22 rfl rfl ?_
  refine r_len (n := L.toInt32) i13_23 ha' (by rw [arrF_len]) ?_
  refine r_iloadN i13_24 rfl ?_
  refine s13_25 hw (c14 hw _ _) rfl (leB rfl) ?_
  rw [mn]
  refine s13_28 hw rfl ha' hb' (spN := 0) (dpN := 0) (nN := L) ⟨by decide, by decide⟩ ⟨by decide, by decide⟩ (ti_ix (by omega)) (by rw [arrF_len]; omega) (by rw [arrF_len]; omega) (arrF_grow L n f (by omega)) (List.set_append_right _ _ (Nat.le_refl _)) rfl (leB rfl) ?_
  rw [Nat.sub_self]
  show Runs K l Z n0 m13 31 _ _ (H ++ [_]) _ _
  refine r_aloadN i13_31 rfl rfl ?_
  exact r_areturn i13_32 rfl rfl rfl
theorem copy16_m {l : Launch} {Z : State} {a0 : Array Value} {n0 : Nat} (hw : HW Z a0) {H : List Ob} {a : Nat} {f : Nat → Int32} (ha : H[a]? = some (.inr (.int, arrF 4 f))) : Meets K l Z n0 m13 [.ref a, .int 16] H (some (.ref H.length)) (H ++ [.inr (.int, arrF 16 (fun i => if i < 4 then f i else 0))]) := copy_m hw (n := 16) ha (by decide) (by decide)
theorem cgrow_m {l : Launch} {Z : State} {a0 : Array Value} {n0 : Nat} (hw : HW Z a0) {H : List Ob} : Meets K l Z n0 m10 [.int 4, .long ((4 : Int32).toInt64 + 1)] H (some (.int 16)) H := by
  refine meets (ls := [_, _, _]) pf10 rfl (fun h => nomatch h) ?_
  refine r_lloadN i10_0 rfl ?_
  refine s10_1 hw ?_
  refine r_lcmp i10_4 ?_
  refine r_ifT i10_5 (XT.ll_le_t (by decide)) ?_
  refine s10_18 hw ?_
  refine r_lloadN i10_21 rfl ?_
  refine s10_22 hw ?_
  refine r_iloadN i10_25 rfl ?_
  refine r_i2l i10_26 ?_
  refine r_iloadN i10_27 rfl ?_
  refine r_iconst i10_28 ?_
  refine r_ishr i10_29 ?_
  refine r_i2l i10_30 ?_
  refine r_ladd i10_31 ?_
  refine s10_32 hw (c11 hw _ _) rfl (leB rfl) ?_
  refine s10_35 hw (c11 hw _ _) rfl (leB rfl) ?_
  refine s10_38 hw (c12 hw _ _) rfl (leB rfl) ?_
  refine r_l2i i10_41 ?_
  exact r_ireturnE i10_42 rfl (by decide)
theorem alloc4_m {l : Launch} {Z : State} {a0 : Array Value} {n0 : Nat} (hw : HW Z a0) {v1 v2 v3 v4 v5 : Value} {q1 q2 q3 q4 q5 : Ob} : Meets K l Z n0 m3 [.ref 0, .int 4] [.inl (0, [v1, v2, v3, v4, v5]), q1, q2, q3, q4, q5] none [.inl (0, [.ref 6, .int 28, v3, v4, v5]), q1, q2, q3, q4, q5, .inr (.int, arrF 16 (fun _ => -1))] := by
  refine meets (ls := [_, _]) pf3 rfl (fun _ => rfl) ?_
  refine r_aloadN i3_0 rfl rfl ?_
  refine r_iconst i3_1 ?_
  refine r_iloadN i3_2 rfl ?_
  refine r_ishl i3_3 ?_
  refine s3_4 hw (a := 6) (o := arrF 16 (fun _ => 0)) (H1 := [_, _, _, _, _, _, _]) (by decide) (by decide) arrF_zero rfl rfl ?_
  refine s3_6 hw (H1 := [_, _, _, _, _, _, _]) rfl rfl rfl rfl ?_
  refine r_aloadN i3_9 rfl rfl ?_
  refine s3_10 hw rfl ?_
  refine r_iconst i3_13 ?_
  refine s3_14 hw (H1 := [_, _, _, _, _, _, _]) (fill_m hw (C := 16) rfl (by decide)) rfl (leB rfl) ?_
  refine r_aloadN i3_17 rfl rfl ?_
  refine r_bipush i3_18 ?_
  refine r_iloadN i3_20 rfl ?_
  refine r_isub i3_21 ?_
  refine s3_22 hw (H1 := [_, _, _, _, _, _, _]) rfl rfl rfl rfl ?_
  exact r_return i3_25 rfl
theorem re_loop {l : Launch} {Z : State} {a0 : Array Value} {n0 : Nat} (hw : HW Z a0) {q1 q2 q3 q5 : Ob} {FR : Nat → Int32} {rs : List Int32} (h5 : rs.length = 5) (nd : ∀ (i j : Nat) (x : Int32), rs[i]? = some x → rs[j]? = some x → i = j) (hfr : ∀ (k : Nat) (x : Int32), rs[k]? = some x → FR k = x) : ∀ (suf pre : List Int32) (sl : Nat → Int32), rs = pre ++ suf → Inv 16 (hN 28) sl pre → ∃ sl', Inv 16 (hN 28) sl' rs ∧ Runs K l Z n0 m15 15 [.val (.ref 0), .val (.int pre.length.toInt32)] [] [.inl (0, [.ref 6, .int 28, .ref 4, .ref 5, .int 5]), q1, q2, q3, .inr (.int, arrF 16 FR), q5, .inr (.int, arrF 16 sl)] none [.inl (0, [.ref 6, .int 28, .ref 4, .ref 5, .int 5]), q1, q2, q3, .inr (.int, arrF 16 FR), q5, .inr (.int, arrF 16 sl')]
  | [], pre, sl, e, I => by
    rw [List.append_nil] at e
    subst e
    rw [h5]
    refine ⟨sl, I, ?_⟩
    refine r_iloadN i15_15 rfl ?_
    refine r_aloadN i15_16 rfl rfl ?_
    refine s15_17 hw rfl ?_
    refine r_icT i15_20 (XT.ii_ge_t (by decide)) ?_
    exact r_return i15_45 rfl
  | r :: suf, pre, sl, e, I => by
    have hl : pre.length + (suf.length + 1) = 5 := by rw [← h5, e]; simp
    have hr : rs[pre.length]? = some r := by rw [e, List.getElem?_append_right (Nat.le_refl _), Nat.sub_self]; rfl
    have hp : ∀ (k : Nat) (x : Int32), pre[k]? = some x → rs[k]? = some x := fun k x h => by rw [e, List.getElem?_append_left (lt_of_at h)]; exact h
    have hno : ∀ k : Nat, pre[k]? ≠ some r := fun k h => by
      have := nd k pre.length r (hp k r h) hr
      have := lt_of_at h
      omega
    obtain ⟨i, M, F⟩ := slot_m (l := l) (n0 := n0) hw (H := [.inl (0, [.ref 6, .int 28, .ref 4, .ref 5, .int 5]), q1, q2, q3, .inr (.int, arrF 16 FR), q5, .inr (.int, arrF 16 sl)]) (rs := pre) r rfl rfl rfl (by decide) mk16 (by omega) (by omega) (by decide) (fun k x h => hfr k x (hp k x h)) I (hN28 r)
    have hi := F.1
    have I' := own_ins I (by decide) (by omega) F hno
    obtain ⟨sl', J, k⟩ := re_loop hw (q1 := q1) (q2 := q2) (q3 := q3) (q5 := q5) h5 nd hfr suf (pre ++ [r]) _ (by rw [e]; simp) I'
    have va := arrF_at (f := FR) (show pre.length < 16 by omega)
    rw [hfr _ r hr] at va
    rw [show (pre ++ [r]).length = pre.length + 1 by simp, ← ti_succ (by omega)] at k
    refine ⟨sl', J, ?_⟩
    refine r_iloadN i15_15 rfl ?_
    refine r_aloadN i15_16 rfl rfl ?_
    refine s15_17 hw rfl ?_
    refine r_icF i15_20 (XT.ii_ge_f ((ti_lt (b := 5) (by omega) (by omega)).mpr (by omega))) ?_
    refine r_aloadN i15_23 rfl rfl ?_
    refine s15_24 hw rfl ?_
    refine r_aloadN i15_27 rfl rfl ?_
    refine r_aloadN i15_28 rfl rfl ?_
    refine s15_29 hw rfl ?_
    refine r_iloadN i15_32 rfl ?_
    refine r_iaload i15_33 rfl (ti_ix (by omega)) va ?_
    refine s15_34 hw (H1 := [_, _, _, _, _, _, _]) rfl (M) rfl (leB rfl) ?_
    refine r_iloadN i15_37 rfl ?_
    refine r_iastore (H1 := [_, _, _, _, _, _, _]) i15_38 rfl (ti_ix (by omega)) (by rw [arrF_len]; exact hi) arrF_set rfl ?_
    refine r_iinc (ls' := [_, _]) i15_39 rfl rfl ?_
    refine r_goto i15_42 ?_
    exact k
theorem re_m {l : Launch} {Z : State} {a0 : Array Value} {n0 : Nat} (hw : HW Z a0) {q1 q2 q3 q5 : Ob} {FR : Nat → Int32} {rs : List Int32} (h5 : rs.length = 5) (nd : ∀ (i j : Nat) (x : Int32), rs[i]? = some x → rs[j]? = some x → i = j) (hfr : ∀ (k : Nat) (x : Int32), rs[k]? = some x → FR k = x) : ∃ sl', Inv 16 (hN 28) sl' rs ∧ Meets K l Z n0 m15 [.ref 0] [.inl (0, [.ref 1, .int 29, .ref 4, .ref 5, .int 5]), q1, q2, q3, .inr (.int, arrF 16 FR), q5] none [.inl (0, [.ref 6, .int 28, .ref 4, .ref 5, .int 5]), q1, q2, q3, .inr (.int, arrF 16 FR), q5, .inr (.int, arrF 16 sl')] := by
  obtain ⟨sl', J, k⟩ := re_loop (l := l) (n0 := n0) hw (q1 := q1) (q2 := q2) (q3 := q3) (q5 := q5) h5 nd hfr rs [] _ rfl (own_empty 16 (hN 28))
  refine ⟨sl', J, meets (ls := [_, _]) pf15 rfl (fun _ => rfl) ?_⟩
  refine r_aloadN i15_0 rfl rfl ?_
  refine r_bipush i15_1 ?_
  refine r_aloadN i15_3 rfl rfl ?_
  refine s15_4 hw rfl ?_
  refine r_isub i15_7 ?_
  refine r_iconst i15_8 ?_
  refine r_iadd i15_9 ?_
  rw [show (32 : Int32) - 29 + 1 = 4 from by decide]
  refine s15_10 hw (H1 := [_, _, _, _, _, _, _]) rfl (alloc4_m hw) rfl (leB rfl) ?_
  refine r_iconst i15_13 ?_
  refine r_istoreN (ls' := [_, _]) i15_14 rfl rfl ?_
  exact k
theorem insert5_m {l : Launch} {Z : State} {a0 : Array Value} {n0 : Nat} (hw : HW Z a0) {sl fr fc : Nat → Int32} {i : Nat} {r : Int32} {rs : List Int32} (hi : i < 8) (h4 : rs.length = 4) (nd : ∀ (i j : Nat) (x : Int32), (rs ++ [r])[i]? = some x → (rs ++ [r])[j]? = some x → i = j) (hfr : ∀ (k : Nat) (x : Int32), rs[k]? = some x → fr k = x) : ∃ sl', Inv 16 (hN 28) sl' (rs ++ [r]) ∧ Meets K l Z n0 m7 [.ref 0, .int r, .int i.toInt32] [.inl (0, [.ref 1, .int 29, .ref 2, .ref 3, .int 4]), .inr (.int, arrF 8 sl), .inr (.int, arrF 4 fr), .inr (.int, arrF 4 fc)] (some (.int 4)) [.inl (0, [.ref 6, .int 28, .ref 4, .ref 5, .int 5]), .inr (.int, arrF 8 (fun j => if j = i then 4 else sl j)), .inr (.int, arrF 4 fr), .inr (.int, arrF 4 fc), .inr (.int, arrF 16 (fun j => if j = 4 then r else if j < 4 then fr j else 0)), .inr (.int, arrF 16 (fun j => if j = 4 then 0 else if j < 4 then fc j else 0)), .inr (.int, arrF 16 sl')] := by
  have hfr5 : ∀ (k : Nat) (x : Int32), (rs ++ [r])[k]? = some x → (fun j => if j = 4 then r else if j < 4 then fr j else 0) k = x := fun k x hx => by
    show (if k = 4 then r else if k < 4 then fr k else 0) = x
    have kl := lt_of_at hx
    simp at kl
    by_cases e : k = 4
    · subst e
      rw [List.getElem?_append_right (by omega), h4] at hx
      rw [if_pos rfl]; simpa using hx
    · rw [List.getElem?_append_left (by omega)] at hx
      rw [if_neg e, if_pos (by omega)]; exact hfr k x hx
  obtain ⟨sl', J, M⟩ := re_m (l := l) (n0 := n0) hw (q1 := .inr (.int, arrF 8 (fun j => if j = i then 4 else sl j))) (q2 := .inr (.int, arrF 4 fr)) (q3 := .inr (.int, arrF 4 fc)) (q5 := .inr (.int, arrF 16 (fun j => if j = 4 then 0 else if j < 4 then fc j else 0))) (rs := rs ++ [r]) (by simp [h4]) nd hfr5
  refine ⟨sl', J, meets (ls := [_, _, _]) pf7 rfl (fun h => nomatch h) ?_⟩
  refine r_aloadN i7_0 rfl rfl ?_
  refine s7_1 hw rfl ?_
  refine r_aloadN i7_4 rfl rfl ?_
  refine s7_5 hw rfl ?_
  refine r_len (n := 4) i7_8 rfl rfl ?_
  refine r_icF i7_9 (XT.ii_ne_f rfl) ?_
  refine r_aloadN i7_12 rfl rfl ?_
  refine r_aloadN i7_13 rfl rfl ?_
  refine s7_14 hw rfl ?_
  refine r_aloadN i7_17 rfl rfl ?_
  refine s7_18 hw rfl ?_
  refine r_len (n := 4) i7_21 rfl rfl ?_
  refine r_aloadN i7_22 rfl rfl ?_
  refine s7_23 hw rfl ?_
  refine r_i2l i7_26 ?_
  refine r_lconst i7_27 ?_
  refine r_ladd i7_28 ?_
  refine s7_29 hw (cgrow_m hw) rfl (leB rfl) ?_
  refine s7_32 hw (H1 := [_, _, _, _, _]) (copy16_m hw rfl) rfl (leB rfl) ?_
  refine s7_35 hw (H1 := [_, _, _, _, _]) rfl rfl rfl rfl ?_
  refine r_aloadN i7_38 rfl rfl ?_
  refine r_aloadN i7_39 rfl rfl ?_
  refine s7_40 hw rfl ?_
  refine r_aloadN i7_43 rfl rfl ?_
  refine s7_44 hw rfl ?_
  refine r_len (n := 16) i7_47 rfl rfl ?_
  refine s7_48 hw (H1 := [_, _, _, _, _, _]) (copy16_m hw rfl) rfl (leB rfl) ?_
  refine s7_51 hw (H1 := [_, _, _, _, _, _]) rfl rfl rfl rfl ?_
  refine r_aloadN i7_54 rfl rfl ?_
  refine s7_55 hw rfl ?_
  refine r_aloadN i7_58 rfl rfl ?_
  refine s7_59 hw rfl ?_
  refine r_iloadN i7_62 rfl ?_
  refine r_iastore (i := 4) (H1 := [_, _, _, _, _, _]) i7_63 rfl ⟨by decide, by decide⟩ (by rw [arrF_len]; omega) arrF_set rfl ?_
  refine r_aloadN i7_64 rfl rfl ?_
  refine s7_65 hw rfl ?_
  refine r_aloadN i7_68 rfl rfl ?_
  refine s7_69 hw rfl ?_
  refine r_iconst i7_72 ?_
  refine r_iastore (i := 4) (H1 := [_, _, _, _, _, _]) i7_73 rfl ⟨by decide, by decide⟩ (by rw [arrF_len]; omega) arrF_set rfl ?_
  refine r_aloadN i7_74 rfl rfl ?_
  refine s7_75 hw rfl ?_
  refine r_iloadN i7_78 rfl ?_
  refine r_aloadN i7_79 rfl rfl ?_
  refine r_dup i7_80 rfl ?_
  refine s7_81 hw rfl ?_
  refine r_dupX1 i7_84 rfl rfl ?_
  refine r_iconst i7_85 ?_
  refine r_iadd i7_86 ?_
  rw [show (4 : Int32) + 1 = 5 from by decide]
  refine s7_87 hw (H1 := [_, _, _, _, _, _]) rfl rfl rfl rfl ?_
  refine r_iastore (H1 := [_, _, _, _, _, _]) i7_90 rfl (ti_ix (by omega)) (by rw [arrF_len]; omega) arrF_set rfl ?_
  refine s7_91 hw ?_
  refine r_aloadN i7_94 rfl rfl ?_
  refine s7_95 hw rfl ?_
  refine r_i2l i7_98 ?_
  refine r_lmul i7_99 ?_
  refine r_aloadN i7_100 rfl rfl ?_
  refine s7_101 hw rfl ?_
  refine r_len (n := 8) i7_104 rfl rfl ?_
  refine r_i2l i7_105 ?_
  refine r_lcmp i7_106 ?_
  refine r_ifF i7_107 (XT.ll_le_f (by decide)) ?_
  refine r_aloadN i7_110 rfl rfl ?_
  refine s7_111 hw (H1 := [_, _, _, _, _, _, _]) rfl M rfl (leB rfl) ?_
  refine r_aloadN i7_114 rfl rfl ?_
  refine s7_115 hw rfl ?_
  refine r_iconst i7_118 ?_
  refine r_isub i7_119 ?_
  exact r_ireturnE i7_120 rfl (by decide)
theorem add5_m {l : Launch} {Z : State} {a0 : Array Value} {n0 : Nat} (hw : HW Z a0) {H : List Ob} {rs : List Int32} {cnt : Int32 → Int32} (r a : Int32) (S : St H rs cnt) (h4 : rs.length ≤ 4) : ∃ H', Meets K l Z n0 m5 [.ref 0, .int r, .int a] H none H' ∧ (∀ x, Meets K l Z n0 m8 [.ref 0, .int x] H' (some (.int (bump cnt r a x))) H') ∧ (∃ vs, H'[0]? = some (.inl (0, vs))) ∧ H'.length ≤ 24 ∧ szs K H' ≤ 256 := by
  by_cases small : rs.length < 4 ∨ (rs.length ≤ 4 ∧ ∃ k : Nat, rs[k]? = some r)
  · obtain ⟨H', rs', M, S', e⟩ := add_m (l := l) (n0 := n0) hw r a S small
    refine ⟨H', M, fun x => st_count hw x S' ?_, ⟨_, st_obj S'⟩, by rw [(st_len S').1]; decide, by rw [(st_len S').2]; decide⟩
    rcases e with ⟨_, rfl⟩ | ⟨hno, rfl⟩
    · exact h4
    · rw [List.length_append]
      rcases small with h | ⟨_, k, h⟩
      · exact h
      · exact absurd h (hno k)
  · have e4 : rs.length = 4 := by
      by_cases q : rs.length < 4
      · exact absurd (Or.inl q) small
      · omega
    have hno : ∀ k : Nat, rs[k]? ≠ some r := fun k h => small (Or.inr ⟨h4, k, h⟩)
    obtain ⟨sl, fr, fc, rfl, I, hk, hz⟩ := S
    obtain ⟨i, M, F⟩ := st_slot (l := l) (n0 := n0) (fc := fc) (n := rs.length.toInt32) hw r I (fun k r h => (hk k r h).1) (by omega)
    have I5 := own_ins I (by decide) (by omega) F hno
    have hi := F.1
    have hs : sl i = -1 := by
      rcases F.2 with ⟨k, h, _⟩ | ⟨_, h, _⟩
      · exact absurd h (hno k)
      · exact h
    have va := arrF_at (f := sl) hi
    rw [hs] at va
    rw [e4] at M ⊢
    obtain ⟨sl', J, M5⟩ := insert5_m (l := l) (n0 := n0) (sl := sl) (fc := fc) hw hi e4 I5.2.2.2.1 (fun k r h => (hk k r h).1)
    refine ⟨[.inl (0, [.ref 6, .int 28, .ref 4, .ref 5, .int 5]), .inr (.int, arrF 8 (fun j => if j = i then 4 else sl j)), .inr (.int, arrF 4 fr), .inr (.int, arrF 4 fc), .inr (.int, arrF 16 (fun j => if j = 4 then r else if j < 4 then fr j else 0)), .inr (.int, arrF 16 (fun j => if j = 4 then (fun j => if j = 4 then 0 else if j < 4 then fc j else 0) 4 + a else (fun j => if j = 4 then 0 else if j < 4 then fc j else 0) j)), .inr (.int, arrF 16 sl')], meets (ls := [_, _, _, _, _]) pf5 rfl (fun _ => rfl) ?_, fun x => ?_, ⟨_, rfl⟩, leB rfl, leB rfl⟩
    rotate_left
    · refine count_m hw (cnt := bump cnt r a) (rs := rs ++ [r]) (C := 16) (Lr := 16) (h := hN 28) x rfl rfl rfl (by decide) mk16 (by simp [e4]) (by simp [e4]) (by decide) (fun k y hy => ?_) J (hN28 x) rfl (fun k y hy => ?_) (fun y hy => ?_)
      · have kl := lt_of_at hy
        simp at kl
        by_cases e : k = 4
        · subst e
          rw [List.getElem?_append_right (by omega), e4] at hy
          show (if 4 = 4 then r else _) = y
          rw [if_pos rfl]; simpa using hy
        · rw [List.getElem?_append_left (by omega)] at hy
          show (if k = 4 then r else if k < 4 then fr k else 0) = y
          rw [if_neg e, if_pos (by omega)]; exact (hk k y hy).1
      · have kl := lt_of_at hy
        simp at kl
        show (if k = 4 then 0 + a else if k = 4 then 0 else if k < 4 then fc k else 0) = if y = r then cnt y + a else cnt y
        by_cases e : k = 4
        · subst e
          rw [List.getElem?_append_right (by omega), e4] at hy
          obtain rfl : r = y := by simpa using hy
          rw [if_pos rfl, if_pos rfl, hz r hno]
        · rw [List.getElem?_append_left (by omega)] at hy
          rw [if_neg e, if_neg e, if_pos (by omega), if_neg (fun z => hno k (by rw [hy, z]))]; exact (hk k y hy).2
      · show (if y = r then cnt y + a else cnt y) = 0
        have hy' : ∀ k : Nat, rs[k]? ≠ some y := fun k hk' => hy k (by rw [List.getElem?_append_left (lt_of_at hk')]; exact hk')
        have hyr : y ≠ r := fun z => hy rs.length (by rw [List.getElem?_append_right (Nat.le_refl _), Nat.sub_self, z]; rfl)
        rw [if_neg hyr]; exact hz y hy'
    refine r_aloadN i5_0 rfl rfl ?_
    refine r_iloadN i5_1 rfl ?_
    refine s5_2 hw (H1 := [_, _, _, _]) rfl (M) rfl (leB rfl) ?_
    refine r_istoreN (ls' := [_, _, _, _, _]) i5_5 rfl rfl ?_
    refine r_aloadN i5_6 rfl rfl ?_
    refine s5_7 hw rfl ?_
    refine r_iloadN i5_10 rfl ?_
    refine r_iaload i5_11 rfl (ti_ix (by omega)) va ?_
    refine r_istore (ls' := [_, _, _, _, _]) i5_12 rfl rfl ?_
    refine r_iload i5_14 rfl ?_
    refine r_iconst i5_16 ?_
    refine r_icF i5_17 (XT.ii_ne_f rfl) ?_
    refine r_aloadN i5_20 rfl rfl ?_
    refine r_iloadN i5_21 rfl ?_
    refine r_iloadN i5_22 rfl ?_
    refine s5_23 hw (H1 := [_, _, _, _, _, _, _]) rfl (M5) rfl (leB rfl) ?_
    refine r_istore (ls' := [_, _, _, _, _]) i5_26 rfl rfl ?_
    refine r_aloadN i5_28 rfl rfl ?_
    refine s5_29 hw rfl ?_
    refine r_iload i5_32 rfl ?_
    refine r_dup2 i5_34 rfl rfl ?_
    refine r_iaload (i := 4) i5_35 rfl ⟨by decide, by decide⟩ (arrF_at (by decide)) ?_
    refine r_iloadN i5_36 rfl ?_
    refine r_iadd i5_37 ?_
    refine r_iastore (i := 4) (H1 := [_, _, _, _, _, _, _]) i5_38 rfl ⟨by decide, by decide⟩ (by rw [arrF_len]; omega) arrF_set rfl ?_
    exact r_return i5_39 rfl
theorem bump_eq (cnt : Int32 → Int32) (r a x : Int32) : bump cnt r a x = cnt x + f9_0 x r a := by
  unfold bump f9_0
  by_cases e : x = r
  · rw [if_pos e]; simp [e]
  · rw [if_neg e]; simp [e]
set_option maxHeartbeats 4000000 in
theorem law_runs {l : Launch} {Z : State} {a0 : Array Value} {n0 : Nat} (hw : HW Z a0) (p0 : Int32) (p1 : Int32) (p2 : Int32) (p3 : Int32) (p4 : Int32) (p5 : Int32) : RunsB K l Z n0 m0 0 [.val (.int p0), .val (.int p1), .val (.int p2), .val (.int p3), .val (.int p4), .val (.int p5), .unset, .unset, .unset, .unset, .unset, .unset, .unset, .unset, .unset, .unset, .unset] [] [] (some (.int 1)) 24 256 := by
  refine lift (fun _ kk => r_iloadN i0_0 rfl kk) ?_
  refine lift (fun _ kk => s0_1 hw kk) ?_
  refine lift (fun _ kk => r_iand i0_3 kk) ?_
  refine lift (fun _ kk => r_istore (ls' := [_, _, _, _, _, _, _, _, _, _, _, _, _, _, _, _, _]) i0_4 rfl rfl kk) ?_
  refine lift (fun _ kk => r_iloadN i0_6 rfl kk) ?_
  refine lift (fun _ kk => s0_7 hw kk) ?_
  refine lift (fun _ kk => r_iand i0_9 kk) ?_
  refine lift (fun _ kk => r_istore (ls' := [_, _, _, _, _, _, _, _, _, _, _, _, _, _, _, _, _]) i0_10 rfl rfl kk) ?_
  refine lift (fun _ kk => r_iloadN i0_12 rfl kk) ?_
  refine lift (fun _ kk => s0_13 hw kk) ?_
  refine lift (fun _ kk => r_iand i0_15 kk) ?_
  refine lift (fun _ kk => r_istore (ls' := [_, _, _, _, _, _, _, _, _, _, _, _, _, _, _, _, _]) i0_16 rfl rfl kk) ?_
  refine lift (fun _ kk => r_iloadN i0_18 rfl kk) ?_
  refine lift (fun _ kk => s0_19 hw kk) ?_
  refine lift (fun _ kk => r_iand i0_21 kk) ?_
  refine lift (fun _ kk => r_istore (ls' := [_, _, _, _, _, _, _, _, _, _, _, _, _, _, _, _, _]) i0_22 rfl rfl kk) ?_
  refine lift (fun _ kk => r_iload i0_24 rfl kk) ?_
  refine lift (fun _ kk => s0_26 hw kk) ?_
  refine lift (fun _ kk => r_iand i0_28 kk) ?_
  refine lift (fun _ kk => r_istore (ls' := [_, _, _, _, _, _, _, _, _, _, _, _, _, _, _, _, _]) i0_29 rfl rfl kk) ?_
  generalize p0 &&& 2147483647 = r0
  generalize p1 &&& 2147483647 = r1
  generalize p2 &&& 2147483647 = r2
  generalize p3 &&& 2147483647 = r3
  generalize p4 &&& 2147483647 = r4
  have J44 : ∀ q : Int32, RunsB K l Z n0 m0 44 [.val (.int p0), .val (.int p1), .val (.int p2), .val (.int p3), .val (.int p4), .val (.int p5), .val (.int r0), .val (.int r1), .val (.int r2), .val (.int r3), .val (.int r4), .val (.int q), .unset, .unset, .unset, .unset, .unset] [] [] (some (.int 1)) 24 256 := by
    intro q
    refine lift (fun _ kk => s0_44 hw (a := 0) (H1 := [_]) rfl rfl kk) ?_
    refine lift (fun _ kk => r_dup i0_47 rfl kk) ?_
    refine lift (fun _ kk => s0_48 hw (H1 := [_, _, _, _]) (init_m hw) rfl (leB rfl) kk) ?_
    refine lift (fun _ kk => r_astore (ls' := [_, _, _, _, _, _, _, _, _, _, _, _, _, _, _, _, _]) i0_51 rfl rfl rfl kk) ?_
    have S0 : St [.inl (0, [.ref 1, .int 29, .ref 2, .ref 3, .int 0]), .inr (.int, arrF 8 (fun _ => -1)), .inr (.int, arrF 4 (fun _ => 0)), .inr (.int, arrF 4 (fun _ => 0))] [] (fun _ => 0) := ⟨_, _, _, rfl, own_empty 8 _, fun k r h => absurd h (st_none k), fun _ _ => rfl⟩
    generalize ([.inl (0, [.ref 1, .int 29, .ref 2, .ref 3, .int 0]), .inr (.int, arrF 8 (fun _ => -1)), .inr (.int, arrF 4 (fun _ => 0)), .inr (.int, arrF 4 (fun _ => 0))] : List Ob) = H0 at *
    have l0 : ([] : List Int32).length ≤ 0 := Nat.le_refl _
    generalize ([] : List Int32) = rs0 at *
    have o0 := st_obj S0
    obtain ⟨H1, rs1, M1, S1, e1⟩ := add_m (l := l) (n0 := n0) hw r0 1 S0 (Or.inl (by omega))
    have l1 : rs1.length ≤ 1 := by
      rcases e1 with ⟨_, rfl⟩ | ⟨_, rfl⟩
      · omega
      · rw [List.length_append]; exact Nat.succ_le_succ l0
    have o1 := st_obj S1
    obtain ⟨H2, rs2, M2, S2, e2⟩ := add_m (l := l) (n0 := n0) hw r1 2 S1 (Or.inl (by omega))
    have l2 : rs2.length ≤ 2 := by
      rcases e2 with ⟨_, rfl⟩ | ⟨_, rfl⟩
      · omega
      · rw [List.length_append]; exact Nat.succ_le_succ l1
    have o2 := st_obj S2
    obtain ⟨H3, rs3, M3, S3, e3⟩ := add_m (l := l) (n0 := n0) hw r2 4 S2 (Or.inl (by omega))
    have l3 : rs3.length ≤ 3 := by
      rcases e3 with ⟨_, rfl⟩ | ⟨_, rfl⟩
      · omega
      · rw [List.length_append]; exact Nat.succ_le_succ l2
    have o3 := st_obj S3
    obtain ⟨H4, rs4, M4, S4, e4⟩ := add_m (l := l) (n0 := n0) hw r3 8 S3 (Or.inl (by omega))
    have l4 : rs4.length ≤ 4 := by
      rcases e4 with ⟨_, rfl⟩ | ⟨_, rfl⟩
      · omega
      · rw [List.length_append]; exact Nat.succ_le_succ l3
    have o4 := st_obj S4
    obtain ⟨H5, M5, C5, ⟨vs, o5⟩, b1, b2⟩ := add5_m (l := l) (n0 := n0) hw r4 16 S4 l4
    have N4 := st_count (l := l) (n0 := n0) hw q S4 l4
    have N5 := C5 q
    rw [bump_eq] at N5
    rw [bump_eq, bump_eq, bump_eq, bump_eq, Int32.zero_add] at N4 N5
    refine lift (fun _ kk => r_aload i0_53 rfl rfl kk) ?_
    refine lift (fun _ kk => r_iload i0_55 rfl kk) ?_
    refine lift (fun _ kk => r_iconst i0_57 kk) ?_
    refine lift (fun _ kk => s0_58 hw o0 M1 rfl (leB rfl) kk) ?_
    refine lift (fun _ kk => r_aload i0_61 rfl rfl kk) ?_
    refine lift (fun _ kk => r_iload i0_63 rfl kk) ?_
    refine lift (fun _ kk => r_iconst i0_65 kk) ?_
    refine lift (fun _ kk => s0_66 hw o1 M2 rfl (leB rfl) kk) ?_
    refine lift (fun _ kk => r_aload i0_69 rfl rfl kk) ?_
    refine lift (fun _ kk => r_iload i0_71 rfl kk) ?_
    refine lift (fun _ kk => r_iconst i0_73 kk) ?_
    refine lift (fun _ kk => s0_74 hw o2 M3 rfl (leB rfl) kk) ?_
    refine lift (fun _ kk => r_aload i0_77 rfl rfl kk) ?_
    refine lift (fun _ kk => r_iload i0_79 rfl kk) ?_
    refine lift (fun _ kk => r_bipush i0_81 kk) ?_
    refine lift (fun _ kk => s0_83 hw o3 M4 rfl (leB rfl) kk) ?_
    refine lift (fun _ kk => r_aload i0_86 rfl rfl kk) ?_
    refine lift (fun _ kk => r_iload i0_88 rfl kk) ?_
    refine lift (fun _ kk => s0_90 hw o4 N4 rfl (leB rfl) kk) ?_
    refine lift (fun _ kk => r_istore (ls' := [_, _, _, _, _, _, _, _, _, _, _, _, _, _, _, _, _]) i0_93 rfl rfl kk) ?_
    refine lift (fun _ kk => r_aload i0_95 rfl rfl kk) ?_
    refine lift (fun _ kk => r_iload i0_97 rfl kk) ?_
    refine lift (fun _ kk => r_bipush i0_99 kk) ?_
    refine lift (fun _ kk => s0_101 hw o4 M5 rfl (leB rfl) kk) ?_
    refine lift (fun _ kk => r_aload i0_104 rfl rfl kk) ?_
    refine lift (fun _ kk => r_iload i0_106 rfl kk) ?_
    refine lift (fun _ kk => s0_108 hw o5 N5 rfl (leB rfl) kk) ?_
    refine lift (fun _ kk => r_istore (ls' := [_, _, _, _, _, _, _, _, _, _, _, _, _, _, _, _, _]) i0_111 rfl rfl kk) ?_
    refine lift (fun _ kk => r_iload i0_113 rfl kk) ?_
    refine lift (fun _ kk => r_iload i0_115 rfl kk) ?_
    refine lift (fun _ kk => r_iconst i0_117 kk) ?_
    refine lift (fun _ kk => s0_118 hw (c9 hw _ _ _) rfl (leB rfl) kk) ?_
    refine lift (fun _ kk => r_iload i0_121 rfl kk) ?_
    refine lift (fun _ kk => r_iload i0_123 rfl kk) ?_
    refine lift (fun _ kk => r_iconst i0_125 kk) ?_
    refine lift (fun _ kk => s0_126 hw (c9 hw _ _ _) rfl (leB rfl) kk) ?_
    refine lift (fun _ kk => r_iadd i0_129 kk) ?_
    refine lift (fun _ kk => r_iload i0_130 rfl kk) ?_
    refine lift (fun _ kk => r_iload i0_132 rfl kk) ?_
    refine lift (fun _ kk => r_iconst i0_134 kk) ?_
    refine lift (fun _ kk => s0_135 hw (c9 hw _ _ _) rfl (leB rfl) kk) ?_
    refine lift (fun _ kk => r_iadd i0_138 kk) ?_
    refine lift (fun _ kk => r_iload i0_139 rfl kk) ?_
    refine lift (fun _ kk => r_iload i0_141 rfl kk) ?_
    refine lift (fun _ kk => r_bipush i0_143 kk) ?_
    refine lift (fun _ kk => s0_145 hw (c9 hw _ _ _) rfl (leB rfl) kk) ?_
    refine lift (fun _ kk => r_iadd i0_148 kk) ?_
    refine lift (fun _ kk => r_istore (ls' := [_, _, _, _, _, _, _, _, _, _, _, _, _, _, _, _, _]) i0_149 rfl rfl kk) ?_
    refine lift (fun _ kk => r_iload i0_151 rfl kk) ?_
    refine lift (fun _ kk => r_iload i0_153 rfl kk) ?_
    refine lift (fun _ kk => r_iload i0_155 rfl kk) ?_
    refine lift (fun _ kk => r_bipush i0_157 kk) ?_
    refine lift (fun _ kk => s0_159 hw (c9 hw _ _ _) rfl (leB rfl) kk) ?_
    refine lift (fun _ kk => r_iadd i0_162 kk) ?_
    refine lift (fun _ kk => r_istore (ls' := [_, _, _, _, _, _, _, _, _, _, _, _, _, _, _, _, _]) i0_163 rfl rfl kk) ?_
    refine lift (fun _ kk => r_iload i0_165 rfl kk) ?_
    refine lift (fun _ kk => r_iload i0_167 rfl kk) ?_
    refine lift (fun _ kk => r_icF i0_169 (XT.ii_ne_f rfl) kk) ?_
    refine lift (fun _ kk => r_iload i0_172 rfl kk) ?_
    refine lift (fun _ kk => r_iload i0_174 rfl kk) ?_
    refine lift (fun _ kk => r_icF i0_176 (XT.ii_ne_f rfl) kk) ?_
    refine lift (fun _ kk => r_iconst i0_179 kk) ?_
    refine lift (fun _ kk => r_goto i0_180 kk) ?_
    exact ⟨_, r_zreturn i0_184 rfl (by first | decide | simp), b1, b2⟩
  by_cases q : p5 < 0
  · refine lift (fun _ kk => r_iload i0_31 rfl kk) ?_
    refine lift (fun _ kk => r_ifF i0_33 (XT.i0_ge_f q) kk) ?_
    refine lift (fun _ kk => r_iconst i0_36 kk) ?_
    refine lift (fun _ kk => r_goto i0_37 kk) ?_
    refine lift (fun _ kk => r_istore (ls' := [_, _, _, _, _, _, _, _, _, _, _, _, _, _, _, _, _]) i0_42 rfl rfl kk) ?_
    exact J44 _
  · refine lift (fun _ kk => r_iload i0_31 rfl kk) ?_
    refine lift (fun _ kk => r_ifT i0_33 (XT.i0_ge_t q) kk) ?_
    refine lift (fun _ kk => r_iload i0_40 rfl kk) ?_
    refine lift (fun _ kk => r_istore (ls' := [_, _, _, _, _, _, _, _, _, _, _, _, _, _, _, _, _]) i0_42 rfl rfl kk) ?_
    exact J44 _
set_option maxRecDepth 65536 in
set_option maxHeartbeats 40000000 in
theorem comes_1 {Post : Tables → Env → Array Value → State → Outcome → State → Prop} (hpost : ∀ tb e args s v u, (limb_1_1.after args s (.returned v) u = true ∧ limb_1_2.after args s (.returned v) u = true ∧ True) → FrameEnd s (.returned v) u (Jvm.fieldLocs frame_1_writes args s ++ Jvm.arrayLocs frame_1_arrays args s ++ Jvm.staticLocs frame_1_statics s) 24 256 → Post tb e args s (.returned v) u) :
    ArmFor flags0 classFile x code maxLocals ret World_1 tables_1 room_1 Calls_1 rest_1 Pre_1 Post := by
  intro l hfl _ _ p e ha hc hk s m args below hf hA hF happ hP
  obtain ⟨hcalls, hrest, hpre⟩ := hP
  obtain ⟨-, -, -, hnamed, -, -, -, hat⟩ := (Spec.applies_iff hf).mp happ
  obtain ⟨hg, hn⟩ := and_e (Cond.before_iff.mp (show (Jvm.Cond.and given_1 narrow_1).before args s = true from hpre))
  obtain ⟨hcount, hk0⟩ := and_e hg
  obtain ⟨w0, w1, w2, w3, w4, w5, rfl⟩ : ∃ w0 w1 w2 w3 w4 w5 : Value, args = #[w0, w1, w2, w3, w4, w5] := by
    have hs : args.size = 6 := by simpa [Cond.value, given_1] using hcount
    obtain ⟨L⟩ := args
    match L, hs with
    | [w0, w1, w2, w3, w4, w5], _ => exact ⟨w0, w1, w2, w3, w4, w5, rfl⟩
  have hw : HW s _ := fun d (hd : d ∈ tables_1) => atoms_spec (ws := Jvm.Cond.code x code maxLocals ret :: tables_1) hat d (List.mem_cons_of_mem _ hd)
  replace hk0 := and_e hk0
  obtain ⟨p0, e0⟩ := is_v hk0.1
  obtain rfl : w0 = (.int p0) := Option.some.inj e0
  have hk1 := hk0.2
  replace hk1 := and_e hk1
  obtain ⟨p1, e1⟩ := is_v hk1.1
  obtain rfl : w1 = (.int p1) := Option.some.inj e1
  have hk2 := hk1.2
  replace hk2 := and_e hk2
  obtain ⟨p2, e2⟩ := is_v hk2.1
  obtain rfl : w2 = (.int p2) := Option.some.inj e2
  have hk3 := hk2.2
  replace hk3 := and_e hk3
  obtain ⟨p3, e3⟩ := is_v hk3.1
  obtain rfl : w3 = (.int p3) := Option.some.inj e3
  have hk4 := hk3.2
  replace hk4 := and_e hk4
  obtain ⟨p4, e4⟩ := is_v hk4.1
  obtain rfl : w4 = (.int p4) := Option.some.inj e4
  have hk5 := hk4.2
  obtain ⟨p5, e5⟩ := is_v hk5
  obtain rfl : w5 = (.int p5) := Option.some.inj e5
  obtain ⟨H', k, hcl, hsl⟩ := law_runs (l := l) (n0 := s.heap.size) hw p0 p1 p2 p3 p4 p5
  obtain ⟨n, o, h1, h2, h3, _, L, rfl, ⟨rfl, -, N⟩, hq⟩ := met_gen (mi := m0) (as := [.int p0, .int p1, .int p2, .int p3, .int p4, .int p5]) tables_1 room_1 pf0 rfl (fun h => nomatch h) k (by decide) (by decide) (by show H'.length ≤ 24 + 0; omega) (by show szs K H' ≤ 256 + 0; omega) (h := s.heap) ⟨rfl, fun k o h => by simp at h⟩ p e ha hc hk s m _ below hf ((Spec.applies_iff_loose hf).mp happ).1 ⟨rfl, State.Warmed39.refl s, rfl⟩ trivial
  refine ⟨n, _, h1, h2, h3, hpost _ _ _ _ _ _ ⟨Cond.after_iff.mpr rfl, Cond.after_iff.mpr (eq_i res_at (Term.int_eval (1)) rfl), trivial⟩ ⟨hq.1, hq.2.1, (hq.2.2.sift fun y hy => Or.inr (N y hy)).mono (by show H'.length - 0 ≤ _; omega) (by show szs K H' - 0 ≤ _; omega)⟩⟩
theorem main_1_1 : Claimed_1_1 := comes_1 fun _ _ _ _ _ _ h hF => ⟨h.1, hF⟩
theorem main_1_2 : Claimed_1_2 := comes_1 fun _ _ _ _ _ _ h hF => ⟨h.2.1, hF⟩
end Jvm.Pilot.@@N@@
namespace Jvm.Pilot.@@N@@
open Jvm Jvm.ClassFile Sem Op Lib Jvm.Free Jvm.Stand Jvm.Pilot.@@N@@.Jvm.D
/-! MADE BY PROGRAM (witnessworld.py) out of the Statement's table words and the real class files: 13 classes; the members and pool entries that the words name. The judged class is class 1, her method 2. -/
namespace start1
open Jvm.ClassFile
def u (s : String) : CpInfo := .utf8 (stringToUtf16 s)
/-- a pool by its gaps: so many unusable entries, then the entry; so many at the end -/
def gap : Nat → List CpInfo → List CpInfo
  | 0, r => r
  | n + 1, r => .unusable :: gap n r
def poolList (es : List (Nat × CpInfo)) (last : Nat) : List CpInfo := es.foldr (fun e r => gap e.1 (e.2 :: r)) (gap last [])
def pool (es : List (Nat × CpInfo)) (last : Nat) : Array CpInfo := ⟨poolList es last⟩
def fileOf (pool : Array CpInfo) (this : Nat) (attrs : Array Attribute := #[]) (ms : Array MethodInfo := #[]) (fl : Nat := 33) (sup : Nat := 0) (ifs : Array Nat := #[]) (fds : Array FieldInfo := #[]) : ClassFile where
  minorVersion := 0
  majorVersion := 65
  constantPool := pool
  accessFlags := fl
  thisClass := this
  superClass := sup
  interfaces := ifs
  fields := fds
  methods := ms
  attributes := attrs
def plain (name : String) (sup : Option ClassId) : Class where
  name := name
  kind := .ordinary
  loader := none
  accessFlags := 33
  super := sup
  interfaces := #[]
  cf := none
  fields := #[]
  methods := #[]
  instanceTypes := #[]
  staticTypes := #[]
  resolved := #[]
  callSites := []
  init := .initialized
  statics := none
  mirror := none

def pool0 : Array CpInfo := pool [(5, u "<init>"), (0, u "()V"), (1, .class_ 10), (1, u "java/lang/Object")] 113

def k0c0 : Code := { maxStack := 0, maxLocals := 1, code := object_method_1_code, exceptionTable := #[], attributes := #[] }
def k0m0 : Method := { name := "<init>", desc := "()V", sig := { parameters := [], returnType := none }, accessFlags := 1, code := some k0c0 }
/-- java/lang/Object -/
def k0 : Class := { plain "java/lang/Object" none with
  accessFlags := 33
  interfaces := #[]
  cf := some (fileOf pool0 8 #[] #[{ accessFlags := 1, nameIndex := 5, descriptorIndex := 6, attributes := #[] }] 33 0 #[] #[])
  fields := #[]
  methods := #[k0m0]
  instanceTypes := #[]
  staticTypes := #[]
  resolved := Array.replicate 124 none
  statics := none }

def pool1 : Array CpInfo := pool [(2, .class_ 4), (0, .nameAndType 5 6), (0, u "java/lang/Object"), (0, u "<init>"), (0, u "()V"), (0, .integer 2147483647), (0, .class_ 9), (0, u "com/example/acquaint/acquaint/RowCounts"), (0, .methodref 8 3), (0, .methodref 8 12), (0, .nameAndType 13 14), (0, u "add"), (0, u "(II)V"), (0, .methodref 8 16), (0, .nameAndType 17 18), (0, u "count"), (0, u "(I)I"), (0, .methodref 20 21), (0, .class_ 22), (0, .nameAndType 23 24), (0, u "com/example/acquaint/acquaint/RowCountsCountPinLaw"), (0, u "hit"), (0, u "(III)I"), (3, u "law"), (0, u "(IIIIII)Z")] 2

def k1m0 : Method := { name := "<init>", desc := "()V", sig := { parameters := [], returnType := none }, accessFlags := 1, code := none }
def k1c1 : Code := { maxStack := 2, maxLocals := 3, code := method_2_code, exceptionTable := #[], attributes := #[] }
def k1m1 : Method := { name := "hit", desc := "(III)I", sig := { parameters := [.int, .int, .int], returnType := some .int }, accessFlags := 10, code := some k1c1 }
def k1c2 : Code := { maxStack := 4, maxLocals := 17, code := code, exceptionTable := #[], attributes := #[] }
def k1m2 : Method := { name := "law", desc := "(IIIIII)Z", sig := { parameters := [.int, .int, .int, .int, .int, .int], returnType := some .boolean }, accessFlags := 9, code := some k1c2 }
/-- com/example/acquaint/acquaint/RowCountsCountPinLaw -/
def k1 : Class := { plain "com/example/acquaint/acquaint/RowCountsCountPinLaw" (some 0) with
  accessFlags := 49
  interfaces := #[]
  cf := some (fileOf pool1 20 #[] #[{ accessFlags := 1, nameIndex := 5, descriptorIndex := 6, attributes := #[] }, { accessFlags := 10, nameIndex := 23, descriptorIndex := 24, attributes := #[] }, { accessFlags := 9, nameIndex := 28, descriptorIndex := 29, attributes := #[] }] 49 2 #[] #[])
  fields := #[]
  methods := #[k1m0, k1m1, k1m2]
  instanceTypes := #[]
  staticTypes := #[]
  resolved := Array.replicate 32 none
  statics := none }

def pool2 : Array CpInfo := pool [(1, .methodref 2 3), (0, .class_ 4), (0, .nameAndType 5 6), (0, u "java/lang/Object"), (0, u "<init>"), (0, u "()V"), (0, .class_ 8), (0, u "com/example/acquaint/acquaint/RowCounts"), (0, .methodref 7 10), (0, .nameAndType 11 12), (0, u "allocate"), (0, u "(I)V"), (0, .fieldref 7 14), (0, .nameAndType 15 16), (0, u "slots"), (0, u "[I"), (0, .fieldref 7 18), (0, .nameAndType 19 16), (0, u "rows"), (0, .fieldref 7 21), (0, .nameAndType 22 16), (0, u "counts"), (0, .methodref 24 25), (0, .class_ 26), (0, .nameAndType 27 28), (0, u "java/util/Arrays"), (0, u "fill"), (0, u "([II)V"), (2, .fieldref 7 32), (0, .nameAndType 33 34), (0, u "shift"), (0, u "I"), (0, .methodref 7 36), (0, .nameAndType 37 38), (0, u "slot"), (0, u "(I)I"), (0, .methodref 7 40), (0, .nameAndType 41 42), (0, u "insert"), (0, u "(II)I"), (0, .fieldref 7 44), (0, .nameAndType 45 34), (0, u "size"), (0, .interfaceMethodref 47 48), (0, .class_ 49), (0, .nameAndType 50 51), (0, u "com/example/acquaint/acquaint/Column"), (0, u "grow"), (0, u "(IJ)I"), (0, .methodref 24 53), (0, .nameAndType 54 55), (0, u "copyOf"), (0, u "([II)[I"), (0, .long 2), (1, .methodref 7 59), (0, .nameAndType 50 6), (0, .integer 2654435769), (0, u "EMPTY"), (2, u "SPREAD"), (0, u "FIRST_BITS"), (3, u "add"), (0, u "(II)V"), (1, u "count")] 8

def k2c0 : Code := { maxStack := 3, maxLocals := 1, code := prog_58_method_1_code, exceptionTable := #[], attributes := #[] }
def k2m0 : Method := { name := "<init>", desc := "()V", sig := { parameters := [], returnType := none }, accessFlags := 0, code := some k2c0 }
def k2c1 : Code := { maxStack := 3, maxLocals := 2, code := prog_58_method_2_code, exceptionTable := #[], attributes := #[] }
def k2m1 : Method := { name := "allocate", desc := "(I)V", sig := { parameters := [.int], returnType := none }, accessFlags := 2, code := some k2c1 }
def k2c2 : Code := { maxStack := 4, maxLocals := 5, code := prog_58_method_3_code, exceptionTable := #[], attributes := #[] }
def k2m2 : Method := { name := "add", desc := "(II)V", sig := { parameters := [.int, .int], returnType := none }, accessFlags := 0, code := some k2c2 }
def k2c3 : Code := { maxStack := 7, maxLocals := 3, code := prog_58_method_4_code, exceptionTable := #[], attributes := #[] }
def k2m3 : Method := { name := "insert", desc := "(II)I", sig := { parameters := [.int, .int], returnType := some .int }, accessFlags := 2, code := some k2c3 }
def k2c4 : Code := { maxStack := 3, maxLocals := 3, code := prog_58_method_5_code, exceptionTable := #[], attributes := #[] }
def k2m4 : Method := { name := "count", desc := "(I)I", sig := { parameters := [.int], returnType := some .int }, accessFlags := 0, code := some k2c4 }
def k2c5 : Code := { maxStack := 4, maxLocals := 2, code := prog_58_method_11_code, exceptionTable := #[], attributes := #[] }
def k2m5 : Method := { name := "grow", desc := "()V", sig := { parameters := [], returnType := none }, accessFlags := 2, code := some k2c5 }
def k2c6 : Code := { maxStack := 3, maxLocals := 4, code := prog_58_method_12_code, exceptionTable := #[], attributes := #[] }
def k2m6 : Method := { name := "slot", desc := "(I)I", sig := { parameters := [.int], returnType := some .int }, accessFlags := 2, code := some k2c6 }
/-- com/example/acquaint/acquaint/RowCounts -/
def k2 : Class := { plain "com/example/acquaint/acquaint/RowCounts" (some 0) with
  accessFlags := 48
  interfaces := #[]
  cf := some (fileOf pool2 7 #[] #[{ accessFlags := 0, nameIndex := 5, descriptorIndex := 6, attributes := #[] }, { accessFlags := 2, nameIndex := 11, descriptorIndex := 12, attributes := #[] }, { accessFlags := 0, nameIndex := 69, descriptorIndex := 70, attributes := #[] }, { accessFlags := 2, nameIndex := 41, descriptorIndex := 42, attributes := #[] }, { accessFlags := 0, nameIndex := 72, descriptorIndex := 38, attributes := #[] }, { accessFlags := 2, nameIndex := 50, descriptorIndex := 6, attributes := #[] }, { accessFlags := 2, nameIndex := 37, descriptorIndex := 38, attributes := #[] }] 48 2 #[] #[{ accessFlags := 26, nameIndex := 61, descriptorIndex := 34, attributes := #[] }, { accessFlags := 26, nameIndex := 64, descriptorIndex := 34, attributes := #[] }, { accessFlags := 26, nameIndex := 65, descriptorIndex := 34, attributes := #[] }, { accessFlags := 2, nameIndex := 15, descriptorIndex := 16, attributes := #[] }, { accessFlags := 2, nameIndex := 33, descriptorIndex := 34, attributes := #[] }, { accessFlags := 2, nameIndex := 19, descriptorIndex := 16, attributes := #[] }, { accessFlags := 2, nameIndex := 22, descriptorIndex := 16, attributes := #[] }, { accessFlags := 2, nameIndex := 45, descriptorIndex := 34, attributes := #[] }])
  fields := #[{ name := "EMPTY", type := .int, accessFlags := 26, slot := 0, constantValue := 0 }, { name := "SPREAD", type := .int, accessFlags := 26, slot := 1, constantValue := 0 }, { name := "FIRST_BITS", type := .int, accessFlags := 26, slot := 2, constantValue := 0 }, { name := "slots", type := (.array .int), accessFlags := 2, slot := 0, constantValue := 0 }, { name := "shift", type := .int, accessFlags := 2, slot := 1, constantValue := 0 }, { name := "rows", type := (.array .int), accessFlags := 2, slot := 2, constantValue := 0 }, { name := "counts", type := (.array .int), accessFlags := 2, slot := 3, constantValue := 0 }, { name := "size", type := .int, accessFlags := 2, slot := 4, constantValue := 0 }]
  methods := #[k2m0, k2m1, k2m2, k2m3, k2m4, k2m5, k2m6]
  instanceTypes := #[(.array .int), .int, (.array .int), (.array .int), .int]
  staticTypes := #[.int, .int, .int]
  resolved := Array.replicate 81 none
  statics := none }

def pool3 : Array CpInfo := pool [(2, .class_ 4), (1, u "java/lang/Object"), (0, u "<init>"), (0, u "()V"), (7, .class_ 16), (1, u "java/util/Arrays"), (57, .class_ 76), (1, u "java/util/Arrays$NaturalOrder"), (36, .class_ 115), (1, u "java/util/Arrays$LegacyMergeSort"), (1, u "Z"), (32, .methodref 151 152), (0, .class_ 153), (0, .nameAndType 154 155), (0, u "java/lang/System"), (0, u "arraycopy"), (0, u "(Ljava/lang/Object;ILjava/lang/Object;II)V"), (146, u "copyOf"), (1, .methodref 305 306), (0, .class_ 307), (0, .nameAndType 308 309), (0, u "java/lang/Math"), (0, u "min"), (0, u "(II)I"), (65, .class_ 376), (0, u "java/util/Arrays$ArrayList"), (68, u "$assertionsDisabled"), (269, u "MIN_ARRAY_SORT_GRAN"), (0, u "I"), (2, u "INSERTIONSORT_THRESHOLD"), (120, u "fill"), (4, u "([II)V"), (25, u "([II)[I"), (103, .class_ 976), (0, u "java/util/Arrays$ArrayItr")] 52

def k3m0 : Method := { name := "<init>", desc := "()V", sig := { parameters := [], returnType := none }, accessFlags := 2, code := none }
def k3c1 : Code := { maxStack := 3, maxLocals := 4, code := jdk_65_method_103_code, exceptionTable := #[], attributes := #[] }
def k3m1 : Method := { name := "fill", desc := "([II)V", sig := { parameters := [(.array .int), .int], returnType := none }, accessFlags := 9, code := some k3c1 }
def k3c2 : Code := { maxStack := 6, maxLocals := 3, code := jdk_65_method_123_code, exceptionTable := #[], attributes := #[] }
def k3m2 : Method := { name := "copyOf", desc := "([II)[I", sig := { parameters := [(.array .int), .int], returnType := some (.array .int) }, accessFlags := 9, code := some k3c2 }
/-- java/util/Arrays -/
def k3 : Class := { plain "java/util/Arrays" (some 0) with
  accessFlags := 49
  interfaces := #[]
  cf := some (fileOf pool3 14 #[.nestMembers #[975, 375, 113, 74]] #[{ accessFlags := 2, nameIndex := 5, descriptorIndex := 6, attributes := #[] }, { accessFlags := 9, nameIndex := 840, descriptorIndex := 845, attributes := #[] }, { accessFlags := 9, nameIndex := 302, descriptorIndex := 871, attributes := #[] }] 49 2 #[] #[{ accessFlags := 26, nameIndex := 715, descriptorIndex := 716, attributes := #[] }, { accessFlags := 26, nameIndex := 719, descriptorIndex := 716, attributes := #[] }, { accessFlags := 4120, nameIndex := 445, descriptorIndex := 117, attributes := #[] }])
  fields := #[{ name := "MIN_ARRAY_SORT_GRAN", type := .int, accessFlags := 26, slot := 0, constantValue := 0 }, { name := "INSERTIONSORT_THRESHOLD", type := .int, accessFlags := 26, slot := 1, constantValue := 0 }, { name := "$assertionsDisabled", type := .boolean, accessFlags := 4120, slot := 2, constantValue := 0 }]
  methods := #[k3m0, k3m1, k3m2]
  instanceTypes := #[]
  staticTypes := #[.int, .int, .boolean]
  resolved := Array.replicate 1029 none
  statics := none }

def pool4 : Array CpInfo := pool [(3, .class_ 4), (0, u "com/example/acquaint/acquaint/Column"), (0, .long 2147483639), (9, .long 16), (1, .methodref 18 19), (0, .class_ 20), (0, .nameAndType 21 22), (0, u "java/lang/Math"), (0, u "max"), (0, u "(JJ)J"), (0, .methodref 18 24), (0, .nameAndType 25 22), (0, u "min"), (13, .class_ 40), (0, u "java/lang/Object"), (0, u "MAX_LENGTH"), (0, u "I"), (4, u "grow"), (0, u "(IJ)I")] 32

def k4c0 : Code := { maxStack := 10, maxLocals := 3, code := prog_15_method_3_code, exceptionTable := #[], attributes := #[] }
def k4m0 : Method := { name := "grow", desc := "(IJ)I", sig := { parameters := [.int, .long], returnType := some .int }, accessFlags := 9, code := some k4c0 }
/-- com/example/acquaint/acquaint/Column -/
def k4 : Class := { plain "com/example/acquaint/acquaint/Column" (some 0) with
  accessFlags := 1536
  interfaces := #[]
  cf := some (fileOf pool4 3 #[] #[{ accessFlags := 9, nameIndex := 47, descriptorIndex := 48, attributes := #[] }] 1536 39 #[] #[{ accessFlags := 25, nameIndex := 41, descriptorIndex := 42, attributes := #[] }])
  fields := #[{ name := "MAX_LENGTH", type := .int, accessFlags := 25, slot := 0, constantValue := 0 }]
  methods := #[k4m0]
  instanceTypes := #[]
  staticTypes := #[.int]
  resolved := Array.replicate 81 none
  statics := none }

def pool5 : Array CpInfo := pool [(1, .class_ 2), (0, u "java/lang/Math"), (1, .class_ 6), (1, u "java/lang/Object"), (0, u "<init>"), (0, u "()V"), (89, .class_ 100), (1, u "java/lang/Math$RandomNumberGeneratorHolder"), (20, u "(JJ)J"), (50, u "negativeZeroFloatBits"), (0, u "J"), (2, u "negativeZeroDoubleBits"), (21, u "max"), (2, u "min"), (43, u "$assertionsDisabled"), (0, u "Z"), (88, u "(II)I"), (2, u "twoToTheDoubleScaleDown"), (0, u "D"), (4, u "twoToTheDoubleScaleUp"), (9, u "E"), (3, u "PI"), (2, u "TAU"), (2, u "DEGREES_TO_RADIANS"), (0, u "RADIANS_TO_DEGREES")] 94

def k5m0 : Method := { name := "<init>", desc := "()V", sig := { parameters := [], returnType := none }, accessFlags := 2, code := none }
def k5c1 : Code := { maxStack := 4, maxLocals := 4, code := jdk_29_method_66_code, exceptionTable := #[], attributes := #[] }
def k5m1 : Method := { name := "max", desc := "(JJ)J", sig := { parameters := [.long, .long], returnType := some .long }, accessFlags := 9, code := some k5c1 }
def k5c2 : Code := { maxStack := 2, maxLocals := 2, code := jdk_29_method_69_code, exceptionTable := #[], attributes := #[] }
def k5m2 : Method := { name := "min", desc := "(II)I", sig := { parameters := [.int, .int], returnType := some .int }, accessFlags := 9, code := some k5c2 }
def k5c3 : Code := { maxStack := 4, maxLocals := 4, code := jdk_29_method_70_code, exceptionTable := #[], attributes := #[] }
def k5m3 : Method := { name := "min", desc := "(JJ)J", sig := { parameters := [.long, .long], returnType := some .long }, accessFlags := 9, code := some k5c3 }
/-- java/lang/Math -/
def k5 : Class := { plain "java/lang/Math" (some 0) with
  accessFlags := 49
  interfaces := #[]
  cf := some (fileOf pool5 1 #[.nestMembers #[98]] #[{ accessFlags := 2, nameIndex := 7, descriptorIndex := 8, attributes := #[] }, { accessFlags := 9, nameIndex := 198, descriptorIndex := 121, attributes := #[] }, { accessFlags := 9, nameIndex := 201, descriptorIndex := 335, attributes := #[] }, { accessFlags := 9, nameIndex := 201, descriptorIndex := 121, attributes := #[] }] 49 4 #[] #[{ accessFlags := 25, nameIndex := 354, descriptorIndex := 339, attributes := #[] }, { accessFlags := 25, nameIndex := 358, descriptorIndex := 339, attributes := #[] }, { accessFlags := 25, nameIndex := 361, descriptorIndex := 339, attributes := #[] }, { accessFlags := 26, nameIndex := 364, descriptorIndex := 339, attributes := #[] }, { accessFlags := 26, nameIndex := 365, descriptorIndex := 339, attributes := #[] }, { accessFlags := 26, nameIndex := 172, descriptorIndex := 173, attributes := #[] }, { accessFlags := 26, nameIndex := 176, descriptorIndex := 173, attributes := #[] }, { accessFlags := 8, nameIndex := 344, descriptorIndex := 339, attributes := #[] }, { accessFlags := 8, nameIndex := 338, descriptorIndex := 339, attributes := #[] }, { accessFlags := 4120, nameIndex := 245, descriptorIndex := 246, attributes := #[] }])
  fields := #[{ name := "E", type := .double, accessFlags := 25, slot := 0, constantValue := 0 }, { name := "PI", type := .double, accessFlags := 25, slot := 1, constantValue := 0 }, { name := "TAU", type := .double, accessFlags := 25, slot := 2, constantValue := 0 }, { name := "DEGREES_TO_RADIANS", type := .double, accessFlags := 26, slot := 3, constantValue := 0 }, { name := "RADIANS_TO_DEGREES", type := .double, accessFlags := 26, slot := 4, constantValue := 0 }, { name := "negativeZeroFloatBits", type := .long, accessFlags := 26, slot := 5, constantValue := 0 }, { name := "negativeZeroDoubleBits", type := .long, accessFlags := 26, slot := 6, constantValue := 0 }, { name := "twoToTheDoubleScaleUp", type := .double, accessFlags := 8, slot := 7, constantValue := 0 }, { name := "twoToTheDoubleScaleDown", type := .double, accessFlags := 8, slot := 8, constantValue := 0 }, { name := "$assertionsDisabled", type := .boolean, accessFlags := 4120, slot := 9, constantValue := 0 }]
  methods := #[k5m0, k5m1, k5m2, k5m3]
  instanceTypes := #[]
  staticTypes := #[.double, .double, .double, .double, .double, .long, .long, .double, .double, .boolean]
  resolved := Array.replicate 460 none
  statics := none }

def pool6 : Array CpInfo := pool [(2, .class_ 4), (1, u "java/lang/Object"), (0, u "<init>"), (0, u "()V"), (1, .class_ 10), (1, u "java/lang/System"), (0, u "allowSecurityManager"), (0, u "I"), (16, u "cons"), (0, u "Ljava/io/Console;"), (77, .class_ 110), (1, u "java/lang/System$CallersHolder"), (43, u "initialErrStream"), (0, u "Ljava/io/PrintStream;"), (19, u "security"), (0, u "Ljava/lang/SecurityManager;"), (31, .class_ 209), (0, u "java/lang/System$1"), (7, u "props"), (0, u "Ljava/util/Properties;"), (2, u "lineSeparator"), (0, u "Ljava/lang/String;"), (96, .class_ 321), (1, u "java/lang/System$LoggerFinder"), (5, .class_ 328), (0, u "java/lang/System$Logger"), (67, u "err"), (2, u "out"), (91, u "notSupportedJnuEncoding"), (15, u "in"), (17, u "initialIn"), (0, u "Ljava/io/InputStream;"), (35, u "bootLayer"), (0, u "Ljava/lang/ModuleLayer;"), (99, .class_ 664), (0, u "java/lang/System$2"), (9, u "NEVER"), (2, u "MAYBE"), (49, u "arraycopy"), (0, u "(Ljava/lang/Object;ILjava/lang/Object;II)V"), (72, .class_ 802), (0, u "java/lang/System$Logger$Level")] 31

def k6m0 : Method := { name := "<init>", desc := "()V", sig := { parameters := [], returnType := none }, accessFlags := 2, code := none }
def k6m1 : Method := { name := "arraycopy", desc := "(Ljava/lang/Object;ILjava/lang/Object;II)V", sig := { parameters := [(.object "java/lang/Object"), .int, (.object "java/lang/Object"), .int, .int], returnType := none }, accessFlags := 265, code := none }
/-- java/lang/System -/
def k6 : Class := { plain "java/lang/System" (some 0) with
  accessFlags := 49
  interfaces := #[]
  cf := some (fileOf pool6 8 #[.nestMembers #[319, 327, 801, 108, 663, 208]] #[{ accessFlags := 2, nameIndex := 5, descriptorIndex := 6, attributes := #[] }, { accessFlags := 265, nameIndex := 727, descriptorIndex := 728, attributes := #[] }] 49 2 #[] #[{ accessFlags := 25, nameIndex := 507, descriptorIndex := 526, attributes := #[] }, { accessFlags := 25, nameIndex := 399, descriptorIndex := 155, attributes := #[] }, { accessFlags := 25, nameIndex := 396, descriptorIndex := 155, attributes := #[] }, { accessFlags := 10, nameIndex := 525, descriptorIndex := 526, attributes := #[] }, { accessFlags := 26, nameIndex := 674, descriptorIndex := 12, attributes := #[] }, { accessFlags := 26, nameIndex := 677, descriptorIndex := 12, attributes := #[] }, { accessFlags := 10, nameIndex := 11, descriptorIndex := 12, attributes := #[] }, { accessFlags := 74, nameIndex := 175, descriptorIndex := 176, attributes := #[] }, { accessFlags := 10, nameIndex := 491, descriptorIndex := 222, attributes := #[] }, { accessFlags := 74, nameIndex := 29, descriptorIndex := 30, attributes := #[] }, { accessFlags := 74, nameIndex := 154, descriptorIndex := 155, attributes := #[] }, { accessFlags := 10, nameIndex := 217, descriptorIndex := 218, attributes := #[] }, { accessFlags := 10, nameIndex := 221, descriptorIndex := 222, attributes := #[] }, { accessFlags := 8, nameIndex := 562, descriptorIndex := 563, attributes := #[] }])
  fields := #[{ name := "in", type := (.object "java/io/InputStream"), accessFlags := 25, slot := 0, constantValue := 0 }, { name := "out", type := (.object "java/io/PrintStream"), accessFlags := 25, slot := 1, constantValue := 0 }, { name := "err", type := (.object "java/io/PrintStream"), accessFlags := 25, slot := 2, constantValue := 0 }, { name := "initialIn", type := (.object "java/io/InputStream"), accessFlags := 10, slot := 3, constantValue := 0 }, { name := "NEVER", type := .int, accessFlags := 26, slot := 4, constantValue := 0 }, { name := "MAYBE", type := .int, accessFlags := 26, slot := 5, constantValue := 0 }, { name := "allowSecurityManager", type := .int, accessFlags := 10, slot := 6, constantValue := 0 }, { name := "security", type := (.object "java/lang/SecurityManager"), accessFlags := 74, slot := 7, constantValue := 0 }, { name := "notSupportedJnuEncoding", type := (.object "java/lang/String"), accessFlags := 10, slot := 8, constantValue := 0 }, { name := "cons", type := (.object "java/io/Console"), accessFlags := 74, slot := 9, constantValue := 0 }, { name := "initialErrStream", type := (.object "java/io/PrintStream"), accessFlags := 74, slot := 10, constantValue := 0 }, { name := "props", type := (.object "java/util/Properties"), accessFlags := 10, slot := 11, constantValue := 0 }, { name := "lineSeparator", type := (.object "java/lang/String"), accessFlags := 10, slot := 12, constantValue := 0 }, { name := "bootLayer", type := (.object "java/lang/ModuleLayer"), accessFlags := 8, slot := 13, constantValue := 0 }]
  methods := #[k6m0, k6m1]
  instanceTypes := #[]
  staticTypes := #[(.object "java/io/InputStream"), (.object "java/io/PrintStream"), (.object "java/io/PrintStream"), (.object "java/io/InputStream"), .int, .int, .int, (.object "java/lang/SecurityManager"), (.object "java/lang/String"), (.object "java/io/Console"), (.object "java/io/PrintStream"), (.object "java/util/Properties"), (.object "java/lang/String"), (.object "java/lang/ModuleLayer")]
  resolved := Array.replicate 834 none
  statics := none }

def pool7 : Array CpInfo := pool [(1, u "java/lang/Cloneable"), (0, .class_ 1), (0, u "java/lang/Object"), (0, .class_ 3)] 3

/-- java/lang/Cloneable -/
def k7 : Class := { plain "java/lang/Cloneable" (some 0) with
  accessFlags := 1537
  interfaces := #[]
  cf := some (fileOf pool7 2 #[] #[] 1537 4 #[] #[])
  fields := #[]
  methods := #[]
  instanceTypes := #[]
  staticTypes := #[]
  resolved := Array.replicate 8 none
  statics := none }

def pool8 : Array CpInfo := pool [(1, u "java/io/Serializable"), (0, .class_ 1), (0, u "java/lang/Object"), (0, .class_ 3)] 3

/-- java/io/Serializable -/
def k8 : Class := { plain "java/io/Serializable" (some 0) with
  accessFlags := 1537
  interfaces := #[]
  cf := some (fileOf pool8 2 #[] #[] 1537 4 #[] #[])
  fields := #[]
  methods := #[]
  instanceTypes := #[]
  staticTypes := #[]
  resolved := Array.replicate 8 none
  statics := none }

/-- the primitive byte -/
def k9 : Class := { plain "byte" none with kind := .primitive 'B', accessFlags := 0x411 }
/-- [B -/
def k10 : Class := { plain "[B" (some 0) with kind := .array 9 .byte, interfaces := #[7, 8], accessFlags := 1041 }

/-- the primitive int -/
def k11 : Class := { plain "int" none with kind := .primitive 'I', accessFlags := 0x411 }
/-- [I -/
def k12 : Class := { plain "[I" (some 0) with kind := .array 11 .int, interfaces := #[7, 8], accessFlags := 1041 }

def heap : Heap := #[]
def classes : Array Class := #[k0, k1, k2, k3, k4, k5, k6, k7, k8, k9, k10, k11, k12]
def interned : List (Array UInt16 × Addr) := []
def slotsUsed : Nat := 0
def theMethod : MethodId := ⟨1, 2⟩
def args0 : Array Value := #[.int 5, .int 300, .int 7, .int 9, .int 11, .int 13]
def aboutOver (below : List Frame) : State where
  vm := { classes := classes, interned := interned.toArray }
  heap := heap
  slotsUsed := slotsUsed
  threads := #[{ frames := .invoking theMethod args0 :: below }]
def below0 : List Frame := [.native { method := ⟨0, 0⟩, args := #[] }]
def about1 : State := aboutOver below0
def p0 : Program := .bare "" "" ""
def e0 : Env := launch0.env 0 0 0
theorem w_frames : about1.frames = Frame.invoking theMethod args0 :: below0 := rfl
set_option maxRecDepth 65536 in
theorem w_args : argsFit about1.vm theMethod args0 = true := by decide +kernel
set_option maxRecDepth 65536 in
theorem w_heap : heapFits about1 = true := by decide +kernel
set_option maxRecDepth 65536 in
theorem w_runnable : about1.curStatus? = some .runnable := by decide +kernel
set_option maxRecDepth 65536 in
theorem w_alone : about1.alone = true := by decide +kernel
set_option maxRecDepth 65536 in
theorem w_named : about1.methodNamed? x = some theMethod := by decide +kernel
set_option maxRecDepth 65536 in
theorem w_hears : about1.hears theMethod below0 = true := by decide +kernel
set_option maxRecDepth 65536 in
theorem w_ripe : about1.ripe theMethod args0 below0 = true := by decide +kernel
theorem w_running : about1.status = .running := rfl
set_option maxRecDepth 65536 in
theorem w_room : about1.hasRoom e0.platform room_1 = true :=
  launch0.hasRoom_least _ room_1 (by decide +kernel) (by decide +kernel) (by decide +kernel) (by decide +kernel) (by decide +kernel) (by decide +kernel)
theorem allAtoms_all (ts : List Jvm.Cond) (a : Array Jvm.Value) (st : Jvm.State) : (allAtoms ts).before a st = ts.all (fun c => c.before a st) := by
  induction ts with
  | nil => rfl
  | cons c t ih =>
    show (Jvm.Cond.and c (allAtoms t)).before a st = _
    rw [Jvm.Cond.before_and, ih, List.all_cons]
def words1 : List Jvm.Cond := Jvm.Cond.code x code maxLocals ret :: tables_1
/-- a 'code' word, met by the world's own term for the bytes: nothing is compared byte by byte -/
theorem code_word {y : MethodName} {bytes : ByteArray} {mx : Nat} {rt : Option FieldType} {a : Array Value} {s : State} {m : MethodId} {meth : Method} {c : Code} (h1 : s.methodNamed? y = some m) (h2 : s.vm.method? m = some meth) (h3 : meth.code = some c) (h4 : c.code = bytes)
    (h5 : (c.maxLocals == mx && c.exceptionTable.isEmpty && decide (c.maxStack ≤ mostOperands) && decide (meth.sig.returnType = rt) && !meth.locks && decide (parseMethodDescriptor y.desc = some meth.sig)) = true) : (Jvm.Cond.code y bytes mx rt).before a s = true := by
  simp only [Bool.and_eq_true, beq_iff_eq, Bool.not_eq_true', decide_eq_true_eq] at h5
  obtain ⟨⟨⟨⟨⟨g1, g2⟩, g3⟩, g4⟩, g5⟩, g6⟩ := h5
  simp [Cond.before, Cond.holds, Cond.value, h1, h2, h3, h4, g1, g2, g3, g4, g5, g6]
def isCode : Jvm.Cond → Bool
  | .code _ _ _ _ => true
  | _ => false
theorem all_split {L : List Jvm.Cond} {P : Jvm.Cond → Bool} (h1 : L.all (fun c => isCode c || P c) = true) (h2 : ∀ c ∈ L.filter isCode, P c = true) : L.all P = true := by
  refine List.all_eq_true.mpr fun c hc => ?_
  have h := List.all_eq_true.mp h1 c hc
  rcases Bool.eq_false_or_eq_true (isCode c) with hi | hi
  · exact h2 c (List.mem_filter.mpr ⟨hc, hi⟩)
  · simpa [hi] using h
set_option maxRecDepth 65536 in
theorem w_c0 : (Jvm.Cond.code x code maxLocals ret).before args0 about1 = true := code_word (m := ⟨1, 2⟩) (meth := k1m2) (c := k1c2) (by decide +kernel) rfl rfl rfl (by decide +kernel)
set_option maxRecDepth 65536 in
theorem w_c1 : (Jvm.Cond.code ({ cls := "com/example/acquaint/acquaint/RowCounts", name := "<init>", desc := "()V" } : Jvm.MethodName) prog_58_method_1_code (1 : Nat) (Option.none : Option Jvm.ClassFile.FieldType)).before args0 about1 = true := code_word (m := ⟨2, 0⟩) (meth := k2m0) (c := k2c0) (by decide +kernel) rfl rfl rfl (by decide +kernel)
set_option maxRecDepth 65536 in
theorem w_c2 : (Jvm.Cond.code ({ cls := "java/lang/Object", name := "<init>", desc := "()V" } : Jvm.MethodName) object_method_1_code (1 : Nat) (Option.none : Option Jvm.ClassFile.FieldType)).before args0 about1 = true := code_word (m := ⟨0, 0⟩) (meth := k0m0) (c := k0c0) (by decide +kernel) rfl rfl rfl (by decide +kernel)
set_option maxRecDepth 65536 in
theorem w_c3 : (Jvm.Cond.code ({ cls := "com/example/acquaint/acquaint/RowCounts", name := "allocate", desc := "(I)V" } : Jvm.MethodName) prog_58_method_2_code (2 : Nat) (Option.none : Option Jvm.ClassFile.FieldType)).before args0 about1 = true := code_word (m := ⟨2, 1⟩) (meth := k2m1) (c := k2c1) (by decide +kernel) rfl rfl rfl (by decide +kernel)
set_option maxRecDepth 65536 in
theorem w_c4 : (Jvm.Cond.code ({ cls := "java/util/Arrays", name := "fill", desc := "([II)V" } : Jvm.MethodName) jdk_65_method_103_code (4 : Nat) (Option.none : Option Jvm.ClassFile.FieldType)).before args0 about1 = true := code_word (m := ⟨3, 1⟩) (meth := k3m1) (c := k3c1) (by decide +kernel) rfl rfl rfl (by decide +kernel)
set_option maxRecDepth 65536 in
theorem w_c5 : (Jvm.Cond.code ({ cls := "com/example/acquaint/acquaint/RowCounts", name := "add", desc := "(II)V" } : Jvm.MethodName) prog_58_method_3_code (5 : Nat) (Option.none : Option Jvm.ClassFile.FieldType)).before args0 about1 = true := code_word (m := ⟨2, 2⟩) (meth := k2m2) (c := k2c2) (by decide +kernel) rfl rfl rfl (by decide +kernel)
set_option maxRecDepth 65536 in
theorem w_c6 : (Jvm.Cond.code ({ cls := "com/example/acquaint/acquaint/RowCounts", name := "slot", desc := "(I)I" } : Jvm.MethodName) prog_58_method_12_code (4 : Nat) (Option.some Jvm.ClassFile.FieldType.int)).before args0 about1 = true := code_word (m := ⟨2, 6⟩) (meth := k2m6) (c := k2c6) (by decide +kernel) rfl rfl rfl (by decide +kernel)
set_option maxRecDepth 65536 in
theorem w_c7 : (Jvm.Cond.code ({ cls := "com/example/acquaint/acquaint/RowCounts", name := "insert", desc := "(II)I" } : Jvm.MethodName) prog_58_method_4_code (3 : Nat) (Option.some Jvm.ClassFile.FieldType.int)).before args0 about1 = true := code_word (m := ⟨2, 3⟩) (meth := k2m3) (c := k2c3) (by decide +kernel) rfl rfl rfl (by decide +kernel)
set_option maxRecDepth 65536 in
theorem w_c8 : (Jvm.Cond.code ({ cls := "com/example/acquaint/acquaint/RowCounts", name := "count", desc := "(I)I" } : Jvm.MethodName) prog_58_method_5_code (3 : Nat) (Option.some Jvm.ClassFile.FieldType.int)).before args0 about1 = true := code_word (m := ⟨2, 4⟩) (meth := k2m4) (c := k2c4) (by decide +kernel) rfl rfl rfl (by decide +kernel)
set_option maxRecDepth 65536 in
theorem w_c9 : (Jvm.Cond.code ({ cls := "com/example/acquaint/acquaint/RowCountsCountPinLaw", name := "hit", desc := "(III)I" } : Jvm.MethodName) method_2_code (3 : Nat) (Option.some Jvm.ClassFile.FieldType.int)).before args0 about1 = true := code_word (m := ⟨1, 1⟩) (meth := k1m1) (c := k1c1) (by decide +kernel) rfl rfl rfl (by decide +kernel)
set_option maxRecDepth 65536 in
theorem w_c10 : (Jvm.Cond.code ({ cls := "com/example/acquaint/acquaint/Column", name := "grow", desc := "(IJ)I" } : Jvm.MethodName) prog_15_method_3_code (3 : Nat) (Option.some Jvm.ClassFile.FieldType.int)).before args0 about1 = true := code_word (m := ⟨4, 0⟩) (meth := k4m0) (c := k4c0) (by decide +kernel) rfl rfl rfl (by decide +kernel)
set_option maxRecDepth 65536 in
theorem w_c11 : (Jvm.Cond.code ({ cls := "java/lang/Math", name := "max", desc := "(JJ)J" } : Jvm.MethodName) jdk_29_method_66_code (4 : Nat) (Option.some Jvm.ClassFile.FieldType.long)).before args0 about1 = true := code_word (m := ⟨5, 1⟩) (meth := k5m1) (c := k5c1) (by decide +kernel) rfl rfl rfl (by decide +kernel)
set_option maxRecDepth 65536 in
theorem w_c12 : (Jvm.Cond.code ({ cls := "java/lang/Math", name := "min", desc := "(JJ)J" } : Jvm.MethodName) jdk_29_method_70_code (4 : Nat) (Option.some Jvm.ClassFile.FieldType.long)).before args0 about1 = true := code_word (m := ⟨5, 3⟩) (meth := k5m3) (c := k5c3) (by decide +kernel) rfl rfl rfl (by decide +kernel)
set_option maxRecDepth 65536 in
theorem w_c13 : (Jvm.Cond.code ({ cls := "java/util/Arrays", name := "copyOf", desc := "([II)[I" } : Jvm.MethodName) jdk_65_method_123_code (3 : Nat) (Option.some (Jvm.ClassFile.FieldType.array Jvm.ClassFile.FieldType.int))).before args0 about1 = true := code_word (m := ⟨3, 2⟩) (meth := k3m2) (c := k3c2) (by decide +kernel) rfl rfl rfl (by decide +kernel)
set_option maxRecDepth 65536 in
theorem w_c14 : (Jvm.Cond.code ({ cls := "java/lang/Math", name := "min", desc := "(II)I" } : Jvm.MethodName) jdk_29_method_69_code (2 : Nat) (Option.some Jvm.ClassFile.FieldType.int)).before args0 about1 = true := code_word (m := ⟨5, 2⟩) (meth := k5m2) (c := k5c2) (by decide +kernel) rfl rfl rfl (by decide +kernel)
set_option maxRecDepth 65536 in
theorem w_c15 : (Jvm.Cond.code ({ cls := "com/example/acquaint/acquaint/RowCounts", name := "grow", desc := "()V" } : Jvm.MethodName) prog_58_method_11_code (2 : Nat) (Option.none : Option Jvm.ClassFile.FieldType)).before args0 about1 = true := code_word (m := ⟨2, 5⟩) (meth := k2m5) (c := k2c5) (by decide +kernel) rfl rfl rfl (by decide +kernel)
def codes1 : List Jvm.Cond := [Jvm.Cond.code x code maxLocals ret, Jvm.Cond.code ({ cls := "com/example/acquaint/acquaint/RowCounts", name := "<init>", desc := "()V" } : Jvm.MethodName) prog_58_method_1_code (1 : Nat) (Option.none : Option Jvm.ClassFile.FieldType), Jvm.Cond.code ({ cls := "java/lang/Object", name := "<init>", desc := "()V" } : Jvm.MethodName) object_method_1_code (1 : Nat) (Option.none : Option Jvm.ClassFile.FieldType), Jvm.Cond.code ({ cls := "com/example/acquaint/acquaint/RowCounts", name := "allocate", desc := "(I)V" } : Jvm.MethodName) prog_58_method_2_code (2 : Nat) (Option.none : Option Jvm.ClassFile.FieldType), Jvm.Cond.code ({ cls := "java/util/Arrays", name := "fill", desc := "([II)V" } : Jvm.MethodName) jdk_65_method_103_code (4 : Nat) (Option.none : Option Jvm.ClassFile.FieldType), Jvm.Cond.code ({ cls := "com/example/acquaint/acquaint/RowCounts", name := "add", desc := "(II)V" } : Jvm.MethodName) prog_58_method_3_code (5 : Nat) (Option.none : Option Jvm.ClassFile.FieldType), Jvm.Cond.code ({ cls := "com/example/acquaint/acquaint/RowCounts", name := "slot", desc := "(I)I" } : Jvm.MethodName) prog_58_method_12_code (4 : Nat) (Option.some Jvm.ClassFile.FieldType.int), Jvm.Cond.code ({ cls := "com/example/acquaint/acquaint/RowCounts", name := "insert", desc := "(II)I" } : Jvm.MethodName) prog_58_method_4_code (3 : Nat) (Option.some Jvm.ClassFile.FieldType.int), Jvm.Cond.code ({ cls := "com/example/acquaint/acquaint/RowCounts", name := "count", desc := "(I)I" } : Jvm.MethodName) prog_58_method_5_code (3 : Nat) (Option.some Jvm.ClassFile.FieldType.int), Jvm.Cond.code ({ cls := "com/example/acquaint/acquaint/RowCountsCountPinLaw", name := "hit", desc := "(III)I" } : Jvm.MethodName) method_2_code (3 : Nat) (Option.some Jvm.ClassFile.FieldType.int), Jvm.Cond.code ({ cls := "com/example/acquaint/acquaint/Column", name := "grow", desc := "(IJ)I" } : Jvm.MethodName) prog_15_method_3_code (3 : Nat) (Option.some Jvm.ClassFile.FieldType.int), Jvm.Cond.code ({ cls := "java/lang/Math", name := "max", desc := "(JJ)J" } : Jvm.MethodName) jdk_29_method_66_code (4 : Nat) (Option.some Jvm.ClassFile.FieldType.long), Jvm.Cond.code ({ cls := "java/lang/Math", name := "min", desc := "(JJ)J" } : Jvm.MethodName) jdk_29_method_70_code (4 : Nat) (Option.some Jvm.ClassFile.FieldType.long), Jvm.Cond.code ({ cls := "java/util/Arrays", name := "copyOf", desc := "([II)[I" } : Jvm.MethodName) jdk_65_method_123_code (3 : Nat) (Option.some (Jvm.ClassFile.FieldType.array Jvm.ClassFile.FieldType.int)), Jvm.Cond.code ({ cls := "java/lang/Math", name := "min", desc := "(II)I" } : Jvm.MethodName) jdk_29_method_69_code (2 : Nat) (Option.some Jvm.ClassFile.FieldType.int), Jvm.Cond.code ({ cls := "com/example/acquaint/acquaint/RowCounts", name := "grow", desc := "()V" } : Jvm.MethodName) prog_58_method_11_code (2 : Nat) (Option.none : Option Jvm.ClassFile.FieldType)]
set_option maxRecDepth 65536 in
theorem codes_eq : words1.filter isCode = codes1 := rfl
theorem w_codes : ∀ c ∈ words1.filter isCode, c.before args0 about1 = true := by
  rw [codes_eq]
  intro c hc
  simp only [codes1, List.mem_cons, List.not_mem_nil, or_false] at hc
  rcases hc with rfl | rfl | rfl | rfl | rfl | rfl | rfl | rfl | rfl | rfl | rfl | rfl | rfl | rfl | rfl | rfl
  · exact w_c0
  · exact w_c1
  · exact w_c2
  · exact w_c3
  · exact w_c4
  · exact w_c5
  · exact w_c6
  · exact w_c7
  · exact w_c8
  · exact w_c9
  · exact w_c10
  · exact w_c11
  · exact w_c12
  · exact w_c13
  · exact w_c14
  · exact w_c15
set_option maxRecDepth 65536 in
theorem w_t1 : (words1.take 24).all (fun c => isCode c || c.before args0 about1) = true := by decide +kernel
set_option maxRecDepth 65536 in
theorem w_t2 : ((words1.drop 24).take 24).all (fun c => isCode c || c.before args0 about1) = true := by decide +kernel
set_option maxRecDepth 65536 in
theorem w_t3 : (((words1.drop 24).drop 24).take 24).all (fun c => isCode c || c.before args0 about1) = true := by decide +kernel
set_option maxRecDepth 65536 in
theorem w_t4 : (((words1.drop 24).drop 24).drop 24).all (fun c => isCode c || c.before args0 about1) = true := by decide +kernel
theorem w_tables : (allAtoms (Jvm.Cond.code x code maxLocals ret :: tables_1)).before args0 about1 = true := by
  rw [allAtoms_all]
  show words1.all (fun c => c.before args0 about1) = true
  refine all_split ?_ w_codes
  rw [← List.take_append_drop 24 words1, List.all_append, w_t1, ← List.take_append_drop 24 (words1.drop 24), List.all_append, w_t2, ← List.take_append_drop 24 ((words1.drop 24).drop 24), List.all_append, w_t3, w_t4]
  rfl
set_option maxRecDepth 65536 in
theorem w_case : (Jvm.Cond.and given_1 narrow_1).before args0 about1 = true := by decide +kernel
theorem w_applies : (headSpec (Jvm.Cond.code x code maxLocals ret :: tables_1) room_1).applies x e0.platform about1 = true :=
  (Spec.applies_iff w_frames).mpr ⟨w_running, w_runnable, w_alone, w_named, w_hears, w_ripe, w_room, w_tables⟩
theorem atStart : AtStart classFile x code maxLocals ret World_1 tables_1 room_1 Calls_1 rest_1 Pre_1 launch0 p0 e0 about1 theMethod args0 below0 :=
  ⟨lists_1, trivial, launch0.admits_env _ _ _, launch0.least_env, fairChoices_fair.cas, fairChoices_fair.clock, w_frames, w_args, w_heap, w_applies, trivial, trivial, w_case⟩
end start1
theorem witness_1 : WitnessClaimed_1 := ⟨start1.p0, start1.e0, start1.about1, start1.theMethod, start1.args0, start1.below0, start1.atStart⟩
end Jvm.Pilot.@@N@@
