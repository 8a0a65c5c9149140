import JvmDerived
import JvmDerived.Pilot.@@N@@Statement
import JvmDerived.Pilot.@@N@@Code
set_option linter.unusedVariables false
set_option linter.unusedSimpArgs false
@@BLOCK:HandJ.lean.txt@@
@@BLOCK:SymMore.lean.txt@@
namespace Jvm.Pilot.@@N@@
open Jvm Jvm.ClassFile Sem Op Lib Jvm.Free Jvm.Stand Jvm.LawKit Jvm.RoadKit Bundle Jvm.Pilot.@@N@@.Jvm.D
/-! ## A small logic of runs over a virtual heap (own work, the same text in every proof of this seat)
References count from the first cell that the law makes (n0): `shV n0`. `Ob`: an object by its class (a place in K) and its laid fields, or an array by its component type and values.
`Runs K l Z n0 mi pc ls st H v H'`: whoever stands in the method mi at pc with locals ls, stack st and virtual heap H comes out returning v with heap H'. -/
def shV (n0 : Nat) : Value → Value
  | .ref a => .ref (n0 + a)
  | v => v
def shS (n0 : Nat) : Slot → Slot
  | .val v => .val (shV n0 v)
  | s => s
abbrev Ob : Type := (Nat × List Value) ⊕ (FieldType × List Value)
/-- a field: who declares it, its name, its descriptor, its type -/
abbrev FI : Type := String × String × String × FieldType
/-- a class: its name, the number of its slots, its fields -/
abbrev CI : Type := String × Nat × List FI
/-- a method: name, bytes, max_locals, return type; frames and words that its callees need -/
abbrev MI : Type := MethodName × ByteArray × Nat × Option FieldType × Nat × Nat
def osz (K : List CI) : Ob → Nat
  | .inl (c, _) => ((K[c]?).map (fun ci => ci.2.1)).getD 0
  | .inr (_, vs) => vs.length
def szs (K : List CI) (H : List Ob) : Nat := (H.map (osz K)).sum
def OOk (K : List CI) (Z : State) (n0 : Nat) (h : Heap) (a : Addr) : Ob → Prop
  | .inl (c, vs) => ∃ ci, K[c]? = some ci ∧ Exa Z h a ci.1 ∧ ∀ (i : Nat) (f : FI) (v : Value), ci.2.2[i]? = some f → vs[i]? = some v → Fld Z h a f.1 f.2.1 f.2.2.1 (shV n0 v)
  | .inr (ty, vs) => ∃ cl, Arr Z h a cl ty ∧ cl.slots.size = vs.length ∧ vs.length < 2 ^ 31 ∧ ∀ (i : Nat) (v : Value), vs[i]? = some v → cl.slots[i]? = some (shV n0 v) ∧ fits ty v = true
def Rel (K : List CI) (Z : State) (n0 : Nat) (H : List Ob) (h : Heap) : Prop := h.size = n0 + H.length ∧ ∀ (k : Nat) (o : Ob), H[k]? = some o → OOk K Z n0 h (n0 + k) o
def KOk (K : List CI) (Z : State) (a0 : Array Value) : Prop := ∀ (k : Nat) (ci : CI), K[k]? = some ci → (Jvm.Cond.instantiable ci.1 ci.2.1).before a0 Z = true ∧ (∀ f ∈ ci.2.2, Laid Z a0 ci.1 f.1 f.2.1 f.2.2.1 ∧ parseFieldDescriptor f.2.2.1 = some f.2.2.2) ∧ ci.2.2.Pairwise (fun f g => f.2.1 ≠ g.2.1)
theorem cat_sh (n0 : Nat) (v : Value) : (shV n0 v).category = v.category := by cases v <;> rfl
theorem cats_sh (n0 : Nat) (st : List Value) : ((st.map (shV n0)).map fun v => v.category).sum = (st.map fun v => v.category).sum := by
  rw [List.map_map]; congr 1; exact List.map_congr_left fun v _ => cat_sh n0 v
theorem laid_map (n0 : Nat) : ∀ as : List Value, Jvm.Sym.laidSlots (as.map (shV n0)) = (Jvm.Sym.laidSlots as).map (shS n0)
  | [] => rfl
  | v :: vs => by
    simp only [List.map_cons, Jvm.Sym.laidSlots, cat_sh, laid_map n0 vs]
    split <;> rfl
theorem entry_eq (n0 : Nat) (m : MethodId) (as : List Value) (n : Nat) {ls : List Slot} (h : Jvm.Sym.laidSlots as ++ List.replicate (n - (Jvm.Sym.laidSlots as).length) .unset = ls) :
    entryFrame m (as.map (shV n0)).toArray n = mkF m 0 (ls.map (shS n0)).toArray [] := by
  have e : argsToLocals (as.map (shV n0)).toArray n = (ls.map (shS n0)).toArray := Array.toList_inj.mp (by
    rw [Jvm.Sym.argsToLocals_toList]
    simp only [laid_map, List.length_map, ← h, List.map_append, List.map_replicate]
    rfl)
  show ({ method := m, pc := 0, locals := argsToLocals (as.map (shV n0)).toArray n, stack := [], locked := none } : JFrame) = _
  rw [e]
theorem loc_at {n0 : Nat} {ls : List Slot} {k : Nat} {s : Slot} (h : ls[k]? = some s) : ((ls.map (shS n0)).toArray)[k]? = some (shS n0 s) := by
  simp [h]
/-- the place k may take a value of one word -/
def P1 (ls : List Slot) (k : Nat) : Bool := match ls[k]? with | some .unset => true | some (.val w) => w.category == 1 | _ => false
/-- the places k and k + 1 may take a value of two words -/
def P2 (ls : List Slot) (k : Nat) : Bool := match ls[k]?, ls[k + 1]? with | some (.val w), some .second => w.category == 2 | _, _ => P1 ls k && P1 ls (k + 1)
theorem P1_slot {ls : List Slot} {k : Nat} (h : P1 ls k = true) : ∃ s, ls[k]? = some s ∧ (match s with | .second => False | .val old => old.category = 1 | .unset => True) := by
  unfold P1 at h
  split at h
  · rename_i e; exact ⟨_, e, trivial⟩
  · rename_i w e; exact ⟨_, e, by simpa using h⟩
  · cases h
theorem st1 {n0 : Nat} {ls ls' : List Slot} {k : Nat} {v : Value} (hp : P1 ls k = true) (hv : v.category = 1) (hs : ls.set k (.val v) = ls') : storeLocals (ls.map (shS n0)).toArray k (shV n0 v) = some (ls'.map (shS n0)).toArray := by
  obtain ⟨s, e, q⟩ := P1_slot hp
  rw [storeLocals_cat1 (loc_at (n0 := n0) e) (by rw [cat_sh]; exact hv) (by cases s <;> simp_all [shS, cat_sh]), ← hs]
  simp [List.map_set, shS]
theorem st2 {n0 : Nat} {ls ls' : List Slot} {k : Nat} {v : Value} (hp : P2 ls k = true) (hv : v.category = 2) (hs : (ls.set k (.val v)).set (k + 1) .second = ls') : storeLocals (ls.map (shS n0)).toArray k (shV n0 v) = some (ls'.map (shS n0)).toArray := by
  have key : ∃ x y, ls[k]? = some x ∧ ls[k + 1]? = some y ∧ ((Jvm.Free.Fl.Plain1 (shS n0 x) ∧ Jvm.Free.Fl.Plain1 (shS n0 y)) ∨ ((∃ old, shS n0 x = .val old ∧ old.category = 2) ∧ shS n0 y = .second)) := by
    unfold P2 at hp
    split at hp
    · rename_i w e1 e2
      exact ⟨_, _, e1, e2, Or.inr ⟨⟨_, rfl, by rw [cat_sh]; simpa using hp⟩, rfl⟩⟩
    · rw [Bool.and_eq_true] at hp
      obtain ⟨s, e, q⟩ := P1_slot hp.1
      obtain ⟨s', e', q'⟩ := P1_slot hp.2
      exact ⟨s, s', e, e', Or.inl ⟨by cases s <;> simp_all [shS, cat_sh, Jvm.Free.Fl.Plain1], by cases s' <;> simp_all [shS, cat_sh, Jvm.Free.Fl.Plain1]⟩⟩
  obtain ⟨x, y, e1, e2, q⟩ := key
  rw [Jvm.Free.Fl.storeLocals_cat2 (loc_at (n0 := n0) e1) (loc_at (n0 := n0) e2) (by rw [cat_sh]; exact hv) q, ← hs]
  simp [List.map_set, shS]
def Runs (K : List CI) (l : Launch) (Z : State) (n0 : Nat) (mi : MI) (pc : Nat) (ls : List Slot) (st : List Value) (H : List Ob) (v : Option Value) (H' : List Ob) : Prop :=
  H.length ≤ H'.length ∧ szs K H ≤ szs K H' ∧
  ∀ (p : Program) (e : Env) (R : Room) (s : State) (m : MethodId) (args : Array Value) (below : List Frame) (meth : Method) (c : Code) (T : State) (locs : List Loc) (cells slots : Nat),
    Stand p l e R s m args below meth c T locs cells slots → p.tables.exec = Jvm.exec → Z.Warmed39 s.vm → c.code = mi.2.1 → c.maxLocals = mi.2.2.1 → meth.sig.returnType = mi.2.2.2.1 → s.vm.findClass mi.1.cls = some m.cls → meth.name = mi.1.name →
    Rel K Z n0 H T.heap → Fr n0 locs → mi.2.2.2.2.1 ≤ R.frames → mi.2.2.2.2.2 ≤ R.locals → s.heap.size + cells = n0 + H.length → cells + H'.length ≤ R.cells + H.length → slots + szs K H' ≤ R.slots + szs K H →
    ∃ (T' : State) (locs' : List Loc) (cells' slots' : Nat), Stand p l e R s m args below meth c T' locs' cells' slots' ∧ Rel K Z n0 H' T'.heap ∧ Fr n0 locs' ∧ s.heap.size + cells' = n0 + H'.length ∧ slots' + szs K H ≤ slots + szs K H' ∧
      ∀ fs, (∀ (f : JFrame) (acts : List Action), f.method = m → f.locked = none → f.entered = [] → (doReturn e (T'.setTop f) acts (v.map (shV n0))).1 = T'.setFrames fs) →
        Steps p.tables e below (T.setTop (mkF m pc (ls.map (shS n0)).toArray (st.map (shV n0)))) (T'.setFrames fs)
def rmOf (K : List CI) (mi : MI) (H H' : List Ob) : Room := { frames := mi.2.2.2.2.1, cells := H'.length - H.length, slots := szs K H' - szs K H, locals := mi.2.2.2.2.2 }
def Meets (K : List CI) (l : Launch) (Z : State) (n0 : Nat) (mi : MI) (as : List Value) (H : List Ob) (v : Option Value) (H' : List Ob) : Prop :=
  H.length ≤ H'.length ∧ szs K H ≤ szs K H' ∧ ∀ h, Rel K Z n0 H h →
    MetFree l mi.1 (head1 [Jvm.Cond.code mi.1 mi.2.1 mi.2.2.1 mi.2.2.2.1] (rmOf K mi H H')) (fun a U => a = (as.map (shV n0)).toArray ∧ Z.Warmed39 U.vm ∧ U.heap = h) (fun _ _ _ _ _ => True)
      (fun _ U o U' => ∃ w L, o = .returned w ∧ (w = v.map (shV n0) ∧ Rel K Z n0 H' U'.heap ∧ Fr n0 L) ∧ FrameEnd U o U' L (rmOf K mi H H').cells (rmOf K mi H H').slots)
theorem leB {a b : Nat} (h : Nat.ble a b = true) : a ≤ b := Nat.le_of_ble_eq_true h
theorem ltB {a b : Nat} (h : Nat.ble (a + 1) b = true) : a < b := Nat.le_of_ble_eq_true h
section Logic
variable {K : List CI} {l : Launch} {Z : State} {a0 : Array Value} {n0 : Nat} {mi : MI} {pc np tp : Nat} {ls ls' : List Slot} {st rest : List Value} {H H' H1 : List Ob} {v : Option Value}
/-- from a run of the body to the method's contract, in any room that holds it -/
theorem met_gen {as : List Value} (ws : List Jvm.Cond) (R0 : Room) (hp : plainFor mi.1 = true) (hls : Jvm.Sym.laidSlots as ++ List.replicate (mi.2.2.1 - (Jvm.Sym.laidSlots as).length) .unset = ls) (hv : mi.2.2.2.1 = none → v = none)
    (k : Runs K l Z n0 mi 0 ls [] H v H') (hfr : mi.2.2.2.2.1 ≤ R0.frames) (hlo : mi.2.2.2.2.2 ≤ R0.locals) (hcl : H'.length ≤ R0.cells + H.length) (hsl : szs K H' ≤ R0.slots + szs K H) {h : Heap} (hrel : Rel K Z n0 H h) :
    MetFree l mi.1 (head1 (Jvm.Cond.code mi.1 mi.2.1 mi.2.2.1 mi.2.2.2.1 :: ws) R0) (fun a U => a = (as.map (shV n0)).toArray ∧ Z.Warmed39 U.vm ∧ U.heap = h) (fun _ _ _ _ _ => True)
      (fun _ U o U' => ∃ w L, o = .returned w ∧ (w = v.map (shV n0) ∧ Rel K Z n0 H' U'.heap ∧ Fr n0 L) ∧ FrameEnd U o U' L (H'.length - H.length) (szs K H' - szs K H)) := by
  refine MetFree.of_bodySF hp hisR ?_
  intro p e s m args below meth c s₁ Bd hml0 hP hK
  obtain ⟨rfl, hZ, hh⟩ := hP
  have hx := Bd.exec
  have hby := Bd.bytes
  have hown : s.vm.findClass mi.1.cls = some m.cls := findClass_of_methodNamed Bd.named
  have hnm := (name_of_methodNamed Bd.named Bd.method).1
  have X0 : Stand p l e R0 s m (as.map (shV n0)).toArray below meth c s₁ [] 0 0 := Stand.of_body Bd
  have e0 : s₁.heap = h := by rw [← hh, Bd.state]; rfl
  obtain ⟨T', locs', cells', slots', X', rel', fr', hc', hs', stp⟩ := k.2.2 p e R0 s m _ below meth c s₁ [] 0 0 X0 hx hZ hby hml0 Bd.returns hown hnm (e0 ▸ hrel) (Fr.nil n0) hfr hlo (by rw [hh, hrel.1]; rfl) (by omega) (by omega)
  have hsz : s.heap.size = n0 + H.length := by rw [hh, hrel.1]
  obtain ⟨fs, hr, hrun, hended, hW, hsame⟩ := X'.leave (v := v.map (shV n0)) (fun q => by rw [Bd.returns] at q; rw [hv q]; rfl)
  exact ⟨_, _, castTop (entry_eq n0 m as mi.2.2.1 hls) (stp fs hr), hrun, hended, _, _, rfl, ⟨rfl, rel', fr'⟩, ⟨_, rfl⟩, hW, hsame.mono (by omega) (by omega)⟩
theorem meets {as : List Value} (hp : plainFor mi.1 = true) (hls : Jvm.Sym.laidSlots as ++ List.replicate (mi.2.2.1 - (Jvm.Sym.laidSlots as).length) .unset = ls) (hv : mi.2.2.2.1 = none → v = none) (k : Runs K l Z n0 mi 0 ls [] H v H') : Meets K l Z n0 mi as H v H' :=
  ⟨k.1, k.2.1, fun h hrel => met_gen [] (rmOf K mi H H') hp hls hv k (Nat.le_refl _) (Nat.le_refl _) (by have := k.1; show _ ≤ (H'.length - H.length) + _; omega) (by have := k.2.1; show _ ≤ (szs K H' - szs K H) + _; omega) hrel⟩
/-- a run that ends in some heap of at most c cells and n slots -/
def RunsB (K : List CI) (l : Launch) (Z : State) (n0 : Nat) (mi : MI) (pc : Nat) (ls : List Slot) (st : List Value) (H : List Ob) (v : Option Value) (c n : Nat) : Prop := ∃ H' : List Ob, Runs K l Z n0 mi pc ls st H v H' ∧ H'.length ≤ c ∧ szs K H' ≤ n
theorem lift {st2 : List Value} {c n : Nat} (f : ∀ H' : List Ob, Runs K l Z n0 mi np ls' st2 H1 v H' → Runs K l Z n0 mi pc ls st H v H') (k : RunsB K l Z n0 mi np ls' st2 H1 v c n) : RunsB K l Z n0 mi pc ls st H v c n := by
  obtain ⟨H', k1, k2⟩ := k
  exact ⟨H', f H' k1, k2⟩
/-- a run that ends in a value and a heap of which Q holds -/
def RunsP (K : List CI) (l : Launch) (Z : State) (n0 : Nat) (mi : MI) (pc : Nat) (ls : List Slot) (st : List Value) (H : List Ob) (Q : Option Value → List Ob → Prop) : Prop := ∃ v H', Runs K l Z n0 mi pc ls st H v H' ∧ Q v H'
theorem liftP {st2 : List Value} {Q : Option Value → List Ob → Prop} (f : ∀ (v : Option Value) (H' : List Ob), Runs K l Z n0 mi np ls' st2 H1 v H' → Runs K l Z n0 mi pc ls st H v H') (k : RunsP K l Z n0 mi np ls' st2 H1 Q) : RunsP K l Z n0 mi pc ls st H Q := by
  obtain ⟨v, H', k1, k2⟩ := k
  exact ⟨v, H', f v H' k1, k2⟩
/-- a step that reads no heap -/
theorem Runs.pure {st2 : List Value} (hstep : ∀ (p : Program) (e : Env) (R : Room) (s : State) (m : MethodId) (args : Array Value) (below : List Frame) (meth : Method) (c : Code) (T : State) (locs : List Loc) (cells slots : Nat),
      Stand p l e R s m args below meth c T locs cells slots → p.tables.exec = Jvm.exec → Z.Warmed39 s.vm → c.code = mi.2.1 → s.vm.findClass mi.1.cls = some m.cls → ∀ target,
      Steps p.tables e below (T.setTop (mkF m np (ls'.map (shS n0)).toArray (st2.map (shV n0)))) target → Steps p.tables e below (T.setTop (mkF m pc (ls.map (shS n0)).toArray (st.map (shV n0)))) target)
    (k : Runs K l Z n0 mi np ls' st2 H v H') : Runs K l Z n0 mi pc ls st H v H' := by
  refine ⟨k.1, k.2.1, fun p e R s m args below meth c T locs cells slots X hx hZ hc hml hret hown hnm hrel hfr hf hlo hsz hcl hsl => ?_⟩
  obtain ⟨T', locs', cells', slots', X', rel', fr', hc', hs', stp⟩ := k.2.2 p e R s m args below meth c T locs cells slots X hx hZ hc hml hret hown hnm hrel hfr hf hlo hsz hcl hsl
  exact ⟨T', locs', cells', slots', X', rel', fr', hc', hs', fun fs hr => hstep p e R s m args below meth c T locs cells slots X hx hZ hc hown _ (stp fs hr)⟩
theorem isRef_sh {n0 : Nat} {x : Value} (h : x.isRef = true) : (shV n0 x).isRef = true := by cases x <;> first | rfl | cases h
theorem P1_int {ls : List Slot} {k : Nat} {x : Int32} (h : ls[k]? = some (.val (.int x))) : P1 ls k = true := by unfold P1; rw [h]; rfl
theorem r_iloadN {k : Fin 4} {x : Int32} (hd : decode mi.2.1 pc = .ok (.iload_n k, 1) ∧ pc + 1 = np) (hl : ls[k.val]? = some (.val (.int x))) (kk : Runs K l Z n0 mi np ls (.int x :: st) H v H') : Runs K l Z n0 mi pc ls st H v H' := by
  obtain ⟨hd, rfl⟩ := hd
  exact Runs.pure (fun _ _ _ _ _ _ _ _ _ _ _ _ _ X hx hZ hc hown t h => XS.iloadN X.here hx rfl (hb hc hd) (loc_at hl) h) kk
theorem r_iload {k : Nat} {x : Int32} (hd : decode mi.2.1 pc = .ok (.iload k, 2) ∧ pc + 2 = np) (hl : ls[k]? = some (.val (.int x))) (kk : Runs K l Z n0 mi np ls (.int x :: st) H v H') : Runs K l Z n0 mi pc ls st H v H' := by
  obtain ⟨hd, rfl⟩ := hd
  exact Runs.pure (fun _ _ _ _ _ _ _ _ _ _ _ _ _ X hx hZ hc hown t h => XS.iload X.here hx rfl (hb hc hd) (loc_at hl) h) kk
theorem r_lloadN {k : Fin 4} {x : Int64} (hd : decode mi.2.1 pc = .ok (.lload_n k, 1) ∧ pc + 1 = np) (hl : ls[k.val]? = some (.val (.long x))) (kk : Runs K l Z n0 mi np ls (.long x :: st) H v H') : Runs K l Z n0 mi pc ls st H v H' := by
  obtain ⟨hd, rfl⟩ := hd
  exact Runs.pure (fun _ _ _ _ _ _ _ _ _ _ _ _ _ X hx hZ hc hown t h => XT.lloadN X.here hx rfl (hb hc hd) (loc_at hl) h) kk
theorem r_lload {k : Nat} {x : Int64} (hd : decode mi.2.1 pc = .ok (.lload k, 2) ∧ pc + 2 = np) (hl : ls[k]? = some (.val (.long x))) (kk : Runs K l Z n0 mi np ls (.long x :: st) H v H') : Runs K l Z n0 mi pc ls st H v H' := by
  obtain ⟨hd, rfl⟩ := hd
  exact Runs.pure (fun _ _ _ _ _ _ _ _ _ _ _ _ _ X hx hZ hc hown t h => XT.lload X.here hx rfl (hb hc hd) (loc_at hl) h) kk
theorem r_aloadN {k : Fin 4} {x : Value} (hd : decode mi.2.1 pc = .ok (.aload_n k, 1) ∧ pc + 1 = np) (hl : ls[k.val]? = some (.val x)) (hv : x.isRef = true) (kk : Runs K l Z n0 mi np ls (x :: st) H v H') : Runs K l Z n0 mi pc ls st H v H' := by
  obtain ⟨hd, rfl⟩ := hd
  exact Runs.pure (fun _ _ _ _ _ _ _ _ _ _ _ _ _ X hx hZ hc hown t h => XS.aloadN X.here hx rfl (hb hc hd) (loc_at hl) (isRef_sh hv) h) kk
theorem r_aload {k : Nat} {x : Value} (hd : decode mi.2.1 pc = .ok (.aload k, 2) ∧ pc + 2 = np) (hl : ls[k]? = some (.val x)) (hv : x.isRef = true) (kk : Runs K l Z n0 mi np ls (x :: st) H v H') : Runs K l Z n0 mi pc ls st H v H' := by
  obtain ⟨hd, rfl⟩ := hd
  exact Runs.pure (fun _ _ _ _ _ _ _ _ _ _ _ _ _ X hx hZ hc hown t h => XS.aload X.here hx rfl (hb hc hd) (loc_at hl) (isRef_sh hv) h) kk
theorem r_istoreN {k : Fin 4} {x : Int32} (hd : decode mi.2.1 pc = .ok (.istore_n k, 1) ∧ pc + 1 = np) (hp : P1 ls k.val = true) (hs : ls.set k.val (.val (.int x)) = ls') (kk : Runs K l Z n0 mi np ls' st H v H') : Runs K l Z n0 mi pc ls (.int x :: st) H v H' := by
  obtain ⟨hd, rfl⟩ := hd
  exact Runs.pure (fun _ _ _ _ _ _ _ _ _ _ _ _ _ X hx hZ hc hown t h => XS.istoreN X.here hx rfl (hb hc hd) rfl (st1 hp rfl hs) h) kk
theorem r_istore {k : Nat} {x : Int32} (hd : decode mi.2.1 pc = .ok (.istore k, 2) ∧ pc + 2 = np) (hp : P1 ls k = true) (hs : ls.set k (.val (.int x)) = ls') (kk : Runs K l Z n0 mi np ls' st H v H') : Runs K l Z n0 mi pc ls (.int x :: st) H v H' := by
  obtain ⟨hd, rfl⟩ := hd
  exact Runs.pure (fun _ _ _ _ _ _ _ _ _ _ _ _ _ X hx hZ hc hown t h => XS.istore X.here hx rfl (hb hc hd) rfl (st1 hp rfl hs) h) kk
theorem r_lstoreN {k : Fin 4} {x : Int64} (hd : decode mi.2.1 pc = .ok (.lstore_n k, 1) ∧ pc + 1 = np) (hp : P2 ls k.val = true) (hs : (ls.set k.val (.val (.long x))).set (k.val + 1) .second = ls') (kk : Runs K l Z n0 mi np ls' st H v H') : Runs K l Z n0 mi pc ls (.long x :: st) H v H' := by
  obtain ⟨hd, rfl⟩ := hd
  exact Runs.pure (fun _ _ _ _ _ _ _ _ _ _ _ _ _ X hx hZ hc hown t h => XT.lstoreN X.here hx rfl (hb hc hd) rfl (st2 hp rfl hs) h) kk
theorem r_lstore {k : Nat} {x : Int64} (hd : decode mi.2.1 pc = .ok (.lstore k, 2) ∧ pc + 2 = np) (hp : P2 ls k = true) (hs : (ls.set k (.val (.long x))).set (k + 1) .second = ls') (kk : Runs K l Z n0 mi np ls' st H v H') : Runs K l Z n0 mi pc ls (.long x :: st) H v H' := by
  obtain ⟨hd, rfl⟩ := hd
  exact Runs.pure (fun _ _ _ _ _ _ _ _ _ _ _ _ _ X hx hZ hc hown t h => XT.lstore X.here hx rfl (hb hc hd) rfl (st2 hp rfl hs) h) kk
theorem r_astoreN {k : Fin 4} {x : Value} (hd : decode mi.2.1 pc = .ok (.astore_n k, 1) ∧ pc + 1 = np) (hp : P1 ls k.val = true) (hv : x.isRef = true) (hs : ls.set k.val (.val x) = ls') (kk : Runs K l Z n0 mi np ls' st H v H') : Runs K l Z n0 mi pc ls (x :: st) H v H' := by
  obtain ⟨hd, rfl⟩ := hd
  exact Runs.pure (fun _ _ _ _ _ _ _ _ _ _ _ _ _ X hx hZ hc hown t h => XS.astoreN X.here hx rfl (hb hc hd) rfl (isRef_sh hv) (st1 hp (XT.cat1 hv) hs) h) kk
theorem r_astore {k : Nat} {x : Value} (hd : decode mi.2.1 pc = .ok (.astore k, 2) ∧ pc + 2 = np) (hp : P1 ls k = true) (hv : x.isRef = true) (hs : ls.set k (.val x) = ls') (kk : Runs K l Z n0 mi np ls' st H v H') : Runs K l Z n0 mi pc ls (x :: st) H v H' := by
  obtain ⟨hd, rfl⟩ := hd
  exact Runs.pure (fun _ _ _ _ _ _ _ _ _ _ _ _ _ X hx hZ hc hown t h => XS.astore X.here hx rfl (hb hc hd) rfl (isRef_sh hv) (st1 hp (XT.cat1 hv) hs) h) kk
theorem r_iadd {x y : Int32} (hd : decode mi.2.1 pc = .ok (.iadd, 1) ∧ pc + 1 = np) (kk : Runs K l Z n0 mi np ls (.int (x + y) :: st) H v H') : Runs K l Z n0 mi pc ls (.int y :: .int x :: st) H v H' := by
  obtain ⟨hd, rfl⟩ := hd
  exact Runs.pure (fun _ _ _ _ _ _ _ _ _ _ _ _ _ X hx hZ hc hown t h => XS.iadd X.here hx rfl (hb hc hd) rfl h) kk
theorem r_isub {x y : Int32} (hd : decode mi.2.1 pc = .ok (.isub, 1) ∧ pc + 1 = np) (kk : Runs K l Z n0 mi np ls (.int (x - y) :: st) H v H') : Runs K l Z n0 mi pc ls (.int y :: .int x :: st) H v H' := by
  obtain ⟨hd, rfl⟩ := hd
  exact Runs.pure (fun _ _ _ _ _ _ _ _ _ _ _ _ _ X hx hZ hc hown t h => XS.isub X.here hx rfl (hb hc hd) rfl h) kk
theorem r_imul {x y : Int32} (hd : decode mi.2.1 pc = .ok (.imul, 1) ∧ pc + 1 = np) (kk : Runs K l Z n0 mi np ls (.int (x * y) :: st) H v H') : Runs K l Z n0 mi pc ls (.int y :: .int x :: st) H v H' := by
  obtain ⟨hd, rfl⟩ := hd
  exact Runs.pure (fun _ _ _ _ _ _ _ _ _ _ _ _ _ X hx hZ hc hown t h => XS.imul X.here hx rfl (hb hc hd) rfl h) kk
theorem r_iand {x y : Int32} (hd : decode mi.2.1 pc = .ok (.iand, 1) ∧ pc + 1 = np) (kk : Runs K l Z n0 mi np ls (.int (x &&& y) :: st) H v H') : Runs K l Z n0 mi pc ls (.int y :: .int x :: st) H v H' := by
  obtain ⟨hd, rfl⟩ := hd
  exact Runs.pure (fun _ _ _ _ _ _ _ _ _ _ _ _ _ X hx hZ hc hown t h => XS.iand X.here hx rfl (hb hc hd) rfl h) kk
theorem r_ior {x y : Int32} (hd : decode mi.2.1 pc = .ok (.ior, 1) ∧ pc + 1 = np) (kk : Runs K l Z n0 mi np ls (.int (x ||| y) :: st) H v H') : Runs K l Z n0 mi pc ls (.int y :: .int x :: st) H v H' := by
  obtain ⟨hd, rfl⟩ := hd
  exact Runs.pure (fun _ _ _ _ _ _ _ _ _ _ _ _ _ X hx hZ hc hown t h => XT.ior X.here hx rfl (hb hc hd) rfl h) kk
theorem r_ixor {x y : Int32} (hd : decode mi.2.1 pc = .ok (.ixor, 1) ∧ pc + 1 = np) (kk : Runs K l Z n0 mi np ls (.int (x ^^^ y) :: st) H v H') : Runs K l Z n0 mi pc ls (.int y :: .int x :: st) H v H' := by
  obtain ⟨hd, rfl⟩ := hd
  exact Runs.pure (fun _ _ _ _ _ _ _ _ _ _ _ _ _ X hx hZ hc hown t h => XT.ixor X.here hx rfl (hb hc hd) rfl h) kk
theorem r_ishl {x y : Int32} (hd : decode mi.2.1 pc = .ok (.ishl, 1) ∧ pc + 1 = np) (kk : Runs K l Z n0 mi np ls (.int (x <<< (y &&& 31)) :: st) H v H') : Runs K l Z n0 mi pc ls (.int y :: .int x :: st) H v H' := by
  obtain ⟨hd, rfl⟩ := hd
  exact Runs.pure (fun _ _ _ _ _ _ _ _ _ _ _ _ _ X hx hZ hc hown t h => XT.ishl X.here hx rfl (hb hc hd) rfl h) kk
theorem r_ishr {x y : Int32} (hd : decode mi.2.1 pc = .ok (.ishr, 1) ∧ pc + 1 = np) (kk : Runs K l Z n0 mi np ls (.int (x >>> (y &&& 31)) :: st) H v H') : Runs K l Z n0 mi pc ls (.int y :: .int x :: st) H v H' := by
  obtain ⟨hd, rfl⟩ := hd
  exact Runs.pure (fun _ _ _ _ _ _ _ _ _ _ _ _ _ X hx hZ hc hown t h => XT.ishr X.here hx rfl (hb hc hd) rfl h) kk
theorem r_iushr {x y : Int32} (hd : decode mi.2.1 pc = .ok (.iushr, 1) ∧ pc + 1 = np) (kk : Runs K l Z n0 mi np ls (.int (XT.ushr x y) :: st) H v H') : Runs K l Z n0 mi pc ls (.int y :: .int x :: st) H v H' := by
  obtain ⟨hd, rfl⟩ := hd
  exact Runs.pure (fun _ _ _ _ _ _ _ _ _ _ _ _ _ X hx hZ hc hown t h => XT.iushr X.here hx rfl (hb hc hd) rfl h) kk
theorem r_idiv {x y : Int32} (hd : decode mi.2.1 pc = .ok (.idiv, 1) ∧ pc + 1 = np) (hy : y ≠ 0) (kk : Runs K l Z n0 mi np ls (.int (x / y) :: st) H v H') : Runs K l Z n0 mi pc ls (.int y :: .int x :: st) H v H' := by
  obtain ⟨hd, rfl⟩ := hd
  exact Runs.pure (fun _ _ _ _ _ _ _ _ _ _ _ _ _ X hx hZ hc hown t h => XS.idiv X.here hx rfl (hb hc hd) rfl hy h) kk
theorem r_irem {x y : Int32} (hd : decode mi.2.1 pc = .ok (.irem, 1) ∧ pc + 1 = np) (hy : y ≠ 0) (kk : Runs K l Z n0 mi np ls (.int (x % y) :: st) H v H') : Runs K l Z n0 mi pc ls (.int y :: .int x :: st) H v H' := by
  obtain ⟨hd, rfl⟩ := hd
  exact Runs.pure (fun _ _ _ _ _ _ _ _ _ _ _ _ _ X hx hZ hc hown t h => iremM X hx rfl (hb hc hd) rfl hy h) kk
theorem r_ladd {x y : Int64} (hd : decode mi.2.1 pc = .ok (.ladd, 1) ∧ pc + 1 = np) (kk : Runs K l Z n0 mi np ls (.long (x + y) :: st) H v H') : Runs K l Z n0 mi pc ls (.long y :: .long x :: st) H v H' := by
  obtain ⟨hd, rfl⟩ := hd
  exact Runs.pure (fun _ _ _ _ _ _ _ _ _ _ _ _ _ X hx hZ hc hown t h => XT.ladd X.here hx rfl (hb hc hd) rfl h) kk
theorem r_lsub {x y : Int64} (hd : decode mi.2.1 pc = .ok (.lsub, 1) ∧ pc + 1 = np) (kk : Runs K l Z n0 mi np ls (.long (x - y) :: st) H v H') : Runs K l Z n0 mi pc ls (.long y :: .long x :: st) H v H' := by
  obtain ⟨hd, rfl⟩ := hd
  exact Runs.pure (fun _ _ _ _ _ _ _ _ _ _ _ _ _ X hx hZ hc hown t h => XT.lsub X.here hx rfl (hb hc hd) rfl h) kk
theorem r_lmul {x y : Int64} (hd : decode mi.2.1 pc = .ok (.lmul, 1) ∧ pc + 1 = np) (kk : Runs K l Z n0 mi np ls (.long (x * y) :: st) H v H') : Runs K l Z n0 mi pc ls (.long y :: .long x :: st) H v H' := by
  obtain ⟨hd, rfl⟩ := hd
  exact Runs.pure (fun _ _ _ _ _ _ _ _ _ _ _ _ _ X hx hZ hc hown t h => XT.lmul X.here hx rfl (hb hc hd) rfl h) kk
theorem r_land {x y : Int64} (hd : decode mi.2.1 pc = .ok (.land, 1) ∧ pc + 1 = np) (kk : Runs K l Z n0 mi np ls (.long (x &&& y) :: st) H v H') : Runs K l Z n0 mi pc ls (.long y :: .long x :: st) H v H' := by
  obtain ⟨hd, rfl⟩ := hd
  exact Runs.pure (fun _ _ _ _ _ _ _ _ _ _ _ _ _ X hx hZ hc hown t h => XT.land X.here hx rfl (hb hc hd) rfl h) kk
theorem r_lor {x y : Int64} (hd : decode mi.2.1 pc = .ok (.lor, 1) ∧ pc + 1 = np) (kk : Runs K l Z n0 mi np ls (.long (x ||| y) :: st) H v H') : Runs K l Z n0 mi pc ls (.long y :: .long x :: st) H v H' := by
  obtain ⟨hd, rfl⟩ := hd
  exact Runs.pure (fun _ _ _ _ _ _ _ _ _ _ _ _ _ X hx hZ hc hown t h => XT.lor X.here hx rfl (hb hc hd) rfl h) kk
theorem r_lxor {x y : Int64} (hd : decode mi.2.1 pc = .ok (.lxor, 1) ∧ pc + 1 = np) (kk : Runs K l Z n0 mi np ls (.long (x ^^^ y) :: st) H v H') : Runs K l Z n0 mi pc ls (.long y :: .long x :: st) H v H' := by
  obtain ⟨hd, rfl⟩ := hd
  exact Runs.pure (fun _ _ _ _ _ _ _ _ _ _ _ _ _ X hx hZ hc hown t h => XT.lxor X.here hx rfl (hb hc hd) rfl h) kk
theorem r_lshl {x : Int64} {y : Int32} (hd : decode mi.2.1 pc = .ok (.lshl, 1) ∧ pc + 1 = np) (kk : Runs K l Z n0 mi np ls (.long (x <<< (y.toInt64 &&& 63)) :: st) H v H') : Runs K l Z n0 mi pc ls (.int y :: .long x :: st) H v H' := by
  obtain ⟨hd, rfl⟩ := hd
  exact Runs.pure (fun _ _ _ _ _ _ _ _ _ _ _ _ _ X hx hZ hc hown t h => XT.lshl X.here hx rfl (hb hc hd) rfl h) kk
theorem r_lshr {x : Int64} {y : Int32} (hd : decode mi.2.1 pc = .ok (.lshr, 1) ∧ pc + 1 = np) (kk : Runs K l Z n0 mi np ls (.long (x >>> (y.toInt64 &&& 63)) :: st) H v H') : Runs K l Z n0 mi pc ls (.int y :: .long x :: st) H v H' := by
  obtain ⟨hd, rfl⟩ := hd
  exact Runs.pure (fun _ _ _ _ _ _ _ _ _ _ _ _ _ X hx hZ hc hown t h => XT.lshr X.here hx rfl (hb hc hd) rfl h) kk
theorem r_lushr {x : Int64} {y : Int32} (hd : decode mi.2.1 pc = .ok (.lushr, 1) ∧ pc + 1 = np) (kk : Runs K l Z n0 mi np ls (.long (XT.ushrL x y) :: st) H v H') : Runs K l Z n0 mi pc ls (.int y :: .long x :: st) H v H' := by
  obtain ⟨hd, rfl⟩ := hd
  exact Runs.pure (fun _ _ _ _ _ _ _ _ _ _ _ _ _ X hx hZ hc hown t h => XT.lushr X.here hx rfl (hb hc hd) rfl h) kk
theorem r_ldiv {x y : Int64} (hd : decode mi.2.1 pc = .ok (.ldiv, 1) ∧ pc + 1 = np) (hy : y ≠ 0) (kk : Runs K l Z n0 mi np ls (.long (x / y) :: st) H v H') : Runs K l Z n0 mi pc ls (.long y :: .long x :: st) H v H' := by
  obtain ⟨hd, rfl⟩ := hd
  exact Runs.pure (fun _ _ _ _ _ _ _ _ _ _ _ _ _ X hx hZ hc hown t h => XT.ldiv X.here hx rfl (hb hc hd) rfl hy h) kk
theorem r_lrem {x y : Int64} (hd : decode mi.2.1 pc = .ok (.lrem, 1) ∧ pc + 1 = np) (hy : y ≠ 0) (kk : Runs K l Z n0 mi np ls (.long (x % y) :: st) H v H') : Runs K l Z n0 mi pc ls (.long y :: .long x :: st) H v H' := by
  obtain ⟨hd, rfl⟩ := hd
  exact Runs.pure (fun _ _ _ _ _ _ _ _ _ _ _ _ _ X hx hZ hc hown t h => XT.lrem X.here hx rfl (hb hc hd) rfl hy (by rw [lrem_mod]; exact h)) kk
theorem r_lcmp {x y : Int64} (hd : decode mi.2.1 pc = .ok (.lcmp, 1) ∧ pc + 1 = np) (kk : Runs K l Z n0 mi np ls (.int (XT.cmpL x y) :: st) H v H') : Runs K l Z n0 mi pc ls (.long y :: .long x :: st) H v H' := by
  obtain ⟨hd, rfl⟩ := hd
  exact Runs.pure (fun _ _ _ _ _ _ _ _ _ _ _ _ _ X hx hZ hc hown t h => XT.lcmp X.here hx rfl (hb hc hd) rfl h) kk
theorem r_ineg {x : Int32} (hd : decode mi.2.1 pc = .ok (.ineg, 1) ∧ pc + 1 = np) (kk : Runs K l Z n0 mi np ls (.int (-x) :: st) H v H') : Runs K l Z n0 mi pc ls (.int x :: st) H v H' := by
  obtain ⟨hd, rfl⟩ := hd
  exact Runs.pure (fun _ _ _ _ _ _ _ _ _ _ _ _ _ X hx hZ hc hown t h => XS.ineg X.here hx rfl (hb hc hd) rfl h) kk
theorem r_lneg {x : Int64} (hd : decode mi.2.1 pc = .ok (.lneg, 1) ∧ pc + 1 = np) (kk : Runs K l Z n0 mi np ls (.long (-x) :: st) H v H') : Runs K l Z n0 mi pc ls (.long x :: st) H v H' := by
  obtain ⟨hd, rfl⟩ := hd
  exact Runs.pure (fun _ _ _ _ _ _ _ _ _ _ _ _ _ X hx hZ hc hown t h => XT.lneg X.here hx rfl (hb hc hd) rfl h) kk
theorem r_i2l {x : Int32} (hd : decode mi.2.1 pc = .ok (.i2l, 1) ∧ pc + 1 = np) (kk : Runs K l Z n0 mi np ls (.long x.toInt64 :: st) H v H') : Runs K l Z n0 mi pc ls (.int x :: st) H v H' := by
  obtain ⟨hd, rfl⟩ := hd
  exact Runs.pure (fun _ _ _ _ _ _ _ _ _ _ _ _ _ X hx hZ hc hown t h => XT.i2l X.here hx rfl (hb hc hd) rfl h) kk
theorem r_l2i {x : Int64} (hd : decode mi.2.1 pc = .ok (.l2i, 1) ∧ pc + 1 = np) (kk : Runs K l Z n0 mi np ls (.int x.toInt32 :: st) H v H') : Runs K l Z n0 mi pc ls (.long x :: st) H v H' := by
  obtain ⟨hd, rfl⟩ := hd
  exact Runs.pure (fun _ _ _ _ _ _ _ _ _ _ _ _ _ X hx hZ hc hown t h => XT.l2i X.here hx rfl (hb hc hd) rfl h) kk
theorem r_i2b {x : Int32} (hd : decode mi.2.1 pc = .ok (.i2b, 1) ∧ pc + 1 = np) (kk : Runs K l Z n0 mi np ls (.int x.toInt8.toInt32 :: st) H v H') : Runs K l Z n0 mi pc ls (.int x :: st) H v H' := by
  obtain ⟨hd, rfl⟩ := hd
  exact Runs.pure (fun _ _ _ _ _ _ _ _ _ _ _ _ _ X hx hZ hc hown t h => XT.i2b X.here hx rfl (hb hc hd) rfl h) kk
theorem r_i2s {x : Int32} (hd : decode mi.2.1 pc = .ok (.i2s, 1) ∧ pc + 1 = np) (kk : Runs K l Z n0 mi np ls (.int x.toInt16.toInt32 :: st) H v H') : Runs K l Z n0 mi pc ls (.int x :: st) H v H' := by
  obtain ⟨hd, rfl⟩ := hd
  exact Runs.pure (fun _ _ _ _ _ _ _ _ _ _ _ _ _ X hx hZ hc hown t h => XT.i2s X.here hx rfl (hb hc hd) rfl h) kk
theorem r_i2c {x : Int32} (hd : decode mi.2.1 pc = .ok (.i2c, 1) ∧ pc + 1 = np) (kk : Runs K l Z n0 mi np ls (.int x.toUInt32.toUInt16.toUInt32.toInt32 :: st) H v H') : Runs K l Z n0 mi pc ls (.int x :: st) H v H' := by
  obtain ⟨hd, rfl⟩ := hd
  exact Runs.pure (fun _ _ _ _ _ _ _ _ _ _ _ _ _ X hx hZ hc hown t h => XT.i2c X.here hx rfl (hb hc hd) rfl h) kk
theorem r_dup {x : Value} (hd : decode mi.2.1 pc = .ok (.dup, 1) ∧ pc + 1 = np) (hx1 : x.category = 1) (kk : Runs K l Z n0 mi np ls (x :: x :: st) H v H') : Runs K l Z n0 mi pc ls (x :: st) H v H' := by
  obtain ⟨hd, rfl⟩ := hd
  exact Runs.pure (fun _ _ _ _ _ _ _ _ _ _ _ _ _ X hx hZ hc hown t h => XS.dup X.here hx rfl (hb hc hd) rfl ((cat_sh _ _).trans hx1) h) kk
theorem r_pop {x : Value} (hd : decode mi.2.1 pc = .ok (.pop, 1) ∧ pc + 1 = np) (hx1 : x.category = 1) (kk : Runs K l Z n0 mi np ls st H v H') : Runs K l Z n0 mi pc ls (x :: st) H v H' := by
  obtain ⟨hd, rfl⟩ := hd
  exact Runs.pure (fun _ _ _ _ _ _ _ _ _ _ _ _ _ X hx hZ hc hown t h => XT.pop X.here hx rfl (hb hc hd) rfl ((cat_sh _ _).trans hx1) h) kk
theorem r_dupX1 {x y : Value} (hd : decode mi.2.1 pc = .ok (.dup_x1, 1) ∧ pc + 1 = np) (hx1 : x.category = 1) (hy1 : y.category = 1) (kk : Runs K l Z n0 mi np ls (x :: y :: x :: st) H v H') : Runs K l Z n0 mi pc ls (x :: y :: st) H v H' := by
  obtain ⟨hd, rfl⟩ := hd
  exact Runs.pure (fun _ _ _ _ _ _ _ _ _ _ _ _ _ X hx hZ hc hown t h => XT.dupX1 X.here hx rfl (hb hc hd) rfl ((cat_sh _ _).trans hx1) ((cat_sh _ _).trans hy1) h) kk
theorem r_dup2 {x y : Value} (hd : decode mi.2.1 pc = .ok (.dup2, 1) ∧ pc + 1 = np) (hx1 : x.category = 1) (hy1 : y.category = 1) (kk : Runs K l Z n0 mi np ls (x :: y :: x :: y :: st) H v H') : Runs K l Z n0 mi pc ls (x :: y :: st) H v H' := by
  obtain ⟨hd, rfl⟩ := hd
  exact Runs.pure (fun _ _ _ _ _ _ _ _ _ _ _ _ _ X hx hZ hc hown t h => XT.dup2 X.here hx rfl (hb hc hd) rfl ((cat_sh _ _).trans hx1) ((cat_sh _ _).trans hy1) h) kk
theorem r_dup2L {x : Int64} (hd : decode mi.2.1 pc = .ok (.dup2, 1) ∧ pc + 1 = np) (kk : Runs K l Z n0 mi np ls (.long x :: .long x :: st) H v H') : Runs K l Z n0 mi pc ls (.long x :: st) H v H' := by
  obtain ⟨hd, rfl⟩ := hd
  exact Runs.pure (fun _ _ _ _ _ _ _ _ _ _ _ _ _ X hx hZ hc hown t h => XT.dup2L X.here hx rfl (hb hc hd) rfl h) kk
theorem r_aconstNull  (hd : decode mi.2.1 pc = .ok (.aconst_null, 1) ∧ pc + 1 = np) (kk : Runs K l Z n0 mi np ls (.null :: st) H v H') : Runs K l Z n0 mi pc ls st H v H' := by
  obtain ⟨hd, rfl⟩ := hd
  exact Runs.pure (fun _ _ _ _ _ _ _ _ _ _ _ _ _ X hx hZ hc hown t h => XS.aconstNull X.here hx rfl (hb hc hd) h) kk
theorem r_iconst {i : Int} {x : Int32} (hd : decode mi.2.1 pc = .ok (.iconst i, 1) ∧ pc + 1 = np ∧ Int32.ofInt i = x) (kk : Runs K l Z n0 mi np ls (.int x :: st) H v H') : Runs K l Z n0 mi pc ls st H v H' := by
  obtain ⟨hd, rfl, hx0⟩ := hd
  exact Runs.pure (fun _ _ _ _ _ _ _ _ _ _ _ _ _ X hx hZ hc hown t h => XT.iconstV X.here hx rfl x (hb hc hd) hx0 h) kk
theorem r_bipush {i : Int} {x : Int32} (hd : decode mi.2.1 pc = .ok (.bipush i, 2) ∧ pc + 2 = np ∧ (Int8.ofInt i).toInt32 = x) (kk : Runs K l Z n0 mi np ls (.int x :: st) H v H') : Runs K l Z n0 mi pc ls st H v H' := by
  obtain ⟨hd, rfl, hx0⟩ := hd
  exact Runs.pure (fun _ _ _ _ _ _ _ _ _ _ _ _ _ X hx hZ hc hown t h => XT.bipushV X.here hx rfl x (hb hc hd) hx0 h) kk
theorem r_sipush {i : Int} {x : Int32} (hd : decode mi.2.1 pc = .ok (.sipush i, 3) ∧ pc + 3 = np ∧ (Int16.ofInt i).toInt32 = x) (kk : Runs K l Z n0 mi np ls (.int x :: st) H v H') : Runs K l Z n0 mi pc ls st H v H' := by
  obtain ⟨hd, rfl, hx0⟩ := hd
  exact Runs.pure (fun _ _ _ _ _ _ _ _ _ _ _ _ _ X hx hZ hc hown t h => XT.sipushV X.here hx rfl x (hb hc hd) hx0 h) kk
theorem r_lconst {i : Fin 2} {x : Int64} (hd : decode mi.2.1 pc = .ok (.lconst i, 1) ∧ pc + 1 = np ∧ Int64.ofNat i = x) (kk : Runs K l Z n0 mi np ls (.long x :: st) H v H') : Runs K l Z n0 mi pc ls st H v H' := by
  obtain ⟨hd, rfl, hx0⟩ := hd
  exact Runs.pure (fun _ _ _ _ _ _ _ _ _ _ _ _ _ X hx hZ hc hown t h => XT.lconstV X.here hx rfl x (hb hc hd) hx0 h) kk
theorem r_ldc {i : Nat} {x : Int32} (hd : decode mi.2.1 pc = .ok (.ldc i, 2) ∧ pc + 2 = np) (w : (Jvm.Cond.constant mi.1.cls i x).before a0 Z = true) (kk : Runs K l Z n0 mi np ls (.int x :: st) H v H') : Runs K l Z n0 mi pc ls st H v H' := by
  obtain ⟨hd, rfl⟩ := hd
  exact Runs.pure (fun _ _ _ _ _ _ _ _ _ _ _ _ _ X hx hZ hc hown t h => X.ldcI hx hown (mv hZ w) rfl (hb hc hd) h) kk
theorem r_ldcW {i : Nat} {x : Int32} (hd : decode mi.2.1 pc = .ok (.ldc_w i, 3) ∧ pc + 3 = np) (w : (Jvm.Cond.constant mi.1.cls i x).before a0 Z = true) (kk : Runs K l Z n0 mi np ls (.int x :: st) H v H') : Runs K l Z n0 mi pc ls st H v H' := by
  obtain ⟨hd, rfl⟩ := hd
  exact Runs.pure (fun _ _ _ _ _ _ _ _ _ _ _ _ _ X hx hZ hc hown t h => X.ldcWI hx hown (mv hZ w) rfl (hb hc hd) h) kk
theorem r_ldc2 {i : Nat} {x : Int64} (hd : decode mi.2.1 pc = .ok (.ldc2_w i, 3) ∧ pc + 3 = np) (w : (Jvm.Cond.constantLong mi.1.cls i x).before a0 Z = true) (kk : Runs K l Z n0 mi np ls (.long x :: st) H v H') : Runs K l Z n0 mi pc ls st H v H' := by
  obtain ⟨hd, rfl⟩ := hd
  exact Runs.pure (fun _ _ _ _ _ _ _ _ _ _ _ _ _ X hx hZ hc hown t h => X.ldc2J hx hown (mv hZ w) rfl (hb hc hd) h) kk
theorem r_iinc {k : Nat} {i : Int} {x y : Int32} (hd : decode mi.2.1 pc = .ok (.iinc k i, 3) ∧ pc + 3 = np ∧ Int32.ofInt i = y) (hl : ls[k]? = some (.val (.int x))) (hs : ls.set k (.val (.int (x + y))) = ls') (kk : Runs K l Z n0 mi np ls' st H v H') : Runs K l Z n0 mi pc ls st H v H' := by
  obtain ⟨hd, rfl, hx0⟩ := hd
  exact Runs.pure (fun _ _ _ _ _ _ _ _ _ _ _ _ _ X hx hZ hc hown t h => XT.iincV X.here hx rfl y (hb hc hd) hx0 (loc_at hl) (st1 (P1_int hl) rfl hs) h) kk
theorem r_goto  {o : Int} (hd : decode mi.2.1 pc = .ok (.goto o, 3) ∧ pc + 3 = np ∧ 0 ≤ (pc : Int) + o ∧ ((pc : Int) + o).toNat = tp) (kk : Runs K l Z n0 mi tp ls st H v H') : Runs K l Z n0 mi pc ls st H v H' := by
  obtain ⟨hd, hn, h1, h2⟩ := hd
  exact Runs.pure (fun _ _ _ _ _ _ _ _ _ _ _ _ _ X hx hZ hc hown t h => XS.goto X.here hx rfl rfl (hb hc hd) h1 h2 h) kk
theorem r_ifT {cd : ClassFile.Cond} {x : Int32} {o : Int} (hd : decode mi.2.1 pc = .ok (.ifCond cd o, 3) ∧ pc + 3 = np ∧ 0 ≤ (pc : Int) + o ∧ ((pc : Int) + o).toNat = tp) (hq : ifCond.holds cd x = true) (kk : Runs K l Z n0 mi tp ls st H v H') : Runs K l Z n0 mi pc ls (.int x :: st) H v H' := by
  obtain ⟨hd, hn, h1, h2⟩ := hd
  exact Runs.pure (fun _ _ _ _ _ _ _ _ _ _ _ _ _ X hx hZ hc hown t h => XS.ifYes X.here hx rfl rfl (hb hc hd) rfl hq h1 h2 h) kk
theorem r_ifF {cd : ClassFile.Cond} {x : Int32} {o : Int} (hd : decode mi.2.1 pc = .ok (.ifCond cd o, 3) ∧ pc + 3 = np ∧ 0 ≤ (pc : Int) + o ∧ ((pc : Int) + o).toNat = tp) (hq : ifCond.holds cd x = false) (kk : Runs K l Z n0 mi np ls st H v H') : Runs K l Z n0 mi pc ls (.int x :: st) H v H' := by
  obtain ⟨hd, rfl, h1, h2⟩ := hd
  exact Runs.pure (fun _ _ _ _ _ _ _ _ _ _ _ _ _ X hx hZ hc hown t h => XS.ifNo X.here hx rfl (hb hc hd) rfl hq h) kk
theorem r_icT {cd : ClassFile.Cond} {x y : Int32} {o : Int} (hd : decode mi.2.1 pc = .ok (.if_icmp cd o, 3) ∧ pc + 3 = np ∧ 0 ≤ (pc : Int) + o ∧ ((pc : Int) + o).toNat = tp) (hq : if_icmp.holds cd x y = true) (kk : Runs K l Z n0 mi tp ls st H v H') : Runs K l Z n0 mi pc ls (.int y :: .int x :: st) H v H' := by
  obtain ⟨hd, hn, h1, h2⟩ := hd
  exact Runs.pure (fun _ _ _ _ _ _ _ _ _ _ _ _ _ X hx hZ hc hown t h => XS.icmpYes X.here hx rfl rfl (hb hc hd) rfl hq h1 h2 h) kk
theorem r_icF {cd : ClassFile.Cond} {x y : Int32} {o : Int} (hd : decode mi.2.1 pc = .ok (.if_icmp cd o, 3) ∧ pc + 3 = np ∧ 0 ≤ (pc : Int) + o ∧ ((pc : Int) + o).toNat = tp) (hq : if_icmp.holds cd x y = false) (kk : Runs K l Z n0 mi np ls st H v H') : Runs K l Z n0 mi pc ls (.int y :: .int x :: st) H v H' := by
  obtain ⟨hd, rfl, h1, h2⟩ := hd
  exact Runs.pure (fun _ _ _ _ _ _ _ _ _ _ _ _ _ X hx hZ hc hown t h => XS.icmpNo X.here hx rfl (hb hc hd) rfl hq h) kk
theorem r_nullT  {o : Int} (hd : decode mi.2.1 pc = .ok (.ifnull o, 3) ∧ pc + 3 = np ∧ 0 ≤ (pc : Int) + o ∧ ((pc : Int) + o).toNat = tp) (kk : Runs K l Z n0 mi tp ls st H v H') : Runs K l Z n0 mi pc ls (.null :: st) H v H' := by
  obtain ⟨hd, hn, h1, h2⟩ := hd
  exact Runs.pure (fun _ _ _ _ _ _ _ _ _ _ _ _ _ X hx hZ hc hown t h => XS.ifnullYes X.here hx rfl rfl (hb hc hd) rfl h1 h2 h) kk
theorem r_nullF {a : Addr} {o : Int} (hd : decode mi.2.1 pc = .ok (.ifnull o, 3) ∧ pc + 3 = np ∧ 0 ≤ (pc : Int) + o ∧ ((pc : Int) + o).toNat = tp) (kk : Runs K l Z n0 mi np ls st H v H') : Runs K l Z n0 mi pc ls (.ref a :: st) H v H' := by
  obtain ⟨hd, rfl, h1, h2⟩ := hd
  exact Runs.pure (fun _ _ _ _ _ _ _ _ _ _ _ _ _ X hx hZ hc hown t h => XS.ifnullNo X.here hx rfl (hb hc hd) rfl h) kk
theorem r_nonnullT {a : Addr} {o : Int} (hd : decode mi.2.1 pc = .ok (.ifnonnull o, 3) ∧ pc + 3 = np ∧ 0 ≤ (pc : Int) + o ∧ ((pc : Int) + o).toNat = tp) (kk : Runs K l Z n0 mi tp ls st H v H') : Runs K l Z n0 mi pc ls (.ref a :: st) H v H' := by
  obtain ⟨hd, hn, h1, h2⟩ := hd
  exact Runs.pure (fun _ _ _ _ _ _ _ _ _ _ _ _ _ X hx hZ hc hown t h => XT.ifnonnullYes X.here hx rfl rfl (hb hc hd) rfl h1 h2 h) kk
theorem r_nonnullF  {o : Int} (hd : decode mi.2.1 pc = .ok (.ifnonnull o, 3) ∧ pc + 3 = np ∧ 0 ≤ (pc : Int) + o ∧ ((pc : Int) + o).toNat = tp) (kk : Runs K l Z n0 mi np ls st H v H') : Runs K l Z n0 mi pc ls (.null :: st) H v H' := by
  obtain ⟨hd, rfl, h1, h2⟩ := hd
  exact Runs.pure (fun _ _ _ _ _ _ _ _ _ _ _ _ _ X hx hZ hc hown t h => XT.ifnonnullNo X.here hx rfl (hb hc hd) rfl h) kk
/-- a step that may turn the heap -/
theorem Runs.heap {st2 : List Value} (m1 : H.length ≤ H1.length) (m2 : szs K H ≤ szs K H1) (hstep : ∀ (p : Program) (e : Env) (R : Room) (s : State) (m : MethodId) (args : Array Value) (below : List Frame) (meth : Method) (c : Code) (T : State) (locs : List Loc) (cells slots : Nat),
      Stand p l e R s m args below meth c T locs cells slots → p.tables.exec = Jvm.exec → Z.Warmed39 s.vm → c.code = mi.2.1 → c.maxLocals = mi.2.2.1 → s.vm.findClass mi.1.cls = some m.cls → meth.name = mi.1.name → Rel K Z n0 H T.heap → Fr n0 locs → mi.2.2.2.2.1 ≤ R.frames → mi.2.2.2.2.2 ≤ R.locals →
      s.heap.size + cells = n0 + H.length → cells + H1.length ≤ R.cells + H.length → slots + szs K H1 ≤ R.slots + szs K H →
      ∃ (T1 : State) (locs1 : List Loc) (cells1 slots1 : Nat), Stand p l e R s m args below meth c T1 locs1 cells1 slots1 ∧ Rel K Z n0 H1 T1.heap ∧ Fr n0 locs1 ∧ s.heap.size + cells1 = n0 + H1.length ∧ slots1 + szs K H ≤ slots + szs K H1 ∧
        ∀ target, Steps p.tables e below (T1.setTop (mkF m np (ls'.map (shS n0)).toArray (st2.map (shV n0)))) target → Steps p.tables e below (T.setTop (mkF m pc (ls.map (shS n0)).toArray (st.map (shV n0)))) target)
    (k : Runs K l Z n0 mi np ls' st2 H1 v H') : Runs K l Z n0 mi pc ls st H v H' := by
  have k1 := k.1
  have k2 := k.2.1
  refine ⟨Nat.le_trans m1 k1, Nat.le_trans m2 k2, fun p e R s m args below meth c T locs cells slots X hx hZ hc hml hret hown hnm hrel hfr hf hlo hsz hcl hsl => ?_⟩
  obtain ⟨T1, locs1, cells1, slots1, X1, rel1, fr1, hc1, hs1, st1⟩ := hstep p e R s m args below meth c T locs cells slots X hx hZ hc hml hown hnm hrel hfr hf hlo hsz (by omega) (by omega)
  obtain ⟨T', locs', cells', slots', X', rel', fr', hc', hs', stp⟩ := k.2.2 p e R s m args below meth c T1 locs1 cells1 slots1 X1 hx hZ hc hml hret hown hnm rel1 fr1 hf hlo hc1 (by omega) (by omega)
  exact ⟨T', locs', cells', slots', X', rel', fr', hc', by omega, fun fs hr => st1 _ (stp fs hr)⟩
theorem r_ret {x : Value} {t : FieldType} {i : Instr} (hd : decode mi.2.1 pc = .ok (i, 1)) (hret : mi.2.2.2.1 = some t) (hn : narrow t x = x)
    (hi : (i = .ireturn ∧ (t = .int ∨ t = .boolean ∨ t = .byte ∨ t = .char ∨ t = .short) ∧ ∃ z, x = .int z) ∨ (i = .lreturn ∧ t = .long ∧ ∃ z, x = .long z) ∨ (i = .areturn ∧ t.isReference = true ∧ x.isRef = true)) : Runs K l Z n0 mi pc ls (x :: st) H (some x) H := by
  refine ⟨Nat.le_refl _, Nat.le_refl _, fun p e R s m args below meth c T locs cells slots X hx hZ hc hml hret' hown hnm hrel hfr hf hlo hsz hcl hsl => ⟨T, locs, cells, slots, X, hrel, hfr, hsz, Nat.le_refl _, fun fs hr => ?_⟩⟩
  have hn' : narrow t (shV n0 x) = shV n0 x := by
    rcases hi with ⟨-, -, z, rfl⟩ | ⟨-, -, z, rfl⟩ | ⟨-, -, q⟩
    · exact hn
    · exact hn
    · cases x <;> first | (cases q; done) | (cases t <;> rfl)
  refine retOut X hx (hret'.trans hret) hn' ?_ (hb hc hd) hr
  rcases hi with ⟨h1, h2, z, rfl⟩ | ⟨h1, h2, z, rfl⟩ | ⟨h1, h2, q⟩
  · exact Or.inl ⟨h1, h2, z, rfl⟩
  · exact Or.inr (Or.inl ⟨h1, h2, z, rfl⟩)
  · exact Or.inr (Or.inr (Or.inr (Or.inr ⟨h1, h2, isRef_sh q⟩)))
theorem r_ireturn {z : Int32} (hd : decode mi.2.1 pc = .ok (.ireturn, 1)) (hret : mi.2.2.2.1 = some .int) : Runs K l Z n0 mi pc ls (.int z :: st) H (some (.int z)) H := r_ret hd hret rfl (Or.inl ⟨rfl, Or.inl rfl, z, rfl⟩)
theorem r_ireturnE {z z' : Int32} (hd : decode mi.2.1 pc = .ok (.ireturn, 1)) (hret : mi.2.2.2.1 = some .int) (h : z = z') : Runs K l Z n0 mi pc ls (.int z :: st) H (some (.int z')) H := h ▸ r_ireturn hd hret
theorem r_zreturn {z : Int32} (hd : decode mi.2.1 pc = .ok (.ireturn, 1)) (hret : mi.2.2.2.1 = some .boolean) (hz : z = 0 ∨ z = 1) : Runs K l Z n0 mi pc ls (.int z :: st) H (some (.int z)) H := r_ret hd hret (by rcases hz with rfl | rfl <;> rfl) (Or.inl ⟨rfl, Or.inr (Or.inl rfl), z, rfl⟩)
theorem r_lreturn {z : Int64} (hd : decode mi.2.1 pc = .ok (.lreturn, 1)) (hret : mi.2.2.2.1 = some .long) : Runs K l Z n0 mi pc ls (.long z :: st) H (some (.long z)) H := r_ret hd hret rfl (Or.inr (Or.inl ⟨rfl, rfl, z, rfl⟩))
theorem r_areturn {x : Value} {t : FieldType} (hd : decode mi.2.1 pc = .ok (.areturn, 1)) (hret : mi.2.2.2.1 = some t) (ht : t.isReference = true) (hx : x.isRef = true) : Runs K l Z n0 mi pc ls (x :: st) H (some x) H := r_ret hd hret (by cases x <;> first | (cases hx; done) | (cases t <;> rfl)) (Or.inr (Or.inr ⟨rfl, ht, hx⟩))
theorem r_return (hd : decode mi.2.1 pc = .ok (.return_, 1)) (hret : mi.2.2.2.1 = none) : Runs K l Z n0 mi pc ls [] H none H := by
  refine ⟨Nat.le_refl _, Nat.le_refl _, fun p e R s m args below meth c T locs cells slots X hx hZ hc hml hret' hown hnm hrel hfr hf hlo hsz hcl hsl => ⟨T, locs, cells, slots, X, hrel, hfr, hsz, Nat.le_refl _, fun fs hr => ?_⟩⟩
  exact X.returnOut hx (hret'.trans hret) (hb hc hd) hr
theorem r_tswIn {dflt low high o : Int} {offs : Array Int} {len : Nat} {i : Int32} (hd : decode mi.2.1 pc = .ok (.tableswitch dflt low high offs, len)) (hin : ¬ (i.toInt < low ∨ i.toInt > high)) (hoff : offs[(i.toInt - low).toNat]? = some o) (ho : 0 ≤ (pc : Int) + o) (hp : ((pc : Int) + o).toNat = tp)
    (kk : Runs K l Z n0 mi tp ls st H v H') : Runs K l Z n0 mi pc ls (.int i :: st) H v H' :=
  Runs.pure (fun _ _ _ _ _ _ _ _ _ _ _ _ _ X hx hZ hc hown t h => XS.tswIn X.here hx rfl rfl (hb hc hd) rfl hin hoff ho hp h) kk
theorem r_tswOut {dflt low high : Int} {offs : Array Int} {len : Nat} {i : Int32} (hd : decode mi.2.1 pc = .ok (.tableswitch dflt low high offs, len)) (hout : i.toInt < low ∨ i.toInt > high) (ho : 0 ≤ (pc : Int) + dflt) (hp : ((pc : Int) + dflt).toNat = tp)
    (kk : Runs K l Z n0 mi tp ls st H v H') : Runs K l Z n0 mi pc ls (.int i :: st) H v H' :=
  Runs.pure (fun _ _ _ _ _ _ _ _ _ _ _ _ _ X hx hZ hc hown t h => XS.tswOut X.here hx rfl rfl (hb hc hd) rfl hout ho hp h) kk
/-! ### the heap -/
theorem OOk.ext {h h' : Heap} {a : Addr} {o : Ob} (E : Ext h h') (q : OOk K Z n0 h a o) : OOk K Z n0 h' a o := by
  cases o with
  | inl o => obtain ⟨ci, h1, h2, h3⟩ := q; exact ⟨ci, h1, h2.ext E, fun i f v a b => (h3 i f v a b).ext E⟩
  | inr o => obtain ⟨cl, h1, h2⟩ := q; exact ⟨cl, h1.ext E, h2⟩
theorem OOk.other {h h' : Heap} {a b : Addr} {sl : Nat} {x : Value} {o : Ob} (W : Wr h h' b sl x) (ne : a ≠ b) (q : OOk K Z n0 h a o) : OOk K Z n0 h' a o := by
  cases o with
  | inl o => obtain ⟨ci, h1, h2, h3⟩ := q; exact ⟨ci, h1, h2.wr W, fun i f v a b => (h3 i f v a b).other W (Or.inl ne)⟩
  | inr o => obtain ⟨cl, h1, h2⟩ := q; exact ⟨cl, h1.other W ne, h2⟩
theorem Rel.push {h h' : Heap} {o : Ob} (r : Rel K Z n0 H h) (E : Ext h h') (hs : h'.size = h.size + 1) (ho : OOk K Z n0 h' h.size o) : Rel K Z n0 (H ++ [o]) h' := by
  refine ⟨by rw [hs, r.1, List.length_append]; rfl, fun k q hk => ?_⟩
  by_cases hl : k < H.length
  · rw [List.getElem?_append_left hl] at hk; exact (r.2 k q hk).ext E
  · rw [List.getElem?_append_right (Nat.le_of_not_lt hl)] at hk
    have e : k - H.length = 0 := by
      cases hq : k - H.length with
      | zero => rfl
      | succ j => rw [hq] at hk; simp at hk
    rw [e] at hk
    simp at hk
    subst hk
    have : k = H.length := by omega
    subst this
    rw [← r.1]; exact ho
theorem Rel.put {h h' : Heap} {o : Ob} {a sl : Nat} {x : Value} (r : Rel K Z n0 H h) (W : Wr h h' (n0 + a) sl x) (ha : a < H.length) (ho : OOk K Z n0 h' (n0 + a) o) : Rel K Z n0 (H.set a o) h' := by
  refine ⟨by rw [W.size, r.1, List.length_set], fun k q hk => ?_⟩
  by_cases e : a = k
  · subst e
    rw [List.getElem?_set_self ha] at hk
    cases hk; exact ho
  · rw [List.getElem?_set_ne e] at hk
    exact (r.2 k q hk).other W (fun z => e (Nat.add_left_cancel z).symm)
theorem map_set_same {α β : Type} (f : α → β) : ∀ (H : List α) (a : Nat) (o o' : α), H[a]? = some o' → f o = f o' → (H.set a o).map f = H.map f
  | [], _, _, _, h, _ => by simp at h
  | x :: r, 0, o, o', h, e => by simp at h; subst h; simp [e]
  | x :: r, a + 1, o, o', h, e => by simp at h; simp [map_set_same f r a o o' h e]
theorem szs_set {a : Nat} {o o' : Ob} (h : H[a]? = some o') (e : osz K o = osz K o') : szs K (H.set a o) = szs K H := by unfold szs; rw [map_set_same (osz K) H a o o' h e]
theorem szs_push {o : Ob} : szs K (H ++ [o]) = szs K H + osz K o := by simp [szs]
theorem lt_of_at {α : Type} {L : List α} {a : Nat} {o : α} (h : L[a]? = some o) : a < L.length := (List.getElem?_eq_some_iff.mp h).1
theorem nar_sh {t : FieldType} {x : Value} (h : narrow t x = x) : narrow t (shV n0 x) = shV n0 x := by cases x <;> first | exact h | (cases t <;> rfl)
theorem fits_sh {t : FieldType} {x : Value} (h : fits t x = true) : fits t (shV n0 x) = true := by cases x <;> first | exact h | (cases t <;> first | rfl | cases h)
theorem sh_dflt (ty : FieldType) : shV n0 (defaultValue ty) = defaultValue ty := by cases ty <;> rfl
theorem r_getF {a cid i idx : Nat} {vs : List Value} {ci : CI} {f : FI} {x : Value} {R0 : String} (hd : decode mi.2.1 pc = .ok (.getfield idx, 3) ∧ pc + 3 = np) (w : (Jvm.Cond.fieldLink mi.1.cls idx R0 f.2.1 f.2.2.1).before a0 Z = true) (via : Via Z R0 f.1 f.2.1 f.2.2.1) (hci : K[cid]? = some ci) (hf : ci.2.2[i]? = some f)
    (ho : H[a]? = some (.inl (cid, vs))) (hv : vs[i]? = some x) (kk : Runs K l Z n0 mi np ls (x :: st) H v H') : Runs K l Z n0 mi pc ls (.ref a :: st) H v H' := by
  obtain ⟨hd, rfl⟩ := hd
  refine Runs.heap (Nat.le_refl _) (Nat.le_refl _) (fun p e R s m args below meth c T locs cells slots X hx hZ hc hml hown hnm hrel hfr hf' hlo hsz hcl hsl => ?_) kk
  obtain ⟨ci', q1, E, F⟩ := hrel.2 a _ ho
  cases hci.symm.trans q1
  obtain ⟨T1, X1, e1, st1⟩ := getF X hx hZ hown (host := "") (Or.inl w) via rfl (F i f x hf hv) (g := mkF m pc (ls.map (shS n0)).toArray (.ref (n0 + a) :: st.map (shV n0))) rfl rfl (hb hc hd)
  exact ⟨T1, _, _, _, X1, by rw [e1]; exact hrel, hfr, hsz, Nat.le_refl _, st1⟩
theorem r_putF {a cid i idx : Nat} {vs vs' : List Value} {ci : CI} {f : FI} {x : Value} {R0 : String} (hK : KOk K Z a0) (hd : decode mi.2.1 pc = .ok (.putfield idx, 3) ∧ pc + 3 = np) (w : (Jvm.Cond.fieldLink mi.1.cls idx R0 f.2.1 f.2.2.1).before a0 Z = true) (via : Via Z R0 f.1 f.2.1 f.2.2.1) (hci : K[cid]? = some ci) (hf : ci.2.2[i]? = some f)
    (L : (Jvm.Cond.lays ci.1 f.1 f.2.1 f.2.2.1).before a0 Z = true ∨ ((Jvm.Cond.laysFinal ci.1 f.1 f.2.1 f.2.2.1).before a0 Z = true ∧ mi.1.cls = f.1 ∧ mi.1.name = "<init>"))
    (ho : H[a]? = some (.inl (cid, vs))) (hi : i < vs.length) (hn : narrow f.2.2.2 x = x) (hft : fits f.2.2.2 x = true) (hvs : vs.set i x = vs') (hH : H.set a (.inl (cid, vs')) = H1) (kk : Runs K l Z n0 mi np ls st H1 v H') : Runs K l Z n0 mi pc ls (x :: .ref a :: st) H v H' := by
  obtain ⟨hd, rfl⟩ := hd
  subst hvs hH
  have ha := lt_of_at ho
  have es : szs K (H.set a (.inl (cid, vs.set i x))) = szs K H := szs_set ho rfl
  refine Runs.heap (by rw [List.length_set]; exact Nat.le_refl _) (by rw [es]; exact Nat.le_refl _) (fun p e R s m args below meth c T locs cells slots X hx hZ hc hml hown hnm hrel hfr hf' hlo hsz hcl hsl => ?_) kk
  obtain ⟨ci', q1, E, F⟩ := hrel.2 a _ ho
  cases hci.symm.trans q1
  obtain ⟨kk1, kk2, kk3⟩ := hK cid ci hci
  have hfm : f ∈ ci.2.2 := List.mem_of_getElem? hf
  obtain ⟨T1, h1, X1, e1, W1, st1⟩ := putF X hx hZ hown (host := "") (Or.inl w) via rfl (F i f _ hf (List.getElem?_eq_getElem hi)) E (L.imp id fun q => ⟨q.1, q.2.1, hnm.trans q.2.2⟩) kk1 (kk2 f hfm).2 (nar_sh hn) (fits_sh hft)
    (g := mkF m pc (ls.map (shS n0)).toArray (shV n0 x :: .ref (n0 + a) :: st.map (shV n0))) rfl rfl (hb hc hd)
  refine ⟨T1, _, _, _, X1, ?_, Fr.snoc X1 hfr (Nat.le_add_right _ _), by rw [List.length_set]; exact hsz, by rw [es]; exact Nat.le_refl _, st1⟩
  rw [e1]
  refine hrel.put W1 ha ⟨ci, hci, E.wr W1, fun j g y hg hy => ?_⟩
  by_cases ji : i = j
  · subst ji
    cases hf.symm.trans hg
    rw [List.getElem?_set_self hi] at hy
    cases hy
    exact (F i f _ hf (List.getElem?_eq_getElem hi)).same W1
  · rw [List.getElem?_set_ne ji] at hy
    have hgm : g ∈ ci.2.2 := List.mem_of_getElem? hg
    refine (F j g y hg hy).other W1 (Or.inr (slot_ne (kk2 g hgm).1 (kk2 f hfm).1 ?_ (kk2 g hgm).2 (kk2 f hfm).2))
    obtain ⟨li, ei⟩ := List.getElem?_eq_some_iff.mp hf
    obtain ⟨lj, ej⟩ := List.getElem?_eq_some_iff.mp hg
    have pw := List.pairwise_iff_getElem.mp kk3
    rcases Nat.lt_or_gt_of_ne ji with q | q
    · have := pw i j li lj q; rw [ei, ej] at this; exact fun z => this z.symm
    · have := pw j i lj li q; rw [ei, ej] at this; exact this
theorem r_new {a cid idx : Nat} {ci : CI} {o : List Value} (hK : KOk K Z a0) (hd : decode mi.2.1 pc = .ok (.new idx, 3) ∧ pc + 3 = np) (w : (Jvm.Cond.classLink mi.1.cls idx ci.1).before a0 Z = true) (wz : (Jvm.Cond.initialized ci.1).before a0 Z = true) (hci : K[cid]? = some ci)
    (ho : ci.2.2.map (fun f => defaultValue f.2.2.2) = o) (ha : H.length = a) (hH : H ++ [.inl (cid, o)] = H1) (kk : Runs K l Z n0 mi np ls (.ref a :: st) H1 v H') : Runs K l Z n0 mi pc ls st H v H' := by
  obtain ⟨hd, rfl⟩ := hd
  subst ho ha hH
  obtain ⟨kk1, kk2, kk3⟩ := hK cid ci hci
  have es : osz K (.inl (cid, ci.2.2.map (fun f => defaultValue f.2.2.2))) = ci.2.1 := by show ((K[cid]?).map (fun ci => ci.2.1)).getD 0 = _; rw [hci]; rfl
  refine Runs.heap (by simp) (by rw [szs_push]; exact Nat.le_add_right _ _) (fun p e R s m args below meth c T locs cells slots X hx hZ hc hml hown hnm hrel hfr hf' hlo hsz hcl hsl => ?_) kk
  rw [szs_push, es] at hsl
  simp only [List.length_append, List.length_cons, List.length_nil] at hcl
  obtain ⟨T1, h1, X1, e1, E1, A1, D1, -, st1⟩ := newO X hx hZ hown w kk1 wz rfl (g := mkF m pc (ls.map (shS n0)).toArray (st.map (shV n0))) rfl (hb hc hd) (by omega) (by omega)
  have hs1 := X1.heapSize
  have hlt : T.heap.size < h1.size := A1.lt
  have hh := hrel.1
  rw [e1] at hs1
  refine ⟨T1, _, _, _, X1, ?_, hfr, by simp only [List.length_append, List.length_cons, List.length_nil]; omega, by rw [szs_push, es]; omega, fun t q => st1 t ?_⟩
  · rw [e1]
    refine hrel.push E1 (by omega) ⟨ci, hci, A1, fun i f x hf hx => ?_⟩
    have hfm : f ∈ ci.2.2 := List.mem_of_getElem? hf
    rw [List.getElem?_map, hf] at hx
    cases hx
    show Fld Z h1 T.heap.size f.1 f.2.1 f.2.2.1 (shV n0 (defaultValue f.2.2.2))
    rw [sh_dflt]
    exact D1 (kk2 f hfm).1 (kk2 f hfm).2
  · show Steps _ _ _ (T1.setTop (mkF m (pc + 3) _ (.ref T.heap.size :: _))) t
    rw [hh]; exact q
theorem toNat_of {n : Int32} (h : ¬ n < 0) : n.toNatClampNeg < 2 ^ 31 := (back32 h).2
theorem r_newA {a : Nat} {n : Int32} {aty : ArrayType} {o : List Value} (hd : decode mi.2.1 pc = .ok (.newarray aty, 2) ∧ pc + 2 = np) (w : (Jvm.Cond.arrayClass (newarray.typeOf aty)).before a0 Z = true) (hn : ¬ n < 0) (hb8 : n.toNatClampNeg * 8 ≤ 536870912)
    (ho : List.replicate n.toNatClampNeg (defaultValue (newarray.typeOf aty)) = o) (ha : H.length = a) (hH : H ++ [.inr (newarray.typeOf aty, o)] = H1) (kk : Runs K l Z n0 mi np ls (.ref a :: st) H1 v H') : Runs K l Z n0 mi pc ls (.int n :: st) H v H' := by
  obtain ⟨hd, rfl⟩ := hd
  subst ho ha hH
  have es : osz K (.inr (newarray.typeOf aty, List.replicate n.toNatClampNeg (defaultValue (newarray.typeOf aty)))) = n.toNatClampNeg := by show (List.replicate _ _).length = _; simp
  refine Runs.heap (by simp) (by rw [szs_push]; exact Nat.le_add_right _ _) (fun p e R s m args below meth c T locs cells slots X hx hZ hc hml hown hnm hrel hfr hf' hlo hsz hcl hsl => ?_) kk
  rw [szs_push, es] at hsl
  simp only [List.length_append, List.length_cons, List.length_nil] at hcl
  obtain ⟨T1, h1, cA, X1, e1, E1, A1, st1⟩ := newP X hx hZ w rfl (g := mkF m pc (ls.map (shS n0)).toArray (.int n :: st.map (shV n0))) rfl (hb hc hd) rfl hn (cap := n.toNatClampNeg) (Nat.le_refl _) hb8 (by omega) (by omega)
  have hs1 := X1.heapSize
  have hlt : T.heap.size < h1.size := A1.lt
  have hh := hrel.1
  rw [e1] at hs1
  refine ⟨T1, _, _, _, X1, ?_, hfr, by simp only [List.length_append, List.length_cons, List.length_nil]; omega, by rw [szs_push, es]; omega, fun t q => st1 t ?_⟩
  · rw [e1]
    refine hrel.push E1 (by omega) ⟨_, A1, by rw [sz_new]; simp, by simpa using toNat_of hn, fun i x hx => ?_⟩
    rw [List.getElem?_replicate] at hx
    split at hx
    · rename_i hi
      cases hx
      have q1 : (newA cA (newarray.typeOf aty) n).slots[i]? = some (defaultValue (newarray.typeOf aty)) := by simp [newA, hi]
      exact ⟨by rw [q1]; cases newarray.typeOf aty <;> rfl, by cases newarray.typeOf aty <;> rfl⟩
    · cases hx
  · show Steps _ _ _ (T1.setTop (mkF m (pc + 2) _ (.ref T.heap.size :: _))) t
    rw [hh]; exact q
theorem fits_byte (x : Int32) : fits .byte (.int x.toInt8.toInt32) = true := by
  have h1 : (x.toInt8.toInt32).toInt = x.toInt8.toInt := Int8.toInt_toInt32 _
  have h2 := x.toInt8.toInt_lt
  have h3 := x.toInt8.le_toInt
  have e1 : (-128 : Int32).toInt = -128 := by decide
  have e2 : (127 : Int32).toInt = 127 := by decide
  simp only [fits, Bool.and_eq_true, decide_eq_true_eq]
  rw [Int32.le_iff_toInt_le, Int32.le_iff_toInt_le, h1, e1, e2]
  omega
/-- the int j names the place i -/
def Ix (j : Int32) (i : Nat) : Prop := ¬ j < 0 ∧ j.toNatClampNeg = i
theorem r_len {a : Nat} {ty : FieldType} {vs : List Value} {n : Int32} (hd : decode mi.2.1 pc = .ok (.arraylength, 1) ∧ pc + 1 = np) (ho : H[a]? = some (.inr (ty, vs))) (hn : vs.length.toInt32 = n) (kk : Runs K l Z n0 mi np ls (.int n :: st) H v H') : Runs K l Z n0 mi pc ls (.ref a :: st) H v H' := by
  obtain ⟨hd, rfl⟩ := hd
  subst hn
  refine Runs.heap (Nat.le_refl _) (Nat.le_refl _) (fun p e R s m args below meth c T locs cells slots X hx hZ hc hml hown hnm hrel hfr hf' hlo hsz hcl hsl => ?_) kk
  obtain ⟨cl, A, hs, hl, hv⟩ := hrel.2 a _ ho
  refine ⟨T, _, _, _, X, hrel, hfr, hsz, Nat.le_refl _, fun t q => ?_⟩
  refine X.arraylength hx A.1 (State.isArrayOf_alike hZ.alike A.2.1) (g := mkF m pc (ls.map (shS n0)).toArray (.ref (n0 + a) :: st.map (shV n0))) rfl rfl (hb hc hd) _ ?_
  rw [hs]; exact q
theorem r_iaload {a i : Nat} {vs : List Value} {j : Int32} {x : Value} (hd : decode mi.2.1 pc = .ok (.iaload, 1) ∧ pc + 1 = np) (ho : H[a]? = some (.inr (.int, vs))) (hj : Ix j i) (hv : vs[i]? = some x) (kk : Runs K l Z n0 mi np ls (x :: st) H v H') : Runs K l Z n0 mi pc ls (.int j :: .ref a :: st) H v H' := by
  obtain ⟨hd, rfl⟩ := hd
  obtain ⟨hj0, rfl⟩ := hj
  refine Runs.heap (Nat.le_refl _) (Nat.le_refl _) (fun p e R s m args below meth c T locs cells slots X hx hZ hc hml hown hnm hrel hfr hf' hlo hsz hcl hsl => ?_) kk
  obtain ⟨cl, A, hs, hl, hvs⟩ := hrel.2 a _ ho
  have hi := lt_of_at hv
  refine ⟨T, _, _, _, X, hrel, hfr, hsz, Nat.le_refl _, fun t q => ?_⟩
  exact X.iaload hx (j := j) (v := shV n0 x) A.1 (State.isArrayOf_alike hZ.alike A.2.1) A.2.2 (fun z => z.elim hj0 (fun q => by rw [hs] at q; omega)) (hvs _ _ hv).1 (g := mkF m pc (ls.map (shS n0)).toArray (.int j :: .ref (n0 + a) :: st.map (shV n0))) rfl rfl (hb hc hd) _ q
theorem r_laload {a i : Nat} {vs : List Value} {j : Int32} {x : Value} (hd : decode mi.2.1 pc = .ok (.laload, 1) ∧ pc + 1 = np) (ho : H[a]? = some (.inr (.long, vs))) (hj : Ix j i) (hv : vs[i]? = some x) (kk : Runs K l Z n0 mi np ls (x :: st) H v H') : Runs K l Z n0 mi pc ls (.int j :: .ref a :: st) H v H' := by
  obtain ⟨hd, rfl⟩ := hd
  obtain ⟨hj0, rfl⟩ := hj
  refine Runs.heap (Nat.le_refl _) (Nat.le_refl _) (fun p e R s m args below meth c T locs cells slots X hx hZ hc hml hown hnm hrel hfr hf' hlo hsz hcl hsl => ?_) kk
  obtain ⟨cl, A, hs, hl, hvs⟩ := hrel.2 a _ ho
  have hi := lt_of_at hv
  refine ⟨T, _, _, _, X, hrel, hfr, hsz, Nat.le_refl _, fun t q => ?_⟩
  exact X.laload hx (j := j) (v := shV n0 x) A.1 (State.isArrayOf_alike hZ.alike A.2.1) A.2.2 (fun z => z.elim hj0 (fun q => by rw [hs] at q; omega)) (hvs _ _ hv).1 (g := mkF m pc (ls.map (shS n0)).toArray (.int j :: .ref (n0 + a) :: st.map (shV n0))) rfl rfl (hb hc hd) _ q
theorem r_baload {a i : Nat} {vs : List Value} {j : Int32} {x : Value} (hd : decode mi.2.1 pc = .ok (.baload, 1) ∧ pc + 1 = np) (ho : H[a]? = some (.inr (.byte, vs))) (hj : Ix j i) (hv : vs[i]? = some x) (kk : Runs K l Z n0 mi np ls (x :: st) H v H') : Runs K l Z n0 mi pc ls (.int j :: .ref a :: st) H v H' := by
  obtain ⟨hd, rfl⟩ := hd
  obtain ⟨hj0, rfl⟩ := hj
  refine Runs.heap (Nat.le_refl _) (Nat.le_refl _) (fun p e R s m args below meth c T locs cells slots X hx hZ hc hml hown hnm hrel hfr hf' hlo hsz hcl hsl => ?_) kk
  obtain ⟨cl, A, hs, hl, hvs⟩ := hrel.2 a _ ho
  have hi := lt_of_at hv
  refine ⟨T, _, _, _, X, hrel, hfr, hsz, Nat.le_refl _, fun t q => ?_⟩
  exact X.baloadBytes hx (j := j) (v := shV n0 x) A.1 (State.isArrayOf_alike hZ.alike A.2.1) A.2.2 (fun z => z.elim hj0 (fun q => by rw [hs] at q; omega)) (hvs _ _ hv).1 (g := mkF m pc (ls.map (shS n0)).toArray (.int j :: .ref (n0 + a) :: st.map (shV n0))) rfl rfl (hb hc hd) _ q
theorem r_caload {a i : Nat} {vs : List Value} {j : Int32} {x : Value} (hd : decode mi.2.1 pc = .ok (.caload, 1) ∧ pc + 1 = np) (ho : H[a]? = some (.inr (.char, vs))) (hj : Ix j i) (hv : vs[i]? = some x) (kk : Runs K l Z n0 mi np ls (x :: st) H v H') : Runs K l Z n0 mi pc ls (.int j :: .ref a :: st) H v H' := by
  obtain ⟨hd, rfl⟩ := hd
  obtain ⟨hj0, rfl⟩ := hj
  refine Runs.heap (Nat.le_refl _) (Nat.le_refl _) (fun p e R s m args below meth c T locs cells slots X hx hZ hc hml hown hnm hrel hfr hf' hlo hsz hcl hsl => ?_) kk
  obtain ⟨cl, A, hs, hl, hvs⟩ := hrel.2 a _ ho
  have hi := lt_of_at hv
  refine ⟨T, _, _, _, X, hrel, hfr, hsz, Nat.le_refl _, fun t q => ?_⟩
  exact X.caload hx (j := j) (v := shV n0 x) A.1 (State.isArrayOf_alike hZ.alike A.2.1) A.2.2 (fun z => z.elim hj0 (fun q => by rw [hs] at q; omega)) (hvs _ _ hv).1 (g := mkF m pc (ls.map (shS n0)).toArray (.int j :: .ref (n0 + a) :: st.map (shV n0))) rfl rfl (hb hc hd) _ q
theorem r_iastore {a i : Nat} {vs vs' : List Value} {j : Int32} {x : Int32} (hd : decode mi.2.1 pc = .ok (.iastore, 1) ∧ pc + 1 = np) (ho : H[a]? = some (.inr (.int, vs))) (hj : Ix j i) (hi : i < vs.length) (hvs : vs.set i (.int x) = vs') (hH : H.set a (.inr (.int, vs')) = H1) (kk : Runs K l Z n0 mi np ls st H1 v H') : Runs K l Z n0 mi pc ls (.int x :: .int j :: .ref a :: st) H v H' := by
  obtain ⟨hd, rfl⟩ := hd
  obtain ⟨hj0, rfl⟩ := hj
  subst hvs hH
  have ha := lt_of_at ho
  have es : szs K (H.set a (.inr (.int, vs.set j.toNatClampNeg (.int x)))) = szs K H := szs_set ho (by show (List.set _ _ _).length = _; simp [osz])
  refine Runs.heap (by rw [List.length_set]; exact Nat.le_refl _) (by rw [es]; exact Nat.le_refl _) (fun p e R s m args below meth c T locs cells slots X hx hZ hc hml hown hnm hrel hfr hf' hlo hsz hcl hsl => ?_) kk
  obtain ⟨cl, A, hs, hl, hvs⟩ := hrel.2 a _ ho
  have hin : ¬ (j < 0 ∨ cl.slots.size ≤ j.toNatClampNeg) := fun z => z.elim hj0 (fun q => by rw [hs] at q; omega)
  obtain ⟨T1, h1, X1, e1, W1, st1⟩ := stI X hx hZ rfl A hin (g := mkF m pc (ls.map (shS n0)).toArray (.int x :: .int j :: .ref (n0 + a) :: st.map (shV n0))) rfl rfl (hb hc hd)
  refine ⟨T1, _, _, _, X1, ?_, Fr.snoc X1 hfr (Nat.le_add_right _ _), by rw [List.length_set]; exact hsz, by rw [es]; exact Nat.le_refl _, st1⟩
  rw [e1]
  refine hrel.put W1 ha ⟨_, A.same W1, by rw [sz_set, hs, List.length_set], by rw [List.length_set]; exact hl, fun k y hy => ?_⟩
  by_cases e : j.toNatClampNeg = k
  · subst e
    rw [List.getElem?_set_self hi] at hy
    cases hy
    exact ⟨by simp [Cell.setSlot, hs, hi, shV, nar], rfl⟩
  · rw [List.getElem?_set_ne e] at hy
    refine ⟨?_, (hvs k y hy).2⟩
    exact (Array.getElem?_setIfInBounds_ne e).trans (hvs k y hy).1
theorem r_lastore {a i : Nat} {vs vs' : List Value} {j : Int32} {x : Int64} (hd : decode mi.2.1 pc = .ok (.lastore, 1) ∧ pc + 1 = np) (ho : H[a]? = some (.inr (.long, vs))) (hj : Ix j i) (hi : i < vs.length) (hvs : vs.set i (.long x) = vs') (hH : H.set a (.inr (.long, vs')) = H1) (kk : Runs K l Z n0 mi np ls st H1 v H') : Runs K l Z n0 mi pc ls (.long x :: .int j :: .ref a :: st) H v H' := by
  obtain ⟨hd, rfl⟩ := hd
  obtain ⟨hj0, rfl⟩ := hj
  subst hvs hH
  have ha := lt_of_at ho
  have es : szs K (H.set a (.inr (.long, vs.set j.toNatClampNeg (.long x)))) = szs K H := szs_set ho (by show (List.set _ _ _).length = _; simp [osz])
  refine Runs.heap (by rw [List.length_set]; exact Nat.le_refl _) (by rw [es]; exact Nat.le_refl _) (fun p e R s m args below meth c T locs cells slots X hx hZ hc hml hown hnm hrel hfr hf' hlo hsz hcl hsl => ?_) kk
  obtain ⟨cl, A, hs, hl, hvs⟩ := hrel.2 a _ ho
  have hin : ¬ (j < 0 ∨ cl.slots.size ≤ j.toNatClampNeg) := fun z => z.elim hj0 (fun q => by rw [hs] at q; omega)
  obtain ⟨T1, h1, X1, e1, W1, st1⟩ := stJ X hx hZ rfl A hin (g := mkF m pc (ls.map (shS n0)).toArray (.long x :: .int j :: .ref (n0 + a) :: st.map (shV n0))) rfl rfl (hb hc hd)
  refine ⟨T1, _, _, _, X1, ?_, Fr.snoc X1 hfr (Nat.le_add_right _ _), by rw [List.length_set]; exact hsz, by rw [es]; exact Nat.le_refl _, st1⟩
  rw [e1]
  refine hrel.put W1 ha ⟨_, A.same W1, by rw [sz_set, hs, List.length_set], by rw [List.length_set]; exact hl, fun k y hy => ?_⟩
  by_cases e : j.toNatClampNeg = k
  · subst e
    rw [List.getElem?_set_self hi] at hy
    cases hy
    exact ⟨by simp [Cell.setSlot, hs, hi, shV, nar], rfl⟩
  · rw [List.getElem?_set_ne e] at hy
    refine ⟨?_, (hvs k y hy).2⟩
    exact (Array.getElem?_setIfInBounds_ne e).trans (hvs k y hy).1
theorem r_bastore {a i : Nat} {vs vs' : List Value} {j : Int32} {x : Int32} (hd : decode mi.2.1 pc = .ok (.bastore, 1) ∧ pc + 1 = np) (ho : H[a]? = some (.inr (.byte, vs))) (hj : Ix j i) (hi : i < vs.length) (hvs : vs.set i (.int x.toInt8.toInt32) = vs') (hH : H.set a (.inr (.byte, vs')) = H1) (kk : Runs K l Z n0 mi np ls st H1 v H') : Runs K l Z n0 mi pc ls (.int x :: .int j :: .ref a :: st) H v H' := by
  obtain ⟨hd, rfl⟩ := hd
  obtain ⟨hj0, rfl⟩ := hj
  subst hvs hH
  have ha := lt_of_at ho
  have es : szs K (H.set a (.inr (.byte, vs.set j.toNatClampNeg (.int x.toInt8.toInt32)))) = szs K H := szs_set ho (by show (List.set _ _ _).length = _; simp [osz])
  refine Runs.heap (by rw [List.length_set]; exact Nat.le_refl _) (by rw [es]; exact Nat.le_refl _) (fun p e R s m args below meth c T locs cells slots X hx hZ hc hml hown hnm hrel hfr hf' hlo hsz hcl hsl => ?_) kk
  obtain ⟨cl, A, hs, hl, hvs⟩ := hrel.2 a _ ho
  have hin : ¬ (j < 0 ∨ cl.slots.size ≤ j.toNatClampNeg) := fun z => z.elim hj0 (fun q => by rw [hs] at q; omega)
  obtain ⟨T1, h1, X1, e1, W1, st1⟩ := stB X hx hZ rfl A hin (g := mkF m pc (ls.map (shS n0)).toArray (.int x :: .int j :: .ref (n0 + a) :: st.map (shV n0))) rfl rfl (hb hc hd)
  refine ⟨T1, _, _, _, X1, ?_, Fr.snoc X1 hfr (Nat.le_add_right _ _), by rw [List.length_set]; exact hsz, by rw [es]; exact Nat.le_refl _, st1⟩
  rw [e1]
  refine hrel.put W1 ha ⟨_, A.same W1, by rw [sz_set, hs, List.length_set], by rw [List.length_set]; exact hl, fun k y hy => ?_⟩
  by_cases e : j.toNatClampNeg = k
  · subst e
    rw [List.getElem?_set_self hi] at hy
    cases hy
    exact ⟨by simp [Cell.setSlot, hs, hi, shV, nar], fits_byte x⟩
  · rw [List.getElem?_set_ne e] at hy
    refine ⟨?_, (hvs k y hy).2⟩
    exact (Array.getElem?_setIfInBounds_ne e).trans (hvs k y hy).1
/-! ### calls -/
theorem map_toList (w : Option Value) (rest : List Value) : ((w.toList ++ rest).map (shV n0)) = (w.map (shV n0)).toList ++ rest.map (shV n0) := by cases w <;> simp
theorem r_initO {a idx : Nat} (hd : decode mi.2.1 pc = .ok (.invokespecial idx, 3) ∧ pc + 3 = np) (w1 : (Jvm.Cond.methodLink mi.1.cls idx Lib.objectInit).before a0 Z = true) (w2 : (Jvm.Cond.instanceMethod Lib.objectInit).before a0 Z = true) (w3 : (Jvm.Cond.code Lib.objectInit ⟨#[0xb1]⟩ 1 none).before a0 Z = true)
    (hls : ls.length = mi.2.2.1) (hf : 1 ≤ mi.2.2.2.2.1) (hlo : (st.map fun v => v.category).sum + 12 ≤ mi.2.2.2.2.2) (kk : Runs K l Z n0 mi np ls st H v H') : Runs K l Z n0 mi pc ls (.ref a :: st) H v H' := by
  obtain ⟨hd, rfl⟩ := hd
  refine Runs.heap (Nat.le_refl _) (Nat.le_refl _) (fun p e R s m args below meth c T locs cells slots X hx hZ hc hml hown hnm hrel hfr hf' hlo' hsz hcl hsl => ?_) kk
  obtain ⟨T1, X1, e1, st1⟩ := initO X hx hZ hown w1 w2 w3 rfl (g := mkF m pc (ls.map (shS n0)).toArray (.ref (n0 + a) :: st.map (shV n0))) rfl (by rw [hml, ← hls]; simp) rfl (hb hc hd) (by omega) (W := (st.map fun v => v.category).sum) (by rw [cats_sh]; show 2 * 0 + _ ≤ _; omega) (by omega)
  exact ⟨T1, _, _, _, X1, by rw [e1]; exact hrel, hfr, hsz, Nat.le_refl _, st1⟩
theorem backM {mj : MI} {as : List Value} {w : Option Value} {h : Heap} {p : Program} {e : Env} {R : Room} {s : State} {args : Array Value} {below : List Frame} {len W : Nat} (M : Meets K l Z n0 mj as H w H1) (hrel : Rel K Z n0 H h) (hZ : Z.Warmed39 s.vm) (w4 : (Jvm.Cond.code mj.1 mj.2.1 mj.2.2.1 mj.2.2.2.1).before a0 Z = true) (w3 : (Jvm.Cond.initialized mj.1.cls).before a0 Z = true)
    (hf : mj.2.2.2.2.1 + 1 ≤ R.frames) (hl : W + (mj.2.2.1 + 11) + mj.2.2.2.2.2 ≤ R.locals) :
    Back l R p e below s args mj.1 len W (fun A a => a = (as.map (shV n0)).toArray ∧ A.U.heap = h ∧ A.cells + (H1.length - H.length) ≤ R.cells ∧ A.slots + (szs K H1 - szs K H) ≤ R.slots)
      (fun A _ v B => ∃ L, (v = w.map (shV n0) ∧ Rel K Z n0 H1 B.U.heap ∧ Fr n0 L) ∧ B.locs = A.locs ++ L ∧ B.cells = A.cells + (H1.length - H.length) ∧ B.slots = A.slots + (szs K H1 - szs K H)) :=
  backOf (rm := rmOf K mj H H1) (Q := fun v h L => v = w.map (shV n0) ∧ Rel K Z n0 H1 h ∧ Fr n0 L) (M.2.2 h hrel) hZ w4 w3 hf hl
theorem r_static {mj : MI} {as : List Value} {w : Option Value} {idx : Nat} (hd : decode mi.2.1 pc = .ok (.invokestatic idx, 3) ∧ pc + 3 = np) (w1 : (Jvm.Cond.methodLink mi.1.cls idx mj.1).before a0 Z = true) (w2 : (Jvm.Cond.static mj.1).before a0 Z = true) (w3 : (Jvm.Cond.initialized mj.1.cls).before a0 Z = true) (w4 : (Jvm.Cond.code mj.1 mj.2.1 mj.2.2.1 mj.2.2.2.1).before a0 Z = true)
    (hy : mj.1.cls ≠ "java/lang/invoke/MethodHandle" ∧ mj.1.cls ≠ "java/lang/invoke/VarHandle") (hlen : ∀ sig, parseMethodDescriptor mj.1.desc = some sig → as.length = sig.parameters.length) (hfr : mj.2.2.2.2.1 + 1 ≤ mi.2.2.2.2.1)
    (hst : as.reverse ++ rest = st) (hls : ls.length = mi.2.2.1) (hlo : (rest.map fun v => v.category).sum + (mj.2.2.1 + 11) + mj.2.2.2.2.2 ≤ mi.2.2.2.2.2)
    (M : Meets K l Z n0 mj as H w H1) (kk : Runs K l Z n0 mi np ls (w.toList ++ rest) H1 v H') : Runs K l Z n0 mi pc ls st H v H' := by
  obtain ⟨hd, rfl⟩ := hd
  subst hst
  have m1 := M.1
  have m2 := M.2.1
  refine Runs.heap m1 m2 (fun p e R s m args below meth c T locs cells slots X hx hZ hc hml hown hnm hrel hfr' hf' hlo' hsz hcl hsl => ?_) kk
  obtain ⟨_, _, ⟨T1, L1, k1, n1⟩, -, X1, ⟨Lc, hQ, l1, y1, z1⟩, st1⟩ := Jvm.LawKit.callS X hx (y := mj.1) hown (mvT hZ w1) (mvT hZ w2) (mvT hZ w3) (mvT hZ w4) hy
    (backM (W := (rest.map fun v => v.category).sum) M hrel hZ w4 w3 (by omega) (by omega))
    (g := mkF m pc (ls.map (shS n0)).toArray ((as.reverse ++ rest).map (shV n0))) rfl (by rw [hml, ← hls]; simp) (argsL := as.map (shV n0)) (rest := rest.map (shV n0)) (fun sig q => by rw [List.length_map]; exact hlen sig q) (by simp) (by rw [cats_sh]; show 2 * 0 + _ ≤ _; omega) (hb hc hd)
    (fun _ _ => ⟨rfl, rfl, (by show cells + (H1.length - H.length) ≤ _; omega), (by show slots + (szs K H1 - szs K H) ≤ _; omega)⟩)
  dsimp only [Pt.U, Pt.locs, Pt.cells, Pt.slots] at X1 l1 y1 z1 st1 hQ
  subst l1 y1 z1
  obtain ⟨rfl, R1, F1⟩ := hQ
  refine ⟨T1, _, _, _, X1, R1, Fr.app hfr' F1, by show s.heap.size + (cells + (H1.length - H.length)) = _; omega, by show slots + (szs K H1 - szs K H) + _ ≤ _; omega, fun t q => st1 t ?_⟩
  rw [map_toList] at q; exact q
theorem r_special {mj : MI} {as : List Value} {a idx : Nat} (hd : decode mi.2.1 pc = .ok (.invokespecial idx, 3) ∧ pc + 3 = np) (hy1 : mj.1.name = "<init>") (hr : mj.2.2.2.1 = none) (w1 : (Jvm.Cond.methodLink mi.1.cls idx mj.1).before a0 Z = true) (w2 : (Jvm.Cond.instanceMethod mj.1).before a0 Z = true) (w3 : (Jvm.Cond.initialized mj.1.cls).before a0 Z = true) (w4 : (Jvm.Cond.code mj.1 mj.2.1 mj.2.2.1 mj.2.2.2.1).before a0 Z = true)
    (hy : mj.1.cls ≠ "java/lang/invoke/MethodHandle" ∧ mj.1.cls ≠ "java/lang/invoke/VarHandle") (hlen : ∀ sig, parseMethodDescriptor mj.1.desc = some sig → as.length = sig.parameters.length) (hfr : mj.2.2.2.2.1 + 1 ≤ mi.2.2.2.2.1)
    (hst : as.reverse ++ .ref a :: rest = st) (hls : ls.length = mi.2.2.1) (hlo : (rest.map fun v => v.category).sum + (mj.2.2.1 + 11) + mj.2.2.2.2.2 ≤ mi.2.2.2.2.2)
    (M : Meets K l Z n0 mj (.ref a :: as) H none H1) (kk : Runs K l Z n0 mi np ls rest H1 v H') : Runs K l Z n0 mi pc ls st H v H' := by
  obtain ⟨hd, rfl⟩ := hd
  subst hst
  have m1 := M.1
  have m2 := M.2.1
  refine Runs.heap m1 m2 (fun p e R s m args below meth c T locs cells slots X hx hZ hc hml hown hnm hrel hfr' hf' hlo' hsz hcl hsl => ?_) kk
  have w4' := w4
  rw [hr] at w4'
  obtain ⟨_, _, ⟨T1, L1, k1, n1⟩, -, X1, ⟨Lc, hQ, l1, y1, z1⟩, st1⟩ := X.specialBack hx (y := mj.1) hy1 hown (mvT hZ w1) (mvT hZ w2) (mvT hZ w4') hy
    (backM (W := (rest.map fun v => v.category).sum) M hrel hZ w4 w3 (by omega) (by omega))
    (g := mkF m pc (ls.map (shS n0)).toArray ((as.reverse ++ .ref a :: rest).map (shV n0))) rfl (by rw [hml, ← hls]; simp) (Steps.refl _) (a := n0 + a) (argsL := as.map (shV n0)) (rest := rest.map (shV n0)) (fun sig q => by rw [List.length_map]; exact hlen sig q) (by simp [shV]) (by rw [cats_sh]; show 2 * 0 + _ ≤ _; omega) (hb hc hd)
    (fun _ _ => ⟨rfl, rfl, (by show cells + (H1.length - H.length) ≤ _; omega), (by show slots + (szs K H1 - szs K H) ≤ _; omega)⟩)
  dsimp only [Pt.U, Pt.locs, Pt.cells, Pt.slots] at X1 l1 y1 z1 st1 hQ
  subst l1 y1 z1
  obtain ⟨rfl, R1, F1⟩ := hQ
  exact ⟨T1, _, _, _, X1, R1, Fr.app hfr' F1, by show s.heap.size + (cells + (H1.length - H.length)) = _; omega, by show slots + (szs K H1 - szs K H) + _ ≤ _; omega, fun t q => st1.trans q⟩
theorem r_virtual {mj : MI} {as : List Value} {w : Option Value} {a cid idx : Nat} {ci : CI} {vs : List Value} (hd : decode mi.2.1 pc = .ok (.invokevirtual idx, 3) ∧ pc + 3 = np) (w1 : (Jvm.Cond.methodLink mi.1.cls idx mj.1).before a0 Z = true) (w2 : (Jvm.Cond.declares mj.1).before a0 Z = true) (w5 : (Jvm.Cond.selects ci.1 mj.1 mj.1).before a0 Z = true) (w6 : (Jvm.Cond.instanceMethod mj.1).before a0 Z = true) (w3 : (Jvm.Cond.initialized mj.1.cls).before a0 Z = true) (w4 : (Jvm.Cond.code mj.1 mj.2.1 mj.2.2.1 mj.2.2.2.1).before a0 Z = true)
    (hy : mj.1.cls ≠ "java/lang/invoke/MethodHandle" ∧ mj.1.cls ≠ "java/lang/invoke/VarHandle") (hlen : ∀ sig, parseMethodDescriptor mj.1.desc = some sig → as.length = sig.parameters.length) (hfr : mj.2.2.2.2.1 + 1 ≤ mi.2.2.2.2.1) (hci : K[cid]? = some ci)
    (hst : as.reverse ++ .ref a :: rest = st) (ho : H[a]? = some (.inl (cid, vs))) (hls : ls.length = mi.2.2.1) (hlo : (rest.map fun v => v.category).sum + (mj.2.2.1 + 11) + mj.2.2.2.2.2 ≤ mi.2.2.2.2.2)
    (M : Meets K l Z n0 mj (.ref a :: as) H w H1) (kk : Runs K l Z n0 mi np ls (w.toList ++ rest) H1 v H') : Runs K l Z n0 mi pc ls st H v H' := by
  obtain ⟨hd, rfl⟩ := hd
  subst hst
  have m1 := M.1
  have m2 := M.2.1
  refine Runs.heap m1 m2 (fun p e R s m args below meth c T locs cells slots X hx hZ hc hml hown hnm hrel hfr' hf' hlo' hsz hcl hsl => ?_) kk
  obtain ⟨ci', q1, E, F⟩ := hrel.2 a _ ho
  cases hci.symm.trans q1
  obtain ⟨cq, kq, qa, qb, qc⟩ := isOf hZ rfl E
  obtain ⟨_, _, ⟨T1, L1, k1, n1⟩, -, X1, ⟨Lc, hQ, l1, y1, z1⟩, st1⟩ := X.virtualBack hx (y := mj.1) (z := mj.1) hown (mvT hZ w1) (mvT hZ w2) (notFace_of_selects (args := #[]) (mvT hZ w5)) (mvT hZ w5) (mvT hZ w6) hy
    (backM (W := (rest.map fun v => v.category).sum) M hrel hZ w4 w3 (by omega) (by omega)) qa qc
    (g := mkF m pc (ls.map (shS n0)).toArray ((as.reverse ++ .ref a :: rest).map (shV n0))) rfl (by rw [hml, ← hls]; simp) (Steps.refl _) (argsL := as.map (shV n0)) (rest := rest.map (shV n0)) (fun sig q => by rw [List.length_map]; exact hlen sig q) (by simp [shV]) (by rw [cats_sh]; show 2 * 0 + _ ≤ _; omega) (hb hc hd)
    (fun _ _ => ⟨rfl, rfl, (by show cells + (H1.length - H.length) ≤ _; omega), (by show slots + (szs K H1 - szs K H) ≤ _; omega)⟩)
  dsimp only [Pt.U, Pt.locs, Pt.cells, Pt.slots] at X1 l1 y1 z1 st1 hQ
  subst l1 y1 z1
  obtain ⟨rfl, R1, F1⟩ := hQ
  refine ⟨T1, _, _, _, X1, R1, Fr.app hfr' F1, by show s.heap.size + (cells + (H1.length - H.length)) = _; omega, by show slots + (szs K H1 - szs K H) + _ ≤ _; omega, fun t q => st1.trans ?_⟩
  rw [map_toList] at q; exact q
theorem r_private {mj : MI} {as : List Value} {w : Option Value} {a cid idx : Nat} {ci : CI} {vs : List Value} (hd : decode mi.2.1 pc = .ok (.invokevirtual idx, 3) ∧ pc + 3 = np) (w1 : (Jvm.Cond.methodLink mi.1.cls idx mj.1).before a0 Z = true) (w5 : (Jvm.Cond.selects mj.1.cls mj.1 mj.1).before a0 Z = true) (w7 : (Jvm.Cond.privateMethod mj.1).before a0 Z = true) (w6 : (Jvm.Cond.instanceMethod mj.1).before a0 Z = true) (w3 : (Jvm.Cond.initialized mj.1.cls).before a0 Z = true) (w4 : (Jvm.Cond.code mj.1 mj.2.1 mj.2.2.1 mj.2.2.2.1).before a0 Z = true)
    (hy : mj.1.cls ≠ "java/lang/invoke/MethodHandle" ∧ mj.1.cls ≠ "java/lang/invoke/VarHandle") (hlen : ∀ sig, parseMethodDescriptor mj.1.desc = some sig → as.length = sig.parameters.length) (hfr : mj.2.2.2.2.1 + 1 ≤ mi.2.2.2.2.1) (hci : K[cid]? = some ci)
    (hst : as.reverse ++ .ref a :: rest = st) (ho : H[a]? = some (.inl (cid, vs))) (hls : ls.length = mi.2.2.1) (hlo : (rest.map fun v => v.category).sum + (mj.2.2.1 + 11) + mj.2.2.2.2.2 ≤ mi.2.2.2.2.2)
    (M : Meets K l Z n0 mj (.ref a :: as) H w H1) (kk : Runs K l Z n0 mi np ls (w.toList ++ rest) H1 v H') : Runs K l Z n0 mi pc ls st H v H' := by
  obtain ⟨hd, rfl⟩ := hd
  subst hst
  have m1 := M.1
  have m2 := M.2.1
  refine Runs.heap m1 m2 (fun p e R s m args below meth c T locs cells slots X hx hZ hc hml hown hnm hrel hfr' hf' hlo' hsz hcl hsl => ?_) kk
  obtain ⟨ci', q1, E, F⟩ := hrel.2 a _ ho
  cases hci.symm.trans q1
  obtain ⟨cq, qa, qc⟩ := E.cell
  obtain ⟨_, _, ⟨T1, L1, k1, n1⟩, -, X1, ⟨Lc, hQ, l1, y1, z1⟩, st1⟩ := X.privateBack hx (y := mj.1) hown (mvT hZ w1) (mvT hZ w6) (mvT hZ w5) (Cond.privateMethod_at (mvP hZ w7 (args := #[]))) (mvT hZ w4) hy
    (backM (W := (rest.map fun v => v.category).sum) M hrel hZ w4 w3 (by omega) (by omega))
    (g := mkF m pc (ls.map (shS n0)).toArray ((as.reverse ++ .ref a :: rest).map (shV n0))) rfl (by rw [hml, ← hls]; simp) (Steps.refl _) (a := n0 + a) qa qc (argsL := as.map (shV n0)) (rest := rest.map (shV n0)) (fun sig q => by rw [List.length_map]; exact hlen sig q) (by simp [shV]) (by rw [cats_sh]; show 2 * 0 + _ ≤ _; omega) (hb hc hd)
    (fun _ _ => ⟨rfl, rfl, (by show cells + (H1.length - H.length) ≤ _; omega), (by show slots + (szs K H1 - szs K H) ≤ _; omega)⟩)
  dsimp only [Pt.U, Pt.locs, Pt.cells, Pt.slots] at X1 l1 y1 z1 st1 hQ
  subst l1 y1 z1
  obtain ⟨rfl, R1, F1⟩ := hQ
  refine ⟨T1, _, _, _, X1, R1, Fr.app hfr' F1, by show s.heap.size + (cells + (H1.length - H.length)) = _; omega, by show slots + (szs K H1 - szs K H) + _ ≤ _; omega, fun t q => st1.trans ?_⟩
  rw [map_toList] at q; exact q
end Logic
/-! ### arrays by a function of the place; small naturals as ints -/
def arrF (m : Nat) (f : Nat → Int32) : List Value := (List.range m).map (fun j => Value.int (f j))
def arrJ (m : Nat) (f : Nat → Int64) : List Value := (List.range m).map (fun j => Value.long (f j))
theorem arrF_len {m : Nat} {f : Nat → Int32} : (arrF m f).length = m := by simp [arrF]
theorem arrJ_len {m : Nat} {f : Nat → Int64} : (arrJ m f).length = m := by simp [arrJ]
theorem arrF_at {m i : Nat} {f : Nat → Int32} (h : i < m) : (arrF m f)[i]? = some (.int (f i)) := by simp [arrF, h]
theorem arrJ_at {m i : Nat} {f : Nat → Int64} (h : i < m) : (arrJ m f)[i]? = some (.long (f i)) := by simp [arrJ, h]
theorem arrF_set {m i : Nat} {f : Nat → Int32} {x : Int32} : (arrF m f).set i (.int x) = arrF m (fun j => if j = i then x else f j) := by
  apply List.ext_getElem?
  intro j
  by_cases hj : j < m
  · rw [arrF_at hj]
    by_cases e : i = j
    · subst e; rw [List.getElem?_set_self (by rw [arrF_len]; exact hj), if_pos rfl]
    · rw [List.getElem?_set_ne e, arrF_at hj, if_neg (fun q => e q.symm)]
  · rw [List.getElem?_eq_none (by rw [List.length_set, arrF_len]; omega), List.getElem?_eq_none (by rw [arrF_len]; omega)]
theorem arrJ_set {m i : Nat} {f : Nat → Int64} {x : Int64} : (arrJ m f).set i (.long x) = arrJ m (fun j => if j = i then x else f j) := by
  apply List.ext_getElem?
  intro j
  by_cases hj : j < m
  · rw [arrJ_at hj]
    by_cases e : i = j
    · subst e; rw [List.getElem?_set_self (by rw [arrJ_len]; exact hj), if_pos rfl]
    · rw [List.getElem?_set_ne e, arrJ_at hj, if_neg (fun q => e q.symm)]
  · rw [List.getElem?_eq_none (by rw [List.length_set, arrJ_len]; omega), List.getElem?_eq_none (by rw [arrJ_len]; omega)]
theorem arrF_congr {m : Nat} {f g : Nat → Int32} (h : ∀ j, j < m → f j = g j) : arrF m f = arrF m g := List.map_congr_left fun j hj => by rw [h j (List.mem_range.mp hj)]
theorem arrJ_congr {m : Nat} {f g : Nat → Int64} (h : ∀ j, j < m → f j = g j) : arrJ m f = arrJ m g := List.map_congr_left fun j hj => by rw [h j (List.mem_range.mp hj)]
theorem arrF_zero {m : Nat} : List.replicate m (Value.int 0) = arrF m (fun _ => 0) := by
  apply List.ext_getElem?
  intro j
  by_cases hj : j < m
  · rw [arrF_at hj, List.getElem?_replicate, if_pos hj]
  · rw [List.getElem?_eq_none (by simp; omega), List.getElem?_eq_none (by rw [arrF_len]; omega)]
theorem arrJ_zero {m : Nat} : List.replicate m (Value.long 0) = arrJ m (fun _ => 0) := by
  apply List.ext_getElem?
  intro j
  by_cases hj : j < m
  · rw [arrJ_at hj, List.getElem?_replicate, if_pos hj]
  · rw [List.getElem?_eq_none (by simp; omega), List.getElem?_eq_none (by rw [arrJ_len]; omega)]
theorem ti_int {n : Nat} (h : n < 2 ^ 31) : n.toInt32.toInt = n := len_toInt h
theorem ti_ix {n : Nat} (h : n < 2 ^ 31) : Ix n.toInt32 n := by
  have q := ti_int h
  have e0 : (0 : Int32).toInt = 0 := by decide
  refine ⟨?_, ?_⟩
  · rw [Int32.lt_iff_toInt_lt]; omega
  · simp only [Int32.toNatClampNeg]; omega
theorem ti_lt {a b : Nat} (ha : a < 2 ^ 31) (hb : b < 2 ^ 31) : a.toInt32 < b.toInt32 ↔ a < b := by
  rw [Int32.lt_iff_toInt_lt, ti_int ha, ti_int hb]; omega
theorem ti_eq {a b : Nat} (ha : a < 2 ^ 31) (hb : b < 2 ^ 31) : a.toInt32 = b.toInt32 ↔ a = b := by
  rw [← Int32.toInt_inj, ti_int ha, ti_int hb]; omega
theorem ti_add {a b : Nat} (h : a + b < 2 ^ 31) : a.toInt32 + b.toInt32 = (a + b).toInt32 := by
  apply Int32.toInt_inj.mp
  have q := c_iadd a.toInt32 b.toInt32
  have l1 := Int32.le_toInt (a.toInt32 + b.toInt32)
  have l2 := Int32.toInt_lt (a.toInt32 + b.toInt32)
  have e1 := ti_int (show a < 2 ^ 31 by omega)
  have e2 := ti_int (show b < 2 ^ 31 by omega)
  have e3 := ti_int h
  omega
theorem ti_succ {a : Nat} (h : a + 1 < 2 ^ 31) : a.toInt32 + 1 = (a + 1).toInt32 := ti_add (b := 1) h
theorem ti_of {x : Int32} (h : 0 ≤ x.toInt) : x = x.toNatClampNeg.toInt32 := by
  have b := Int32.toInt_lt x
  apply Int32.toInt_inj.mp
  rw [ti_int (by simp only [Int32.toNatClampNeg]; omega)]
  simp only [Int32.toNatClampNeg]; omega
theorem ix_of {x : Int32} (h : 0 ≤ x.toInt) : Ix x x.toNatClampNeg := by
  refine ⟨?_, rfl⟩
  have e0 : (0 : Int32).toInt = 0 := by decide
  rw [Int32.lt_iff_toInt_lt]; omega
abbrev HW (Z : State) (a0 : Array Value) : Prop := ∀ d ∈ tables_1, d.before a0 Z = true
def K : List CI := [("com/example/makespan/makespan/Ranks", 5, [("com/example/makespan/makespan/Ranks", "queue", "[I", (.array .int)), ("com/example/makespan/makespan/Ranks", "heap", "[I", (.array .int)), ("com/example/makespan/makespan/Ranks", "queued", "I", .int), ("com/example/makespan/makespan/Ranks", "heaped", "I", .int), ("com/example/makespan/makespan/Ranks", "head", "I", .int)])]
theorem allL0 {α : Type} {P : α → Prop} : ∀ x ∈ ([] : List α), P x := fun _ q => nomatch q
theorem allLS {α : Type} {P : α → Prop} {y : α} {L : List α} (q : P y) (r : ∀ x ∈ L, P x) : ∀ x ∈ y :: L, P x := fun x z => (List.mem_cons.mp z).elim (fun u => u ▸ q) (r x)
theorem kok {Z : State} {a0 : Array Value} (hw : HW Z a0) : KOk K Z a0 := by
  intro k ci h
  match k, h with
  | 0, h => cases h; exact ⟨(hw _ (List.mem_of_getElem? (i := 2) rfl)), (allLS ⟨Or.inl (hw _ (List.mem_of_getElem? (i := 11) rfl)), by decide⟩ (allLS ⟨Or.inl (hw _ (List.mem_of_getElem? (i := 13) rfl)), by decide⟩ (allLS ⟨Or.inl (hw _ (List.mem_of_getElem? (i := 20) rfl)), by decide⟩ (allLS ⟨Or.inl (hw _ (List.mem_of_getElem? (i := 22) rfl)), by decide⟩ (allLS ⟨Or.inl (hw _ (List.mem_of_getElem? (i := 33) rfl)), by decide⟩ (allL0)))))), by decide⟩
  | (k + 1), h => simp [K] at h
def m0 : MI := (x, code, 8, some .boolean, 3, 43)
def m1 : MI := (⟨"com/example/makespan/makespan/Ranks", "<init>", "()V"⟩, prog_14_method_1_code, 1, none, 1, 12)
def m3 : MI := (⟨"com/example/makespan/makespan/Ranks", "isEmpty", "()Z"⟩, prog_14_method_2_code, 1, some .boolean, 0, 0)
def m4 : MI := (⟨"com/example/makespan/makespan/RanksIsEmptyPinLaw", "step", "(Lcom/example/makespan/makespan/Ranks;[I[IZ)Z"⟩, method_2_code, 4, some .boolean, 2, 28)
def m5 : MI := (⟨"com/example/makespan/makespan/Ranks", "add", "(I)V"⟩, prog_14_method_5_code, 2, none, 1, 14)
def m6 : MI := (⟨"com/example/makespan/makespan/Ranks", "take", "()I"⟩, prog_14_method_4_code, 2, some .int, 1, 15)
def m7 : MI := (⟨"com/example/makespan/makespan/Ranks", "fromQueue", "()Z"⟩, prog_14_method_6_code, 1, some .boolean, 0, 0)
def m8 : MI := (⟨"com/example/makespan/makespan/Ranks", "siftUp", "(I)V"⟩, prog_14_method_8_code, 3, none, 0, 0)
def m9 : MI := (⟨"com/example/makespan/makespan/Ranks", "siftDown", "(I)V"⟩, prog_14_method_9_code, 4, none, 0, 0)
theorem pd0 : parseMethodDescriptor "(IIII)Z" = some ⟨[.int, .int, .int, .int], some .boolean⟩ := by decide +kernel
theorem pf0 : plainFor m0.1 = true := by first | exact plainFor_of_name (by first | (simp [m0, x, plainName, overriddenIn]; done) | decide +kernel) | decide +kernel
theorem pd1 : parseMethodDescriptor "()V" = some ⟨[], none⟩ := by decide +kernel
theorem pf1 : plainFor m1.1 = true := by first | exact plainFor_of_name (by first | (simp [m1, x, plainName, overriddenIn]; done) | decide +kernel) | decide +kernel
theorem pd3 : parseMethodDescriptor "()Z" = some ⟨[], some .boolean⟩ := by decide +kernel
theorem pf3 : plainFor m3.1 = true := by first | exact plainFor_of_name (by first | (simp [m3, x, plainName, overriddenIn]; done) | decide +kernel) | decide +kernel
theorem pd4 : parseMethodDescriptor "(Lcom/example/makespan/makespan/Ranks;[I[IZ)Z" = some ⟨[(.object "com/example/makespan/makespan/Ranks"), (.array .int), (.array .int), .boolean], some .boolean⟩ := by decide +kernel
theorem pf4 : plainFor m4.1 = true := by first | exact plainFor_of_name (by first | (simp [m4, x, plainName, overriddenIn]; done) | decide +kernel) | decide +kernel
theorem pd5 : parseMethodDescriptor "(I)V" = some ⟨[.int], none⟩ := by decide +kernel
theorem pf5 : plainFor m5.1 = true := by first | exact plainFor_of_name (by first | (simp [m5, x, plainName, overriddenIn]; done) | decide +kernel) | decide +kernel
theorem pd6 : parseMethodDescriptor "()I" = some ⟨[], some .int⟩ := by decide +kernel
theorem pf6 : plainFor m6.1 = true := by first | exact plainFor_of_name (by first | (simp [m6, x, plainName, overriddenIn]; done) | decide +kernel) | decide +kernel
theorem pd7 : parseMethodDescriptor "()Z" = some ⟨[], some .boolean⟩ := by decide +kernel
theorem pf7 : plainFor m7.1 = true := by first | exact plainFor_of_name (by first | (simp [m7, x, plainName, overriddenIn]; done) | decide +kernel) | decide +kernel
theorem pd8 : parseMethodDescriptor "(I)V" = some ⟨[.int], none⟩ := by decide +kernel
theorem pf8 : plainFor m8.1 = true := by first | exact plainFor_of_name (by first | (simp [m8, x, plainName, overriddenIn]; done) | decide +kernel) | decide +kernel
theorem pd9 : parseMethodDescriptor "(I)V" = some ⟨[.int], none⟩ := by decide +kernel
theorem pf9 : plainFor m9.1 = true := by first | exact plainFor_of_name (by first | (simp [m9, x, plainName, overriddenIn]; done) | decide +kernel) | decide +kernel
theorem i0_0 : decode m0.2.1 0 = .ok (.iload_n 0, 1) ∧ 0 + 1 = 1 := ⟨by decide +kernel, rfl⟩
theorem i0_1 : decode m0.2.1 1 = .ok (.iload_n 1, 1) ∧ 1 + 1 = 2 := ⟨by decide +kernel, rfl⟩
theorem i0_2 : decode m0.2.1 2 = .ok (.if_icmp .eq 13, 3) ∧ 2 + 3 = 5 ∧ 0 ≤ ((2 : Nat) : Int) + 13 ∧ (((2 : Nat) : Int) + 13).toNat = 15 := ⟨by decide +kernel, rfl, by decide, by decide⟩
theorem i0_5 : decode m0.2.1 5 = .ok (.iload_n 1, 1) ∧ 5 + 1 = 6 := ⟨by decide +kernel, rfl⟩
theorem i0_6 : decode m0.2.1 6 = .ok (.iload_n 2, 1) ∧ 6 + 1 = 7 := ⟨by decide +kernel, rfl⟩
theorem i0_7 : decode m0.2.1 7 = .ok (.if_icmp .eq 8, 3) ∧ 7 + 3 = 10 ∧ 0 ≤ ((7 : Nat) : Int) + 8 ∧ (((7 : Nat) : Int) + 8).toNat = 15 := ⟨by decide +kernel, rfl, by decide, by decide⟩
theorem i0_10 : decode m0.2.1 10 = .ok (.iload_n 0, 1) ∧ 10 + 1 = 11 := ⟨by decide +kernel, rfl⟩
theorem i0_11 : decode m0.2.1 11 = .ok (.iload_n 2, 1) ∧ 11 + 1 = 12 := ⟨by decide +kernel, rfl⟩
theorem i0_12 : decode m0.2.1 12 = .ok (.if_icmp .ne 5, 3) ∧ 12 + 3 = 15 ∧ 0 ≤ ((12 : Nat) : Int) + 5 ∧ (((12 : Nat) : Int) + 5).toNat = 17 := ⟨by decide +kernel, rfl, by decide, by decide⟩
theorem i0_15 : decode m0.2.1 15 = .ok (.iconst 1, 1) ∧ 15 + 1 = 16 ∧ Int32.ofInt 1 = 1 := ⟨by decide +kernel, rfl, by decide⟩
theorem i0_16 : decode m0.2.1 16 = .ok (.ireturn, 1) := by decide +kernel
theorem i0_17 : decode m0.2.1 17 = .ok (.iconst 3, 1) ∧ 17 + 1 = 18 ∧ Int32.ofInt 3 = 3 := ⟨by decide +kernel, rfl, by decide⟩
theorem i0_18 : decode m0.2.1 18 = .ok (.newarray .int, 2) ∧ 18 + 2 = 20 := ⟨by decide +kernel, rfl⟩
theorem i0_20 : decode m0.2.1 20 = .ok (.dup, 1) ∧ 20 + 1 = 21 := ⟨by decide +kernel, rfl⟩
theorem i0_21 : decode m0.2.1 21 = .ok (.iconst 0, 1) ∧ 21 + 1 = 22 ∧ Int32.ofInt 0 = 0 := ⟨by decide +kernel, rfl, by decide⟩
theorem i0_22 : decode m0.2.1 22 = .ok (.iload_n 0, 1) ∧ 22 + 1 = 23 := ⟨by decide +kernel, rfl⟩
theorem i0_23 : decode m0.2.1 23 = .ok (.iastore, 1) ∧ 23 + 1 = 24 := ⟨by decide +kernel, rfl⟩
theorem i0_24 : decode m0.2.1 24 = .ok (.dup, 1) ∧ 24 + 1 = 25 := ⟨by decide +kernel, rfl⟩
theorem i0_25 : decode m0.2.1 25 = .ok (.iconst 1, 1) ∧ 25 + 1 = 26 ∧ Int32.ofInt 1 = 1 := ⟨by decide +kernel, rfl, by decide⟩
theorem i0_26 : decode m0.2.1 26 = .ok (.iload_n 1, 1) ∧ 26 + 1 = 27 := ⟨by decide +kernel, rfl⟩
theorem i0_27 : decode m0.2.1 27 = .ok (.iastore, 1) ∧ 27 + 1 = 28 := ⟨by decide +kernel, rfl⟩
theorem i0_28 : decode m0.2.1 28 = .ok (.dup, 1) ∧ 28 + 1 = 29 := ⟨by decide +kernel, rfl⟩
theorem i0_29 : decode m0.2.1 29 = .ok (.iconst 2, 1) ∧ 29 + 1 = 30 ∧ Int32.ofInt 2 = 2 := ⟨by decide +kernel, rfl, by decide⟩
theorem i0_30 : decode m0.2.1 30 = .ok (.iload_n 2, 1) ∧ 30 + 1 = 31 := ⟨by decide +kernel, rfl⟩
theorem i0_31 : decode m0.2.1 31 = .ok (.iastore, 1) ∧ 31 + 1 = 32 := ⟨by decide +kernel, rfl⟩
theorem i0_32 : decode m0.2.1 32 = .ok (.astore 4, 2) ∧ 32 + 2 = 34 := ⟨by decide +kernel, rfl⟩
theorem i0_34 : decode m0.2.1 34 = .ok (.iconst 2, 1) ∧ 34 + 1 = 35 ∧ Int32.ofInt 2 = 2 := ⟨by decide +kernel, rfl, by decide⟩
theorem i0_35 : decode m0.2.1 35 = .ok (.newarray .int, 2) ∧ 35 + 2 = 37 := ⟨by decide +kernel, rfl⟩
theorem i0_37 : decode m0.2.1 37 = .ok (.dup, 1) ∧ 37 + 1 = 38 := ⟨by decide +kernel, rfl⟩
theorem i0_38 : decode m0.2.1 38 = .ok (.iconst 0, 1) ∧ 38 + 1 = 39 ∧ Int32.ofInt 0 = 0 := ⟨by decide +kernel, rfl, by decide⟩
theorem i0_39 : decode m0.2.1 39 = .ok (.iconst 0, 1) ∧ 39 + 1 = 40 ∧ Int32.ofInt 0 = 0 := ⟨by decide +kernel, rfl, by decide⟩
theorem i0_40 : decode m0.2.1 40 = .ok (.iastore, 1) ∧ 40 + 1 = 41 := ⟨by decide +kernel, rfl⟩
theorem i0_41 : decode m0.2.1 41 = .ok (.dup, 1) ∧ 41 + 1 = 42 := ⟨by decide +kernel, rfl⟩
theorem i0_42 : decode m0.2.1 42 = .ok (.iconst 1, 1) ∧ 42 + 1 = 43 ∧ Int32.ofInt 1 = 1 := ⟨by decide +kernel, rfl, by decide⟩
theorem i0_43 : decode m0.2.1 43 = .ok (.iconst 0, 1) ∧ 43 + 1 = 44 ∧ Int32.ofInt 0 = 0 := ⟨by decide +kernel, rfl, by decide⟩
theorem i0_44 : decode m0.2.1 44 = .ok (.iastore, 1) ∧ 44 + 1 = 45 := ⟨by decide +kernel, rfl⟩
theorem i0_45 : decode m0.2.1 45 = .ok (.astore 5, 2) ∧ 45 + 2 = 47 := ⟨by decide +kernel, rfl⟩
theorem i0_47 : decode m0.2.1 47 = .ok (.new 8, 3) ∧ 47 + 3 = 50 := ⟨by decide +kernel, rfl⟩
theorem i0_50 : decode m0.2.1 50 = .ok (.dup, 1) ∧ 50 + 1 = 51 := ⟨by decide +kernel, rfl⟩
theorem i0_51 : decode m0.2.1 51 = .ok (.invokespecial 21, 3) ∧ 51 + 3 = 54 := ⟨by decide +kernel, rfl⟩
theorem i0_54 : decode m0.2.1 54 = .ok (.astore 6, 2) ∧ 54 + 2 = 56 := ⟨by decide +kernel, rfl⟩
theorem i0_56 : decode m0.2.1 56 = .ok (.aload 6, 2) ∧ 56 + 2 = 58 := ⟨by decide +kernel, rfl⟩
theorem i0_58 : decode m0.2.1 58 = .ok (.invokevirtual 17, 3) ∧ 58 + 3 = 61 := ⟨by decide +kernel, rfl⟩
theorem i0_61 : decode m0.2.1 61 = .ok (.istore 7, 2) ∧ 61 + 2 = 63 := ⟨by decide +kernel, rfl⟩
theorem i0_63 : decode m0.2.1 63 = .ok (.aload 6, 2) ∧ 63 + 2 = 65 := ⟨by decide +kernel, rfl⟩
theorem i0_65 : decode m0.2.1 65 = .ok (.aload 5, 2) ∧ 65 + 2 = 67 := ⟨by decide +kernel, rfl⟩
theorem i0_67 : decode m0.2.1 67 = .ok (.aload 4, 2) ∧ 67 + 2 = 69 := ⟨by decide +kernel, rfl⟩
theorem i0_69 : decode m0.2.1 69 = .ok (.iload_n 3, 1) ∧ 69 + 1 = 70 := ⟨by decide +kernel, rfl⟩
theorem i0_70 : decode m0.2.1 70 = .ok (.iconst 1, 1) ∧ 70 + 1 = 71 ∧ Int32.ofInt 1 = 1 := ⟨by decide +kernel, rfl, by decide⟩
theorem i0_71 : decode m0.2.1 71 = .ok (.iand, 1) ∧ 71 + 1 = 72 := ⟨by decide +kernel, rfl⟩
theorem i0_72 : decode m0.2.1 72 = .ok (.ifCond .eq 7, 3) ∧ 72 + 3 = 75 ∧ 0 ≤ ((72 : Nat) : Int) + 7 ∧ (((72 : Nat) : Int) + 7).toNat = 79 := ⟨by decide +kernel, rfl, by decide, by decide⟩
theorem i0_75 : decode m0.2.1 75 = .ok (.iconst 1, 1) ∧ 75 + 1 = 76 ∧ Int32.ofInt 1 = 1 := ⟨by decide +kernel, rfl, by decide⟩
theorem i0_76 : decode m0.2.1 76 = .ok (.goto 4, 3) ∧ 76 + 3 = 79 ∧ 0 ≤ ((76 : Nat) : Int) + 4 ∧ (((76 : Nat) : Int) + 4).toNat = 80 := ⟨by decide +kernel, rfl, by decide, by decide⟩
theorem i0_79 : decode m0.2.1 79 = .ok (.iconst 0, 1) ∧ 79 + 1 = 80 ∧ Int32.ofInt 0 = 0 := ⟨by decide +kernel, rfl, by decide⟩
theorem i0_80 : decode m0.2.1 80 = .ok (.invokestatic 22, 3) ∧ 80 + 3 = 83 := ⟨by decide +kernel, rfl⟩
theorem i0_83 : decode m0.2.1 83 = .ok (.ifCond .eq 12, 3) ∧ 83 + 3 = 86 ∧ 0 ≤ ((83 : Nat) : Int) + 12 ∧ (((83 : Nat) : Int) + 12).toNat = 95 := ⟨by decide +kernel, rfl, by decide, by decide⟩
theorem i0_86 : decode m0.2.1 86 = .ok (.iload 7, 2) ∧ 86 + 2 = 88 := ⟨by decide +kernel, rfl⟩
theorem i0_88 : decode m0.2.1 88 = .ok (.ifCond .eq 7, 3) ∧ 88 + 3 = 91 ∧ 0 ≤ ((88 : Nat) : Int) + 7 ∧ (((88 : Nat) : Int) + 7).toNat = 95 := ⟨by decide +kernel, rfl, by decide, by decide⟩
theorem i0_91 : decode m0.2.1 91 = .ok (.iconst 1, 1) ∧ 91 + 1 = 92 ∧ Int32.ofInt 1 = 1 := ⟨by decide +kernel, rfl, by decide⟩
theorem i0_92 : decode m0.2.1 92 = .ok (.goto 4, 3) ∧ 92 + 3 = 95 ∧ 0 ≤ ((92 : Nat) : Int) + 4 ∧ (((92 : Nat) : Int) + 4).toNat = 96 := ⟨by decide +kernel, rfl, by decide, by decide⟩
theorem i0_95 : decode m0.2.1 95 = .ok (.iconst 0, 1) ∧ 95 + 1 = 96 ∧ Int32.ofInt 0 = 0 := ⟨by decide +kernel, rfl, by decide⟩
theorem i0_96 : decode m0.2.1 96 = .ok (.istore 7, 2) ∧ 96 + 2 = 98 := ⟨by decide +kernel, rfl⟩
theorem i0_98 : decode m0.2.1 98 = .ok (.aload 6, 2) ∧ 98 + 2 = 100 := ⟨by decide +kernel, rfl⟩
theorem i0_100 : decode m0.2.1 100 = .ok (.aload 5, 2) ∧ 100 + 2 = 102 := ⟨by decide +kernel, rfl⟩
theorem i0_102 : decode m0.2.1 102 = .ok (.aload 4, 2) ∧ 102 + 2 = 104 := ⟨by decide +kernel, rfl⟩
theorem i0_104 : decode m0.2.1 104 = .ok (.iload_n 3, 1) ∧ 104 + 1 = 105 := ⟨by decide +kernel, rfl⟩
theorem i0_105 : decode m0.2.1 105 = .ok (.iconst 2, 1) ∧ 105 + 1 = 106 ∧ Int32.ofInt 2 = 2 := ⟨by decide +kernel, rfl, by decide⟩
theorem i0_106 : decode m0.2.1 106 = .ok (.iand, 1) ∧ 106 + 1 = 107 := ⟨by decide +kernel, rfl⟩
theorem i0_107 : decode m0.2.1 107 = .ok (.ifCond .eq 7, 3) ∧ 107 + 3 = 110 ∧ 0 ≤ ((107 : Nat) : Int) + 7 ∧ (((107 : Nat) : Int) + 7).toNat = 114 := ⟨by decide +kernel, rfl, by decide, by decide⟩
theorem i0_110 : decode m0.2.1 110 = .ok (.iconst 1, 1) ∧ 110 + 1 = 111 ∧ Int32.ofInt 1 = 1 := ⟨by decide +kernel, rfl, by decide⟩
theorem i0_111 : decode m0.2.1 111 = .ok (.goto 4, 3) ∧ 111 + 3 = 114 ∧ 0 ≤ ((111 : Nat) : Int) + 4 ∧ (((111 : Nat) : Int) + 4).toNat = 115 := ⟨by decide +kernel, rfl, by decide, by decide⟩
theorem i0_114 : decode m0.2.1 114 = .ok (.iconst 0, 1) ∧ 114 + 1 = 115 ∧ Int32.ofInt 0 = 0 := ⟨by decide +kernel, rfl, by decide⟩
theorem i0_115 : decode m0.2.1 115 = .ok (.invokestatic 22, 3) ∧ 115 + 3 = 118 := ⟨by decide +kernel, rfl⟩
theorem i0_118 : decode m0.2.1 118 = .ok (.ifCond .eq 12, 3) ∧ 118 + 3 = 121 ∧ 0 ≤ ((118 : Nat) : Int) + 12 ∧ (((118 : Nat) : Int) + 12).toNat = 130 := ⟨by decide +kernel, rfl, by decide, by decide⟩
theorem i0_121 : decode m0.2.1 121 = .ok (.iload 7, 2) ∧ 121 + 2 = 123 := ⟨by decide +kernel, rfl⟩
theorem i0_123 : decode m0.2.1 123 = .ok (.ifCond .eq 7, 3) ∧ 123 + 3 = 126 ∧ 0 ≤ ((123 : Nat) : Int) + 7 ∧ (((123 : Nat) : Int) + 7).toNat = 130 := ⟨by decide +kernel, rfl, by decide, by decide⟩
theorem i0_126 : decode m0.2.1 126 = .ok (.iconst 1, 1) ∧ 126 + 1 = 127 ∧ Int32.ofInt 1 = 1 := ⟨by decide +kernel, rfl, by decide⟩
theorem i0_127 : decode m0.2.1 127 = .ok (.goto 4, 3) ∧ 127 + 3 = 130 ∧ 0 ≤ ((127 : Nat) : Int) + 4 ∧ (((127 : Nat) : Int) + 4).toNat = 131 := ⟨by decide +kernel, rfl, by decide, by decide⟩
theorem i0_130 : decode m0.2.1 130 = .ok (.iconst 0, 1) ∧ 130 + 1 = 131 ∧ Int32.ofInt 0 = 0 := ⟨by decide +kernel, rfl, by decide⟩
theorem i0_131 : decode m0.2.1 131 = .ok (.istore 7, 2) ∧ 131 + 2 = 133 := ⟨by decide +kernel, rfl⟩
theorem i0_133 : decode m0.2.1 133 = .ok (.aload 6, 2) ∧ 133 + 2 = 135 := ⟨by decide +kernel, rfl⟩
theorem i0_135 : decode m0.2.1 135 = .ok (.aload 5, 2) ∧ 135 + 2 = 137 := ⟨by decide +kernel, rfl⟩
theorem i0_137 : decode m0.2.1 137 = .ok (.aload 4, 2) ∧ 137 + 2 = 139 := ⟨by decide +kernel, rfl⟩
theorem i0_139 : decode m0.2.1 139 = .ok (.iload_n 3, 1) ∧ 139 + 1 = 140 := ⟨by decide +kernel, rfl⟩
theorem i0_140 : decode m0.2.1 140 = .ok (.iconst 4, 1) ∧ 140 + 1 = 141 ∧ Int32.ofInt 4 = 4 := ⟨by decide +kernel, rfl, by decide⟩
theorem i0_141 : decode m0.2.1 141 = .ok (.iand, 1) ∧ 141 + 1 = 142 := ⟨by decide +kernel, rfl⟩
theorem i0_142 : decode m0.2.1 142 = .ok (.ifCond .eq 7, 3) ∧ 142 + 3 = 145 ∧ 0 ≤ ((142 : Nat) : Int) + 7 ∧ (((142 : Nat) : Int) + 7).toNat = 149 := ⟨by decide +kernel, rfl, by decide, by decide⟩
theorem i0_145 : decode m0.2.1 145 = .ok (.iconst 1, 1) ∧ 145 + 1 = 146 ∧ Int32.ofInt 1 = 1 := ⟨by decide +kernel, rfl, by decide⟩
theorem i0_146 : decode m0.2.1 146 = .ok (.goto 4, 3) ∧ 146 + 3 = 149 ∧ 0 ≤ ((146 : Nat) : Int) + 4 ∧ (((146 : Nat) : Int) + 4).toNat = 150 := ⟨by decide +kernel, rfl, by decide, by decide⟩
theorem i0_149 : decode m0.2.1 149 = .ok (.iconst 0, 1) ∧ 149 + 1 = 150 ∧ Int32.ofInt 0 = 0 := ⟨by decide +kernel, rfl, by decide⟩
theorem i0_150 : decode m0.2.1 150 = .ok (.invokestatic 22, 3) ∧ 150 + 3 = 153 := ⟨by decide +kernel, rfl⟩
theorem i0_153 : decode m0.2.1 153 = .ok (.ifCond .eq 12, 3) ∧ 153 + 3 = 156 ∧ 0 ≤ ((153 : Nat) : Int) + 12 ∧ (((153 : Nat) : Int) + 12).toNat = 165 := ⟨by decide +kernel, rfl, by decide, by decide⟩
theorem i0_156 : decode m0.2.1 156 = .ok (.iload 7, 2) ∧ 156 + 2 = 158 := ⟨by decide +kernel, rfl⟩
theorem i0_158 : decode m0.2.1 158 = .ok (.ifCond .eq 7, 3) ∧ 158 + 3 = 161 ∧ 0 ≤ ((158 : Nat) : Int) + 7 ∧ (((158 : Nat) : Int) + 7).toNat = 165 := ⟨by decide +kernel, rfl, by decide, by decide⟩
theorem i0_161 : decode m0.2.1 161 = .ok (.iconst 1, 1) ∧ 161 + 1 = 162 ∧ Int32.ofInt 1 = 1 := ⟨by decide +kernel, rfl, by decide⟩
theorem i0_162 : decode m0.2.1 162 = .ok (.goto 4, 3) ∧ 162 + 3 = 165 ∧ 0 ≤ ((162 : Nat) : Int) + 4 ∧ (((162 : Nat) : Int) + 4).toNat = 166 := ⟨by decide +kernel, rfl, by decide, by decide⟩
theorem i0_165 : decode m0.2.1 165 = .ok (.iconst 0, 1) ∧ 165 + 1 = 166 ∧ Int32.ofInt 0 = 0 := ⟨by decide +kernel, rfl, by decide⟩
theorem i0_166 : decode m0.2.1 166 = .ok (.istore 7, 2) ∧ 166 + 2 = 168 := ⟨by decide +kernel, rfl⟩
theorem i0_168 : decode m0.2.1 168 = .ok (.aload 6, 2) ∧ 168 + 2 = 170 := ⟨by decide +kernel, rfl⟩
theorem i0_170 : decode m0.2.1 170 = .ok (.aload 5, 2) ∧ 170 + 2 = 172 := ⟨by decide +kernel, rfl⟩
theorem i0_172 : decode m0.2.1 172 = .ok (.aload 4, 2) ∧ 172 + 2 = 174 := ⟨by decide +kernel, rfl⟩
theorem i0_174 : decode m0.2.1 174 = .ok (.iload_n 3, 1) ∧ 174 + 1 = 175 := ⟨by decide +kernel, rfl⟩
theorem i0_175 : decode m0.2.1 175 = .ok (.bipush 8, 2) ∧ 175 + 2 = 177 ∧ (Int8.ofInt 8).toInt32 = 8 := ⟨by decide +kernel, rfl, by decide⟩
theorem i0_177 : decode m0.2.1 177 = .ok (.iand, 1) ∧ 177 + 1 = 178 := ⟨by decide +kernel, rfl⟩
theorem i0_178 : decode m0.2.1 178 = .ok (.ifCond .eq 7, 3) ∧ 178 + 3 = 181 ∧ 0 ≤ ((178 : Nat) : Int) + 7 ∧ (((178 : Nat) : Int) + 7).toNat = 185 := ⟨by decide +kernel, rfl, by decide, by decide⟩
theorem i0_181 : decode m0.2.1 181 = .ok (.iconst 1, 1) ∧ 181 + 1 = 182 ∧ Int32.ofInt 1 = 1 := ⟨by decide +kernel, rfl, by decide⟩
theorem i0_182 : decode m0.2.1 182 = .ok (.goto 4, 3) ∧ 182 + 3 = 185 ∧ 0 ≤ ((182 : Nat) : Int) + 4 ∧ (((182 : Nat) : Int) + 4).toNat = 186 := ⟨by decide +kernel, rfl, by decide, by decide⟩
theorem i0_185 : decode m0.2.1 185 = .ok (.iconst 0, 1) ∧ 185 + 1 = 186 ∧ Int32.ofInt 0 = 0 := ⟨by decide +kernel, rfl, by decide⟩
theorem i0_186 : decode m0.2.1 186 = .ok (.invokestatic 22, 3) ∧ 186 + 3 = 189 := ⟨by decide +kernel, rfl⟩
theorem i0_189 : decode m0.2.1 189 = .ok (.ifCond .eq 12, 3) ∧ 189 + 3 = 192 ∧ 0 ≤ ((189 : Nat) : Int) + 12 ∧ (((189 : Nat) : Int) + 12).toNat = 201 := ⟨by decide +kernel, rfl, by decide, by decide⟩
theorem i0_192 : decode m0.2.1 192 = .ok (.iload 7, 2) ∧ 192 + 2 = 194 := ⟨by decide +kernel, rfl⟩
theorem i0_194 : decode m0.2.1 194 = .ok (.ifCond .eq 7, 3) ∧ 194 + 3 = 197 ∧ 0 ≤ ((194 : Nat) : Int) + 7 ∧ (((194 : Nat) : Int) + 7).toNat = 201 := ⟨by decide +kernel, rfl, by decide, by decide⟩
theorem i0_197 : decode m0.2.1 197 = .ok (.iconst 1, 1) ∧ 197 + 1 = 198 ∧ Int32.ofInt 1 = 1 := ⟨by decide +kernel, rfl, by decide⟩
theorem i0_198 : decode m0.2.1 198 = .ok (.goto 4, 3) ∧ 198 + 3 = 201 ∧ 0 ≤ ((198 : Nat) : Int) + 4 ∧ (((198 : Nat) : Int) + 4).toNat = 202 := ⟨by decide +kernel, rfl, by decide, by decide⟩
theorem i0_201 : decode m0.2.1 201 = .ok (.iconst 0, 1) ∧ 201 + 1 = 202 ∧ Int32.ofInt 0 = 0 := ⟨by decide +kernel, rfl, by decide⟩
theorem i0_202 : decode m0.2.1 202 = .ok (.istore 7, 2) ∧ 202 + 2 = 204 := ⟨by decide +kernel, rfl⟩
theorem i0_204 : decode m0.2.1 204 = .ok (.iload 7, 2) ∧ 204 + 2 = 206 := ⟨by decide +kernel, rfl⟩
theorem i0_206 : decode m0.2.1 206 = .ok (.ireturn, 1) := by decide +kernel
theorem i1_0 : decode m1.2.1 0 = .ok (.aload_n 0, 1) ∧ 0 + 1 = 1 := ⟨by decide +kernel, rfl⟩
theorem i1_1 : decode m1.2.1 1 = .ok (.invokespecial 1, 3) ∧ 1 + 3 = 4 := ⟨by decide +kernel, rfl⟩
theorem i1_4 : decode m1.2.1 4 = .ok (.aload_n 0, 1) ∧ 4 + 1 = 5 := ⟨by decide +kernel, rfl⟩
theorem i1_5 : decode m1.2.1 5 = .ok (.bipush 16, 2) ∧ 5 + 2 = 7 ∧ (Int8.ofInt 16).toInt32 = 16 := ⟨by decide +kernel, rfl, by decide⟩
theorem i1_7 : decode m1.2.1 7 = .ok (.newarray .int, 2) ∧ 7 + 2 = 9 := ⟨by decide +kernel, rfl⟩
theorem i1_9 : decode m1.2.1 9 = .ok (.putfield 7, 3) ∧ 9 + 3 = 12 := ⟨by decide +kernel, rfl⟩
theorem i1_12 : decode m1.2.1 12 = .ok (.aload_n 0, 1) ∧ 12 + 1 = 13 := ⟨by decide +kernel, rfl⟩
theorem i1_13 : decode m1.2.1 13 = .ok (.bipush 16, 2) ∧ 13 + 2 = 15 ∧ (Int8.ofInt 16).toInt32 = 16 := ⟨by decide +kernel, rfl, by decide⟩
theorem i1_15 : decode m1.2.1 15 = .ok (.newarray .int, 2) ∧ 15 + 2 = 17 := ⟨by decide +kernel, rfl⟩
theorem i1_17 : decode m1.2.1 17 = .ok (.putfield 13, 3) ∧ 17 + 3 = 20 := ⟨by decide +kernel, rfl⟩
theorem i1_20 : decode m1.2.1 20 = .ok (.return_, 1) := by decide +kernel
theorem i3_0 : decode m3.2.1 0 = .ok (.aload_n 0, 1) ∧ 0 + 1 = 1 := ⟨by decide +kernel, rfl⟩
theorem i3_1 : decode m3.2.1 1 = .ok (.getfield 16, 3) ∧ 1 + 3 = 4 := ⟨by decide +kernel, rfl⟩
theorem i3_4 : decode m3.2.1 4 = .ok (.ifCond .ne 14, 3) ∧ 4 + 3 = 7 ∧ 0 ≤ ((4 : Nat) : Int) + 14 ∧ (((4 : Nat) : Int) + 14).toNat = 18 := ⟨by decide +kernel, rfl, by decide, by decide⟩
theorem i3_7 : decode m3.2.1 7 = .ok (.aload_n 0, 1) ∧ 7 + 1 = 8 := ⟨by decide +kernel, rfl⟩
theorem i3_8 : decode m3.2.1 8 = .ok (.getfield 20, 3) ∧ 8 + 3 = 11 := ⟨by decide +kernel, rfl⟩
theorem i3_11 : decode m3.2.1 11 = .ok (.ifCond .ne 7, 3) ∧ 11 + 3 = 14 ∧ 0 ≤ ((11 : Nat) : Int) + 7 ∧ (((11 : Nat) : Int) + 7).toNat = 18 := ⟨by decide +kernel, rfl, by decide, by decide⟩
theorem i3_14 : decode m3.2.1 14 = .ok (.iconst 1, 1) ∧ 14 + 1 = 15 ∧ Int32.ofInt 1 = 1 := ⟨by decide +kernel, rfl, by decide⟩
theorem i3_15 : decode m3.2.1 15 = .ok (.goto 4, 3) ∧ 15 + 3 = 18 ∧ 0 ≤ ((15 : Nat) : Int) + 4 ∧ (((15 : Nat) : Int) + 4).toNat = 19 := ⟨by decide +kernel, rfl, by decide, by decide⟩
theorem i3_18 : decode m3.2.1 18 = .ok (.iconst 0, 1) ∧ 18 + 1 = 19 ∧ Int32.ofInt 0 = 0 := ⟨by decide +kernel, rfl, by decide⟩
theorem i3_19 : decode m3.2.1 19 = .ok (.ireturn, 1) := by decide +kernel
theorem i4_0 : decode m4.2.1 0 = .ok (.iload_n 3, 1) ∧ 0 + 1 = 1 := ⟨by decide +kernel, rfl⟩
theorem i4_1 : decode m4.2.1 1 = .ok (.ifCond .eq 38, 3) ∧ 1 + 3 = 4 ∧ 0 ≤ ((1 : Nat) : Int) + 38 ∧ (((1 : Nat) : Int) + 38).toNat = 39 := ⟨by decide +kernel, rfl, by decide, by decide⟩
theorem i4_4 : decode m4.2.1 4 = .ok (.aload_n 1, 1) ∧ 4 + 1 = 5 := ⟨by decide +kernel, rfl⟩
theorem i4_5 : decode m4.2.1 5 = .ok (.iconst 1, 1) ∧ 5 + 1 = 6 ∧ Int32.ofInt 1 = 1 := ⟨by decide +kernel, rfl, by decide⟩
theorem i4_6 : decode m4.2.1 6 = .ok (.iaload, 1) ∧ 6 + 1 = 7 := ⟨by decide +kernel, rfl⟩
theorem i4_7 : decode m4.2.1 7 = .ok (.iconst 3, 1) ∧ 7 + 1 = 8 ∧ Int32.ofInt 3 = 3 := ⟨by decide +kernel, rfl, by decide⟩
theorem i4_8 : decode m4.2.1 8 = .ok (.if_icmp .ge 31, 3) ∧ 8 + 3 = 11 ∧ 0 ≤ ((8 : Nat) : Int) + 31 ∧ (((8 : Nat) : Int) + 31).toNat = 39 := ⟨by decide +kernel, rfl, by decide, by decide⟩
theorem i4_11 : decode m4.2.1 11 = .ok (.aload_n 0, 1) ∧ 11 + 1 = 12 := ⟨by decide +kernel, rfl⟩
theorem i4_12 : decode m4.2.1 12 = .ok (.aload_n 2, 1) ∧ 12 + 1 = 13 := ⟨by decide +kernel, rfl⟩
theorem i4_13 : decode m4.2.1 13 = .ok (.aload_n 1, 1) ∧ 13 + 1 = 14 := ⟨by decide +kernel, rfl⟩
theorem i4_14 : decode m4.2.1 14 = .ok (.iconst 1, 1) ∧ 14 + 1 = 15 ∧ Int32.ofInt 1 = 1 := ⟨by decide +kernel, rfl, by decide⟩
theorem i4_15 : decode m4.2.1 15 = .ok (.iaload, 1) ∧ 15 + 1 = 16 := ⟨by decide +kernel, rfl⟩
theorem i4_16 : decode m4.2.1 16 = .ok (.iaload, 1) ∧ 16 + 1 = 17 := ⟨by decide +kernel, rfl⟩
theorem i4_17 : decode m4.2.1 17 = .ok (.invokevirtual 7, 3) ∧ 17 + 3 = 20 := ⟨by decide +kernel, rfl⟩
theorem i4_20 : decode m4.2.1 20 = .ok (.aload_n 1, 1) ∧ 20 + 1 = 21 := ⟨by decide +kernel, rfl⟩
theorem i4_21 : decode m4.2.1 21 = .ok (.iconst 1, 1) ∧ 21 + 1 = 22 ∧ Int32.ofInt 1 = 1 := ⟨by decide +kernel, rfl, by decide⟩
theorem i4_22 : decode m4.2.1 22 = .ok (.aload_n 1, 1) ∧ 22 + 1 = 23 := ⟨by decide +kernel, rfl⟩
theorem i4_23 : decode m4.2.1 23 = .ok (.iconst 1, 1) ∧ 23 + 1 = 24 ∧ Int32.ofInt 1 = 1 := ⟨by decide +kernel, rfl, by decide⟩
theorem i4_24 : decode m4.2.1 24 = .ok (.iaload, 1) ∧ 24 + 1 = 25 := ⟨by decide +kernel, rfl⟩
theorem i4_25 : decode m4.2.1 25 = .ok (.iconst 1, 1) ∧ 25 + 1 = 26 ∧ Int32.ofInt 1 = 1 := ⟨by decide +kernel, rfl, by decide⟩
theorem i4_26 : decode m4.2.1 26 = .ok (.iadd, 1) ∧ 26 + 1 = 27 := ⟨by decide +kernel, rfl⟩
theorem i4_27 : decode m4.2.1 27 = .ok (.iastore, 1) ∧ 27 + 1 = 28 := ⟨by decide +kernel, rfl⟩
theorem i4_28 : decode m4.2.1 28 = .ok (.aload_n 1, 1) ∧ 28 + 1 = 29 := ⟨by decide +kernel, rfl⟩
theorem i4_29 : decode m4.2.1 29 = .ok (.iconst 0, 1) ∧ 29 + 1 = 30 ∧ Int32.ofInt 0 = 0 := ⟨by decide +kernel, rfl, by decide⟩
theorem i4_30 : decode m4.2.1 30 = .ok (.aload_n 1, 1) ∧ 30 + 1 = 31 := ⟨by decide +kernel, rfl⟩
theorem i4_31 : decode m4.2.1 31 = .ok (.iconst 0, 1) ∧ 31 + 1 = 32 ∧ Int32.ofInt 0 = 0 := ⟨by decide +kernel, rfl, by decide⟩
theorem i4_32 : decode m4.2.1 32 = .ok (.iaload, 1) ∧ 32 + 1 = 33 := ⟨by decide +kernel, rfl⟩
theorem i4_33 : decode m4.2.1 33 = .ok (.iconst 1, 1) ∧ 33 + 1 = 34 ∧ Int32.ofInt 1 = 1 := ⟨by decide +kernel, rfl, by decide⟩
theorem i4_34 : decode m4.2.1 34 = .ok (.iadd, 1) ∧ 34 + 1 = 35 := ⟨by decide +kernel, rfl⟩
theorem i4_35 : decode m4.2.1 35 = .ok (.iastore, 1) ∧ 35 + 1 = 36 := ⟨by decide +kernel, rfl⟩
theorem i4_36 : decode m4.2.1 36 = .ok (.goto 22, 3) ∧ 36 + 3 = 39 ∧ 0 ≤ ((36 : Nat) : Int) + 22 ∧ (((36 : Nat) : Int) + 22).toNat = 58 := ⟨by decide +kernel, rfl, by decide, by decide⟩
theorem i4_39 : decode m4.2.1 39 = .ok (.aload_n 1, 1) ∧ 39 + 1 = 40 := ⟨by decide +kernel, rfl⟩
theorem i4_40 : decode m4.2.1 40 = .ok (.iconst 0, 1) ∧ 40 + 1 = 41 ∧ Int32.ofInt 0 = 0 := ⟨by decide +kernel, rfl, by decide⟩
theorem i4_41 : decode m4.2.1 41 = .ok (.iaload, 1) ∧ 41 + 1 = 42 := ⟨by decide +kernel, rfl⟩
theorem i4_42 : decode m4.2.1 42 = .ok (.ifCond .le 16, 3) ∧ 42 + 3 = 45 ∧ 0 ≤ ((42 : Nat) : Int) + 16 ∧ (((42 : Nat) : Int) + 16).toNat = 58 := ⟨by decide +kernel, rfl, by decide, by decide⟩
theorem i4_45 : decode m4.2.1 45 = .ok (.aload_n 0, 1) ∧ 45 + 1 = 46 := ⟨by decide +kernel, rfl⟩
theorem i4_46 : decode m4.2.1 46 = .ok (.invokevirtual 13, 3) ∧ 46 + 3 = 49 := ⟨by decide +kernel, rfl⟩
theorem i4_49 : decode m4.2.1 49 = .ok (.pop, 1) ∧ 49 + 1 = 50 := ⟨by decide +kernel, rfl⟩
theorem i4_50 : decode m4.2.1 50 = .ok (.aload_n 1, 1) ∧ 50 + 1 = 51 := ⟨by decide +kernel, rfl⟩
theorem i4_51 : decode m4.2.1 51 = .ok (.iconst 0, 1) ∧ 51 + 1 = 52 ∧ Int32.ofInt 0 = 0 := ⟨by decide +kernel, rfl, by decide⟩
theorem i4_52 : decode m4.2.1 52 = .ok (.aload_n 1, 1) ∧ 52 + 1 = 53 := ⟨by decide +kernel, rfl⟩
theorem i4_53 : decode m4.2.1 53 = .ok (.iconst 0, 1) ∧ 53 + 1 = 54 ∧ Int32.ofInt 0 = 0 := ⟨by decide +kernel, rfl, by decide⟩
theorem i4_54 : decode m4.2.1 54 = .ok (.iaload, 1) ∧ 54 + 1 = 55 := ⟨by decide +kernel, rfl⟩
theorem i4_55 : decode m4.2.1 55 = .ok (.iconst 1, 1) ∧ 55 + 1 = 56 ∧ Int32.ofInt 1 = 1 := ⟨by decide +kernel, rfl, by decide⟩
theorem i4_56 : decode m4.2.1 56 = .ok (.isub, 1) ∧ 56 + 1 = 57 := ⟨by decide +kernel, rfl⟩
theorem i4_57 : decode m4.2.1 57 = .ok (.iastore, 1) ∧ 57 + 1 = 58 := ⟨by decide +kernel, rfl⟩
theorem i4_58 : decode m4.2.1 58 = .ok (.aload_n 0, 1) ∧ 58 + 1 = 59 := ⟨by decide +kernel, rfl⟩
theorem i4_59 : decode m4.2.1 59 = .ok (.invokevirtual 17, 3) ∧ 59 + 3 = 62 := ⟨by decide +kernel, rfl⟩
theorem i4_62 : decode m4.2.1 62 = .ok (.aload_n 1, 1) ∧ 62 + 1 = 63 := ⟨by decide +kernel, rfl⟩
theorem i4_63 : decode m4.2.1 63 = .ok (.iconst 0, 1) ∧ 63 + 1 = 64 ∧ Int32.ofInt 0 = 0 := ⟨by decide +kernel, rfl, by decide⟩
theorem i4_64 : decode m4.2.1 64 = .ok (.iaload, 1) ∧ 64 + 1 = 65 := ⟨by decide +kernel, rfl⟩
theorem i4_65 : decode m4.2.1 65 = .ok (.ifCond .ne 7, 3) ∧ 65 + 3 = 68 ∧ 0 ≤ ((65 : Nat) : Int) + 7 ∧ (((65 : Nat) : Int) + 7).toNat = 72 := ⟨by decide +kernel, rfl, by decide, by decide⟩
theorem i4_68 : decode m4.2.1 68 = .ok (.iconst 1, 1) ∧ 68 + 1 = 69 ∧ Int32.ofInt 1 = 1 := ⟨by decide +kernel, rfl, by decide⟩
theorem i4_69 : decode m4.2.1 69 = .ok (.goto 4, 3) ∧ 69 + 3 = 72 ∧ 0 ≤ ((69 : Nat) : Int) + 4 ∧ (((69 : Nat) : Int) + 4).toNat = 73 := ⟨by decide +kernel, rfl, by decide, by decide⟩
theorem i4_72 : decode m4.2.1 72 = .ok (.iconst 0, 1) ∧ 72 + 1 = 73 ∧ Int32.ofInt 0 = 0 := ⟨by decide +kernel, rfl, by decide⟩
theorem i4_73 : decode m4.2.1 73 = .ok (.if_icmp .ne 7, 3) ∧ 73 + 3 = 76 ∧ 0 ≤ ((73 : Nat) : Int) + 7 ∧ (((73 : Nat) : Int) + 7).toNat = 80 := ⟨by decide +kernel, rfl, by decide, by decide⟩
theorem i4_76 : decode m4.2.1 76 = .ok (.iconst 1, 1) ∧ 76 + 1 = 77 ∧ Int32.ofInt 1 = 1 := ⟨by decide +kernel, rfl, by decide⟩
theorem i4_77 : decode m4.2.1 77 = .ok (.goto 4, 3) ∧ 77 + 3 = 80 ∧ 0 ≤ ((77 : Nat) : Int) + 4 ∧ (((77 : Nat) : Int) + 4).toNat = 81 := ⟨by decide +kernel, rfl, by decide, by decide⟩
theorem i4_80 : decode m4.2.1 80 = .ok (.iconst 0, 1) ∧ 80 + 1 = 81 ∧ Int32.ofInt 0 = 0 := ⟨by decide +kernel, rfl, by decide⟩
theorem i4_81 : decode m4.2.1 81 = .ok (.ireturn, 1) := by decide +kernel
theorem i5_0 : decode m5.2.1 0 = .ok (.aload_n 0, 1) ∧ 0 + 1 = 1 := ⟨by decide +kernel, rfl⟩
theorem i5_1 : decode m5.2.1 1 = .ok (.getfield 16, 3) ∧ 1 + 3 = 4 := ⟨by decide +kernel, rfl⟩
theorem i5_4 : decode m5.2.1 4 = .ok (.ifCond .eq 31, 3) ∧ 4 + 3 = 7 ∧ 0 ≤ ((4 : Nat) : Int) + 31 ∧ (((4 : Nat) : Int) + 31).toNat = 35 := ⟨by decide +kernel, rfl, by decide, by decide⟩
theorem i5_7 : decode m5.2.1 7 = .ok (.iload_n 1, 1) ∧ 7 + 1 = 8 := ⟨by decide +kernel, rfl⟩
theorem i5_8 : decode m5.2.1 8 = .ok (.aload_n 0, 1) ∧ 8 + 1 = 9 := ⟨by decide +kernel, rfl⟩
theorem i5_9 : decode m5.2.1 9 = .ok (.getfield 7, 3) ∧ 9 + 3 = 12 := ⟨by decide +kernel, rfl⟩
theorem i5_12 : decode m5.2.1 12 = .ok (.aload_n 0, 1) ∧ 12 + 1 = 13 := ⟨by decide +kernel, rfl⟩
theorem i5_13 : decode m5.2.1 13 = .ok (.getfield 27, 3) ∧ 13 + 3 = 16 := ⟨by decide +kernel, rfl⟩
theorem i5_16 : decode m5.2.1 16 = .ok (.aload_n 0, 1) ∧ 16 + 1 = 17 := ⟨by decide +kernel, rfl⟩
theorem i5_17 : decode m5.2.1 17 = .ok (.getfield 16, 3) ∧ 17 + 3 = 20 := ⟨by decide +kernel, rfl⟩
theorem i5_20 : decode m5.2.1 20 = .ok (.iadd, 1) ∧ 20 + 1 = 21 := ⟨by decide +kernel, rfl⟩
theorem i5_21 : decode m5.2.1 21 = .ok (.iconst 1, 1) ∧ 21 + 1 = 22 ∧ Int32.ofInt 1 = 1 := ⟨by decide +kernel, rfl, by decide⟩
theorem i5_22 : decode m5.2.1 22 = .ok (.isub, 1) ∧ 22 + 1 = 23 := ⟨by decide +kernel, rfl⟩
theorem i5_23 : decode m5.2.1 23 = .ok (.aload_n 0, 1) ∧ 23 + 1 = 24 := ⟨by decide +kernel, rfl⟩
theorem i5_24 : decode m5.2.1 24 = .ok (.getfield 7, 3) ∧ 24 + 3 = 27 := ⟨by decide +kernel, rfl⟩
theorem i5_27 : decode m5.2.1 27 = .ok (.arraylength, 1) ∧ 27 + 1 = 28 := ⟨by decide +kernel, rfl⟩
theorem i5_28 : decode m5.2.1 28 = .ok (.iconst 1, 1) ∧ 28 + 1 = 29 ∧ Int32.ofInt 1 = 1 := ⟨by decide +kernel, rfl, by decide⟩
theorem i5_29 : decode m5.2.1 29 = .ok (.isub, 1) ∧ 29 + 1 = 30 := ⟨by decide +kernel, rfl⟩
theorem i5_30 : decode m5.2.1 30 = .ok (.iand, 1) ∧ 30 + 1 = 31 := ⟨by decide +kernel, rfl⟩
theorem i5_31 : decode m5.2.1 31 = .ok (.iaload, 1) ∧ 31 + 1 = 32 := ⟨by decide +kernel, rfl⟩
theorem i5_32 : decode m5.2.1 32 = .ok (.if_icmp .le 55, 3) ∧ 32 + 3 = 35 ∧ 0 ≤ ((32 : Nat) : Int) + 55 ∧ (((32 : Nat) : Int) + 55).toNat = 87 := ⟨by decide +kernel, rfl, by decide, by decide⟩
theorem i5_35 : decode m5.2.1 35 = .ok (.aload_n 0, 1) ∧ 35 + 1 = 36 := ⟨by decide +kernel, rfl⟩
theorem i5_36 : decode m5.2.1 36 = .ok (.getfield 16, 3) ∧ 36 + 3 = 39 := ⟨by decide +kernel, rfl⟩
theorem i5_39 : decode m5.2.1 39 = .ok (.aload_n 0, 1) ∧ 39 + 1 = 40 := ⟨by decide +kernel, rfl⟩
theorem i5_40 : decode m5.2.1 40 = .ok (.getfield 7, 3) ∧ 40 + 3 = 43 := ⟨by decide +kernel, rfl⟩
theorem i5_43 : decode m5.2.1 43 = .ok (.arraylength, 1) ∧ 43 + 1 = 44 := ⟨by decide +kernel, rfl⟩
theorem i5_44 : decode m5.2.1 44 = .ok (.if_icmp .ne 7, 3) ∧ 44 + 3 = 47 ∧ 0 ≤ ((44 : Nat) : Int) + 7 ∧ (((44 : Nat) : Int) + 7).toNat = 51 := ⟨by decide +kernel, rfl, by decide, by decide⟩
theorem i5_47 : decode m5.2.1 47 = .ok (.aload_n 0, 1) ∧ 47 + 1 = 48 := ⟨by decide +kernel, rfl⟩
theorem i5_48 : decode m5.2.1 48 = .ok (.invokevirtual 34, 3) ∧ 48 + 3 = 51 := ⟨by decide +kernel, rfl⟩
theorem i5_51 : decode m5.2.1 51 = .ok (.aload_n 0, 1) ∧ 51 + 1 = 52 := ⟨by decide +kernel, rfl⟩
theorem i5_52 : decode m5.2.1 52 = .ok (.getfield 7, 3) ∧ 52 + 3 = 55 := ⟨by decide +kernel, rfl⟩
theorem i5_55 : decode m5.2.1 55 = .ok (.aload_n 0, 1) ∧ 55 + 1 = 56 := ⟨by decide +kernel, rfl⟩
theorem i5_56 : decode m5.2.1 56 = .ok (.getfield 27, 3) ∧ 56 + 3 = 59 := ⟨by decide +kernel, rfl⟩
theorem i5_59 : decode m5.2.1 59 = .ok (.aload_n 0, 1) ∧ 59 + 1 = 60 := ⟨by decide +kernel, rfl⟩
theorem i5_60 : decode m5.2.1 60 = .ok (.getfield 16, 3) ∧ 60 + 3 = 63 := ⟨by decide +kernel, rfl⟩
theorem i5_63 : decode m5.2.1 63 = .ok (.iadd, 1) ∧ 63 + 1 = 64 := ⟨by decide +kernel, rfl⟩
theorem i5_64 : decode m5.2.1 64 = .ok (.aload_n 0, 1) ∧ 64 + 1 = 65 := ⟨by decide +kernel, rfl⟩
theorem i5_65 : decode m5.2.1 65 = .ok (.getfield 7, 3) ∧ 65 + 3 = 68 := ⟨by decide +kernel, rfl⟩
theorem i5_68 : decode m5.2.1 68 = .ok (.arraylength, 1) ∧ 68 + 1 = 69 := ⟨by decide +kernel, rfl⟩
theorem i5_69 : decode m5.2.1 69 = .ok (.iconst 1, 1) ∧ 69 + 1 = 70 ∧ Int32.ofInt 1 = 1 := ⟨by decide +kernel, rfl, by decide⟩
theorem i5_70 : decode m5.2.1 70 = .ok (.isub, 1) ∧ 70 + 1 = 71 := ⟨by decide +kernel, rfl⟩
theorem i5_71 : decode m5.2.1 71 = .ok (.iand, 1) ∧ 71 + 1 = 72 := ⟨by decide +kernel, rfl⟩
theorem i5_72 : decode m5.2.1 72 = .ok (.iload_n 1, 1) ∧ 72 + 1 = 73 := ⟨by decide +kernel, rfl⟩
theorem i5_73 : decode m5.2.1 73 = .ok (.iastore, 1) ∧ 73 + 1 = 74 := ⟨by decide +kernel, rfl⟩
theorem i5_74 : decode m5.2.1 74 = .ok (.aload_n 0, 1) ∧ 74 + 1 = 75 := ⟨by decide +kernel, rfl⟩
theorem i5_75 : decode m5.2.1 75 = .ok (.dup, 1) ∧ 75 + 1 = 76 := ⟨by decide +kernel, rfl⟩
theorem i5_76 : decode m5.2.1 76 = .ok (.getfield 16, 3) ∧ 76 + 3 = 79 := ⟨by decide +kernel, rfl⟩
theorem i5_79 : decode m5.2.1 79 = .ok (.iconst 1, 1) ∧ 79 + 1 = 80 ∧ Int32.ofInt 1 = 1 := ⟨by decide +kernel, rfl, by decide⟩
theorem i5_80 : decode m5.2.1 80 = .ok (.iadd, 1) ∧ 80 + 1 = 81 := ⟨by decide +kernel, rfl⟩
theorem i5_81 : decode m5.2.1 81 = .ok (.putfield 16, 3) ∧ 81 + 3 = 84 := ⟨by decide +kernel, rfl⟩
theorem i5_84 : decode m5.2.1 84 = .ok (.goto 37, 3) ∧ 84 + 3 = 87 ∧ 0 ≤ ((84 : Nat) : Int) + 37 ∧ (((84 : Nat) : Int) + 37).toNat = 121 := ⟨by decide +kernel, rfl, by decide, by decide⟩
theorem i5_87 : decode m5.2.1 87 = .ok (.aload_n 0, 1) ∧ 87 + 1 = 88 := ⟨by decide +kernel, rfl⟩
theorem i5_88 : decode m5.2.1 88 = .ok (.getfield 20, 3) ∧ 88 + 3 = 91 := ⟨by decide +kernel, rfl⟩
theorem i5_91 : decode m5.2.1 91 = .ok (.aload_n 0, 1) ∧ 91 + 1 = 92 := ⟨by decide +kernel, rfl⟩
theorem i5_92 : decode m5.2.1 92 = .ok (.getfield 13, 3) ∧ 92 + 3 = 95 := ⟨by decide +kernel, rfl⟩
theorem i5_95 : decode m5.2.1 95 = .ok (.arraylength, 1) ∧ 95 + 1 = 96 := ⟨by decide +kernel, rfl⟩
theorem i5_96 : decode m5.2.1 96 = .ok (.if_icmp .ne 20, 3) ∧ 96 + 3 = 99 ∧ 0 ≤ ((96 : Nat) : Int) + 20 ∧ (((96 : Nat) : Int) + 20).toNat = 116 := ⟨by decide +kernel, rfl, by decide, by decide⟩
theorem i5_99 : decode m5.2.1 99 = .ok (.aload_n 0, 1) ∧ 99 + 1 = 100 := ⟨by decide +kernel, rfl⟩
theorem i5_100 : decode m5.2.1 100 = .ok (.aload_n 0, 1) ∧ 100 + 1 = 101 := ⟨by decide +kernel, rfl⟩
theorem i5_101 : decode m5.2.1 101 = .ok (.getfield 13, 3) ∧ 101 + 3 = 104 := ⟨by decide +kernel, rfl⟩
theorem i5_104 : decode m5.2.1 104 = .ok (.iconst 2, 1) ∧ 104 + 1 = 105 ∧ Int32.ofInt 2 = 2 := ⟨by decide +kernel, rfl, by decide⟩
theorem i5_105 : decode m5.2.1 105 = .ok (.aload_n 0, 1) ∧ 105 + 1 = 106 := ⟨by decide +kernel, rfl⟩
theorem i5_106 : decode m5.2.1 106 = .ok (.getfield 20, 3) ∧ 106 + 3 = 109 := ⟨by decide +kernel, rfl⟩
theorem i5_109 : decode m5.2.1 109 = .ok (.imul, 1) ∧ 109 + 1 = 110 := ⟨by decide +kernel, rfl⟩
theorem i5_110 : decode m5.2.1 110 = .ok (.invokestatic 37, 3) ∧ 110 + 3 = 113 := ⟨by decide +kernel, rfl⟩
theorem i5_113 : decode m5.2.1 113 = .ok (.putfield 13, 3) ∧ 113 + 3 = 116 := ⟨by decide +kernel, rfl⟩
theorem i5_116 : decode m5.2.1 116 = .ok (.aload_n 0, 1) ∧ 116 + 1 = 117 := ⟨by decide +kernel, rfl⟩
theorem i5_117 : decode m5.2.1 117 = .ok (.iload_n 1, 1) ∧ 117 + 1 = 118 := ⟨by decide +kernel, rfl⟩
theorem i5_118 : decode m5.2.1 118 = .ok (.invokevirtual 43, 3) ∧ 118 + 3 = 121 := ⟨by decide +kernel, rfl⟩
theorem i5_121 : decode m5.2.1 121 = .ok (.return_, 1) := by decide +kernel
theorem i6_0 : decode m6.2.1 0 = .ok (.aload_n 0, 1) ∧ 0 + 1 = 1 := ⟨by decide +kernel, rfl⟩
theorem i6_1 : decode m6.2.1 1 = .ok (.invokevirtual 23, 3) ∧ 1 + 3 = 4 := ⟨by decide +kernel, rfl⟩
theorem i6_4 : decode m6.2.1 4 = .ok (.ifCond .eq 44, 3) ∧ 4 + 3 = 7 ∧ 0 ≤ ((4 : Nat) : Int) + 44 ∧ (((4 : Nat) : Int) + 44).toNat = 48 := ⟨by decide +kernel, rfl, by decide, by decide⟩
theorem i6_7 : decode m6.2.1 7 = .ok (.aload_n 0, 1) ∧ 7 + 1 = 8 := ⟨by decide +kernel, rfl⟩
theorem i6_8 : decode m6.2.1 8 = .ok (.getfield 7, 3) ∧ 8 + 3 = 11 := ⟨by decide +kernel, rfl⟩
theorem i6_11 : decode m6.2.1 11 = .ok (.aload_n 0, 1) ∧ 11 + 1 = 12 := ⟨by decide +kernel, rfl⟩
theorem i6_12 : decode m6.2.1 12 = .ok (.getfield 27, 3) ∧ 12 + 3 = 15 := ⟨by decide +kernel, rfl⟩
theorem i6_15 : decode m6.2.1 15 = .ok (.iaload, 1) ∧ 15 + 1 = 16 := ⟨by decide +kernel, rfl⟩
theorem i6_16 : decode m6.2.1 16 = .ok (.istore_n 1, 1) ∧ 16 + 1 = 17 := ⟨by decide +kernel, rfl⟩
theorem i6_17 : decode m6.2.1 17 = .ok (.aload_n 0, 1) ∧ 17 + 1 = 18 := ⟨by decide +kernel, rfl⟩
theorem i6_18 : decode m6.2.1 18 = .ok (.aload_n 0, 1) ∧ 18 + 1 = 19 := ⟨by decide +kernel, rfl⟩
theorem i6_19 : decode m6.2.1 19 = .ok (.getfield 27, 3) ∧ 19 + 3 = 22 := ⟨by decide +kernel, rfl⟩
theorem i6_22 : decode m6.2.1 22 = .ok (.iconst 1, 1) ∧ 22 + 1 = 23 ∧ Int32.ofInt 1 = 1 := ⟨by decide +kernel, rfl, by decide⟩
theorem i6_23 : decode m6.2.1 23 = .ok (.iadd, 1) ∧ 23 + 1 = 24 := ⟨by decide +kernel, rfl⟩
theorem i6_24 : decode m6.2.1 24 = .ok (.aload_n 0, 1) ∧ 24 + 1 = 25 := ⟨by decide +kernel, rfl⟩
theorem i6_25 : decode m6.2.1 25 = .ok (.getfield 7, 3) ∧ 25 + 3 = 28 := ⟨by decide +kernel, rfl⟩
theorem i6_28 : decode m6.2.1 28 = .ok (.arraylength, 1) ∧ 28 + 1 = 29 := ⟨by decide +kernel, rfl⟩
theorem i6_29 : decode m6.2.1 29 = .ok (.iconst 1, 1) ∧ 29 + 1 = 30 ∧ Int32.ofInt 1 = 1 := ⟨by decide +kernel, rfl, by decide⟩
theorem i6_30 : decode m6.2.1 30 = .ok (.isub, 1) ∧ 30 + 1 = 31 := ⟨by decide +kernel, rfl⟩
theorem i6_31 : decode m6.2.1 31 = .ok (.iand, 1) ∧ 31 + 1 = 32 := ⟨by decide +kernel, rfl⟩
theorem i6_32 : decode m6.2.1 32 = .ok (.putfield 27, 3) ∧ 32 + 3 = 35 := ⟨by decide +kernel, rfl⟩
theorem i6_35 : decode m6.2.1 35 = .ok (.aload_n 0, 1) ∧ 35 + 1 = 36 := ⟨by decide +kernel, rfl⟩
theorem i6_36 : decode m6.2.1 36 = .ok (.dup, 1) ∧ 36 + 1 = 37 := ⟨by decide +kernel, rfl⟩
theorem i6_37 : decode m6.2.1 37 = .ok (.getfield 16, 3) ∧ 37 + 3 = 40 := ⟨by decide +kernel, rfl⟩
theorem i6_40 : decode m6.2.1 40 = .ok (.iconst 1, 1) ∧ 40 + 1 = 41 ∧ Int32.ofInt 1 = 1 := ⟨by decide +kernel, rfl, by decide⟩
theorem i6_41 : decode m6.2.1 41 = .ok (.isub, 1) ∧ 41 + 1 = 42 := ⟨by decide +kernel, rfl⟩
theorem i6_42 : decode m6.2.1 42 = .ok (.putfield 16, 3) ∧ 42 + 3 = 45 := ⟨by decide +kernel, rfl⟩
theorem i6_45 : decode m6.2.1 45 = .ok (.goto 30, 3) ∧ 45 + 3 = 48 ∧ 0 ≤ ((45 : Nat) : Int) + 30 ∧ (((45 : Nat) : Int) + 30).toNat = 75 := ⟨by decide +kernel, rfl, by decide, by decide⟩
theorem i6_48 : decode m6.2.1 48 = .ok (.aload_n 0, 1) ∧ 48 + 1 = 49 := ⟨by decide +kernel, rfl⟩
theorem i6_49 : decode m6.2.1 49 = .ok (.getfield 13, 3) ∧ 49 + 3 = 52 := ⟨by decide +kernel, rfl⟩
theorem i6_52 : decode m6.2.1 52 = .ok (.iconst 0, 1) ∧ 52 + 1 = 53 ∧ Int32.ofInt 0 = 0 := ⟨by decide +kernel, rfl, by decide⟩
theorem i6_53 : decode m6.2.1 53 = .ok (.iaload, 1) ∧ 53 + 1 = 54 := ⟨by decide +kernel, rfl⟩
theorem i6_54 : decode m6.2.1 54 = .ok (.istore_n 1, 1) ∧ 54 + 1 = 55 := ⟨by decide +kernel, rfl⟩
theorem i6_55 : decode m6.2.1 55 = .ok (.aload_n 0, 1) ∧ 55 + 1 = 56 := ⟨by decide +kernel, rfl⟩
theorem i6_56 : decode m6.2.1 56 = .ok (.aload_n 0, 1) ∧ 56 + 1 = 57 := ⟨by decide +kernel, rfl⟩
theorem i6_57 : decode m6.2.1 57 = .ok (.getfield 13, 3) ∧ 57 + 3 = 60 := ⟨by decide +kernel, rfl⟩
theorem i6_60 : decode m6.2.1 60 = .ok (.aload_n 0, 1) ∧ 60 + 1 = 61 := ⟨by decide +kernel, rfl⟩
theorem i6_61 : decode m6.2.1 61 = .ok (.dup, 1) ∧ 61 + 1 = 62 := ⟨by decide +kernel, rfl⟩
theorem i6_62 : decode m6.2.1 62 = .ok (.getfield 20, 3) ∧ 62 + 3 = 65 := ⟨by decide +kernel, rfl⟩
theorem i6_65 : decode m6.2.1 65 = .ok (.iconst 1, 1) ∧ 65 + 1 = 66 ∧ Int32.ofInt 1 = 1 := ⟨by decide +kernel, rfl, by decide⟩
theorem i6_66 : decode m6.2.1 66 = .ok (.isub, 1) ∧ 66 + 1 = 67 := ⟨by decide +kernel, rfl⟩
theorem i6_67 : decode m6.2.1 67 = .ok (.dup_x1, 1) ∧ 67 + 1 = 68 := ⟨by decide +kernel, rfl⟩
theorem i6_68 : decode m6.2.1 68 = .ok (.putfield 20, 3) ∧ 68 + 3 = 71 := ⟨by decide +kernel, rfl⟩
theorem i6_71 : decode m6.2.1 71 = .ok (.iaload, 1) ∧ 71 + 1 = 72 := ⟨by decide +kernel, rfl⟩
theorem i6_72 : decode m6.2.1 72 = .ok (.invokevirtual 30, 3) ∧ 72 + 3 = 75 := ⟨by decide +kernel, rfl⟩
theorem i6_75 : decode m6.2.1 75 = .ok (.iload_n 1, 1) ∧ 75 + 1 = 76 := ⟨by decide +kernel, rfl⟩
theorem i6_76 : decode m6.2.1 76 = .ok (.ireturn, 1) := by decide +kernel
theorem i7_0 : decode m7.2.1 0 = .ok (.aload_n 0, 1) ∧ 0 + 1 = 1 := ⟨by decide +kernel, rfl⟩
theorem i7_1 : decode m7.2.1 1 = .ok (.getfield 20, 3) ∧ 1 + 3 = 4 := ⟨by decide +kernel, rfl⟩
theorem i7_4 : decode m7.2.1 4 = .ok (.ifCond .eq 28, 3) ∧ 4 + 3 = 7 ∧ 0 ≤ ((4 : Nat) : Int) + 28 ∧ (((4 : Nat) : Int) + 28).toNat = 32 := ⟨by decide +kernel, rfl, by decide, by decide⟩
theorem i7_7 : decode m7.2.1 7 = .ok (.aload_n 0, 1) ∧ 7 + 1 = 8 := ⟨by decide +kernel, rfl⟩
theorem i7_8 : decode m7.2.1 8 = .ok (.getfield 16, 3) ∧ 8 + 3 = 11 := ⟨by decide +kernel, rfl⟩
theorem i7_11 : decode m7.2.1 11 = .ok (.ifCond .le 25, 3) ∧ 11 + 3 = 14 ∧ 0 ≤ ((11 : Nat) : Int) + 25 ∧ (((11 : Nat) : Int) + 25).toNat = 36 := ⟨by decide +kernel, rfl, by decide, by decide⟩
theorem i7_14 : decode m7.2.1 14 = .ok (.aload_n 0, 1) ∧ 14 + 1 = 15 := ⟨by decide +kernel, rfl⟩
theorem i7_15 : decode m7.2.1 15 = .ok (.getfield 7, 3) ∧ 15 + 3 = 18 := ⟨by decide +kernel, rfl⟩
theorem i7_18 : decode m7.2.1 18 = .ok (.aload_n 0, 1) ∧ 18 + 1 = 19 := ⟨by decide +kernel, rfl⟩
theorem i7_19 : decode m7.2.1 19 = .ok (.getfield 27, 3) ∧ 19 + 3 = 22 := ⟨by decide +kernel, rfl⟩
theorem i7_22 : decode m7.2.1 22 = .ok (.iaload, 1) ∧ 22 + 1 = 23 := ⟨by decide +kernel, rfl⟩
theorem i7_23 : decode m7.2.1 23 = .ok (.aload_n 0, 1) ∧ 23 + 1 = 24 := ⟨by decide +kernel, rfl⟩
theorem i7_24 : decode m7.2.1 24 = .ok (.getfield 13, 3) ∧ 24 + 3 = 27 := ⟨by decide +kernel, rfl⟩
theorem i7_27 : decode m7.2.1 27 = .ok (.iconst 0, 1) ∧ 27 + 1 = 28 ∧ Int32.ofInt 0 = 0 := ⟨by decide +kernel, rfl, by decide⟩
theorem i7_28 : decode m7.2.1 28 = .ok (.iaload, 1) ∧ 28 + 1 = 29 := ⟨by decide +kernel, rfl⟩
theorem i7_29 : decode m7.2.1 29 = .ok (.if_icmp .ge 7, 3) ∧ 29 + 3 = 32 ∧ 0 ≤ ((29 : Nat) : Int) + 7 ∧ (((29 : Nat) : Int) + 7).toNat = 36 := ⟨by decide +kernel, rfl, by decide, by decide⟩
theorem i7_32 : decode m7.2.1 32 = .ok (.iconst 1, 1) ∧ 32 + 1 = 33 ∧ Int32.ofInt 1 = 1 := ⟨by decide +kernel, rfl, by decide⟩
theorem i7_33 : decode m7.2.1 33 = .ok (.goto 4, 3) ∧ 33 + 3 = 36 ∧ 0 ≤ ((33 : Nat) : Int) + 4 ∧ (((33 : Nat) : Int) + 4).toNat = 37 := ⟨by decide +kernel, rfl, by decide, by decide⟩
theorem i7_36 : decode m7.2.1 36 = .ok (.iconst 0, 1) ∧ 36 + 1 = 37 ∧ Int32.ofInt 0 = 0 := ⟨by decide +kernel, rfl, by decide⟩
theorem i7_37 : decode m7.2.1 37 = .ok (.ireturn, 1) := by decide +kernel
theorem i8_0 : decode m8.2.1 0 = .ok (.aload_n 0, 1) ∧ 0 + 1 = 1 := ⟨by decide +kernel, rfl⟩
theorem i8_1 : decode m8.2.1 1 = .ok (.dup, 1) ∧ 1 + 1 = 2 := ⟨by decide +kernel, rfl⟩
theorem i8_2 : decode m8.2.1 2 = .ok (.getfield 20, 3) ∧ 2 + 3 = 5 := ⟨by decide +kernel, rfl⟩
theorem i8_5 : decode m8.2.1 5 = .ok (.dup_x1, 1) ∧ 5 + 1 = 6 := ⟨by decide +kernel, rfl⟩
theorem i8_6 : decode m8.2.1 6 = .ok (.iconst 1, 1) ∧ 6 + 1 = 7 ∧ Int32.ofInt 1 = 1 := ⟨by decide +kernel, rfl, by decide⟩
theorem i8_7 : decode m8.2.1 7 = .ok (.iadd, 1) ∧ 7 + 1 = 8 := ⟨by decide +kernel, rfl⟩
theorem i8_8 : decode m8.2.1 8 = .ok (.putfield 20, 3) ∧ 8 + 3 = 11 := ⟨by decide +kernel, rfl⟩
theorem i8_11 : decode m8.2.1 11 = .ok (.istore_n 2, 1) ∧ 11 + 1 = 12 := ⟨by decide +kernel, rfl⟩
theorem i8_12 : decode m8.2.1 12 = .ok (.iload_n 2, 1) ∧ 12 + 1 = 13 := ⟨by decide +kernel, rfl⟩
theorem i8_13 : decode m8.2.1 13 = .ok (.ifCond .le 42, 3) ∧ 13 + 3 = 16 ∧ 0 ≤ ((13 : Nat) : Int) + 42 ∧ (((13 : Nat) : Int) + 42).toNat = 55 := ⟨by decide +kernel, rfl, by decide, by decide⟩
theorem i8_16 : decode m8.2.1 16 = .ok (.aload_n 0, 1) ∧ 16 + 1 = 17 := ⟨by decide +kernel, rfl⟩
theorem i8_17 : decode m8.2.1 17 = .ok (.getfield 13, 3) ∧ 17 + 3 = 20 := ⟨by decide +kernel, rfl⟩
theorem i8_20 : decode m8.2.1 20 = .ok (.iload_n 2, 1) ∧ 20 + 1 = 21 := ⟨by decide +kernel, rfl⟩
theorem i8_21 : decode m8.2.1 21 = .ok (.iconst 1, 1) ∧ 21 + 1 = 22 ∧ Int32.ofInt 1 = 1 := ⟨by decide +kernel, rfl, by decide⟩
theorem i8_22 : decode m8.2.1 22 = .ok (.isub, 1) ∧ 22 + 1 = 23 := ⟨by decide +kernel, rfl⟩
theorem i8_23 : decode m8.2.1 23 = .ok (.iconst 2, 1) ∧ 23 + 1 = 24 ∧ Int32.ofInt 2 = 2 := ⟨by decide +kernel, rfl, by decide⟩
theorem i8_24 : decode m8.2.1 24 = .ok (.idiv, 1) ∧ 24 + 1 = 25 := ⟨by decide +kernel, rfl⟩
theorem i8_25 : decode m8.2.1 25 = .ok (.iaload, 1) ∧ 25 + 1 = 26 := ⟨by decide +kernel, rfl⟩
theorem i8_26 : decode m8.2.1 26 = .ok (.iload_n 1, 1) ∧ 26 + 1 = 27 := ⟨by decide +kernel, rfl⟩
theorem i8_27 : decode m8.2.1 27 = .ok (.if_icmp .le 28, 3) ∧ 27 + 3 = 30 ∧ 0 ≤ ((27 : Nat) : Int) + 28 ∧ (((27 : Nat) : Int) + 28).toNat = 55 := ⟨by decide +kernel, rfl, by decide, by decide⟩
theorem i8_30 : decode m8.2.1 30 = .ok (.aload_n 0, 1) ∧ 30 + 1 = 31 := ⟨by decide +kernel, rfl⟩
theorem i8_31 : decode m8.2.1 31 = .ok (.getfield 13, 3) ∧ 31 + 3 = 34 := ⟨by decide +kernel, rfl⟩
theorem i8_34 : decode m8.2.1 34 = .ok (.iload_n 2, 1) ∧ 34 + 1 = 35 := ⟨by decide +kernel, rfl⟩
theorem i8_35 : decode m8.2.1 35 = .ok (.aload_n 0, 1) ∧ 35 + 1 = 36 := ⟨by decide +kernel, rfl⟩
theorem i8_36 : decode m8.2.1 36 = .ok (.getfield 13, 3) ∧ 36 + 3 = 39 := ⟨by decide +kernel, rfl⟩
theorem i8_39 : decode m8.2.1 39 = .ok (.iload_n 2, 1) ∧ 39 + 1 = 40 := ⟨by decide +kernel, rfl⟩
theorem i8_40 : decode m8.2.1 40 = .ok (.iconst 1, 1) ∧ 40 + 1 = 41 ∧ Int32.ofInt 1 = 1 := ⟨by decide +kernel, rfl, by decide⟩
theorem i8_41 : decode m8.2.1 41 = .ok (.isub, 1) ∧ 41 + 1 = 42 := ⟨by decide +kernel, rfl⟩
theorem i8_42 : decode m8.2.1 42 = .ok (.iconst 2, 1) ∧ 42 + 1 = 43 ∧ Int32.ofInt 2 = 2 := ⟨by decide +kernel, rfl, by decide⟩
theorem i8_43 : decode m8.2.1 43 = .ok (.idiv, 1) ∧ 43 + 1 = 44 := ⟨by decide +kernel, rfl⟩
theorem i8_44 : decode m8.2.1 44 = .ok (.iaload, 1) ∧ 44 + 1 = 45 := ⟨by decide +kernel, rfl⟩
theorem i8_45 : decode m8.2.1 45 = .ok (.iastore, 1) ∧ 45 + 1 = 46 := ⟨by decide +kernel, rfl⟩
theorem i8_46 : decode m8.2.1 46 = .ok (.iload_n 2, 1) ∧ 46 + 1 = 47 := ⟨by decide +kernel, rfl⟩
theorem i8_47 : decode m8.2.1 47 = .ok (.iconst 1, 1) ∧ 47 + 1 = 48 ∧ Int32.ofInt 1 = 1 := ⟨by decide +kernel, rfl, by decide⟩
theorem i8_48 : decode m8.2.1 48 = .ok (.isub, 1) ∧ 48 + 1 = 49 := ⟨by decide +kernel, rfl⟩
theorem i8_49 : decode m8.2.1 49 = .ok (.iconst 2, 1) ∧ 49 + 1 = 50 ∧ Int32.ofInt 2 = 2 := ⟨by decide +kernel, rfl, by decide⟩
theorem i8_50 : decode m8.2.1 50 = .ok (.idiv, 1) ∧ 50 + 1 = 51 := ⟨by decide +kernel, rfl⟩
theorem i8_51 : decode m8.2.1 51 = .ok (.istore_n 2, 1) ∧ 51 + 1 = 52 := ⟨by decide +kernel, rfl⟩
theorem i8_52 : decode m8.2.1 52 = .ok (.goto (-40), 3) ∧ 52 + 3 = 55 ∧ 0 ≤ ((52 : Nat) : Int) + (-40) ∧ (((52 : Nat) : Int) + (-40)).toNat = 12 := ⟨by decide +kernel, rfl, by decide, by decide⟩
theorem i8_55 : decode m8.2.1 55 = .ok (.aload_n 0, 1) ∧ 55 + 1 = 56 := ⟨by decide +kernel, rfl⟩
theorem i8_56 : decode m8.2.1 56 = .ok (.getfield 13, 3) ∧ 56 + 3 = 59 := ⟨by decide +kernel, rfl⟩
theorem i8_59 : decode m8.2.1 59 = .ok (.iload_n 2, 1) ∧ 59 + 1 = 60 := ⟨by decide +kernel, rfl⟩
theorem i8_60 : decode m8.2.1 60 = .ok (.iload_n 1, 1) ∧ 60 + 1 = 61 := ⟨by decide +kernel, rfl⟩
theorem i8_61 : decode m8.2.1 61 = .ok (.iastore, 1) ∧ 61 + 1 = 62 := ⟨by decide +kernel, rfl⟩
theorem i8_62 : decode m8.2.1 62 = .ok (.return_, 1) := by decide +kernel
theorem i9_0 : decode m9.2.1 0 = .ok (.iconst 0, 1) ∧ 0 + 1 = 1 ∧ Int32.ofInt 0 = 0 := ⟨by decide +kernel, rfl, by decide⟩
theorem i9_1 : decode m9.2.1 1 = .ok (.istore_n 2, 1) ∧ 1 + 1 = 2 := ⟨by decide +kernel, rfl⟩
theorem i9_2 : decode m9.2.1 2 = .ok (.iconst 1, 1) ∧ 2 + 1 = 3 ∧ Int32.ofInt 1 = 1 := ⟨by decide +kernel, rfl, by decide⟩
theorem i9_3 : decode m9.2.1 3 = .ok (.istore_n 3, 1) ∧ 3 + 1 = 4 := ⟨by decide +kernel, rfl⟩
theorem i9_4 : decode m9.2.1 4 = .ok (.iload_n 3, 1) ∧ 4 + 1 = 5 := ⟨by decide +kernel, rfl⟩
theorem i9_5 : decode m9.2.1 5 = .ok (.aload_n 0, 1) ∧ 5 + 1 = 6 := ⟨by decide +kernel, rfl⟩
theorem i9_6 : decode m9.2.1 6 = .ok (.getfield 20, 3) ∧ 6 + 3 = 9 := ⟨by decide +kernel, rfl⟩
theorem i9_9 : decode m9.2.1 9 = .ok (.if_icmp .ge 69, 3) ∧ 9 + 3 = 12 ∧ 0 ≤ ((9 : Nat) : Int) + 69 ∧ (((9 : Nat) : Int) + 69).toNat = 78 := ⟨by decide +kernel, rfl, by decide, by decide⟩
theorem i9_12 : decode m9.2.1 12 = .ok (.iload_n 3, 1) ∧ 12 + 1 = 13 := ⟨by decide +kernel, rfl⟩
theorem i9_13 : decode m9.2.1 13 = .ok (.iconst 1, 1) ∧ 13 + 1 = 14 ∧ Int32.ofInt 1 = 1 := ⟨by decide +kernel, rfl, by decide⟩
theorem i9_14 : decode m9.2.1 14 = .ok (.iadd, 1) ∧ 14 + 1 = 15 := ⟨by decide +kernel, rfl⟩
theorem i9_15 : decode m9.2.1 15 = .ok (.aload_n 0, 1) ∧ 15 + 1 = 16 := ⟨by decide +kernel, rfl⟩
theorem i9_16 : decode m9.2.1 16 = .ok (.getfield 20, 3) ∧ 16 + 3 = 19 := ⟨by decide +kernel, rfl⟩
theorem i9_19 : decode m9.2.1 19 = .ok (.if_icmp .ge 23, 3) ∧ 19 + 3 = 22 ∧ 0 ≤ ((19 : Nat) : Int) + 23 ∧ (((19 : Nat) : Int) + 23).toNat = 42 := ⟨by decide +kernel, rfl, by decide, by decide⟩
theorem i9_22 : decode m9.2.1 22 = .ok (.aload_n 0, 1) ∧ 22 + 1 = 23 := ⟨by decide +kernel, rfl⟩
theorem i9_23 : decode m9.2.1 23 = .ok (.getfield 13, 3) ∧ 23 + 3 = 26 := ⟨by decide +kernel, rfl⟩
theorem i9_26 : decode m9.2.1 26 = .ok (.iload_n 3, 1) ∧ 26 + 1 = 27 := ⟨by decide +kernel, rfl⟩
theorem i9_27 : decode m9.2.1 27 = .ok (.iconst 1, 1) ∧ 27 + 1 = 28 ∧ Int32.ofInt 1 = 1 := ⟨by decide +kernel, rfl, by decide⟩
theorem i9_28 : decode m9.2.1 28 = .ok (.iadd, 1) ∧ 28 + 1 = 29 := ⟨by decide +kernel, rfl⟩
theorem i9_29 : decode m9.2.1 29 = .ok (.iaload, 1) ∧ 29 + 1 = 30 := ⟨by decide +kernel, rfl⟩
theorem i9_30 : decode m9.2.1 30 = .ok (.aload_n 0, 1) ∧ 30 + 1 = 31 := ⟨by decide +kernel, rfl⟩
theorem i9_31 : decode m9.2.1 31 = .ok (.getfield 13, 3) ∧ 31 + 3 = 34 := ⟨by decide +kernel, rfl⟩
theorem i9_34 : decode m9.2.1 34 = .ok (.iload_n 3, 1) ∧ 34 + 1 = 35 := ⟨by decide +kernel, rfl⟩
theorem i9_35 : decode m9.2.1 35 = .ok (.iaload, 1) ∧ 35 + 1 = 36 := ⟨by decide +kernel, rfl⟩
theorem i9_36 : decode m9.2.1 36 = .ok (.if_icmp .ge 6, 3) ∧ 36 + 3 = 39 ∧ 0 ≤ ((36 : Nat) : Int) + 6 ∧ (((36 : Nat) : Int) + 6).toNat = 42 := ⟨by decide +kernel, rfl, by decide, by decide⟩
theorem i9_39 : decode m9.2.1 39 = .ok (.iinc 3 1, 3) ∧ 39 + 3 = 42 ∧ Int32.ofInt 1 = 1 := ⟨by decide +kernel, rfl, by decide⟩
theorem i9_42 : decode m9.2.1 42 = .ok (.aload_n 0, 1) ∧ 42 + 1 = 43 := ⟨by decide +kernel, rfl⟩
theorem i9_43 : decode m9.2.1 43 = .ok (.getfield 13, 3) ∧ 43 + 3 = 46 := ⟨by decide +kernel, rfl⟩
theorem i9_46 : decode m9.2.1 46 = .ok (.iload_n 3, 1) ∧ 46 + 1 = 47 := ⟨by decide +kernel, rfl⟩
theorem i9_47 : decode m9.2.1 47 = .ok (.iaload, 1) ∧ 47 + 1 = 48 := ⟨by decide +kernel, rfl⟩
theorem i9_48 : decode m9.2.1 48 = .ok (.iload_n 1, 1) ∧ 48 + 1 = 49 := ⟨by decide +kernel, rfl⟩
theorem i9_49 : decode m9.2.1 49 = .ok (.if_icmp .lt 6, 3) ∧ 49 + 3 = 52 ∧ 0 ≤ ((49 : Nat) : Int) + 6 ∧ (((49 : Nat) : Int) + 6).toNat = 55 := ⟨by decide +kernel, rfl, by decide, by decide⟩
theorem i9_52 : decode m9.2.1 52 = .ok (.goto 26, 3) ∧ 52 + 3 = 55 ∧ 0 ≤ ((52 : Nat) : Int) + 26 ∧ (((52 : Nat) : Int) + 26).toNat = 78 := ⟨by decide +kernel, rfl, by decide, by decide⟩
theorem i9_55 : decode m9.2.1 55 = .ok (.aload_n 0, 1) ∧ 55 + 1 = 56 := ⟨by decide +kernel, rfl⟩
theorem i9_56 : decode m9.2.1 56 = .ok (.getfield 13, 3) ∧ 56 + 3 = 59 := ⟨by decide +kernel, rfl⟩
theorem i9_59 : decode m9.2.1 59 = .ok (.iload_n 2, 1) ∧ 59 + 1 = 60 := ⟨by decide +kernel, rfl⟩
theorem i9_60 : decode m9.2.1 60 = .ok (.aload_n 0, 1) ∧ 60 + 1 = 61 := ⟨by decide +kernel, rfl⟩
theorem i9_61 : decode m9.2.1 61 = .ok (.getfield 13, 3) ∧ 61 + 3 = 64 := ⟨by decide +kernel, rfl⟩
theorem i9_64 : decode m9.2.1 64 = .ok (.iload_n 3, 1) ∧ 64 + 1 = 65 := ⟨by decide +kernel, rfl⟩
theorem i9_65 : decode m9.2.1 65 = .ok (.iaload, 1) ∧ 65 + 1 = 66 := ⟨by decide +kernel, rfl⟩
theorem i9_66 : decode m9.2.1 66 = .ok (.iastore, 1) ∧ 66 + 1 = 67 := ⟨by decide +kernel, rfl⟩
theorem i9_67 : decode m9.2.1 67 = .ok (.iload_n 3, 1) ∧ 67 + 1 = 68 := ⟨by decide +kernel, rfl⟩
theorem i9_68 : decode m9.2.1 68 = .ok (.istore_n 2, 1) ∧ 68 + 1 = 69 := ⟨by decide +kernel, rfl⟩
theorem i9_69 : decode m9.2.1 69 = .ok (.iconst 2, 1) ∧ 69 + 1 = 70 ∧ Int32.ofInt 2 = 2 := ⟨by decide +kernel, rfl, by decide⟩
theorem i9_70 : decode m9.2.1 70 = .ok (.iload_n 2, 1) ∧ 70 + 1 = 71 := ⟨by decide +kernel, rfl⟩
theorem i9_71 : decode m9.2.1 71 = .ok (.imul, 1) ∧ 71 + 1 = 72 := ⟨by decide +kernel, rfl⟩
theorem i9_72 : decode m9.2.1 72 = .ok (.iconst 1, 1) ∧ 72 + 1 = 73 ∧ Int32.ofInt 1 = 1 := ⟨by decide +kernel, rfl, by decide⟩
theorem i9_73 : decode m9.2.1 73 = .ok (.iadd, 1) ∧ 73 + 1 = 74 := ⟨by decide +kernel, rfl⟩
theorem i9_74 : decode m9.2.1 74 = .ok (.istore_n 3, 1) ∧ 74 + 1 = 75 := ⟨by decide +kernel, rfl⟩
theorem i9_75 : decode m9.2.1 75 = .ok (.goto (-71), 3) ∧ 75 + 3 = 78 ∧ 0 ≤ ((75 : Nat) : Int) + (-71) ∧ (((75 : Nat) : Int) + (-71)).toNat = 4 := ⟨by decide +kernel, rfl, by decide, by decide⟩
theorem i9_78 : decode m9.2.1 78 = .ok (.aload_n 0, 1) ∧ 78 + 1 = 79 := ⟨by decide +kernel, rfl⟩
theorem i9_79 : decode m9.2.1 79 = .ok (.getfield 13, 3) ∧ 79 + 3 = 82 := ⟨by decide +kernel, rfl⟩
theorem i9_82 : decode m9.2.1 82 = .ok (.iload_n 2, 1) ∧ 82 + 1 = 83 := ⟨by decide +kernel, rfl⟩
theorem i9_83 : decode m9.2.1 83 = .ok (.iload_n 1, 1) ∧ 83 + 1 = 84 := ⟨by decide +kernel, rfl⟩
theorem i9_84 : decode m9.2.1 84 = .ok (.iastore, 1) ∧ 84 + 1 = 85 := ⟨by decide +kernel, rfl⟩
theorem i9_85 : decode m9.2.1 85 = .ok (.return_, 1) := by decide +kernel
theorem s0_18 {l : Launch} {Z : State} {a0 : Array Value} {n0 : Nat} {ls : List Slot} {st : List Value} {H H' H1 : List Ob} {v : Option Value} (hw : HW Z a0) {a : Nat} {n : Int32} {o : List Value} (hn : ¬ n < 0) (h8 : n.toNatClampNeg * 8 ≤ 536870912) (ho : List.replicate n.toNatClampNeg (.int 0) = o) (ha : H.length = a) (hH : H ++ [.inr (.int, o)] = H1) (kk : Runs K l Z n0 m0 20 ls (.ref a :: st) H1 v H') : Runs K l Z n0 m0 18 ls (.int n :: st) H v H' := r_newA i0_18 (hw _ (List.mem_of_getElem? (i := 0) rfl)) hn h8 ho ha hH kk
theorem s0_35 {l : Launch} {Z : State} {a0 : Array Value} {n0 : Nat} {ls : List Slot} {st : List Value} {H H' H1 : List Ob} {v : Option Value} (hw : HW Z a0) {a : Nat} {n : Int32} {o : List Value} (hn : ¬ n < 0) (h8 : n.toNatClampNeg * 8 ≤ 536870912) (ho : List.replicate n.toNatClampNeg (.int 0) = o) (ha : H.length = a) (hH : H ++ [.inr (.int, o)] = H1) (kk : Runs K l Z n0 m0 37 ls (.ref a :: st) H1 v H') : Runs K l Z n0 m0 35 ls (.int n :: st) H v H' := r_newA i0_35 (hw _ (List.mem_of_getElem? (i := 0) rfl)) hn h8 ho ha hH kk
theorem s0_47 {l : Launch} {Z : State} {a0 : Array Value} {n0 : Nat} {ls : List Slot} {st : List Value} {H H' H1 : List Ob} {v : Option Value} (hw : HW Z a0) {a : Nat} (ha : H.length = a) (hH : H ++ [.inl (0, [.null, .null, .int 0, .int 0, .int 0])] = H1) (kk : Runs K l Z n0 m0 50 ls (.ref a :: st) H1 v H') : Runs K l Z n0 m0 47 ls st H v H' := r_new (cid := 0) (kok hw) i0_47 (hw _ (List.mem_of_getElem? (i := 1) rfl)) (hw _ (List.mem_of_getElem? (i := 3) rfl)) rfl rfl ha hH kk
theorem s0_51 {l : Launch} {Z : State} {a0 : Array Value} {n0 : Nat} {ls : List Slot} {st : List Value} {H H' H1 : List Ob} {v : Option Value} (hw : HW Z a0) {a : Nat} (M : Meets K l Z n0 m1 [.ref a] H none H1) (hls : ls.length = 8) (hlo : (st.map fun v => v.category).sum ≤ 19) (kk : Runs K l Z n0 m0 54 ls st H1 v H') : Runs K l Z n0 m0 51 ls (.ref a :: st) H v H' := r_special (mj := m1) (as := []) (rest := st) i0_51 rfl rfl (hw _ (List.mem_of_getElem? (i := 4) rfl)) (hw _ (List.mem_of_getElem? (i := 5) rfl)) (hw _ (List.mem_of_getElem? (i := 3) rfl)) (hw _ (List.mem_of_getElem? (i := 6) rfl)) (by decide) (lenOf pd1 rfl) (by decide) rfl hls (by show _ + (1 + 11) + 12 ≤ 43; omega) M kk
theorem s0_58 {l : Launch} {Z : State} {a0 : Array Value} {n0 : Nat} {ls : List Slot} {st : List Value} {H H' H1 : List Ob} {v : Option Value} (hw : HW Z a0) {a : Nat} {vs : List Value} {w : Value} (ho : H[a]? = some (.inl (0, vs))) (M : Meets K l Z n0 m3 [.ref a] H (some w) H1) (hls : ls.length = 8) (hlo : (st.map fun v => v.category).sum ≤ 31) (kk : Runs K l Z n0 m0 61 ls (w :: st) H1 v H') : Runs K l Z n0 m0 58 ls (.ref a :: st) H v H' := r_virtual (mj := m3) (cid := 0) (as := []) (rest := st) i0_58 (hw _ (List.mem_of_getElem? (i := 14) rfl)) (hw _ (List.mem_of_getElem? (i := 15) rfl)) (hw _ (List.mem_of_getElem? (i := 17) rfl)) (hw _ (List.mem_of_getElem? (i := 16) rfl)) (hw _ (List.mem_of_getElem? (i := 3) rfl)) (hw _ (List.mem_of_getElem? (i := 18) rfl)) (by decide) (lenOf pd3 rfl) (by decide) rfl rfl ho hls (by show _ + (1 + 11) + 0 ≤ 43; omega) M kk
theorem s0_80 {l : Launch} {Z : State} {a0 : Array Value} {n0 : Nat} {ls : List Slot} {st : List Value} {H H' H1 : List Ob} {v : Option Value} (hw : HW Z a0) {x0 x1 x2 x3 : Value} {w : Value} (M : Meets K l Z n0 m4 [x0, x1, x2, x3] H (some w) H1) (hls : ls.length = 8) (hlo : (st.map fun v => v.category).sum ≤ 0) (kk : Runs K l Z n0 m0 83 ls (w :: st) H1 v H') : Runs K l Z n0 m0 80 ls (x3 :: x2 :: x1 :: x0 :: st) H v H' := r_static (mj := m4) (as := [x0, x1, x2, x3]) (rest := st) i0_80 (hw _ (List.mem_of_getElem? (i := 23) rfl)) (hw _ (List.mem_of_getElem? (i := 24) rfl)) (hw _ (List.mem_of_getElem? (i := 25) rfl)) (hw _ (List.mem_of_getElem? (i := 26) rfl)) (by decide) (lenOf pd4 rfl) (by decide) rfl hls (by show _ + (4 + 11) + 28 ≤ 43; omega) M kk
theorem s0_115 {l : Launch} {Z : State} {a0 : Array Value} {n0 : Nat} {ls : List Slot} {st : List Value} {H H' H1 : List Ob} {v : Option Value} (hw : HW Z a0) {x0 x1 x2 x3 : Value} {w : Value} (M : Meets K l Z n0 m4 [x0, x1, x2, x3] H (some w) H1) (hls : ls.length = 8) (hlo : (st.map fun v => v.category).sum ≤ 0) (kk : Runs K l Z n0 m0 118 ls (w :: st) H1 v H') : Runs K l Z n0 m0 115 ls (x3 :: x2 :: x1 :: x0 :: st) H v H' := r_static (mj := m4) (as := [x0, x1, x2, x3]) (rest := st) i0_115 (hw _ (List.mem_of_getElem? (i := 23) rfl)) (hw _ (List.mem_of_getElem? (i := 24) rfl)) (hw _ (List.mem_of_getElem? (i := 25) rfl)) (hw _ (List.mem_of_getElem? (i := 26) rfl)) (by decide) (lenOf pd4 rfl) (by decide) rfl hls (by show _ + (4 + 11) + 28 ≤ 43; omega) M kk
theorem s0_150 {l : Launch} {Z : State} {a0 : Array Value} {n0 : Nat} {ls : List Slot} {st : List Value} {H H' H1 : List Ob} {v : Option Value} (hw : HW Z a0) {x0 x1 x2 x3 : Value} {w : Value} (M : Meets K l Z n0 m4 [x0, x1, x2, x3] H (some w) H1) (hls : ls.length = 8) (hlo : (st.map fun v => v.category).sum ≤ 0) (kk : Runs K l Z n0 m0 153 ls (w :: st) H1 v H') : Runs K l Z n0 m0 150 ls (x3 :: x2 :: x1 :: x0 :: st) H v H' := r_static (mj := m4) (as := [x0, x1, x2, x3]) (rest := st) i0_150 (hw _ (List.mem_of_getElem? (i := 23) rfl)) (hw _ (List.mem_of_getElem? (i := 24) rfl)) (hw _ (List.mem_of_getElem? (i := 25) rfl)) (hw _ (List.mem_of_getElem? (i := 26) rfl)) (by decide) (lenOf pd4 rfl) (by decide) rfl hls (by show _ + (4 + 11) + 28 ≤ 43; omega) M kk
theorem s0_186 {l : Launch} {Z : State} {a0 : Array Value} {n0 : Nat} {ls : List Slot} {st : List Value} {H H' H1 : List Ob} {v : Option Value} (hw : HW Z a0) {x0 x1 x2 x3 : Value} {w : Value} (M : Meets K l Z n0 m4 [x0, x1, x2, x3] H (some w) H1) (hls : ls.length = 8) (hlo : (st.map fun v => v.category).sum ≤ 0) (kk : Runs K l Z n0 m0 189 ls (w :: st) H1 v H') : Runs K l Z n0 m0 186 ls (x3 :: x2 :: x1 :: x0 :: st) H v H' := r_static (mj := m4) (as := [x0, x1, x2, x3]) (rest := st) i0_186 (hw _ (List.mem_of_getElem? (i := 23) rfl)) (hw _ (List.mem_of_getElem? (i := 24) rfl)) (hw _ (List.mem_of_getElem? (i := 25) rfl)) (hw _ (List.mem_of_getElem? (i := 26) rfl)) (by decide) (lenOf pd4 rfl) (by decide) rfl hls (by show _ + (4 + 11) + 28 ≤ 43; omega) M kk
theorem s1_1 {l : Launch} {Z : State} {a0 : Array Value} {n0 : Nat} {ls : List Slot} {st : List Value} {H H' : List Ob} {v : Option Value} (hw : HW Z a0) {a : Nat} (hls : ls.length = 1) (hlo : (st.map fun v => v.category).sum ≤ 0) (kk : Runs K l Z n0 m1 4 ls st H v H') : Runs K l Z n0 m1 1 ls (.ref a :: st) H v H' := r_initO i1_1 (hw _ (List.mem_of_getElem? (i := 7) rfl)) (hw _ (List.mem_of_getElem? (i := 8) rfl)) (hw _ (List.mem_of_getElem? (i := 9) rfl)) hls (by decide) (Nat.add_le_add_right hlo 12) kk
theorem s1_7 {l : Launch} {Z : State} {a0 : Array Value} {n0 : Nat} {ls : List Slot} {st : List Value} {H H' H1 : List Ob} {v : Option Value} (hw : HW Z a0) {a : Nat} {n : Int32} {o : List Value} (hn : ¬ n < 0) (h8 : n.toNatClampNeg * 8 ≤ 536870912) (ho : List.replicate n.toNatClampNeg (.int 0) = o) (ha : H.length = a) (hH : H ++ [.inr (.int, o)] = H1) (kk : Runs K l Z n0 m1 9 ls (.ref a :: st) H1 v H') : Runs K l Z n0 m1 7 ls (.int n :: st) H v H' := r_newA i1_7 (hw _ (List.mem_of_getElem? (i := 0) rfl)) hn h8 ho ha hH kk
theorem s1_9 {l : Launch} {Z : State} {a0 : Array Value} {n0 : Nat} {ls : List Slot} {st : List Value} {H H' H1 : List Ob} {v : Option Value} (hw : HW Z a0) {a : Nat} {f0 f1 f2 f3 f4 x : Value} (ho : H[a]? = some (.inl (0, [f0, f1, f2, f3, f4]))) (hn : narrow (.array .int) x = x) (hf : fits (.array .int) x = true) (hH : H.set a (.inl (0, [x, f1, f2, f3, f4])) = H1) (kk : Runs K l Z n0 m1 12 ls st H1 v H') : Runs K l Z n0 m1 9 ls (x :: .ref a :: st) H v H' := r_putF (cid := 0) (i := 0) (kok hw) i1_9 (hw _ (List.mem_of_getElem? (i := 10) rfl)) Via.refl rfl rfl (Or.inl (hw _ (List.mem_of_getElem? (i := 11) rfl))) ho (ltB rfl) hn hf rfl hH kk
theorem s1_15 {l : Launch} {Z : State} {a0 : Array Value} {n0 : Nat} {ls : List Slot} {st : List Value} {H H' H1 : List Ob} {v : Option Value} (hw : HW Z a0) {a : Nat} {n : Int32} {o : List Value} (hn : ¬ n < 0) (h8 : n.toNatClampNeg * 8 ≤ 536870912) (ho : List.replicate n.toNatClampNeg (.int 0) = o) (ha : H.length = a) (hH : H ++ [.inr (.int, o)] = H1) (kk : Runs K l Z n0 m1 17 ls (.ref a :: st) H1 v H') : Runs K l Z n0 m1 15 ls (.int n :: st) H v H' := r_newA i1_15 (hw _ (List.mem_of_getElem? (i := 0) rfl)) hn h8 ho ha hH kk
theorem s1_17 {l : Launch} {Z : State} {a0 : Array Value} {n0 : Nat} {ls : List Slot} {st : List Value} {H H' H1 : List Ob} {v : Option Value} (hw : HW Z a0) {a : Nat} {f0 f1 f2 f3 f4 x : Value} (ho : H[a]? = some (.inl (0, [f0, f1, f2, f3, f4]))) (hn : narrow (.array .int) x = x) (hf : fits (.array .int) x = true) (hH : H.set a (.inl (0, [f0, x, f2, f3, f4])) = H1) (kk : Runs K l Z n0 m1 20 ls st H1 v H') : Runs K l Z n0 m1 17 ls (x :: .ref a :: st) H v H' := r_putF (cid := 0) (i := 1) (kok hw) i1_17 (hw _ (List.mem_of_getElem? (i := 12) rfl)) Via.refl rfl rfl (Or.inl (hw _ (List.mem_of_getElem? (i := 13) rfl))) ho (ltB rfl) hn hf rfl hH kk
theorem s3_1 {l : Launch} {Z : State} {a0 : Array Value} {n0 : Nat} {ls : List Slot} {st : List Value} {H H' : List Ob} {v : Option Value} (hw : HW Z a0) {a : Nat} {f0 f1 f2 f3 f4 : Value} (ho : H[a]? = some (.inl (0, [f0, f1, f2, f3, f4]))) (kk : Runs K l Z n0 m3 4 ls (f2 :: st) H v H') : Runs K l Z n0 m3 1 ls (.ref a :: st) H v H' := r_getF (cid := 0) (i := 2) i3_1 (hw _ (List.mem_of_getElem? (i := 19) rfl)) Via.refl rfl rfl ho rfl kk
theorem s3_8 {l : Launch} {Z : State} {a0 : Array Value} {n0 : Nat} {ls : List Slot} {st : List Value} {H H' : List Ob} {v : Option Value} (hw : HW Z a0) {a : Nat} {f0 f1 f2 f3 f4 : Value} (ho : H[a]? = some (.inl (0, [f0, f1, f2, f3, f4]))) (kk : Runs K l Z n0 m3 11 ls (f3 :: st) H v H') : Runs K l Z n0 m3 8 ls (.ref a :: st) H v H' := r_getF (cid := 0) (i := 3) i3_8 (hw _ (List.mem_of_getElem? (i := 21) rfl)) Via.refl rfl rfl ho rfl kk
theorem s4_17 {l : Launch} {Z : State} {a0 : Array Value} {n0 : Nat} {ls : List Slot} {st : List Value} {H H' H1 : List Ob} {v : Option Value} (hw : HW Z a0) {a : Nat} {vs : List Value} {x0 : Value} (ho : H[a]? = some (.inl (0, vs))) (M : Meets K l Z n0 m5 [.ref a, x0] H none H1) (hls : ls.length = 4) (hlo : (st.map fun v => v.category).sum ≤ 1) (kk : Runs K l Z n0 m4 20 ls st H1 v H') : Runs K l Z n0 m4 17 ls (x0 :: .ref a :: st) H v H' := r_virtual (mj := m5) (cid := 0) (as := [x0]) (rest := st) i4_17 (hw _ (List.mem_of_getElem? (i := 27) rfl)) (hw _ (List.mem_of_getElem? (i := 28) rfl)) (hw _ (List.mem_of_getElem? (i := 30) rfl)) (hw _ (List.mem_of_getElem? (i := 29) rfl)) (hw _ (List.mem_of_getElem? (i := 3) rfl)) (hw _ (List.mem_of_getElem? (i := 31) rfl)) (by decide) (lenOf pd5 rfl) (by decide) rfl rfl ho hls (by show _ + (2 + 11) + 14 ≤ 28; omega) M kk
theorem s4_46 {l : Launch} {Z : State} {a0 : Array Value} {n0 : Nat} {ls : List Slot} {st : List Value} {H H' H1 : List Ob} {v : Option Value} (hw : HW Z a0) {a : Nat} {vs : List Value} {w : Value} (ho : H[a]? = some (.inl (0, vs))) (M : Meets K l Z n0 m6 [.ref a] H (some w) H1) (hls : ls.length = 4) (hlo : (st.map fun v => v.category).sum ≤ 0) (kk : Runs K l Z n0 m4 49 ls (w :: st) H1 v H') : Runs K l Z n0 m4 46 ls (.ref a :: st) H v H' := r_virtual (mj := m6) (cid := 0) (as := []) (rest := st) i4_46 (hw _ (List.mem_of_getElem? (i := 34) rfl)) (hw _ (List.mem_of_getElem? (i := 35) rfl)) (hw _ (List.mem_of_getElem? (i := 37) rfl)) (hw _ (List.mem_of_getElem? (i := 36) rfl)) (hw _ (List.mem_of_getElem? (i := 3) rfl)) (hw _ (List.mem_of_getElem? (i := 38) rfl)) (by decide) (lenOf pd6 rfl) (by decide) rfl rfl ho hls (by show _ + (2 + 11) + 15 ≤ 28; omega) M kk
theorem s4_59 {l : Launch} {Z : State} {a0 : Array Value} {n0 : Nat} {ls : List Slot} {st : List Value} {H H' H1 : List Ob} {v : Option Value} (hw : HW Z a0) {a : Nat} {vs : List Value} {w : Value} (ho : H[a]? = some (.inl (0, vs))) (M : Meets K l Z n0 m3 [.ref a] H (some w) H1) (hls : ls.length = 4) (hlo : (st.map fun v => v.category).sum ≤ 16) (kk : Runs K l Z n0 m4 62 ls (w :: st) H1 v H') : Runs K l Z n0 m4 59 ls (.ref a :: st) H v H' := r_virtual (mj := m3) (cid := 0) (as := []) (rest := st) i4_59 (hw _ (List.mem_of_getElem? (i := 14) rfl)) (hw _ (List.mem_of_getElem? (i := 15) rfl)) (hw _ (List.mem_of_getElem? (i := 17) rfl)) (hw _ (List.mem_of_getElem? (i := 16) rfl)) (hw _ (List.mem_of_getElem? (i := 3) rfl)) (hw _ (List.mem_of_getElem? (i := 18) rfl)) (by decide) (lenOf pd3 rfl) (by decide) rfl rfl ho hls (by show _ + (1 + 11) + 0 ≤ 28; omega) M kk
theorem s5_1 {l : Launch} {Z : State} {a0 : Array Value} {n0 : Nat} {ls : List Slot} {st : List Value} {H H' : List Ob} {v : Option Value} (hw : HW Z a0) {a : Nat} {f0 f1 f2 f3 f4 : Value} (ho : H[a]? = some (.inl (0, [f0, f1, f2, f3, f4]))) (kk : Runs K l Z n0 m5 4 ls (f2 :: st) H v H') : Runs K l Z n0 m5 1 ls (.ref a :: st) H v H' := r_getF (cid := 0) (i := 2) i5_1 (hw _ (List.mem_of_getElem? (i := 19) rfl)) Via.refl rfl rfl ho rfl kk
theorem s5_9 {l : Launch} {Z : State} {a0 : Array Value} {n0 : Nat} {ls : List Slot} {st : List Value} {H H' : List Ob} {v : Option Value} (hw : HW Z a0) {a : Nat} {f0 f1 f2 f3 f4 : Value} (ho : H[a]? = some (.inl (0, [f0, f1, f2, f3, f4]))) (kk : Runs K l Z n0 m5 12 ls (f0 :: st) H v H') : Runs K l Z n0 m5 9 ls (.ref a :: st) H v H' := r_getF (cid := 0) (i := 0) i5_9 (hw _ (List.mem_of_getElem? (i := 10) rfl)) Via.refl rfl rfl ho rfl kk
theorem s5_13 {l : Launch} {Z : State} {a0 : Array Value} {n0 : Nat} {ls : List Slot} {st : List Value} {H H' : List Ob} {v : Option Value} (hw : HW Z a0) {a : Nat} {f0 f1 f2 f3 f4 : Value} (ho : H[a]? = some (.inl (0, [f0, f1, f2, f3, f4]))) (kk : Runs K l Z n0 m5 16 ls (f4 :: st) H v H') : Runs K l Z n0 m5 13 ls (.ref a :: st) H v H' := r_getF (cid := 0) (i := 4) i5_13 (hw _ (List.mem_of_getElem? (i := 32) rfl)) Via.refl rfl rfl ho rfl kk
theorem s5_17 {l : Launch} {Z : State} {a0 : Array Value} {n0 : Nat} {ls : List Slot} {st : List Value} {H H' : List Ob} {v : Option Value} (hw : HW Z a0) {a : Nat} {f0 f1 f2 f3 f4 : Value} (ho : H[a]? = some (.inl (0, [f0, f1, f2, f3, f4]))) (kk : Runs K l Z n0 m5 20 ls (f2 :: st) H v H') : Runs K l Z n0 m5 17 ls (.ref a :: st) H v H' := r_getF (cid := 0) (i := 2) i5_17 (hw _ (List.mem_of_getElem? (i := 19) rfl)) Via.refl rfl rfl ho rfl kk
theorem s5_24 {l : Launch} {Z : State} {a0 : Array Value} {n0 : Nat} {ls : List Slot} {st : List Value} {H H' : List Ob} {v : Option Value} (hw : HW Z a0) {a : Nat} {f0 f1 f2 f3 f4 : Value} (ho : H[a]? = some (.inl (0, [f0, f1, f2, f3, f4]))) (kk : Runs K l Z n0 m5 27 ls (f0 :: st) H v H') : Runs K l Z n0 m5 24 ls (.ref a :: st) H v H' := r_getF (cid := 0) (i := 0) i5_24 (hw _ (List.mem_of_getElem? (i := 10) rfl)) Via.refl rfl rfl ho rfl kk
theorem s5_36 {l : Launch} {Z : State} {a0 : Array Value} {n0 : Nat} {ls : List Slot} {st : List Value} {H H' : List Ob} {v : Option Value} (hw : HW Z a0) {a : Nat} {f0 f1 f2 f3 f4 : Value} (ho : H[a]? = some (.inl (0, [f0, f1, f2, f3, f4]))) (kk : Runs K l Z n0 m5 39 ls (f2 :: st) H v H') : Runs K l Z n0 m5 36 ls (.ref a :: st) H v H' := r_getF (cid := 0) (i := 2) i5_36 (hw _ (List.mem_of_getElem? (i := 19) rfl)) Via.refl rfl rfl ho rfl kk
theorem s5_40 {l : Launch} {Z : State} {a0 : Array Value} {n0 : Nat} {ls : List Slot} {st : List Value} {H H' : List Ob} {v : Option Value} (hw : HW Z a0) {a : Nat} {f0 f1 f2 f3 f4 : Value} (ho : H[a]? = some (.inl (0, [f0, f1, f2, f3, f4]))) (kk : Runs K l Z n0 m5 43 ls (f0 :: st) H v H') : Runs K l Z n0 m5 40 ls (.ref a :: st) H v H' := r_getF (cid := 0) (i := 0) i5_40 (hw _ (List.mem_of_getElem? (i := 10) rfl)) Via.refl rfl rfl ho rfl kk
-- 5_48 .invokevirtual 34: no link word
theorem s5_52 {l : Launch} {Z : State} {a0 : Array Value} {n0 : Nat} {ls : List Slot} {st : List Value} {H H' : List Ob} {v : Option Value} (hw : HW Z a0) {a : Nat} {f0 f1 f2 f3 f4 : Value} (ho : H[a]? = some (.inl (0, [f0, f1, f2, f3, f4]))) (kk : Runs K l Z n0 m5 55 ls (f0 :: st) H v H') : Runs K l Z n0 m5 52 ls (.ref a :: st) H v H' := r_getF (cid := 0) (i := 0) i5_52 (hw _ (List.mem_of_getElem? (i := 10) rfl)) Via.refl rfl rfl ho rfl kk
theorem s5_56 {l : Launch} {Z : State} {a0 : Array Value} {n0 : Nat} {ls : List Slot} {st : List Value} {H H' : List Ob} {v : Option Value} (hw : HW Z a0) {a : Nat} {f0 f1 f2 f3 f4 : Value} (ho : H[a]? = some (.inl (0, [f0, f1, f2, f3, f4]))) (kk : Runs K l Z n0 m5 59 ls (f4 :: st) H v H') : Runs K l Z n0 m5 56 ls (.ref a :: st) H v H' := r_getF (cid := 0) (i := 4) i5_56 (hw _ (List.mem_of_getElem? (i := 32) rfl)) Via.refl rfl rfl ho rfl kk
theorem s5_60 {l : Launch} {Z : State} {a0 : Array Value} {n0 : Nat} {ls : List Slot} {st : List Value} {H H' : List Ob} {v : Option Value} (hw : HW Z a0) {a : Nat} {f0 f1 f2 f3 f4 : Value} (ho : H[a]? = some (.inl (0, [f0, f1, f2, f3, f4]))) (kk : Runs K l Z n0 m5 63 ls (f2 :: st) H v H') : Runs K l Z n0 m5 60 ls (.ref a :: st) H v H' := r_getF (cid := 0) (i := 2) i5_60 (hw _ (List.mem_of_getElem? (i := 19) rfl)) Via.refl rfl rfl ho rfl kk
theorem s5_65 {l : Launch} {Z : State} {a0 : Array Value} {n0 : Nat} {ls : List Slot} {st : List Value} {H H' : List Ob} {v : Option Value} (hw : HW Z a0) {a : Nat} {f0 f1 f2 f3 f4 : Value} (ho : H[a]? = some (.inl (0, [f0, f1, f2, f3, f4]))) (kk : Runs K l Z n0 m5 68 ls (f0 :: st) H v H') : Runs K l Z n0 m5 65 ls (.ref a :: st) H v H' := r_getF (cid := 0) (i := 0) i5_65 (hw _ (List.mem_of_getElem? (i := 10) rfl)) Via.refl rfl rfl ho rfl kk
theorem s5_76 {l : Launch} {Z : State} {a0 : Array Value} {n0 : Nat} {ls : List Slot} {st : List Value} {H H' : List Ob} {v : Option Value} (hw : HW Z a0) {a : Nat} {f0 f1 f2 f3 f4 : Value} (ho : H[a]? = some (.inl (0, [f0, f1, f2, f3, f4]))) (kk : Runs K l Z n0 m5 79 ls (f2 :: st) H v H') : Runs K l Z n0 m5 76 ls (.ref a :: st) H v H' := r_getF (cid := 0) (i := 2) i5_76 (hw _ (List.mem_of_getElem? (i := 19) rfl)) Via.refl rfl rfl ho rfl kk
theorem s5_81 {l : Launch} {Z : State} {a0 : Array Value} {n0 : Nat} {ls : List Slot} {st : List Value} {H H' H1 : List Ob} {v : Option Value} (hw : HW Z a0) {a : Nat} {f0 f1 f2 f3 f4 x : Value} (ho : H[a]? = some (.inl (0, [f0, f1, f2, f3, f4]))) (hn : narrow .int x = x) (hf : fits .int x = true) (hH : H.set a (.inl (0, [f0, f1, x, f3, f4])) = H1) (kk : Runs K l Z n0 m5 84 ls st H1 v H') : Runs K l Z n0 m5 81 ls (x :: .ref a :: st) H v H' := r_putF (cid := 0) (i := 2) (kok hw) i5_81 (hw _ (List.mem_of_getElem? (i := 19) rfl)) Via.refl rfl rfl (Or.inl (hw _ (List.mem_of_getElem? (i := 20) rfl))) ho (ltB rfl) hn hf rfl hH kk
theorem s5_88 {l : Launch} {Z : State} {a0 : Array Value} {n0 : Nat} {ls : List Slot} {st : List Value} {H H' : List Ob} {v : Option Value} (hw : HW Z a0) {a : Nat} {f0 f1 f2 f3 f4 : Value} (ho : H[a]? = some (.inl (0, [f0, f1, f2, f3, f4]))) (kk : Runs K l Z n0 m5 91 ls (f3 :: st) H v H') : Runs K l Z n0 m5 88 ls (.ref a :: st) H v H' := r_getF (cid := 0) (i := 3) i5_88 (hw _ (List.mem_of_getElem? (i := 21) rfl)) Via.refl rfl rfl ho rfl kk
theorem s5_92 {l : Launch} {Z : State} {a0 : Array Value} {n0 : Nat} {ls : List Slot} {st : List Value} {H H' : List Ob} {v : Option Value} (hw : HW Z a0) {a : Nat} {f0 f1 f2 f3 f4 : Value} (ho : H[a]? = some (.inl (0, [f0, f1, f2, f3, f4]))) (kk : Runs K l Z n0 m5 95 ls (f1 :: st) H v H') : Runs K l Z n0 m5 92 ls (.ref a :: st) H v H' := r_getF (cid := 0) (i := 1) i5_92 (hw _ (List.mem_of_getElem? (i := 12) rfl)) Via.refl rfl rfl ho rfl kk
theorem s5_101 {l : Launch} {Z : State} {a0 : Array Value} {n0 : Nat} {ls : List Slot} {st : List Value} {H H' : List Ob} {v : Option Value} (hw : HW Z a0) {a : Nat} {f0 f1 f2 f3 f4 : Value} (ho : H[a]? = some (.inl (0, [f0, f1, f2, f3, f4]))) (kk : Runs K l Z n0 m5 104 ls (f1 :: st) H v H') : Runs K l Z n0 m5 101 ls (.ref a :: st) H v H' := r_getF (cid := 0) (i := 1) i5_101 (hw _ (List.mem_of_getElem? (i := 12) rfl)) Via.refl rfl rfl ho rfl kk
theorem s5_106 {l : Launch} {Z : State} {a0 : Array Value} {n0 : Nat} {ls : List Slot} {st : List Value} {H H' : List Ob} {v : Option Value} (hw : HW Z a0) {a : Nat} {f0 f1 f2 f3 f4 : Value} (ho : H[a]? = some (.inl (0, [f0, f1, f2, f3, f4]))) (kk : Runs K l Z n0 m5 109 ls (f3 :: st) H v H') : Runs K l Z n0 m5 106 ls (.ref a :: st) H v H' := r_getF (cid := 0) (i := 3) i5_106 (hw _ (List.mem_of_getElem? (i := 21) rfl)) Via.refl rfl rfl ho rfl kk
-- 5_110 .invokestatic 37: no link word
theorem s5_113 {l : Launch} {Z : State} {a0 : Array Value} {n0 : Nat} {ls : List Slot} {st : List Value} {H H' H1 : List Ob} {v : Option Value} (hw : HW Z a0) {a : Nat} {f0 f1 f2 f3 f4 x : Value} (ho : H[a]? = some (.inl (0, [f0, f1, f2, f3, f4]))) (hn : narrow (.array .int) x = x) (hf : fits (.array .int) x = true) (hH : H.set a (.inl (0, [f0, x, f2, f3, f4])) = H1) (kk : Runs K l Z n0 m5 116 ls st H1 v H') : Runs K l Z n0 m5 113 ls (x :: .ref a :: st) H v H' := r_putF (cid := 0) (i := 1) (kok hw) i5_113 (hw _ (List.mem_of_getElem? (i := 12) rfl)) Via.refl rfl rfl (Or.inl (hw _ (List.mem_of_getElem? (i := 13) rfl))) ho (ltB rfl) hn hf rfl hH kk
theorem s5_118 {l : Launch} {Z : State} {a0 : Array Value} {n0 : Nat} {ls : List Slot} {st : List Value} {H H' H1 : List Ob} {v : Option Value} (hw : HW Z a0) {a : Nat} {vs : List Value} {x0 : Value} (ho : H[a]? = some (.inl (0, vs))) (M : Meets K l Z n0 m8 [.ref a, x0] H none H1) (hls : ls.length = 2) (hlo : (st.map fun v => v.category).sum ≤ 0) (kk : Runs K l Z n0 m5 121 ls st H1 v H') : Runs K l Z n0 m5 118 ls (x0 :: .ref a :: st) H v H' := r_private (mj := m8) (cid := 0) (as := [x0]) (rest := st) i5_118 (hw _ (List.mem_of_getElem? (i := 43) rfl)) (Jvm.Kit.selects_private (by decide) (hw _ (List.mem_of_getElem? (i := 2) rfl)) (hw _ (List.mem_of_getElem? (i := 45) rfl)) (hw _ (List.mem_of_getElem? (i := 44) rfl))) (hw _ (List.mem_of_getElem? (i := 45) rfl)) (hw _ (List.mem_of_getElem? (i := 44) rfl)) (hw _ (List.mem_of_getElem? (i := 3) rfl)) (hw _ (List.mem_of_getElem? (i := 46) rfl)) (by decide) (lenOf pd8 rfl) (by decide) rfl rfl ho hls (by show _ + (3 + 11) + 0 ≤ 14; omega) M kk
theorem s6_1 {l : Launch} {Z : State} {a0 : Array Value} {n0 : Nat} {ls : List Slot} {st : List Value} {H H' H1 : List Ob} {v : Option Value} (hw : HW Z a0) {a : Nat} {vs : List Value} {w : Value} (ho : H[a]? = some (.inl (0, vs))) (M : Meets K l Z n0 m7 [.ref a] H (some w) H1) (hls : ls.length = 2) (hlo : (st.map fun v => v.category).sum ≤ 3) (kk : Runs K l Z n0 m6 4 ls (w :: st) H1 v H') : Runs K l Z n0 m6 1 ls (.ref a :: st) H v H' := r_private (mj := m7) (cid := 0) (as := []) (rest := st) i6_1 (hw _ (List.mem_of_getElem? (i := 39) rfl)) (Jvm.Kit.selects_private (by decide) (hw _ (List.mem_of_getElem? (i := 2) rfl)) (hw _ (List.mem_of_getElem? (i := 41) rfl)) (hw _ (List.mem_of_getElem? (i := 40) rfl))) (hw _ (List.mem_of_getElem? (i := 41) rfl)) (hw _ (List.mem_of_getElem? (i := 40) rfl)) (hw _ (List.mem_of_getElem? (i := 3) rfl)) (hw _ (List.mem_of_getElem? (i := 42) rfl)) (by decide) (lenOf pd7 rfl) (by decide) rfl rfl ho hls (by show _ + (1 + 11) + 0 ≤ 15; omega) M kk
theorem s6_8 {l : Launch} {Z : State} {a0 : Array Value} {n0 : Nat} {ls : List Slot} {st : List Value} {H H' : List Ob} {v : Option Value} (hw : HW Z a0) {a : Nat} {f0 f1 f2 f3 f4 : Value} (ho : H[a]? = some (.inl (0, [f0, f1, f2, f3, f4]))) (kk : Runs K l Z n0 m6 11 ls (f0 :: st) H v H') : Runs K l Z n0 m6 8 ls (.ref a :: st) H v H' := r_getF (cid := 0) (i := 0) i6_8 (hw _ (List.mem_of_getElem? (i := 10) rfl)) Via.refl rfl rfl ho rfl kk
theorem s6_12 {l : Launch} {Z : State} {a0 : Array Value} {n0 : Nat} {ls : List Slot} {st : List Value} {H H' : List Ob} {v : Option Value} (hw : HW Z a0) {a : Nat} {f0 f1 f2 f3 f4 : Value} (ho : H[a]? = some (.inl (0, [f0, f1, f2, f3, f4]))) (kk : Runs K l Z n0 m6 15 ls (f4 :: st) H v H') : Runs K l Z n0 m6 12 ls (.ref a :: st) H v H' := r_getF (cid := 0) (i := 4) i6_12 (hw _ (List.mem_of_getElem? (i := 32) rfl)) Via.refl rfl rfl ho rfl kk
theorem s6_19 {l : Launch} {Z : State} {a0 : Array Value} {n0 : Nat} {ls : List Slot} {st : List Value} {H H' : List Ob} {v : Option Value} (hw : HW Z a0) {a : Nat} {f0 f1 f2 f3 f4 : Value} (ho : H[a]? = some (.inl (0, [f0, f1, f2, f3, f4]))) (kk : Runs K l Z n0 m6 22 ls (f4 :: st) H v H') : Runs K l Z n0 m6 19 ls (.ref a :: st) H v H' := r_getF (cid := 0) (i := 4) i6_19 (hw _ (List.mem_of_getElem? (i := 32) rfl)) Via.refl rfl rfl ho rfl kk
theorem s6_25 {l : Launch} {Z : State} {a0 : Array Value} {n0 : Nat} {ls : List Slot} {st : List Value} {H H' : List Ob} {v : Option Value} (hw : HW Z a0) {a : Nat} {f0 f1 f2 f3 f4 : Value} (ho : H[a]? = some (.inl (0, [f0, f1, f2, f3, f4]))) (kk : Runs K l Z n0 m6 28 ls (f0 :: st) H v H') : Runs K l Z n0 m6 25 ls (.ref a :: st) H v H' := r_getF (cid := 0) (i := 0) i6_25 (hw _ (List.mem_of_getElem? (i := 10) rfl)) Via.refl rfl rfl ho rfl kk
theorem s6_32 {l : Launch} {Z : State} {a0 : Array Value} {n0 : Nat} {ls : List Slot} {st : List Value} {H H' H1 : List Ob} {v : Option Value} (hw : HW Z a0) {a : Nat} {f0 f1 f2 f3 f4 x : Value} (ho : H[a]? = some (.inl (0, [f0, f1, f2, f3, f4]))) (hn : narrow .int x = x) (hf : fits .int x = true) (hH : H.set a (.inl (0, [f0, f1, f2, f3, x])) = H1) (kk : Runs K l Z n0 m6 35 ls st H1 v H') : Runs K l Z n0 m6 32 ls (x :: .ref a :: st) H v H' := r_putF (cid := 0) (i := 4) (kok hw) i6_32 (hw _ (List.mem_of_getElem? (i := 32) rfl)) Via.refl rfl rfl (Or.inl (hw _ (List.mem_of_getElem? (i := 33) rfl))) ho (ltB rfl) hn hf rfl hH kk
theorem s6_37 {l : Launch} {Z : State} {a0 : Array Value} {n0 : Nat} {ls : List Slot} {st : List Value} {H H' : List Ob} {v : Option Value} (hw : HW Z a0) {a : Nat} {f0 f1 f2 f3 f4 : Value} (ho : H[a]? = some (.inl (0, [f0, f1, f2, f3, f4]))) (kk : Runs K l Z n0 m6 40 ls (f2 :: st) H v H') : Runs K l Z n0 m6 37 ls (.ref a :: st) H v H' := r_getF (cid := 0) (i := 2) i6_37 (hw _ (List.mem_of_getElem? (i := 19) rfl)) Via.refl rfl rfl ho rfl kk
theorem s6_42 {l : Launch} {Z : State} {a0 : Array Value} {n0 : Nat} {ls : List Slot} {st : List Value} {H H' H1 : List Ob} {v : Option Value} (hw : HW Z a0) {a : Nat} {f0 f1 f2 f3 f4 x : Value} (ho : H[a]? = some (.inl (0, [f0, f1, f2, f3, f4]))) (hn : narrow .int x = x) (hf : fits .int x = true) (hH : H.set a (.inl (0, [f0, f1, x, f3, f4])) = H1) (kk : Runs K l Z n0 m6 45 ls st H1 v H') : Runs K l Z n0 m6 42 ls (x :: .ref a :: st) H v H' := r_putF (cid := 0) (i := 2) (kok hw) i6_42 (hw _ (List.mem_of_getElem? (i := 19) rfl)) Via.refl rfl rfl (Or.inl (hw _ (List.mem_of_getElem? (i := 20) rfl))) ho (ltB rfl) hn hf rfl hH kk
theorem s6_49 {l : Launch} {Z : State} {a0 : Array Value} {n0 : Nat} {ls : List Slot} {st : List Value} {H H' : List Ob} {v : Option Value} (hw : HW Z a0) {a : Nat} {f0 f1 f2 f3 f4 : Value} (ho : H[a]? = some (.inl (0, [f0, f1, f2, f3, f4]))) (kk : Runs K l Z n0 m6 52 ls (f1 :: st) H v H') : Runs K l Z n0 m6 49 ls (.ref a :: st) H v H' := r_getF (cid := 0) (i := 1) i6_49 (hw _ (List.mem_of_getElem? (i := 12) rfl)) Via.refl rfl rfl ho rfl kk
theorem s6_57 {l : Launch} {Z : State} {a0 : Array Value} {n0 : Nat} {ls : List Slot} {st : List Value} {H H' : List Ob} {v : Option Value} (hw : HW Z a0) {a : Nat} {f0 f1 f2 f3 f4 : Value} (ho : H[a]? = some (.inl (0, [f0, f1, f2, f3, f4]))) (kk : Runs K l Z n0 m6 60 ls (f1 :: st) H v H') : Runs K l Z n0 m6 57 ls (.ref a :: st) H v H' := r_getF (cid := 0) (i := 1) i6_57 (hw _ (List.mem_of_getElem? (i := 12) rfl)) Via.refl rfl rfl ho rfl kk
theorem s6_62 {l : Launch} {Z : State} {a0 : Array Value} {n0 : Nat} {ls : List Slot} {st : List Value} {H H' : List Ob} {v : Option Value} (hw : HW Z a0) {a : Nat} {f0 f1 f2 f3 f4 : Value} (ho : H[a]? = some (.inl (0, [f0, f1, f2, f3, f4]))) (kk : Runs K l Z n0 m6 65 ls (f3 :: st) H v H') : Runs K l Z n0 m6 62 ls (.ref a :: st) H v H' := r_getF (cid := 0) (i := 3) i6_62 (hw _ (List.mem_of_getElem? (i := 21) rfl)) Via.refl rfl rfl ho rfl kk
theorem s6_68 {l : Launch} {Z : State} {a0 : Array Value} {n0 : Nat} {ls : List Slot} {st : List Value} {H H' H1 : List Ob} {v : Option Value} (hw : HW Z a0) {a : Nat} {f0 f1 f2 f3 f4 x : Value} (ho : H[a]? = some (.inl (0, [f0, f1, f2, f3, f4]))) (hn : narrow .int x = x) (hf : fits .int x = true) (hH : H.set a (.inl (0, [f0, f1, f2, x, f4])) = H1) (kk : Runs K l Z n0 m6 71 ls st H1 v H') : Runs K l Z n0 m6 68 ls (x :: .ref a :: st) H v H' := r_putF (cid := 0) (i := 3) (kok hw) i6_68 (hw _ (List.mem_of_getElem? (i := 21) rfl)) Via.refl rfl rfl (Or.inl (hw _ (List.mem_of_getElem? (i := 22) rfl))) ho (ltB rfl) hn hf rfl hH kk
theorem s6_72 {l : Launch} {Z : State} {a0 : Array Value} {n0 : Nat} {ls : List Slot} {st : List Value} {H H' H1 : List Ob} {v : Option Value} (hw : HW Z a0) {a : Nat} {vs : List Value} {x0 : Value} (ho : H[a]? = some (.inl (0, vs))) (M : Meets K l Z n0 m9 [.ref a, x0] H none H1) (hls : ls.length = 2) (hlo : (st.map fun v => v.category).sum ≤ 0) (kk : Runs K l Z n0 m6 75 ls st H1 v H') : Runs K l Z n0 m6 72 ls (x0 :: .ref a :: st) H v H' := r_private (mj := m9) (cid := 0) (as := [x0]) (rest := st) i6_72 (hw _ (List.mem_of_getElem? (i := 47) rfl)) (Jvm.Kit.selects_private (by decide) (hw _ (List.mem_of_getElem? (i := 2) rfl)) (hw _ (List.mem_of_getElem? (i := 49) rfl)) (hw _ (List.mem_of_getElem? (i := 48) rfl))) (hw _ (List.mem_of_getElem? (i := 49) rfl)) (hw _ (List.mem_of_getElem? (i := 48) rfl)) (hw _ (List.mem_of_getElem? (i := 3) rfl)) (hw _ (List.mem_of_getElem? (i := 50) rfl)) (by decide) (lenOf pd9 rfl) (by decide) rfl rfl ho hls (by show _ + (4 + 11) + 0 ≤ 15; omega) M kk
theorem s7_1 {l : Launch} {Z : State} {a0 : Array Value} {n0 : Nat} {ls : List Slot} {st : List Value} {H H' : List Ob} {v : Option Value} (hw : HW Z a0) {a : Nat} {f0 f1 f2 f3 f4 : Value} (ho : H[a]? = some (.inl (0, [f0, f1, f2, f3, f4]))) (kk : Runs K l Z n0 m7 4 ls (f3 :: st) H v H') : Runs K l Z n0 m7 1 ls (.ref a :: st) H v H' := r_getF (cid := 0) (i := 3) i7_1 (hw _ (List.mem_of_getElem? (i := 21) rfl)) Via.refl rfl rfl ho rfl kk
theorem s7_8 {l : Launch} {Z : State} {a0 : Array Value} {n0 : Nat} {ls : List Slot} {st : List Value} {H H' : List Ob} {v : Option Value} (hw : HW Z a0) {a : Nat} {f0 f1 f2 f3 f4 : Value} (ho : H[a]? = some (.inl (0, [f0, f1, f2, f3, f4]))) (kk : Runs K l Z n0 m7 11 ls (f2 :: st) H v H') : Runs K l Z n0 m7 8 ls (.ref a :: st) H v H' := r_getF (cid := 0) (i := 2) i7_8 (hw _ (List.mem_of_getElem? (i := 19) rfl)) Via.refl rfl rfl ho rfl kk
theorem s7_15 {l : Launch} {Z : State} {a0 : Array Value} {n0 : Nat} {ls : List Slot} {st : List Value} {H H' : List Ob} {v : Option Value} (hw : HW Z a0) {a : Nat} {f0 f1 f2 f3 f4 : Value} (ho : H[a]? = some (.inl (0, [f0, f1, f2, f3, f4]))) (kk : Runs K l Z n0 m7 18 ls (f0 :: st) H v H') : Runs K l Z n0 m7 15 ls (.ref a :: st) H v H' := r_getF (cid := 0) (i := 0) i7_15 (hw _ (List.mem_of_getElem? (i := 10) rfl)) Via.refl rfl rfl ho rfl kk
theorem s7_19 {l : Launch} {Z : State} {a0 : Array Value} {n0 : Nat} {ls : List Slot} {st : List Value} {H H' : List Ob} {v : Option Value} (hw : HW Z a0) {a : Nat} {f0 f1 f2 f3 f4 : Value} (ho : H[a]? = some (.inl (0, [f0, f1, f2, f3, f4]))) (kk : Runs K l Z n0 m7 22 ls (f4 :: st) H v H') : Runs K l Z n0 m7 19 ls (.ref a :: st) H v H' := r_getF (cid := 0) (i := 4) i7_19 (hw _ (List.mem_of_getElem? (i := 32) rfl)) Via.refl rfl rfl ho rfl kk
theorem s7_24 {l : Launch} {Z : State} {a0 : Array Value} {n0 : Nat} {ls : List Slot} {st : List Value} {H H' : List Ob} {v : Option Value} (hw : HW Z a0) {a : Nat} {f0 f1 f2 f3 f4 : Value} (ho : H[a]? = some (.inl (0, [f0, f1, f2, f3, f4]))) (kk : Runs K l Z n0 m7 27 ls (f1 :: st) H v H') : Runs K l Z n0 m7 24 ls (.ref a :: st) H v H' := r_getF (cid := 0) (i := 1) i7_24 (hw _ (List.mem_of_getElem? (i := 12) rfl)) Via.refl rfl rfl ho rfl kk
theorem s8_2 {l : Launch} {Z : State} {a0 : Array Value} {n0 : Nat} {ls : List Slot} {st : List Value} {H H' : List Ob} {v : Option Value} (hw : HW Z a0) {a : Nat} {f0 f1 f2 f3 f4 : Value} (ho : H[a]? = some (.inl (0, [f0, f1, f2, f3, f4]))) (kk : Runs K l Z n0 m8 5 ls (f3 :: st) H v H') : Runs K l Z n0 m8 2 ls (.ref a :: st) H v H' := r_getF (cid := 0) (i := 3) i8_2 (hw _ (List.mem_of_getElem? (i := 21) rfl)) Via.refl rfl rfl ho rfl kk
theorem s8_8 {l : Launch} {Z : State} {a0 : Array Value} {n0 : Nat} {ls : List Slot} {st : List Value} {H H' H1 : List Ob} {v : Option Value} (hw : HW Z a0) {a : Nat} {f0 f1 f2 f3 f4 x : Value} (ho : H[a]? = some (.inl (0, [f0, f1, f2, f3, f4]))) (hn : narrow .int x = x) (hf : fits .int x = true) (hH : H.set a (.inl (0, [f0, f1, f2, x, f4])) = H1) (kk : Runs K l Z n0 m8 11 ls st H1 v H') : Runs K l Z n0 m8 8 ls (x :: .ref a :: st) H v H' := r_putF (cid := 0) (i := 3) (kok hw) i8_8 (hw _ (List.mem_of_getElem? (i := 21) rfl)) Via.refl rfl rfl (Or.inl (hw _ (List.mem_of_getElem? (i := 22) rfl))) ho (ltB rfl) hn hf rfl hH kk
theorem s8_17 {l : Launch} {Z : State} {a0 : Array Value} {n0 : Nat} {ls : List Slot} {st : List Value} {H H' : List Ob} {v : Option Value} (hw : HW Z a0) {a : Nat} {f0 f1 f2 f3 f4 : Value} (ho : H[a]? = some (.inl (0, [f0, f1, f2, f3, f4]))) (kk : Runs K l Z n0 m8 20 ls (f1 :: st) H v H') : Runs K l Z n0 m8 17 ls (.ref a :: st) H v H' := r_getF (cid := 0) (i := 1) i8_17 (hw _ (List.mem_of_getElem? (i := 12) rfl)) Via.refl rfl rfl ho rfl kk
theorem s8_31 {l : Launch} {Z : State} {a0 : Array Value} {n0 : Nat} {ls : List Slot} {st : List Value} {H H' : List Ob} {v : Option Value} (hw : HW Z a0) {a : Nat} {f0 f1 f2 f3 f4 : Value} (ho : H[a]? = some (.inl (0, [f0, f1, f2, f3, f4]))) (kk : Runs K l Z n0 m8 34 ls (f1 :: st) H v H') : Runs K l Z n0 m8 31 ls (.ref a :: st) H v H' := r_getF (cid := 0) (i := 1) i8_31 (hw _ (List.mem_of_getElem? (i := 12) rfl)) Via.refl rfl rfl ho rfl kk
theorem s8_36 {l : Launch} {Z : State} {a0 : Array Value} {n0 : Nat} {ls : List Slot} {st : List Value} {H H' : List Ob} {v : Option Value} (hw : HW Z a0) {a : Nat} {f0 f1 f2 f3 f4 : Value} (ho : H[a]? = some (.inl (0, [f0, f1, f2, f3, f4]))) (kk : Runs K l Z n0 m8 39 ls (f1 :: st) H v H') : Runs K l Z n0 m8 36 ls (.ref a :: st) H v H' := r_getF (cid := 0) (i := 1) i8_36 (hw _ (List.mem_of_getElem? (i := 12) rfl)) Via.refl rfl rfl ho rfl kk
theorem s8_56 {l : Launch} {Z : State} {a0 : Array Value} {n0 : Nat} {ls : List Slot} {st : List Value} {H H' : List Ob} {v : Option Value} (hw : HW Z a0) {a : Nat} {f0 f1 f2 f3 f4 : Value} (ho : H[a]? = some (.inl (0, [f0, f1, f2, f3, f4]))) (kk : Runs K l Z n0 m8 59 ls (f1 :: st) H v H') : Runs K l Z n0 m8 56 ls (.ref a :: st) H v H' := r_getF (cid := 0) (i := 1) i8_56 (hw _ (List.mem_of_getElem? (i := 12) rfl)) Via.refl rfl rfl ho rfl kk
theorem s9_6 {l : Launch} {Z : State} {a0 : Array Value} {n0 : Nat} {ls : List Slot} {st : List Value} {H H' : List Ob} {v : Option Value} (hw : HW Z a0) {a : Nat} {f0 f1 f2 f3 f4 : Value} (ho : H[a]? = some (.inl (0, [f0, f1, f2, f3, f4]))) (kk : Runs K l Z n0 m9 9 ls (f3 :: st) H v H') : Runs K l Z n0 m9 6 ls (.ref a :: st) H v H' := r_getF (cid := 0) (i := 3) i9_6 (hw _ (List.mem_of_getElem? (i := 21) rfl)) Via.refl rfl rfl ho rfl kk
theorem s9_16 {l : Launch} {Z : State} {a0 : Array Value} {n0 : Nat} {ls : List Slot} {st : List Value} {H H' : List Ob} {v : Option Value} (hw : HW Z a0) {a : Nat} {f0 f1 f2 f3 f4 : Value} (ho : H[a]? = some (.inl (0, [f0, f1, f2, f3, f4]))) (kk : Runs K l Z n0 m9 19 ls (f3 :: st) H v H') : Runs K l Z n0 m9 16 ls (.ref a :: st) H v H' := r_getF (cid := 0) (i := 3) i9_16 (hw _ (List.mem_of_getElem? (i := 21) rfl)) Via.refl rfl rfl ho rfl kk
theorem s9_23 {l : Launch} {Z : State} {a0 : Array Value} {n0 : Nat} {ls : List Slot} {st : List Value} {H H' : List Ob} {v : Option Value} (hw : HW Z a0) {a : Nat} {f0 f1 f2 f3 f4 : Value} (ho : H[a]? = some (.inl (0, [f0, f1, f2, f3, f4]))) (kk : Runs K l Z n0 m9 26 ls (f1 :: st) H v H') : Runs K l Z n0 m9 23 ls (.ref a :: st) H v H' := r_getF (cid := 0) (i := 1) i9_23 (hw _ (List.mem_of_getElem? (i := 12) rfl)) Via.refl rfl rfl ho rfl kk
theorem s9_31 {l : Launch} {Z : State} {a0 : Array Value} {n0 : Nat} {ls : List Slot} {st : List Value} {H H' : List Ob} {v : Option Value} (hw : HW Z a0) {a : Nat} {f0 f1 f2 f3 f4 : Value} (ho : H[a]? = some (.inl (0, [f0, f1, f2, f3, f4]))) (kk : Runs K l Z n0 m9 34 ls (f1 :: st) H v H') : Runs K l Z n0 m9 31 ls (.ref a :: st) H v H' := r_getF (cid := 0) (i := 1) i9_31 (hw _ (List.mem_of_getElem? (i := 12) rfl)) Via.refl rfl rfl ho rfl kk
theorem s9_43 {l : Launch} {Z : State} {a0 : Array Value} {n0 : Nat} {ls : List Slot} {st : List Value} {H H' : List Ob} {v : Option Value} (hw : HW Z a0) {a : Nat} {f0 f1 f2 f3 f4 : Value} (ho : H[a]? = some (.inl (0, [f0, f1, f2, f3, f4]))) (kk : Runs K l Z n0 m9 46 ls (f1 :: st) H v H') : Runs K l Z n0 m9 43 ls (.ref a :: st) H v H' := r_getF (cid := 0) (i := 1) i9_43 (hw _ (List.mem_of_getElem? (i := 12) rfl)) Via.refl rfl rfl ho rfl kk
theorem s9_56 {l : Launch} {Z : State} {a0 : Array Value} {n0 : Nat} {ls : List Slot} {st : List Value} {H H' : List Ob} {v : Option Value} (hw : HW Z a0) {a : Nat} {f0 f1 f2 f3 f4 : Value} (ho : H[a]? = some (.inl (0, [f0, f1, f2, f3, f4]))) (kk : Runs K l Z n0 m9 59 ls (f1 :: st) H v H') : Runs K l Z n0 m9 56 ls (.ref a :: st) H v H' := r_getF (cid := 0) (i := 1) i9_56 (hw _ (List.mem_of_getElem? (i := 12) rfl)) Via.refl rfl rfl ho rfl kk
theorem s9_61 {l : Launch} {Z : State} {a0 : Array Value} {n0 : Nat} {ls : List Slot} {st : List Value} {H H' : List Ob} {v : Option Value} (hw : HW Z a0) {a : Nat} {f0 f1 f2 f3 f4 : Value} (ho : H[a]? = some (.inl (0, [f0, f1, f2, f3, f4]))) (kk : Runs K l Z n0 m9 64 ls (f1 :: st) H v H') : Runs K l Z n0 m9 61 ls (.ref a :: st) H v H' := r_getF (cid := 0) (i := 1) i9_61 (hw _ (List.mem_of_getElem? (i := 12) rfl)) Via.refl rfl rfl ho rfl kk
theorem s9_79 {l : Launch} {Z : State} {a0 : Array Value} {n0 : Nat} {ls : List Slot} {st : List Value} {H H' : List Ob} {v : Option Value} (hw : HW Z a0) {a : Nat} {f0 f1 f2 f3 f4 : Value} (ho : H[a]? = some (.inl (0, [f0, f1, f2, f3, f4]))) (kk : Runs K l Z n0 m9 82 ls (f1 :: st) H v H') : Runs K l Z n0 m9 79 ls (.ref a :: st) H v H' := r_getF (cid := 0) (i := 1) i9_79 (hw _ (List.mem_of_getElem? (i := 12) rfl)) Via.refl rfl rfl ho rfl kk
theorem own_sz0 : True := trivial
abbrev SS (o0 o1 : Ob) (q h hd : Int32) (fq fh : Nat → Int32) : List Ob := [o0, o1, .inl (0, [.ref 3, .ref 4, .int q, .int h, .int hd]), .inr (.int, arrF 16 fq), .inr (.int, arrF 16 fh)]
theorem own_sz {vs ws : List Value} {q h hd : Int32} {fq fh : Nat → Int32} (h1 : vs.length = 3 := by rfl) (h2 : ws.length = 2 := by rfl) : szs K (SS (.inr (.int, vs)) (.inr (.int, ws)) q h hd fq fh) ≤ 192 := by
  show vs.length + (ws.length + (5 + ((arrF 16 fq).length + ((arrF 16 fh).length + 0)))) ≤ 192
  rw [arrF_len, arrF_len]; omega
theorem own_ix15 (x : Int32) : Ix (x &&& (16 - 1)) (x &&& (16 - 1)).toNatClampNeg ∧ (x &&& (16 - 1)).toNatClampNeg < 16 := by
  have h := c_mask x (16 - 1) 4 (by decide) (by decide)
  refine ⟨ix_of (by omega), ?_⟩
  simp only [Int32.toNatClampNeg]; omega
theorem own_hd {x : Int32} (h : 0 ≤ x.toInt ∧ x.toInt < 16) : Ix x x.toNatClampNeg ∧ x.toNatClampNeg < 16 := by
  refine ⟨ix_of h.1, ?_⟩
  simp only [Int32.toNatClampNeg]; omega
theorem own_hd' (x : Int32) : 0 ≤ (x &&& (16 - 1)).toInt ∧ (x &&& (16 - 1)).toInt < 16 := by
  have h := c_mask x (16 - 1) 4 (by decide) (by decide)
  omega
theorem own_3c {x : Int32} (h : 0 ≤ x.toInt ∧ x.toInt ≤ 2) : x = 0 ∨ x = 1 ∨ x = 2 := by
  have e0 : (0 : Int32).toInt = 0 := by decide
  have e1 : (1 : Int32).toInt = 1 := by decide
  have e2 : (2 : Int32).toInt = 2 := by decide
  simp only [← Int32.toInt_inj]
  omega
theorem own_inc {x : Int32} (h : 0 ≤ x.toInt ∧ x.toInt ≤ 100) : (x + 1).toInt = x.toInt + 1 := by
  have e1 : (1 : Int32).toInt = 1 := by decide
  have q := c_iadd x 1
  have l1 := Int32.le_toInt (x + 1)
  have l2 := Int32.toInt_lt (x + 1)
  omega
theorem own_dec {x : Int32} (h : 0 ≤ x.toInt ∧ x.toInt ≤ 100) : (x - 1).toInt = x.toInt - 1 := by
  have e1 : (1 : Int32).toInt = 1 := by decide
  have q := c_isub x 1
  have l1 := Int32.le_toInt (x - 1)
  have l2 := Int32.toInt_lt (x - 1)
  omega
theorem empty_yes {l : Launch} {Z : State} {a0 : Array Value} {n0 : Nat} (hw : HW Z a0) {o0 o1 : Ob} {q h hd : Int32} {fq fh : Nat → Int32} (h1 : q = 0) (h2 : h = 0) : Meets K l Z n0 m3 [.ref 2] (SS o0 o1 q h hd fq fh) (some (.int 1)) (SS o0 o1 q h hd fq fh) := by
  refine meets (ls := [_]) pf3 rfl (fun h => nomatch h) ?_
  refine r_aloadN i3_0 rfl rfl ?_
  refine s3_1 hw rfl ?_
  refine r_ifF i3_4 (XT.i0_ne_f h1) ?_
  refine r_aloadN i3_7 rfl rfl ?_
  refine s3_8 hw rfl ?_
  refine r_ifF i3_11 (XT.i0_ne_f h2) ?_
  refine r_iconst i3_14 ?_
  refine r_goto i3_15 ?_
  exact r_zreturn i3_19 rfl (by first | decide | simp)
theorem empty_q {l : Launch} {Z : State} {a0 : Array Value} {n0 : Nat} (hw : HW Z a0) {o0 o1 : Ob} {q h hd : Int32} {fq fh : Nat → Int32} (h1 : ¬ q = 0) : Meets K l Z n0 m3 [.ref 2] (SS o0 o1 q h hd fq fh) (some (.int 0)) (SS o0 o1 q h hd fq fh) := by
  refine meets (ls := [_]) pf3 rfl (fun h => nomatch h) ?_
  refine r_aloadN i3_0 rfl rfl ?_
  refine s3_1 hw rfl ?_
  refine r_ifT i3_4 (XT.i0_ne_t h1) ?_
  refine r_iconst i3_18 ?_
  exact r_zreturn i3_19 rfl (by first | decide | simp)
theorem empty_h {l : Launch} {Z : State} {a0 : Array Value} {n0 : Nat} (hw : HW Z a0) {o0 o1 : Ob} {q h hd : Int32} {fq fh : Nat → Int32} (h1 : q = 0) (h2 : ¬ h = 0) : Meets K l Z n0 m3 [.ref 2] (SS o0 o1 q h hd fq fh) (some (.int 0)) (SS o0 o1 q h hd fq fh) := by
  refine meets (ls := [_]) pf3 rfl (fun h => nomatch h) ?_
  refine r_aloadN i3_0 rfl rfl ?_
  refine s3_1 hw rfl ?_
  refine r_ifF i3_4 (XT.i0_ne_f h1) ?_
  refine r_aloadN i3_7 rfl rfl ?_
  refine s3_8 hw rfl ?_
  refine r_ifT i3_11 (XT.i0_ne_t h2) ?_
  refine r_iconst i3_18 ?_
  exact r_zreturn i3_19 rfl (by first | decide | simp)
theorem up_m {l : Launch} {Z : State} {a0 : Array Value} {n0 : Nat} (hw : HW Z a0) {o0 o1 : Ob} {q h hd : Int32} {fq fh : Nat → Int32} {x : Int32} (hh : h = 0 ∨ h = 1 ∨ h = 2) : ∃ fh', Meets K l Z n0 m8 [.ref 2, .int x] (SS o0 o1 q h hd fq fh) none (SS o0 o1 q (h + 1) hd fq fh') := by
  suffices k : RunsP K l Z n0 m8 0 [.val (.ref 2), .val (.int x), .unset] [] (SS o0 o1 q h hd fq fh) (fun v H' => v = none ∧ ∃ fh', H' = (SS o0 o1 q (h + 1) hd fq fh')) by
    obtain ⟨_, _, k, rfl, fh', rfl⟩ := k
    exact ⟨fh', meets pf8 rfl (fun _ => rfl) k⟩
  rcases hh with rfl | rfl | rfl
  · skip
    refine liftP (fun _ _ kk => r_aloadN i8_0 rfl rfl kk) ?_
    refine liftP (fun _ _ kk => r_dup i8_1 rfl kk) ?_
    refine liftP (fun _ _ kk => s8_2 hw rfl kk) ?_
    refine liftP (fun _ _ kk => r_dupX1 i8_5 rfl rfl kk) ?_
    refine liftP (fun _ _ kk => r_iconst i8_6 kk) ?_
    refine liftP (fun _ _ kk => r_iadd i8_7 kk) ?_
    refine liftP (fun _ _ kk => s8_8 hw (H1 := [_, _, _, _, _]) rfl rfl rfl rfl kk) ?_
    refine liftP (fun _ _ kk => r_istoreN (ls' := [_, _, _]) i8_11 rfl rfl kk) ?_
    refine liftP (fun _ _ kk => r_iloadN i8_12 rfl kk) ?_
    refine liftP (fun _ _ kk => r_ifT i8_13 (XT.i0_le_t (by decide)) kk) ?_
    refine liftP (fun _ _ kk => r_aloadN i8_55 rfl rfl kk) ?_
    refine liftP (fun _ _ kk => s8_56 hw rfl kk) ?_
    refine liftP (fun _ _ kk => r_iloadN i8_59 rfl kk) ?_
    refine liftP (fun _ _ kk => r_iloadN i8_60 rfl kk) ?_
    refine liftP (fun _ _ kk => r_iastore (i := 0) (H1 := [_, _, _, _, _]) i8_61 rfl ⟨by decide, by decide⟩ (by rw [arrF_len]; decide) arrF_set rfl kk) ?_
    exact ⟨_, _, r_return i8_62 rfl, rfl, _, rfl⟩
  · by_cases e : x < fh 0
    · skip
      refine liftP (fun _ _ kk => r_aloadN i8_0 rfl rfl kk) ?_
      refine liftP (fun _ _ kk => r_dup i8_1 rfl kk) ?_
      refine liftP (fun _ _ kk => s8_2 hw rfl kk) ?_
      refine liftP (fun _ _ kk => r_dupX1 i8_5 rfl rfl kk) ?_
      refine liftP (fun _ _ kk => r_iconst i8_6 kk) ?_
      refine liftP (fun _ _ kk => r_iadd i8_7 kk) ?_
      refine liftP (fun _ _ kk => s8_8 hw (H1 := [_, _, _, _, _]) rfl rfl rfl rfl kk) ?_
      refine liftP (fun _ _ kk => r_istoreN (ls' := [_, _, _]) i8_11 rfl rfl kk) ?_
      refine liftP (fun _ _ kk => r_iloadN i8_12 rfl kk) ?_
      refine liftP (fun _ _ kk => r_ifF i8_13 (XT.i0_le_f (by decide)) kk) ?_
      refine liftP (fun _ _ kk => r_aloadN i8_16 rfl rfl kk) ?_
      refine liftP (fun _ _ kk => s8_17 hw rfl kk) ?_
      refine liftP (fun _ _ kk => r_iloadN i8_20 rfl kk) ?_
      refine liftP (fun _ _ kk => r_iconst i8_21 kk) ?_
      refine liftP (fun _ _ kk => r_isub i8_22 kk) ?_
      refine liftP (fun _ _ kk => r_iconst i8_23 kk) ?_
      refine liftP (fun _ _ kk => r_idiv i8_24 (by decide) kk) ?_
      refine liftP (fun _ _ kk => r_iaload (i := 0) i8_25 rfl ⟨by decide, by decide⟩ (arrF_at (by decide)) kk) ?_
      refine liftP (fun _ _ kk => r_iloadN i8_26 rfl kk) ?_
      refine liftP (fun _ _ kk => r_icF i8_27 (XT.ii_le_f e) kk) ?_
      refine liftP (fun _ _ kk => r_aloadN i8_30 rfl rfl kk) ?_
      refine liftP (fun _ _ kk => s8_31 hw rfl kk) ?_
      refine liftP (fun _ _ kk => r_iloadN i8_34 rfl kk) ?_
      refine liftP (fun _ _ kk => r_aloadN i8_35 rfl rfl kk) ?_
      refine liftP (fun _ _ kk => s8_36 hw rfl kk) ?_
      refine liftP (fun _ _ kk => r_iloadN i8_39 rfl kk) ?_
      refine liftP (fun _ _ kk => r_iconst i8_40 kk) ?_
      refine liftP (fun _ _ kk => r_isub i8_41 kk) ?_
      refine liftP (fun _ _ kk => r_iconst i8_42 kk) ?_
      refine liftP (fun _ _ kk => r_idiv i8_43 (by decide) kk) ?_
      refine liftP (fun _ _ kk => r_iaload (i := 0) i8_44 rfl ⟨by decide, by decide⟩ (arrF_at (by decide)) kk) ?_
      refine liftP (fun _ _ kk => r_iastore (i := 1) (H1 := [_, _, _, _, _]) i8_45 rfl ⟨by decide, by decide⟩ (by rw [arrF_len]; decide) arrF_set rfl kk) ?_
      refine liftP (fun _ _ kk => r_iloadN i8_46 rfl kk) ?_
      refine liftP (fun _ _ kk => r_iconst i8_47 kk) ?_
      refine liftP (fun _ _ kk => r_isub i8_48 kk) ?_
      refine liftP (fun _ _ kk => r_iconst i8_49 kk) ?_
      refine liftP (fun _ _ kk => r_idiv i8_50 (by decide) kk) ?_
      refine liftP (fun _ _ kk => r_istoreN (ls' := [_, _, _]) i8_51 rfl rfl kk) ?_
      refine liftP (fun _ _ kk => r_goto i8_52 kk) ?_
      refine liftP (fun _ _ kk => r_iloadN i8_12 rfl kk) ?_
      refine liftP (fun _ _ kk => r_ifT i8_13 (XT.i0_le_t (by decide)) kk) ?_
      refine liftP (fun _ _ kk => r_aloadN i8_55 rfl rfl kk) ?_
      refine liftP (fun _ _ kk => s8_56 hw rfl kk) ?_
      refine liftP (fun _ _ kk => r_iloadN i8_59 rfl kk) ?_
      refine liftP (fun _ _ kk => r_iloadN i8_60 rfl kk) ?_
      refine liftP (fun _ _ kk => r_iastore (i := 0) (H1 := [_, _, _, _, _]) i8_61 rfl ⟨by decide, by decide⟩ (by rw [arrF_len]; decide) arrF_set rfl kk) ?_
      exact ⟨_, _, r_return i8_62 rfl, rfl, _, rfl⟩
    · skip
      refine liftP (fun _ _ kk => r_aloadN i8_0 rfl rfl kk) ?_
      refine liftP (fun _ _ kk => r_dup i8_1 rfl kk) ?_
      refine liftP (fun _ _ kk => s8_2 hw rfl kk) ?_
      refine liftP (fun _ _ kk => r_dupX1 i8_5 rfl rfl kk) ?_
      refine liftP (fun _ _ kk => r_iconst i8_6 kk) ?_
      refine liftP (fun _ _ kk => r_iadd i8_7 kk) ?_
      refine liftP (fun _ _ kk => s8_8 hw (H1 := [_, _, _, _, _]) rfl rfl rfl rfl kk) ?_
      refine liftP (fun _ _ kk => r_istoreN (ls' := [_, _, _]) i8_11 rfl rfl kk) ?_
      refine liftP (fun _ _ kk => r_iloadN i8_12 rfl kk) ?_
      refine liftP (fun _ _ kk => r_ifF i8_13 (XT.i0_le_f (by decide)) kk) ?_
      refine liftP (fun _ _ kk => r_aloadN i8_16 rfl rfl kk) ?_
      refine liftP (fun _ _ kk => s8_17 hw rfl kk) ?_
      refine liftP (fun _ _ kk => r_iloadN i8_20 rfl kk) ?_
      refine liftP (fun _ _ kk => r_iconst i8_21 kk) ?_
      refine liftP (fun _ _ kk => r_isub i8_22 kk) ?_
      refine liftP (fun _ _ kk => r_iconst i8_23 kk) ?_
      refine liftP (fun _ _ kk => r_idiv i8_24 (by decide) kk) ?_
      refine liftP (fun _ _ kk => r_iaload (i := 0) i8_25 rfl ⟨by decide, by decide⟩ (arrF_at (by decide)) kk) ?_
      refine liftP (fun _ _ kk => r_iloadN i8_26 rfl kk) ?_
      refine liftP (fun _ _ kk => r_icT i8_27 (XT.ii_le_t e) kk) ?_
      refine liftP (fun _ _ kk => r_aloadN i8_55 rfl rfl kk) ?_
      refine liftP (fun _ _ kk => s8_56 hw rfl kk) ?_
      refine liftP (fun _ _ kk => r_iloadN i8_59 rfl kk) ?_
      refine liftP (fun _ _ kk => r_iloadN i8_60 rfl kk) ?_
      refine liftP (fun _ _ kk => r_iastore (i := 1) (H1 := [_, _, _, _, _]) i8_61 rfl ⟨by decide, by decide⟩ (by rw [arrF_len]; decide) arrF_set rfl kk) ?_
      exact ⟨_, _, r_return i8_62 rfl, rfl, _, rfl⟩
  · by_cases e : x < fh 0
    · skip
      refine liftP (fun _ _ kk => r_aloadN i8_0 rfl rfl kk) ?_
      refine liftP (fun _ _ kk => r_dup i8_1 rfl kk) ?_
      refine liftP (fun _ _ kk => s8_2 hw rfl kk) ?_
      refine liftP (fun _ _ kk => r_dupX1 i8_5 rfl rfl kk) ?_
      refine liftP (fun _ _ kk => r_iconst i8_6 kk) ?_
      refine liftP (fun _ _ kk => r_iadd i8_7 kk) ?_
      refine liftP (fun _ _ kk => s8_8 hw (H1 := [_, _, _, _, _]) rfl rfl rfl rfl kk) ?_
      refine liftP (fun _ _ kk => r_istoreN (ls' := [_, _, _]) i8_11 rfl rfl kk) ?_
      refine liftP (fun _ _ kk => r_iloadN i8_12 rfl kk) ?_
      refine liftP (fun _ _ kk => r_ifF i8_13 (XT.i0_le_f (by decide)) kk) ?_
      refine liftP (fun _ _ kk => r_aloadN i8_16 rfl rfl kk) ?_
      refine liftP (fun _ _ kk => s8_17 hw rfl kk) ?_
      refine liftP (fun _ _ kk => r_iloadN i8_20 rfl kk) ?_
      refine liftP (fun _ _ kk => r_iconst i8_21 kk) ?_
      refine liftP (fun _ _ kk => r_isub i8_22 kk) ?_
      refine liftP (fun _ _ kk => r_iconst i8_23 kk) ?_
      refine liftP (fun _ _ kk => r_idiv i8_24 (by decide) kk) ?_
      refine liftP (fun _ _ kk => r_iaload (i := 0) i8_25 rfl ⟨by decide, by decide⟩ (arrF_at (by decide)) kk) ?_
      refine liftP (fun _ _ kk => r_iloadN i8_26 rfl kk) ?_
      refine liftP (fun _ _ kk => r_icF i8_27 (XT.ii_le_f e) kk) ?_
      refine liftP (fun _ _ kk => r_aloadN i8_30 rfl rfl kk) ?_
      refine liftP (fun _ _ kk => s8_31 hw rfl kk) ?_
      refine liftP (fun _ _ kk => r_iloadN i8_34 rfl kk) ?_
      refine liftP (fun _ _ kk => r_aloadN i8_35 rfl rfl kk) ?_
      refine liftP (fun _ _ kk => s8_36 hw rfl kk) ?_
      refine liftP (fun _ _ kk => r_iloadN i8_39 rfl kk) ?_
      refine liftP (fun _ _ kk => r_iconst i8_40 kk) ?_
      refine liftP (fun _ _ kk => r_isub i8_41 kk) ?_
      refine liftP (fun _ _ kk => r_iconst i8_42 kk) ?_
      refine liftP (fun _ _ kk => r_idiv i8_43 (by decide) kk) ?_
      refine liftP (fun _ _ kk => r_iaload (i := 0) i8_44 rfl ⟨by decide, by decide⟩ (arrF_at (by decide)) kk) ?_
      refine liftP (fun _ _ kk => r_iastore (i := 2) (H1 := [_, _, _, _, _]) i8_45 rfl ⟨by decide, by decide⟩ (by rw [arrF_len]; decide) arrF_set rfl kk) ?_
      refine liftP (fun _ _ kk => r_iloadN i8_46 rfl kk) ?_
      refine liftP (fun _ _ kk => r_iconst i8_47 kk) ?_
      refine liftP (fun _ _ kk => r_isub i8_48 kk) ?_
      refine liftP (fun _ _ kk => r_iconst i8_49 kk) ?_
      refine liftP (fun _ _ kk => r_idiv i8_50 (by decide) kk) ?_
      refine liftP (fun _ _ kk => r_istoreN (ls' := [_, _, _]) i8_51 rfl rfl kk) ?_
      refine liftP (fun _ _ kk => r_goto i8_52 kk) ?_
      refine liftP (fun _ _ kk => r_iloadN i8_12 rfl kk) ?_
      refine liftP (fun _ _ kk => r_ifT i8_13 (XT.i0_le_t (by decide)) kk) ?_
      refine liftP (fun _ _ kk => r_aloadN i8_55 rfl rfl kk) ?_
      refine liftP (fun _ _ kk => s8_56 hw rfl kk) ?_
      refine liftP (fun _ _ kk => r_iloadN i8_59 rfl kk) ?_
      refine liftP (fun _ _ kk => r_iloadN i8_60 rfl kk) ?_
      refine liftP (fun _ _ kk => r_iastore (i := 0) (H1 := [_, _, _, _, _]) i8_61 rfl ⟨by decide, by decide⟩ (by rw [arrF_len]; decide) arrF_set rfl kk) ?_
      exact ⟨_, _, r_return i8_62 rfl, rfl, _, rfl⟩
    · skip
      refine liftP (fun _ _ kk => r_aloadN i8_0 rfl rfl kk) ?_
      refine liftP (fun _ _ kk => r_dup i8_1 rfl kk) ?_
      refine liftP (fun _ _ kk => s8_2 hw rfl kk) ?_
      refine liftP (fun _ _ kk => r_dupX1 i8_5 rfl rfl kk) ?_
      refine liftP (fun _ _ kk => r_iconst i8_6 kk) ?_
      refine liftP (fun _ _ kk => r_iadd i8_7 kk) ?_
      refine liftP (fun _ _ kk => s8_8 hw (H1 := [_, _, _, _, _]) rfl rfl rfl rfl kk) ?_
      refine liftP (fun _ _ kk => r_istoreN (ls' := [_, _, _]) i8_11 rfl rfl kk) ?_
      refine liftP (fun _ _ kk => r_iloadN i8_12 rfl kk) ?_
      refine liftP (fun _ _ kk => r_ifF i8_13 (XT.i0_le_f (by decide)) kk) ?_
      refine liftP (fun _ _ kk => r_aloadN i8_16 rfl rfl kk) ?_
      refine liftP (fun _ _ kk => s8_17 hw rfl kk) ?_
      refine liftP (fun _ _ kk => r_iloadN i8_20 rfl kk) ?_
      refine liftP (fun _ _ kk => r_iconst i8_21 kk) ?_
      refine liftP (fun _ _ kk => r_isub i8_22 kk) ?_
      refine liftP (fun _ _ kk => r_iconst i8_23 kk) ?_
      refine liftP (fun _ _ kk => r_idiv i8_24 (by decide) kk) ?_
      refine liftP (fun _ _ kk => r_iaload (i := 0) i8_25 rfl ⟨by decide, by decide⟩ (arrF_at (by decide)) kk) ?_
      refine liftP (fun _ _ kk => r_iloadN i8_26 rfl kk) ?_
      refine liftP (fun _ _ kk => r_icT i8_27 (XT.ii_le_t e) kk) ?_
      refine liftP (fun _ _ kk => r_aloadN i8_55 rfl rfl kk) ?_
      refine liftP (fun _ _ kk => s8_56 hw rfl kk) ?_
      refine liftP (fun _ _ kk => r_iloadN i8_59 rfl kk) ?_
      refine liftP (fun _ _ kk => r_iloadN i8_60 rfl kk) ?_
      refine liftP (fun _ _ kk => r_iastore (i := 2) (H1 := [_, _, _, _, _]) i8_61 rfl ⟨by decide, by decide⟩ (by rw [arrF_len]; decide) arrF_set rfl kk) ?_
      exact ⟨_, _, r_return i8_62 rfl, rfl, _, rfl⟩
theorem down_m {l : Launch} {Z : State} {a0 : Array Value} {n0 : Nat} (hw : HW Z a0) {o0 o1 : Ob} {q h hd : Int32} {fq fh : Nat → Int32} {x : Int32} (hh : h = 0 ∨ h = 1 ∨ h = 2) : ∃ fh', Meets K l Z n0 m9 [.ref 2, .int x] (SS o0 o1 q h hd fq fh) none (SS o0 o1 q h hd fq fh') := by
  suffices k : RunsP K l Z n0 m9 0 [.val (.ref 2), .val (.int x), .unset, .unset] [] (SS o0 o1 q h hd fq fh) (fun v H' => v = none ∧ ∃ fh', H' = (SS o0 o1 q h hd fq fh')) by
    obtain ⟨_, _, k, rfl, fh', rfl⟩ := k
    exact ⟨fh', meets pf9 rfl (fun _ => rfl) k⟩
  rcases hh with rfl | rfl | rfl
  · skip
    refine liftP (fun _ _ kk => r_iconst i9_0 kk) ?_
    refine liftP (fun _ _ kk => r_istoreN (ls' := [_, _, _, _]) i9_1 rfl rfl kk) ?_
    refine liftP (fun _ _ kk => r_iconst i9_2 kk) ?_
    refine liftP (fun _ _ kk => r_istoreN (ls' := [_, _, _, _]) i9_3 rfl rfl kk) ?_
    refine liftP (fun _ _ kk => r_iloadN i9_4 rfl kk) ?_
    refine liftP (fun _ _ kk => r_aloadN i9_5 rfl rfl kk) ?_
    refine liftP (fun _ _ kk => s9_6 hw rfl kk) ?_
    refine liftP (fun _ _ kk => r_icT i9_9 (XT.ii_ge_t (by decide)) kk) ?_
    refine liftP (fun _ _ kk => r_aloadN i9_78 rfl rfl kk) ?_
    refine liftP (fun _ _ kk => s9_79 hw rfl kk) ?_
    refine liftP (fun _ _ kk => r_iloadN i9_82 rfl kk) ?_
    refine liftP (fun _ _ kk => r_iloadN i9_83 rfl kk) ?_
    refine liftP (fun _ _ kk => r_iastore (i := 0) (H1 := [_, _, _, _, _]) i9_84 rfl ⟨by decide, by decide⟩ (by rw [arrF_len]; decide) arrF_set rfl kk) ?_
    exact ⟨_, _, r_return i9_85 rfl, rfl, _, rfl⟩
  · skip
    refine liftP (fun _ _ kk => r_iconst i9_0 kk) ?_
    refine liftP (fun _ _ kk => r_istoreN (ls' := [_, _, _, _]) i9_1 rfl rfl kk) ?_
    refine liftP (fun _ _ kk => r_iconst i9_2 kk) ?_
    refine liftP (fun _ _ kk => r_istoreN (ls' := [_, _, _, _]) i9_3 rfl rfl kk) ?_
    refine liftP (fun _ _ kk => r_iloadN i9_4 rfl kk) ?_
    refine liftP (fun _ _ kk => r_aloadN i9_5 rfl rfl kk) ?_
    refine liftP (fun _ _ kk => s9_6 hw rfl kk) ?_
    refine liftP (fun _ _ kk => r_icT i9_9 (XT.ii_ge_t (by decide)) kk) ?_
    refine liftP (fun _ _ kk => r_aloadN i9_78 rfl rfl kk) ?_
    refine liftP (fun _ _ kk => s9_79 hw rfl kk) ?_
    refine liftP (fun _ _ kk => r_iloadN i9_82 rfl kk) ?_
    refine liftP (fun _ _ kk => r_iloadN i9_83 rfl kk) ?_
    refine liftP (fun _ _ kk => r_iastore (i := 0) (H1 := [_, _, _, _, _]) i9_84 rfl ⟨by decide, by decide⟩ (by rw [arrF_len]; decide) arrF_set rfl kk) ?_
    exact ⟨_, _, r_return i9_85 rfl, rfl, _, rfl⟩
  · by_cases e : fh 1 < x
    · skip
      refine liftP (fun _ _ kk => r_iconst i9_0 kk) ?_
      refine liftP (fun _ _ kk => r_istoreN (ls' := [_, _, _, _]) i9_1 rfl rfl kk) ?_
      refine liftP (fun _ _ kk => r_iconst i9_2 kk) ?_
      refine liftP (fun _ _ kk => r_istoreN (ls' := [_, _, _, _]) i9_3 rfl rfl kk) ?_
      refine liftP (fun _ _ kk => r_iloadN i9_4 rfl kk) ?_
      refine liftP (fun _ _ kk => r_aloadN i9_5 rfl rfl kk) ?_
      refine liftP (fun _ _ kk => s9_6 hw rfl kk) ?_
      refine liftP (fun _ _ kk => r_icF i9_9 (XT.ii_ge_f (by decide)) kk) ?_
      refine liftP (fun _ _ kk => r_iloadN i9_12 rfl kk) ?_
      refine liftP (fun _ _ kk => r_iconst i9_13 kk) ?_
      refine liftP (fun _ _ kk => r_iadd i9_14 kk) ?_
      refine liftP (fun _ _ kk => r_aloadN i9_15 rfl rfl kk) ?_
      refine liftP (fun _ _ kk => s9_16 hw rfl kk) ?_
      refine liftP (fun _ _ kk => r_icT i9_19 (XT.ii_ge_t (by decide)) kk) ?_
      refine liftP (fun _ _ kk => r_aloadN i9_42 rfl rfl kk) ?_
      refine liftP (fun _ _ kk => s9_43 hw rfl kk) ?_
      refine liftP (fun _ _ kk => r_iloadN i9_46 rfl kk) ?_
      refine liftP (fun _ _ kk => r_iaload (i := 1) i9_47 rfl ⟨by decide, by decide⟩ (arrF_at (by decide)) kk) ?_
      refine liftP (fun _ _ kk => r_iloadN i9_48 rfl kk) ?_
      refine liftP (fun _ _ kk => r_icT i9_49 (XT.ii_lt_t e) kk) ?_
      refine liftP (fun _ _ kk => r_aloadN i9_55 rfl rfl kk) ?_
      refine liftP (fun _ _ kk => s9_56 hw rfl kk) ?_
      refine liftP (fun _ _ kk => r_iloadN i9_59 rfl kk) ?_
      refine liftP (fun _ _ kk => r_aloadN i9_60 rfl rfl kk) ?_
      refine liftP (fun _ _ kk => s9_61 hw rfl kk) ?_
      refine liftP (fun _ _ kk => r_iloadN i9_64 rfl kk) ?_
      refine liftP (fun _ _ kk => r_iaload (i := 1) i9_65 rfl ⟨by decide, by decide⟩ (arrF_at (by decide)) kk) ?_
      refine liftP (fun _ _ kk => r_iastore (i := 0) (H1 := [_, _, _, _, _]) i9_66 rfl ⟨by decide, by decide⟩ (by rw [arrF_len]; decide) arrF_set rfl kk) ?_
      refine liftP (fun _ _ kk => r_iloadN i9_67 rfl kk) ?_
      refine liftP (fun _ _ kk => r_istoreN (ls' := [_, _, _, _]) i9_68 rfl rfl kk) ?_
      refine liftP (fun _ _ kk => r_iconst i9_69 kk) ?_
      refine liftP (fun _ _ kk => r_iloadN i9_70 rfl kk) ?_
      refine liftP (fun _ _ kk => r_imul i9_71 kk) ?_
      refine liftP (fun _ _ kk => r_iconst i9_72 kk) ?_
      refine liftP (fun _ _ kk => r_iadd i9_73 kk) ?_
      refine liftP (fun _ _ kk => r_istoreN (ls' := [_, _, _, _]) i9_74 rfl rfl kk) ?_
      refine liftP (fun _ _ kk => r_goto i9_75 kk) ?_
      refine liftP (fun _ _ kk => r_iloadN i9_4 rfl kk) ?_
      refine liftP (fun _ _ kk => r_aloadN i9_5 rfl rfl kk) ?_
      refine liftP (fun _ _ kk => s9_6 hw rfl kk) ?_
      refine liftP (fun _ _ kk => r_icT i9_9 (XT.ii_ge_t (by decide)) kk) ?_
      refine liftP (fun _ _ kk => r_aloadN i9_78 rfl rfl kk) ?_
      refine liftP (fun _ _ kk => s9_79 hw rfl kk) ?_
      refine liftP (fun _ _ kk => r_iloadN i9_82 rfl kk) ?_
      refine liftP (fun _ _ kk => r_iloadN i9_83 rfl kk) ?_
      refine liftP (fun _ _ kk => r_iastore (i := 1) (H1 := [_, _, _, _, _]) i9_84 rfl ⟨by decide, by decide⟩ (by rw [arrF_len]; decide) arrF_set rfl kk) ?_
      exact ⟨_, _, r_return i9_85 rfl, rfl, _, rfl⟩
    · skip
      refine liftP (fun _ _ kk => r_iconst i9_0 kk) ?_
      refine liftP (fun _ _ kk => r_istoreN (ls' := [_, _, _, _]) i9_1 rfl rfl kk) ?_
      refine liftP (fun _ _ kk => r_iconst i9_2 kk) ?_
      refine liftP (fun _ _ kk => r_istoreN (ls' := [_, _, _, _]) i9_3 rfl rfl kk) ?_
      refine liftP (fun _ _ kk => r_iloadN i9_4 rfl kk) ?_
      refine liftP (fun _ _ kk => r_aloadN i9_5 rfl rfl kk) ?_
      refine liftP (fun _ _ kk => s9_6 hw rfl kk) ?_
      refine liftP (fun _ _ kk => r_icF i9_9 (XT.ii_ge_f (by decide)) kk) ?_
      refine liftP (fun _ _ kk => r_iloadN i9_12 rfl kk) ?_
      refine liftP (fun _ _ kk => r_iconst i9_13 kk) ?_
      refine liftP (fun _ _ kk => r_iadd i9_14 kk) ?_
      refine liftP (fun _ _ kk => r_aloadN i9_15 rfl rfl kk) ?_
      refine liftP (fun _ _ kk => s9_16 hw rfl kk) ?_
      refine liftP (fun _ _ kk => r_icT i9_19 (XT.ii_ge_t (by decide)) kk) ?_
      refine liftP (fun _ _ kk => r_aloadN i9_42 rfl rfl kk) ?_
      refine liftP (fun _ _ kk => s9_43 hw rfl kk) ?_
      refine liftP (fun _ _ kk => r_iloadN i9_46 rfl kk) ?_
      refine liftP (fun _ _ kk => r_iaload (i := 1) i9_47 rfl ⟨by decide, by decide⟩ (arrF_at (by decide)) kk) ?_
      refine liftP (fun _ _ kk => r_iloadN i9_48 rfl kk) ?_
      refine liftP (fun _ _ kk => r_icF i9_49 (XT.ii_lt_f e) kk) ?_
      refine liftP (fun _ _ kk => r_goto i9_52 kk) ?_
      refine liftP (fun _ _ kk => r_aloadN i9_78 rfl rfl kk) ?_
      refine liftP (fun _ _ kk => s9_79 hw rfl kk) ?_
      refine liftP (fun _ _ kk => r_iloadN i9_82 rfl kk) ?_
      refine liftP (fun _ _ kk => r_iloadN i9_83 rfl kk) ?_
      refine liftP (fun _ _ kk => r_iastore (i := 0) (H1 := [_, _, _, _, _]) i9_84 rfl ⟨by decide, by decide⟩ (by rw [arrF_len]; decide) arrF_set rfl kk) ?_
      exact ⟨_, _, r_return i9_85 rfl, rfl, _, rfl⟩
theorem add_m {l : Launch} {Z : State} {a0 : Array Value} {n0 : Nat} (hw : HW Z a0) {o0 o1 : Ob} {q h hd : Int32} {fq fh : Nat → Int32} {x : Int32} (hq : 0 ≤ q.toInt ∧ q.toInt ≤ 2) (hh : 0 ≤ h.toInt ∧ h.toInt ≤ 2) : ∃ q' h' fq' fh', Meets K l Z n0 m5 [.ref 2, .int x] (SS o0 o1 q h hd fq fh) none (SS o0 o1 q' h' hd fq' fh') ∧ ((q' = q + 1 ∧ h' = h) ∨ (q' = q ∧ h' = h + 1)) := by
  suffices k : RunsP K l Z n0 m5 0 [.val (.ref 2), .val (.int x)] [] (SS o0 o1 q h hd fq fh) (fun v H' => v = none ∧ ∃ q' h' fq' fh', H' = (SS o0 o1 q' h' hd fq' fh') ∧ ((q' = q + 1 ∧ h' = h) ∨ (q' = q ∧ h' = h + 1))) by
    obtain ⟨_, _, k, rfl, q', h', fq', fh', rfl, t⟩ := k
    exact ⟨q', h', fq', fh', meets pf5 rfl (fun _ => rfl) k, t⟩
  have e16 : (16 : Int32).toInt = 16 := by decide
  have q16 : ¬ q = 16 := fun z => by rw [z] at hq; omega
  have h16 : ¬ h = 16 := fun z => by rw [z] at hh; omega
  obtain ⟨j1, k1⟩ := own_ix15 (hd + q - 1)
  obtain ⟨j2, k2⟩ := own_ix15 (hd + q)
  by_cases e0 : q = 0
  · skip
    refine liftP (fun _ _ kk => r_aloadN i5_0 rfl rfl kk) ?_
    refine liftP (fun _ _ kk => s5_1 hw rfl kk) ?_
    refine liftP (fun _ _ kk => r_ifT i5_4 (XT.i0_eq_t e0) kk) ?_
    refine liftP (fun _ _ kk => r_aloadN i5_35 rfl rfl kk) ?_
    refine liftP (fun _ _ kk => s5_36 hw rfl kk) ?_
    refine liftP (fun _ _ kk => r_aloadN i5_39 rfl rfl kk) ?_
    refine liftP (fun _ _ kk => s5_40 hw rfl kk) ?_
    refine liftP (fun _ _ kk => r_len (n := 16) i5_43 rfl (by rw [arrF_len]; rfl) kk) ?_
    refine liftP (fun _ _ kk => r_icT i5_44 (XT.ii_ne_t q16) kk) ?_
    refine liftP (fun _ _ kk => r_aloadN i5_51 rfl rfl kk) ?_
    refine liftP (fun _ _ kk => s5_52 hw rfl kk) ?_
    refine liftP (fun _ _ kk => r_aloadN i5_55 rfl rfl kk) ?_
    refine liftP (fun _ _ kk => s5_56 hw rfl kk) ?_
    refine liftP (fun _ _ kk => r_aloadN i5_59 rfl rfl kk) ?_
    refine liftP (fun _ _ kk => s5_60 hw rfl kk) ?_
    refine liftP (fun _ _ kk => r_iadd i5_63 kk) ?_
    refine liftP (fun _ _ kk => r_aloadN i5_64 rfl rfl kk) ?_
    refine liftP (fun _ _ kk => s5_65 hw rfl kk) ?_
    refine liftP (fun _ _ kk => r_len (n := 16) i5_68 rfl (by rw [arrF_len]; rfl) kk) ?_
    refine liftP (fun _ _ kk => r_iconst i5_69 kk) ?_
    refine liftP (fun _ _ kk => r_isub i5_70 kk) ?_
    refine liftP (fun _ _ kk => r_iand i5_71 kk) ?_
    refine liftP (fun _ _ kk => r_iloadN i5_72 rfl kk) ?_
    refine liftP (fun _ _ kk => r_iastore (H1 := [_, _, _, _, _]) i5_73 rfl j2 (by rw [arrF_len]; exact k2) arrF_set rfl kk) ?_
    refine liftP (fun _ _ kk => r_aloadN i5_74 rfl rfl kk) ?_
    refine liftP (fun _ _ kk => r_dup i5_75 rfl kk) ?_
    refine liftP (fun _ _ kk => s5_76 hw rfl kk) ?_
    refine liftP (fun _ _ kk => r_iconst i5_79 kk) ?_
    refine liftP (fun _ _ kk => r_iadd i5_80 kk) ?_
    refine liftP (fun _ _ kk => s5_81 hw (H1 := [_, _, _, _, _]) rfl rfl rfl rfl kk) ?_
    refine liftP (fun _ _ kk => r_goto i5_84 kk) ?_
    exact ⟨_, _, r_return i5_121 rfl, rfl, _, _, _, _, rfl, Or.inl ⟨rfl, rfl⟩⟩
  by_cases e1 : fq (hd + q - 1 &&& (16 - 1)).toNatClampNeg < x
  · skip
    refine liftP (fun _ _ kk => r_aloadN i5_0 rfl rfl kk) ?_
    refine liftP (fun _ _ kk => s5_1 hw rfl kk) ?_
    refine liftP (fun _ _ kk => r_ifF i5_4 (XT.i0_eq_f e0) kk) ?_
    refine liftP (fun _ _ kk => r_iloadN i5_7 rfl kk) ?_
    refine liftP (fun _ _ kk => r_aloadN i5_8 rfl rfl kk) ?_
    refine liftP (fun _ _ kk => s5_9 hw rfl kk) ?_
    refine liftP (fun _ _ kk => r_aloadN i5_12 rfl rfl kk) ?_
    refine liftP (fun _ _ kk => s5_13 hw rfl kk) ?_
    refine liftP (fun _ _ kk => r_aloadN i5_16 rfl rfl kk) ?_
    refine liftP (fun _ _ kk => s5_17 hw rfl kk) ?_
    refine liftP (fun _ _ kk => r_iadd i5_20 kk) ?_
    refine liftP (fun _ _ kk => r_iconst i5_21 kk) ?_
    refine liftP (fun _ _ kk => r_isub i5_22 kk) ?_
    refine liftP (fun _ _ kk => r_aloadN i5_23 rfl rfl kk) ?_
    refine liftP (fun _ _ kk => s5_24 hw rfl kk) ?_
    refine liftP (fun _ _ kk => r_len (n := 16) i5_27 rfl (by rw [arrF_len]; rfl) kk) ?_
    refine liftP (fun _ _ kk => r_iconst i5_28 kk) ?_
    refine liftP (fun _ _ kk => r_isub i5_29 kk) ?_
    refine liftP (fun _ _ kk => r_iand i5_30 kk) ?_
    refine liftP (fun _ _ kk => r_iaload i5_31 rfl j1 (arrF_at k1) kk) ?_
    refine liftP (fun _ _ kk => r_icF i5_32 (XT.ii_le_f e1) kk) ?_
    refine liftP (fun _ _ kk => r_aloadN i5_35 rfl rfl kk) ?_
    refine liftP (fun _ _ kk => s5_36 hw rfl kk) ?_
    refine liftP (fun _ _ kk => r_aloadN i5_39 rfl rfl kk) ?_
    refine liftP (fun _ _ kk => s5_40 hw rfl kk) ?_
    refine liftP (fun _ _ kk => r_len (n := 16) i5_43 rfl (by rw [arrF_len]; rfl) kk) ?_
    refine liftP (fun _ _ kk => r_icT i5_44 (XT.ii_ne_t q16) kk) ?_
    refine liftP (fun _ _ kk => r_aloadN i5_51 rfl rfl kk) ?_
    refine liftP (fun _ _ kk => s5_52 hw rfl kk) ?_
    refine liftP (fun _ _ kk => r_aloadN i5_55 rfl rfl kk) ?_
    refine liftP (fun _ _ kk => s5_56 hw rfl kk) ?_
    refine liftP (fun _ _ kk => r_aloadN i5_59 rfl rfl kk) ?_
    refine liftP (fun _ _ kk => s5_60 hw rfl kk) ?_
    refine liftP (fun _ _ kk => r_iadd i5_63 kk) ?_
    refine liftP (fun _ _ kk => r_aloadN i5_64 rfl rfl kk) ?_
    refine liftP (fun _ _ kk => s5_65 hw rfl kk) ?_
    refine liftP (fun _ _ kk => r_len (n := 16) i5_68 rfl (by rw [arrF_len]; rfl) kk) ?_
    refine liftP (fun _ _ kk => r_iconst i5_69 kk) ?_
    refine liftP (fun _ _ kk => r_isub i5_70 kk) ?_
    refine liftP (fun _ _ kk => r_iand i5_71 kk) ?_
    refine liftP (fun _ _ kk => r_iloadN i5_72 rfl kk) ?_
    refine liftP (fun _ _ kk => r_iastore (H1 := [_, _, _, _, _]) i5_73 rfl j2 (by rw [arrF_len]; exact k2) arrF_set rfl kk) ?_
    refine liftP (fun _ _ kk => r_aloadN i5_74 rfl rfl kk) ?_
    refine liftP (fun _ _ kk => r_dup i5_75 rfl kk) ?_
    refine liftP (fun _ _ kk => s5_76 hw rfl kk) ?_
    refine liftP (fun _ _ kk => r_iconst i5_79 kk) ?_
    refine liftP (fun _ _ kk => r_iadd i5_80 kk) ?_
    refine liftP (fun _ _ kk => s5_81 hw (H1 := [_, _, _, _, _]) rfl rfl rfl rfl kk) ?_
    refine liftP (fun _ _ kk => r_goto i5_84 kk) ?_
    exact ⟨_, _, r_return i5_121 rfl, rfl, _, _, _, _, rfl, Or.inl ⟨rfl, rfl⟩⟩
  · obtain ⟨fh', M⟩ := up_m (l := l) (n0 := n0) hw (o0 := o0) (o1 := o1) (q := q) (h := h) (hd := hd) (fq := fq) (fh := fh) (x := x) (own_3c hh)
    refine liftP (fun _ _ kk => r_aloadN i5_0 rfl rfl kk) ?_
    refine liftP (fun _ _ kk => s5_1 hw rfl kk) ?_
    refine liftP (fun _ _ kk => r_ifF i5_4 (XT.i0_eq_f e0) kk) ?_
    refine liftP (fun _ _ kk => r_iloadN i5_7 rfl kk) ?_
    refine liftP (fun _ _ kk => r_aloadN i5_8 rfl rfl kk) ?_
    refine liftP (fun _ _ kk => s5_9 hw rfl kk) ?_
    refine liftP (fun _ _ kk => r_aloadN i5_12 rfl rfl kk) ?_
    refine liftP (fun _ _ kk => s5_13 hw rfl kk) ?_
    refine liftP (fun _ _ kk => r_aloadN i5_16 rfl rfl kk) ?_
    refine liftP (fun _ _ kk => s5_17 hw rfl kk) ?_
    refine liftP (fun _ _ kk => r_iadd i5_20 kk) ?_
    refine liftP (fun _ _ kk => r_iconst i5_21 kk) ?_
    refine liftP (fun _ _ kk => r_isub i5_22 kk) ?_
    refine liftP (fun _ _ kk => r_aloadN i5_23 rfl rfl kk) ?_
    refine liftP (fun _ _ kk => s5_24 hw rfl kk) ?_
    refine liftP (fun _ _ kk => r_len (n := 16) i5_27 rfl (by rw [arrF_len]; rfl) kk) ?_
    refine liftP (fun _ _ kk => r_iconst i5_28 kk) ?_
    refine liftP (fun _ _ kk => r_isub i5_29 kk) ?_
    refine liftP (fun _ _ kk => r_iand i5_30 kk) ?_
    refine liftP (fun _ _ kk => r_iaload i5_31 rfl j1 (arrF_at k1) kk) ?_
    refine liftP (fun _ _ kk => r_icT i5_32 (XT.ii_le_t e1) kk) ?_
    refine liftP (fun _ _ kk => r_aloadN i5_87 rfl rfl kk) ?_
    refine liftP (fun _ _ kk => s5_88 hw rfl kk) ?_
    refine liftP (fun _ _ kk => r_aloadN i5_91 rfl rfl kk) ?_
    refine liftP (fun _ _ kk => s5_92 hw rfl kk) ?_
    refine liftP (fun _ _ kk => r_len (n := 16) i5_95 rfl (by rw [arrF_len]; rfl) kk) ?_
    refine liftP (fun _ _ kk => r_icT i5_96 (XT.ii_ne_t h16) kk) ?_
    refine liftP (fun _ _ kk => r_aloadN i5_116 rfl rfl kk) ?_
    refine liftP (fun _ _ kk => r_iloadN i5_117 rfl kk) ?_
    refine liftP (fun _ _ kk => s5_118 hw (H1 := [_, _, _, _, _]) rfl (M) rfl (leB rfl) kk) ?_
    exact ⟨_, _, r_return i5_121 rfl, rfl, _, _, _, _, rfl, Or.inr ⟨rfl, rfl⟩⟩
theorem fq_0 {l : Launch} {Z : State} {a0 : Array Value} {n0 : Nat} (hw : HW Z a0) {o0 o1 : Ob} {q h hd : Int32} {fq fh : Nat → Int32} (h1 : h = 0) : Meets K l Z n0 m7 [.ref 2] (SS o0 o1 q h hd fq fh) (some (.int 1)) (SS o0 o1 q h hd fq fh) := by
  refine meets (ls := [_]) pf7 rfl (fun h => nomatch h) ?_
  refine r_aloadN i7_0 rfl rfl ?_
  refine s7_1 hw rfl ?_
  refine r_ifT i7_4 (XT.i0_eq_t h1) ?_
  refine r_iconst i7_32 ?_
  refine r_goto i7_33 ?_
  exact r_zreturn i7_37 rfl (by first | decide | simp)
theorem fq_1 {l : Launch} {Z : State} {a0 : Array Value} {n0 : Nat} (hw : HW Z a0) {o0 o1 : Ob} {q h hd : Int32} {fq fh : Nat → Int32} (h1 : ¬ h = 0) (h2 : ¬ 0 < q) : Meets K l Z n0 m7 [.ref 2] (SS o0 o1 q h hd fq fh) (some (.int 0)) (SS o0 o1 q h hd fq fh) := by
  refine meets (ls := [_]) pf7 rfl (fun h => nomatch h) ?_
  refine r_aloadN i7_0 rfl rfl ?_
  refine s7_1 hw rfl ?_
  refine r_ifF i7_4 (XT.i0_eq_f h1) ?_
  refine r_aloadN i7_7 rfl rfl ?_
  refine s7_8 hw rfl ?_
  refine r_ifT i7_11 (XT.i0_le_t h2) ?_
  refine r_iconst i7_36 ?_
  exact r_zreturn i7_37 rfl (by first | decide | simp)
theorem fq_2 {l : Launch} {Z : State} {a0 : Array Value} {n0 : Nat} (hw : HW Z a0) {o0 o1 : Ob} {q h hd : Int32} {fq fh : Nat → Int32} (h1 : ¬ h = 0) (h2 : 0 < q) (hd0 : 0 ≤ hd.toInt ∧ hd.toInt < 16) (h3 : fq hd.toNatClampNeg < fh 0) : Meets K l Z n0 m7 [.ref 2] (SS o0 o1 q h hd fq fh) (some (.int 1)) (SS o0 o1 q h hd fq fh) := by
  refine meets (ls := [_]) pf7 rfl (fun h => nomatch h) ?_
  refine r_aloadN i7_0 rfl rfl ?_
  refine s7_1 hw rfl ?_
  refine r_ifF i7_4 (XT.i0_eq_f h1) ?_
  refine r_aloadN i7_7 rfl rfl ?_
  refine s7_8 hw rfl ?_
  refine r_ifF i7_11 (XT.i0_le_f h2) ?_
  refine r_aloadN i7_14 rfl rfl ?_
  refine s7_15 hw rfl ?_
  refine r_aloadN i7_18 rfl rfl ?_
  refine s7_19 hw rfl ?_
  refine r_iaload i7_22 rfl (own_hd hd0).1 (arrF_at (own_hd hd0).2) ?_
  refine r_aloadN i7_23 rfl rfl ?_
  refine s7_24 hw rfl ?_
  refine r_iconst i7_27 ?_
  refine r_iaload (i := 0) i7_28 rfl ⟨by decide, by decide⟩ (arrF_at (by decide)) ?_
  refine r_icF i7_29 (XT.ii_ge_f h3) ?_
  refine r_iconst i7_32 ?_
  refine r_goto i7_33 ?_
  exact r_zreturn i7_37 rfl (by first | decide | simp)
theorem fq_3 {l : Launch} {Z : State} {a0 : Array Value} {n0 : Nat} (hw : HW Z a0) {o0 o1 : Ob} {q h hd : Int32} {fq fh : Nat → Int32} (h1 : ¬ h = 0) (h2 : 0 < q) (hd0 : 0 ≤ hd.toInt ∧ hd.toInt < 16) (h3 : ¬ fq hd.toNatClampNeg < fh 0) : Meets K l Z n0 m7 [.ref 2] (SS o0 o1 q h hd fq fh) (some (.int 0)) (SS o0 o1 q h hd fq fh) := by
  refine meets (ls := [_]) pf7 rfl (fun h => nomatch h) ?_
  refine r_aloadN i7_0 rfl rfl ?_
  refine s7_1 hw rfl ?_
  refine r_ifF i7_4 (XT.i0_eq_f h1) ?_
  refine r_aloadN i7_7 rfl rfl ?_
  refine s7_8 hw rfl ?_
  refine r_ifF i7_11 (XT.i0_le_f h2) ?_
  refine r_aloadN i7_14 rfl rfl ?_
  refine s7_15 hw rfl ?_
  refine r_aloadN i7_18 rfl rfl ?_
  refine s7_19 hw rfl ?_
  refine r_iaload i7_22 rfl (own_hd hd0).1 (arrF_at (own_hd hd0).2) ?_
  refine r_aloadN i7_23 rfl rfl ?_
  refine s7_24 hw rfl ?_
  refine r_iconst i7_27 ?_
  refine r_iaload (i := 0) i7_28 rfl ⟨by decide, by decide⟩ (arrF_at (by decide)) ?_
  refine r_icT i7_29 (XT.ii_ge_t h3) ?_
  refine r_iconst i7_36 ?_
  exact r_zreturn i7_37 rfl (by first | decide | simp)
theorem fq_m {l : Launch} {Z : State} {a0 : Array Value} {n0 : Nat} (hw : HW Z a0) {o0 o1 : Ob} {q h hd : Int32} {fq fh : Nat → Int32} (hd0 : 0 ≤ hd.toInt ∧ hd.toInt < 16) : (Meets K l Z n0 m7 [.ref 2] (SS o0 o1 q h hd fq fh) (some (.int 1)) (SS o0 o1 q h hd fq fh) ∧ (h = 0 ∨ 0 < q)) ∨ (Meets K l Z n0 m7 [.ref 2] (SS o0 o1 q h hd fq fh) (some (.int 0)) (SS o0 o1 q h hd fq fh) ∧ ¬ h = 0) := by
  by_cases h1 : h = 0
  · exact Or.inl ⟨fq_0 hw h1, Or.inl h1⟩
  by_cases h2 : 0 < q
  · by_cases h3 : fq hd.toNatClampNeg < fh 0
    · exact Or.inl ⟨fq_2 hw h1 h2 hd0 h3, Or.inr h2⟩
    · exact Or.inr ⟨fq_3 hw h1 h2 hd0 h3, h1⟩
  · exact Or.inr ⟨fq_1 hw h1 h2, h1⟩
theorem take_m {l : Launch} {Z : State} {a0 : Array Value} {n0 : Nat} (hw : HW Z a0) {o0 o1 : Ob} {q h hd : Int32} {fq fh : Nat → Int32} (hq : 0 ≤ q.toInt ∧ q.toInt ≤ 3) (hh : 0 ≤ h.toInt ∧ h.toInt ≤ 3) (hs : 1 ≤ q.toInt + h.toInt) (hd0 : 0 ≤ hd.toInt ∧ hd.toInt < 16) : ∃ v q' h' hd' fh', Meets K l Z n0 m6 [.ref 2] (SS o0 o1 q h hd fq fh) (some (.int v)) (SS o0 o1 q' h' hd' fq fh') ∧ 0 ≤ q'.toInt ∧ 0 ≤ h'.toInt ∧ q'.toInt + h'.toInt = q.toInt + h.toInt - 1 ∧ (0 ≤ hd'.toInt ∧ hd'.toInt < 16) := by
  suffices k : RunsP K l Z n0 m6 0 [.val (.ref 2), .unset] [] (SS o0 o1 q h hd fq fh) (fun v H' => ∃ x q' h' hd' fh', v = some (.int x) ∧ H' = (SS o0 o1 q' h' hd' fq fh') ∧ 0 ≤ q'.toInt ∧ 0 ≤ h'.toInt ∧ q'.toInt + h'.toInt = q.toInt + h.toInt - 1 ∧ (0 ≤ hd'.toInt ∧ hd'.toInt < 16)) by
    obtain ⟨_, _, k, x, q', h', hd', fh', rfl, rfl, t⟩ := k
    exact ⟨x, q', h', hd', fh', meets pf6 rfl (fun h => nomatch h) k, t⟩
  have e0 : (0 : Int32).toInt = 0 := by decide
  have dq := own_dec (x := q) (by omega)
  have dh := own_dec (x := h) (by omega)
  rcases fq_m (l := l) (n0 := n0) hw (o0 := o0) (o1 := o1) (q := q) (h := h) (fq := fq) (fh := fh) hd0 with ⟨M, c⟩ | ⟨M, c⟩
  · have qp : 1 ≤ q.toInt := by
      rcases c with c | c
      · rw [c] at hs; omega
      · rw [Int32.lt_iff_toInt_lt] at c; omega
    refine liftP (fun _ _ kk => r_aloadN i6_0 rfl rfl kk) ?_
    refine liftP (fun _ _ kk => s6_1 hw (H1 := [_, _, _, _, _]) rfl (M) rfl (leB rfl) kk) ?_
    refine liftP (fun _ _ kk => r_ifF i6_4 (XT.i0_eq_f (by decide)) kk) ?_
    refine liftP (fun _ _ kk => r_aloadN i6_7 rfl rfl kk) ?_
    refine liftP (fun _ _ kk => s6_8 hw rfl kk) ?_
    refine liftP (fun _ _ kk => r_aloadN i6_11 rfl rfl kk) ?_
    refine liftP (fun _ _ kk => s6_12 hw rfl kk) ?_
    refine liftP (fun _ _ kk => r_iaload i6_15 rfl (own_hd hd0).1 (arrF_at (own_hd hd0).2) kk) ?_
    refine liftP (fun _ _ kk => r_istoreN (ls' := [_, _]) i6_16 rfl rfl kk) ?_
    refine liftP (fun _ _ kk => r_aloadN i6_17 rfl rfl kk) ?_
    refine liftP (fun _ _ kk => r_aloadN i6_18 rfl rfl kk) ?_
    refine liftP (fun _ _ kk => s6_19 hw rfl kk) ?_
    refine liftP (fun _ _ kk => r_iconst i6_22 kk) ?_
    refine liftP (fun _ _ kk => r_iadd i6_23 kk) ?_
    refine liftP (fun _ _ kk => r_aloadN i6_24 rfl rfl kk) ?_
    refine liftP (fun _ _ kk => s6_25 hw rfl kk) ?_
    refine liftP (fun _ _ kk => r_len (n := 16) i6_28 rfl (by rw [arrF_len]; rfl) kk) ?_
    refine liftP (fun _ _ kk => r_iconst i6_29 kk) ?_
    refine liftP (fun _ _ kk => r_isub i6_30 kk) ?_
    refine liftP (fun _ _ kk => r_iand i6_31 kk) ?_
    refine liftP (fun _ _ kk => s6_32 hw (H1 := [_, _, _, _, _]) rfl rfl rfl rfl kk) ?_
    refine liftP (fun _ _ kk => r_aloadN i6_35 rfl rfl kk) ?_
    refine liftP (fun _ _ kk => r_dup i6_36 rfl kk) ?_
    refine liftP (fun _ _ kk => s6_37 hw rfl kk) ?_
    refine liftP (fun _ _ kk => r_iconst i6_40 kk) ?_
    refine liftP (fun _ _ kk => r_isub i6_41 kk) ?_
    refine liftP (fun _ _ kk => s6_42 hw (H1 := [_, _, _, _, _]) rfl rfl rfl rfl kk) ?_
    refine liftP (fun _ _ kk => r_goto i6_45 kk) ?_
    refine liftP (fun _ _ kk => r_iloadN i6_75 rfl kk) ?_
    exact ⟨_, _, r_ireturn i6_76 rfl, _, _, _, _, _, rfl, rfl, by omega, by omega, by omega, own_hd' _⟩
  · have hp : 1 ≤ h.toInt := by
      rcases Int.lt_or_le 0 h.toInt with z | z
      · omega
      · exact absurd (Int32.toInt_inj.mp (show h.toInt = (0 : Int32).toInt by omega)) c
    obtain ⟨j1, k1⟩ := own_hd (x := h - 1) (by omega)
    obtain ⟨fh', D⟩ := down_m (l := l) (n0 := n0) hw (o0 := o0) (o1 := o1) (q := q) (h := h - 1) (hd := hd) (fq := fq) (fh := fh) (x := fh (h - 1).toNatClampNeg) (own_3c (by omega))
    refine liftP (fun _ _ kk => r_aloadN i6_0 rfl rfl kk) ?_
    refine liftP (fun _ _ kk => s6_1 hw (H1 := [_, _, _, _, _]) rfl (M) rfl (leB rfl) kk) ?_
    refine liftP (fun _ _ kk => r_ifT i6_4 (XT.i0_eq_t rfl) kk) ?_
    refine liftP (fun _ _ kk => r_aloadN i6_48 rfl rfl kk) ?_
    refine liftP (fun _ _ kk => s6_49 hw rfl kk) ?_
    refine liftP (fun _ _ kk => r_iconst i6_52 kk) ?_
    refine liftP (fun _ _ kk => r_iaload (i := 0) i6_53 rfl ⟨by decide, by decide⟩ (arrF_at (by decide)) kk) ?_
    refine liftP (fun _ _ kk => r_istoreN (ls' := [_, _]) i6_54 rfl rfl kk) ?_
    refine liftP (fun _ _ kk => r_aloadN i6_55 rfl rfl kk) ?_
    refine liftP (fun _ _ kk => r_aloadN i6_56 rfl rfl kk) ?_
    refine liftP (fun _ _ kk => s6_57 hw rfl kk) ?_
    refine liftP (fun _ _ kk => r_aloadN i6_60 rfl rfl kk) ?_
    refine liftP (fun _ _ kk => r_dup i6_61 rfl kk) ?_
    refine liftP (fun _ _ kk => s6_62 hw rfl kk) ?_
    refine liftP (fun _ _ kk => r_iconst i6_65 kk) ?_
    refine liftP (fun _ _ kk => r_isub i6_66 kk) ?_
    refine liftP (fun _ _ kk => r_dupX1 i6_67 rfl rfl kk) ?_
    refine liftP (fun _ _ kk => s6_68 hw (H1 := [_, _, _, _, _]) rfl rfl rfl rfl kk) ?_
    refine liftP (fun _ _ kk => r_iaload i6_71 rfl j1 (arrF_at k1) kk) ?_
    refine liftP (fun _ _ kk => s6_72 hw (H1 := [_, _, _, _, _]) rfl (D) rfl (leB rfl) kk) ?_
    refine liftP (fun _ _ kk => r_iloadN i6_75 rfl kk) ?_
    exact ⟨_, _, r_ireturn i6_76 rfl, _, _, _, _, _, rfl, rfl, by omega, by omega, by omega, hd0⟩
theorem init_m {l : Launch} {Z : State} {a0 : Array Value} {n0 : Nat} (hw : HW Z a0) {o0 o1 : Ob} : Meets K l Z n0 m1 [.ref 2] [o0, o1, .inl (0, [.null, .null, .int 0, .int 0, .int 0])] none (SS o0 o1 0 0 0 (fun _ => 0) (fun _ => 0)) := by
  refine meets (ls := [_]) pf1 rfl (fun _ => rfl) ?_
  refine r_aloadN i1_0 rfl rfl ?_
  refine s1_1 hw rfl (leB rfl) ?_
  refine r_aloadN i1_4 rfl rfl ?_
  refine r_bipush i1_5 ?_
  refine s1_7 hw (a := 3) (o := arrF 16 (fun _ => 0)) (H1 := [_, _, _, _]) (by decide) (by decide) arrF_zero rfl rfl ?_
  refine s1_9 hw (H1 := [_, _, _, _]) rfl rfl rfl rfl ?_
  refine r_aloadN i1_12 rfl rfl ?_
  refine r_bipush i1_13 ?_
  refine s1_15 hw (a := 4) (o := arrF 16 (fun _ => 0)) (H1 := [_, _, _, _, _]) (by decide) (by decide) arrF_zero rfl rfl ?_
  refine s1_17 hw (H1 := [_, _, _, _, _]) rfl rfl rfl rfl ?_
  exact r_return i1_20 rfl
abbrev Inv (s0 s1 q h hd : Int32) : Prop := 0 ≤ q.toInt ∧ 0 ≤ h.toInt ∧ s0.toInt = q.toInt + h.toInt ∧ s0.toInt ≤ s1.toInt ∧ s1.toInt ≤ 3 ∧ 0 ≤ hd.toInt ∧ hd.toInt < 16
theorem own_pick {a b c s1 : Int32} (h : 0 ≤ s1.toInt ∧ s1.toInt ≤ 2) : ∃ x : Int32, ([.int a, .int b, .int c] : List Value)[s1.toNatClampNeg]? = some (.int x) := by
  rcases own_3c h with rfl | rfl | rfl
  · exact ⟨a, rfl⟩
  · exact ⟨b, rfl⟩
  · exact ⟨c, rfl⟩
theorem step_end {l : Launch} {Z : State} {a0 : Array Value} {n0 : Nat} (hw : HW Z a0) {a b c s0 s1 q h hd ad : Int32} {fq fh : Nat → Int32} (I : Inv s0 s1 q h hd) : Runs K l Z n0 m4 58 [.val (.ref 2), .val (.ref 1), .val (.ref 0), .val (.int ad)] [] (SS (.inr (.int, [.int a, .int b, .int c])) (.inr (.int, [.int s0, .int s1])) q h hd fq fh) (some (.int 1)) (SS (.inr (.int, [.int a, .int b, .int c])) (.inr (.int, [.int s0, .int s1])) q h hd fq fh) := by
  obtain ⟨i1, i2, i3, i4, i5, i6, i7⟩ := I
  have e0 : (0 : Int32).toInt = 0 := by decide
  by_cases h1 : q = 0
  · by_cases h2 : h = 0
    · have z : s0 = 0 := by
        rw [h1, h2] at i3
        apply Int32.toInt_inj.mp; omega
      refine r_aloadN i4_58 rfl rfl ?_
      refine s4_59 hw (H1 := [_, _, _, _, _]) rfl (empty_yes hw h1 h2) rfl (leB rfl) ?_
      refine r_aloadN i4_62 rfl rfl ?_
      refine r_iconst i4_63 ?_
      refine r_iaload (i := 0) i4_64 rfl ⟨by decide, by decide⟩ rfl ?_
      refine r_ifF i4_65 (XT.i0_ne_f z) ?_
      refine r_iconst i4_68 ?_
      refine r_goto i4_69 ?_
      refine r_icF i4_73 (XT.ii_ne_f rfl) ?_
      refine r_iconst i4_76 ?_
      refine r_goto i4_77 ?_
      exact r_zreturn i4_81 rfl (by first | decide | simp)
    · have z : ¬ s0 = 0 := by
        intro z
        rw [z, h1] at i3
        exact h2 (Int32.toInt_inj.mp (by omega))
      refine r_aloadN i4_58 rfl rfl ?_
      refine s4_59 hw (H1 := [_, _, _, _, _]) rfl (empty_h hw h1 h2) rfl (leB rfl) ?_
      refine r_aloadN i4_62 rfl rfl ?_
      refine r_iconst i4_63 ?_
      refine r_iaload (i := 0) i4_64 rfl ⟨by decide, by decide⟩ rfl ?_
      refine r_ifT i4_65 (XT.i0_ne_t z) ?_
      refine r_iconst i4_72 ?_
      refine r_icF i4_73 (XT.ii_ne_f rfl) ?_
      refine r_iconst i4_76 ?_
      refine r_goto i4_77 ?_
      exact r_zreturn i4_81 rfl (by first | decide | simp)
  · have z : ¬ s0 = 0 := by
      intro z
      rw [z] at i3
      exact h1 (Int32.toInt_inj.mp (by omega))
    refine r_aloadN i4_58 rfl rfl ?_
    refine s4_59 hw (H1 := [_, _, _, _, _]) rfl (empty_q hw h1) rfl (leB rfl) ?_
    refine r_aloadN i4_62 rfl rfl ?_
    refine r_iconst i4_63 ?_
    refine r_iaload (i := 0) i4_64 rfl ⟨by decide, by decide⟩ rfl ?_
    refine r_ifT i4_65 (XT.i0_ne_t z) ?_
    refine r_iconst i4_72 ?_
    refine r_icF i4_73 (XT.ii_ne_f rfl) ?_
    refine r_iconst i4_76 ?_
    refine r_goto i4_77 ?_
    exact r_zreturn i4_81 rfl (by first | decide | simp)
theorem step_m {l : Launch} {Z : State} {a0 : Array Value} {n0 : Nat} (hw : HW Z a0) {a b c s0 s1 q h hd ad : Int32} {fq fh : Nat → Int32} (I : Inv s0 s1 q h hd) : ∃ s0' s1' q' h' hd' fq' fh', Meets K l Z n0 m4 [.ref 2, .ref 1, .ref 0, .int ad] (SS (.inr (.int, [.int a, .int b, .int c])) (.inr (.int, [.int s0, .int s1])) q h hd fq fh) (some (.int 1)) (SS (.inr (.int, [.int a, .int b, .int c])) (.inr (.int, [.int s0', .int s1'])) q' h' hd' fq' fh') ∧ Inv s0' s1' q' h' hd' := by
  have I0 := I
  obtain ⟨i1, i2, i3, i4, i5, i6, i7⟩ := I
  have e0 : (0 : Int32).toInt = 0 := by decide
  have e3 : (3 : Int32).toInt = 3 := by decide
  by_cases a0' : ad = 0
  · skip
    by_cases p : 0 < s0
    · have p' := p
      rw [Int32.lt_iff_toInt_lt] at p'
      have ds := own_dec (x := s0) (by omega)
      obtain ⟨v, q', h', hd', fh', M, t1, t2, t3, t4⟩ := take_m (l := l) (n0 := n0) hw (o0 := .inr (.int, [.int a, .int b, .int c])) (o1 := .inr (.int, [.int s0, .int s1])) (q := q) (h := h) (hd := hd) (fq := fq) (fh := fh) (by omega) (by omega) (by omega) ⟨i6, i7⟩
      refine ⟨s0 - 1, s1, q', h', hd', fq, fh', meets (ls := [_, _, _, _]) pf4 rfl (fun h => nomatch h) ?_, by omega, by omega, by omega, by omega, by omega, t4.1, t4.2⟩
      refine r_iloadN i4_0 rfl ?_
      refine r_ifT i4_1 (XT.i0_eq_t a0') ?_
      refine r_aloadN i4_39 rfl rfl ?_
      refine r_iconst i4_40 ?_
      refine r_iaload (i := 0) i4_41 rfl ⟨by decide, by decide⟩ rfl ?_
      refine r_ifF i4_42 (XT.i0_le_f p) ?_
      refine r_aloadN i4_45 rfl rfl ?_
      refine s4_46 hw (H1 := [_, _, _, _, _]) rfl (M) rfl (leB rfl) ?_
      refine r_pop i4_49 rfl ?_
      refine r_aloadN i4_50 rfl rfl ?_
      refine r_iconst i4_51 ?_
      refine r_aloadN i4_52 rfl rfl ?_
      refine r_iconst i4_53 ?_
      refine r_iaload (i := 0) i4_54 rfl ⟨by decide, by decide⟩ rfl ?_
      refine r_iconst i4_55 ?_
      refine r_isub i4_56 ?_
      refine r_iastore (i := 0) (vs' := [_, _]) (H1 := [_, _, _, _, _]) i4_57 rfl ⟨by decide, by decide⟩ (ltB rfl) rfl rfl ?_
      exact step_end hw ⟨t1, t2, by omega, by omega, by omega, t4.1, t4.2⟩
    · refine ⟨s0, s1, q, h, hd, fq, fh, meets (ls := [_, _, _, _]) pf4 rfl (fun h => nomatch h) ?_, I0⟩
      refine r_iloadN i4_0 rfl ?_
      refine r_ifT i4_1 (XT.i0_eq_t a0') ?_
      refine r_aloadN i4_39 rfl rfl ?_
      refine r_iconst i4_40 ?_
      refine r_iaload (i := 0) i4_41 rfl ⟨by decide, by decide⟩ rfl ?_
      refine r_ifT i4_42 (XT.i0_le_t p) ?_
      exact step_end hw I0
  by_cases a1 : s1 < 3
  rotate_left
  · skip
    by_cases p : 0 < s0
    · have p' := p
      rw [Int32.lt_iff_toInt_lt] at p'
      have ds := own_dec (x := s0) (by omega)
      obtain ⟨v, q', h', hd', fh', M, t1, t2, t3, t4⟩ := take_m (l := l) (n0 := n0) hw (o0 := .inr (.int, [.int a, .int b, .int c])) (o1 := .inr (.int, [.int s0, .int s1])) (q := q) (h := h) (hd := hd) (fq := fq) (fh := fh) (by omega) (by omega) (by omega) ⟨i6, i7⟩
      refine ⟨s0 - 1, s1, q', h', hd', fq, fh', meets (ls := [_, _, _, _]) pf4 rfl (fun h => nomatch h) ?_, by omega, by omega, by omega, by omega, by omega, t4.1, t4.2⟩
      refine r_iloadN i4_0 rfl ?_
      refine r_ifF i4_1 (XT.i0_eq_f a0') ?_
      refine r_aloadN i4_4 rfl rfl ?_
      refine r_iconst i4_5 ?_
      refine r_iaload (i := 1) i4_6 rfl ⟨by decide, by decide⟩ rfl ?_
      refine r_iconst i4_7 ?_
      refine r_icT i4_8 (XT.ii_ge_t a1) ?_
      refine r_aloadN i4_39 rfl rfl ?_
      refine r_iconst i4_40 ?_
      refine r_iaload (i := 0) i4_41 rfl ⟨by decide, by decide⟩ rfl ?_
      refine r_ifF i4_42 (XT.i0_le_f p) ?_
      refine r_aloadN i4_45 rfl rfl ?_
      refine s4_46 hw (H1 := [_, _, _, _, _]) rfl (M) rfl (leB rfl) ?_
      refine r_pop i4_49 rfl ?_
      refine r_aloadN i4_50 rfl rfl ?_
      refine r_iconst i4_51 ?_
      refine r_aloadN i4_52 rfl rfl ?_
      refine r_iconst i4_53 ?_
      refine r_iaload (i := 0) i4_54 rfl ⟨by decide, by decide⟩ rfl ?_
      refine r_iconst i4_55 ?_
      refine r_isub i4_56 ?_
      refine r_iastore (i := 0) (vs' := [_, _]) (H1 := [_, _, _, _, _]) i4_57 rfl ⟨by decide, by decide⟩ (ltB rfl) rfl rfl ?_
      exact step_end hw ⟨t1, t2, by omega, by omega, by omega, t4.1, t4.2⟩
    · refine ⟨s0, s1, q, h, hd, fq, fh, meets (ls := [_, _, _, _]) pf4 rfl (fun h => nomatch h) ?_, I0⟩
      refine r_iloadN i4_0 rfl ?_
      refine r_ifF i4_1 (XT.i0_eq_f a0') ?_
      refine r_aloadN i4_4 rfl rfl ?_
      refine r_iconst i4_5 ?_
      refine r_iaload (i := 1) i4_6 rfl ⟨by decide, by decide⟩ rfl ?_
      refine r_iconst i4_7 ?_
      refine r_icT i4_8 (XT.ii_ge_t a1) ?_
      refine r_aloadN i4_39 rfl rfl ?_
      refine r_iconst i4_40 ?_
      refine r_iaload (i := 0) i4_41 rfl ⟨by decide, by decide⟩ rfl ?_
      refine r_ifT i4_42 (XT.i0_le_t p) ?_
      exact step_end hw I0
  · have a1' := a1
    rw [Int32.lt_iff_toInt_lt] at a1'
    obtain ⟨x, hx⟩ := own_pick (a := a) (b := b) (c := c) (s1 := s1) (by omega)
    have d0 := own_inc (x := s0) (by omega)
    have d1 := own_inc (x := s1) (by omega)
    have d2 := own_inc (x := q) (by omega)
    have d3 := own_inc (x := h) (by omega)
    obtain ⟨q', h', fq', fh', M, t⟩ := add_m (l := l) (n0 := n0) hw (o0 := .inr (.int, [.int a, .int b, .int c])) (o1 := .inr (.int, [.int s0, .int s1])) (q := q) (h := h) (hd := hd) (fq := fq) (fh := fh) (x := x) (by omega) (by omega)
    have I' : Inv (s0 + 1) (s1 + 1) q' h' hd := by
      rcases t with ⟨rfl, rfl⟩ | ⟨rfl, rfl⟩
      · exact ⟨by omega, by omega, by omega, by omega, by omega, i6, i7⟩
      · exact ⟨by omega, by omega, by omega, by omega, by omega, i6, i7⟩
    refine ⟨s0 + 1, s1 + 1, q', h', hd, fq', fh', meets (ls := [_, _, _, _]) pf4 rfl (fun h => nomatch h) ?_, I'⟩
    refine r_iloadN i4_0 rfl ?_
    refine r_ifF i4_1 (XT.i0_eq_f a0') ?_
    refine r_aloadN i4_4 rfl rfl ?_
    refine r_iconst i4_5 ?_
    refine r_iaload (i := 1) i4_6 rfl ⟨by decide, by decide⟩ rfl ?_
    refine r_iconst i4_7 ?_
    refine r_icF i4_8 (XT.ii_ge_f a1) ?_
    refine r_aloadN i4_11 rfl rfl ?_
    refine r_aloadN i4_12 rfl rfl ?_
    refine r_aloadN i4_13 rfl rfl ?_
    refine r_iconst i4_14 ?_
    refine r_iaload (i := 1) i4_15 rfl ⟨by decide, by decide⟩ rfl ?_
    refine r_iaload i4_16 rfl (ix_of (by omega)) hx ?_
    refine s4_17 hw (H1 := [_, _, _, _, _]) rfl (M) rfl (leB rfl) ?_
    refine r_aloadN i4_20 rfl rfl ?_
    refine r_iconst i4_21 ?_
    refine r_aloadN i4_22 rfl rfl ?_
    refine r_iconst i4_23 ?_
    refine r_iaload (i := 1) i4_24 rfl ⟨by decide, by decide⟩ rfl ?_
    refine r_iconst i4_25 ?_
    refine r_iadd i4_26 ?_
    refine r_iastore (i := 1) (vs' := [_, _]) (H1 := [_, _, _, _, _]) i4_27 rfl ⟨by decide, by decide⟩ (ltB rfl) rfl rfl ?_
    refine r_aloadN i4_28 rfl rfl ?_
    refine r_iconst i4_29 ?_
    refine r_aloadN i4_30 rfl rfl ?_
    refine r_iconst i4_31 ?_
    refine r_iaload (i := 0) i4_32 rfl ⟨by decide, by decide⟩ rfl ?_
    refine r_iconst i4_33 ?_
    refine r_iadd i4_34 ?_
    refine r_iastore (i := 0) (vs' := [_, _]) (H1 := [_, _, _, _, _]) i4_35 rfl ⟨by decide, by decide⟩ (ltB rfl) rfl rfl ?_
    refine r_goto i4_36 ?_
    exact step_end hw I'
set_option maxHeartbeats 4000000 in
theorem stage168 {l : Launch} {Z : State} {a0 : Array Value} {n0 : Nat} (hw : HW Z a0) (p0 p1 p2 p3 : Int32) {a b c s0 s1 q h hd : Int32} {fq fh : Nat → Int32} (I : Inv s0 s1 q h hd) : RunsB K l Z n0 m0 168 [.val (.int p0), .val (.int p1), .val (.int p2), .val (.int p3), .val (.ref 0), .val (.ref 1), .val (.ref 2), .val (.int 1)] [] (SS (.inr (.int, [.int a, .int b, .int c])) (.inr (.int, [.int s0, .int s1])) q h hd fq fh) (some (.int 1)) 24 192 := by
  by_cases e : p3 &&& 8 = 0
  · obtain ⟨s0', s1', q', h', hd', fq', fh', M, I'⟩ := step_m (l := l) (n0 := n0) hw (a := a) (b := b) (c := c) (fq := fq) (fh := fh) (ad := 0) I
    refine lift (fun _ kk => r_aload i0_168 rfl rfl kk) ?_
    refine lift (fun _ kk => r_aload i0_170 rfl rfl kk) ?_
    refine lift (fun _ kk => r_aload i0_172 rfl rfl kk) ?_
    refine lift (fun _ kk => r_iloadN i0_174 rfl kk) ?_
    refine lift (fun _ kk => r_bipush i0_175 kk) ?_
    refine lift (fun _ kk => r_iand i0_177 kk) ?_
    refine lift (fun _ kk => r_ifT i0_178 (XT.i0_eq_t e) kk) ?_
    refine lift (fun _ kk => r_iconst i0_185 kk) ?_
    refine lift (fun _ kk => s0_186 hw (H1 := [_, _, _, _, _]) (M) rfl (leB rfl) kk) ?_
    refine lift (fun _ kk => r_ifF i0_189 (XT.i0_eq_f (by decide)) kk) ?_
    refine lift (fun _ kk => r_iload i0_192 rfl kk) ?_
    refine lift (fun _ kk => r_ifF i0_194 (XT.i0_eq_f (by decide)) kk) ?_
    refine lift (fun _ kk => r_iconst i0_197 kk) ?_
    refine lift (fun _ kk => r_goto i0_198 kk) ?_
    refine lift (fun _ kk => r_istore (ls' := [_, _, _, _, _, _, _, _]) i0_202 rfl rfl kk) ?_
    refine lift (fun _ kk => r_iload i0_204 rfl kk) ?_
    exact ⟨_, r_zreturn i0_206 rfl (by first | decide | simp), leB rfl, own_sz⟩
  · obtain ⟨s0', s1', q', h', hd', fq', fh', M, I'⟩ := step_m (l := l) (n0 := n0) hw (a := a) (b := b) (c := c) (fq := fq) (fh := fh) (ad := 1) I
    refine lift (fun _ kk => r_aload i0_168 rfl rfl kk) ?_
    refine lift (fun _ kk => r_aload i0_170 rfl rfl kk) ?_
    refine lift (fun _ kk => r_aload i0_172 rfl rfl kk) ?_
    refine lift (fun _ kk => r_iloadN i0_174 rfl kk) ?_
    refine lift (fun _ kk => r_bipush i0_175 kk) ?_
    refine lift (fun _ kk => r_iand i0_177 kk) ?_
    refine lift (fun _ kk => r_ifF i0_178 (XT.i0_eq_f e) kk) ?_
    refine lift (fun _ kk => r_iconst i0_181 kk) ?_
    refine lift (fun _ kk => r_goto i0_182 kk) ?_
    refine lift (fun _ kk => s0_186 hw (H1 := [_, _, _, _, _]) (M) rfl (leB rfl) kk) ?_
    refine lift (fun _ kk => r_ifF i0_189 (XT.i0_eq_f (by decide)) kk) ?_
    refine lift (fun _ kk => r_iload i0_192 rfl kk) ?_
    refine lift (fun _ kk => r_ifF i0_194 (XT.i0_eq_f (by decide)) kk) ?_
    refine lift (fun _ kk => r_iconst i0_197 kk) ?_
    refine lift (fun _ kk => r_goto i0_198 kk) ?_
    refine lift (fun _ kk => r_istore (ls' := [_, _, _, _, _, _, _, _]) i0_202 rfl rfl kk) ?_
    refine lift (fun _ kk => r_iload i0_204 rfl kk) ?_
    exact ⟨_, r_zreturn i0_206 rfl (by first | decide | simp), leB rfl, own_sz⟩
set_option maxHeartbeats 4000000 in
theorem stage133 {l : Launch} {Z : State} {a0 : Array Value} {n0 : Nat} (hw : HW Z a0) (p0 p1 p2 p3 : Int32) {a b c s0 s1 q h hd : Int32} {fq fh : Nat → Int32} (I : Inv s0 s1 q h hd) : RunsB K l Z n0 m0 133 [.val (.int p0), .val (.int p1), .val (.int p2), .val (.int p3), .val (.ref 0), .val (.ref 1), .val (.ref 2), .val (.int 1)] [] (SS (.inr (.int, [.int a, .int b, .int c])) (.inr (.int, [.int s0, .int s1])) q h hd fq fh) (some (.int 1)) 24 192 := by
  by_cases e : p3 &&& 4 = 0
  · obtain ⟨s0', s1', q', h', hd', fq', fh', M, I'⟩ := step_m (l := l) (n0 := n0) hw (a := a) (b := b) (c := c) (fq := fq) (fh := fh) (ad := 0) I
    refine lift (fun _ kk => r_aload i0_133 rfl rfl kk) ?_
    refine lift (fun _ kk => r_aload i0_135 rfl rfl kk) ?_
    refine lift (fun _ kk => r_aload i0_137 rfl rfl kk) ?_
    refine lift (fun _ kk => r_iloadN i0_139 rfl kk) ?_
    refine lift (fun _ kk => r_iconst i0_140 kk) ?_
    refine lift (fun _ kk => r_iand i0_141 kk) ?_
    refine lift (fun _ kk => r_ifT i0_142 (XT.i0_eq_t e) kk) ?_
    refine lift (fun _ kk => r_iconst i0_149 kk) ?_
    refine lift (fun _ kk => s0_150 hw (H1 := [_, _, _, _, _]) (M) rfl (leB rfl) kk) ?_
    refine lift (fun _ kk => r_ifF i0_153 (XT.i0_eq_f (by decide)) kk) ?_
    refine lift (fun _ kk => r_iload i0_156 rfl kk) ?_
    refine lift (fun _ kk => r_ifF i0_158 (XT.i0_eq_f (by decide)) kk) ?_
    refine lift (fun _ kk => r_iconst i0_161 kk) ?_
    refine lift (fun _ kk => r_goto i0_162 kk) ?_
    refine lift (fun _ kk => r_istore (ls' := [_, _, _, _, _, _, _, _]) i0_166 rfl rfl kk) ?_
    exact stage168 hw p0 p1 p2 p3 I'
  · obtain ⟨s0', s1', q', h', hd', fq', fh', M, I'⟩ := step_m (l := l) (n0 := n0) hw (a := a) (b := b) (c := c) (fq := fq) (fh := fh) (ad := 1) I
    refine lift (fun _ kk => r_aload i0_133 rfl rfl kk) ?_
    refine lift (fun _ kk => r_aload i0_135 rfl rfl kk) ?_
    refine lift (fun _ kk => r_aload i0_137 rfl rfl kk) ?_
    refine lift (fun _ kk => r_iloadN i0_139 rfl kk) ?_
    refine lift (fun _ kk => r_iconst i0_140 kk) ?_
    refine lift (fun _ kk => r_iand i0_141 kk) ?_
    refine lift (fun _ kk => r_ifF i0_142 (XT.i0_eq_f e) kk) ?_
    refine lift (fun _ kk => r_iconst i0_145 kk) ?_
    refine lift (fun _ kk => r_goto i0_146 kk) ?_
    refine lift (fun _ kk => s0_150 hw (H1 := [_, _, _, _, _]) (M) rfl (leB rfl) kk) ?_
    refine lift (fun _ kk => r_ifF i0_153 (XT.i0_eq_f (by decide)) kk) ?_
    refine lift (fun _ kk => r_iload i0_156 rfl kk) ?_
    refine lift (fun _ kk => r_ifF i0_158 (XT.i0_eq_f (by decide)) kk) ?_
    refine lift (fun _ kk => r_iconst i0_161 kk) ?_
    refine lift (fun _ kk => r_goto i0_162 kk) ?_
    refine lift (fun _ kk => r_istore (ls' := [_, _, _, _, _, _, _, _]) i0_166 rfl rfl kk) ?_
    exact stage168 hw p0 p1 p2 p3 I'
set_option maxHeartbeats 4000000 in
theorem stage98 {l : Launch} {Z : State} {a0 : Array Value} {n0 : Nat} (hw : HW Z a0) (p0 p1 p2 p3 : Int32) {a b c s0 s1 q h hd : Int32} {fq fh : Nat → Int32} (I : Inv s0 s1 q h hd) : RunsB K l Z n0 m0 98 [.val (.int p0), .val (.int p1), .val (.int p2), .val (.int p3), .val (.ref 0), .val (.ref 1), .val (.ref 2), .val (.int 1)] [] (SS (.inr (.int, [.int a, .int b, .int c])) (.inr (.int, [.int s0, .int s1])) q h hd fq fh) (some (.int 1)) 24 192 := by
  by_cases e : p3 &&& 2 = 0
  · obtain ⟨s0', s1', q', h', hd', fq', fh', M, I'⟩ := step_m (l := l) (n0 := n0) hw (a := a) (b := b) (c := c) (fq := fq) (fh := fh) (ad := 0) I
    refine lift (fun _ kk => r_aload i0_98 rfl rfl kk) ?_
    refine lift (fun _ kk => r_aload i0_100 rfl rfl kk) ?_
    refine lift (fun _ kk => r_aload i0_102 rfl rfl kk) ?_
    refine lift (fun _ kk => r_iloadN i0_104 rfl kk) ?_
    refine lift (fun _ kk => r_iconst i0_105 kk) ?_
    refine lift (fun _ kk => r_iand i0_106 kk) ?_
    refine lift (fun _ kk => r_ifT i0_107 (XT.i0_eq_t e) kk) ?_
    refine lift (fun _ kk => r_iconst i0_114 kk) ?_
    refine lift (fun _ kk => s0_115 hw (H1 := [_, _, _, _, _]) (M) rfl (leB rfl) kk) ?_
    refine lift (fun _ kk => r_ifF i0_118 (XT.i0_eq_f (by decide)) kk) ?_
    refine lift (fun _ kk => r_iload i0_121 rfl kk) ?_
    refine lift (fun _ kk => r_ifF i0_123 (XT.i0_eq_f (by decide)) kk) ?_
    refine lift (fun _ kk => r_iconst i0_126 kk) ?_
    refine lift (fun _ kk => r_goto i0_127 kk) ?_
    refine lift (fun _ kk => r_istore (ls' := [_, _, _, _, _, _, _, _]) i0_131 rfl rfl kk) ?_
    exact stage133 hw p0 p1 p2 p3 I'
  · obtain ⟨s0', s1', q', h', hd', fq', fh', M, I'⟩ := step_m (l := l) (n0 := n0) hw (a := a) (b := b) (c := c) (fq := fq) (fh := fh) (ad := 1) I
    refine lift (fun _ kk => r_aload i0_98 rfl rfl kk) ?_
    refine lift (fun _ kk => r_aload i0_100 rfl rfl kk) ?_
    refine lift (fun _ kk => r_aload i0_102 rfl rfl kk) ?_
    refine lift (fun _ kk => r_iloadN i0_104 rfl kk) ?_
    refine lift (fun _ kk => r_iconst i0_105 kk) ?_
    refine lift (fun _ kk => r_iand i0_106 kk) ?_
    refine lift (fun _ kk => r_ifF i0_107 (XT.i0_eq_f e) kk) ?_
    refine lift (fun _ kk => r_iconst i0_110 kk) ?_
    refine lift (fun _ kk => r_goto i0_111 kk) ?_
    refine lift (fun _ kk => s0_115 hw (H1 := [_, _, _, _, _]) (M) rfl (leB rfl) kk) ?_
    refine lift (fun _ kk => r_ifF i0_118 (XT.i0_eq_f (by decide)) kk) ?_
    refine lift (fun _ kk => r_iload i0_121 rfl kk) ?_
    refine lift (fun _ kk => r_ifF i0_123 (XT.i0_eq_f (by decide)) kk) ?_
    refine lift (fun _ kk => r_iconst i0_126 kk) ?_
    refine lift (fun _ kk => r_goto i0_127 kk) ?_
    refine lift (fun _ kk => r_istore (ls' := [_, _, _, _, _, _, _, _]) i0_131 rfl rfl kk) ?_
    exact stage133 hw p0 p1 p2 p3 I'
set_option maxHeartbeats 4000000 in
theorem stage63 {l : Launch} {Z : State} {a0 : Array Value} {n0 : Nat} (hw : HW Z a0) (p0 p1 p2 p3 : Int32) {a b c s0 s1 q h hd : Int32} {fq fh : Nat → Int32} (I : Inv s0 s1 q h hd) : RunsB K l Z n0 m0 63 [.val (.int p0), .val (.int p1), .val (.int p2), .val (.int p3), .val (.ref 0), .val (.ref 1), .val (.ref 2), .val (.int 1)] [] (SS (.inr (.int, [.int a, .int b, .int c])) (.inr (.int, [.int s0, .int s1])) q h hd fq fh) (some (.int 1)) 24 192 := by
  by_cases e : p3 &&& 1 = 0
  · obtain ⟨s0', s1', q', h', hd', fq', fh', M, I'⟩ := step_m (l := l) (n0 := n0) hw (a := a) (b := b) (c := c) (fq := fq) (fh := fh) (ad := 0) I
    refine lift (fun _ kk => r_aload i0_63 rfl rfl kk) ?_
    refine lift (fun _ kk => r_aload i0_65 rfl rfl kk) ?_
    refine lift (fun _ kk => r_aload i0_67 rfl rfl kk) ?_
    refine lift (fun _ kk => r_iloadN i0_69 rfl kk) ?_
    refine lift (fun _ kk => r_iconst i0_70 kk) ?_
    refine lift (fun _ kk => r_iand i0_71 kk) ?_
    refine lift (fun _ kk => r_ifT i0_72 (XT.i0_eq_t e) kk) ?_
    refine lift (fun _ kk => r_iconst i0_79 kk) ?_
    refine lift (fun _ kk => s0_80 hw (H1 := [_, _, _, _, _]) (M) rfl (leB rfl) kk) ?_
    refine lift (fun _ kk => r_ifF i0_83 (XT.i0_eq_f (by decide)) kk) ?_
    refine lift (fun _ kk => r_iload i0_86 rfl kk) ?_
    refine lift (fun _ kk => r_ifF i0_88 (XT.i0_eq_f (by decide)) kk) ?_
    refine lift (fun _ kk => r_iconst i0_91 kk) ?_
    refine lift (fun _ kk => r_goto i0_92 kk) ?_
    refine lift (fun _ kk => r_istore (ls' := [_, _, _, _, _, _, _, _]) i0_96 rfl rfl kk) ?_
    exact stage98 hw p0 p1 p2 p3 I'
  · obtain ⟨s0', s1', q', h', hd', fq', fh', M, I'⟩ := step_m (l := l) (n0 := n0) hw (a := a) (b := b) (c := c) (fq := fq) (fh := fh) (ad := 1) I
    refine lift (fun _ kk => r_aload i0_63 rfl rfl kk) ?_
    refine lift (fun _ kk => r_aload i0_65 rfl rfl kk) ?_
    refine lift (fun _ kk => r_aload i0_67 rfl rfl kk) ?_
    refine lift (fun _ kk => r_iloadN i0_69 rfl kk) ?_
    refine lift (fun _ kk => r_iconst i0_70 kk) ?_
    refine lift (fun _ kk => r_iand i0_71 kk) ?_
    refine lift (fun _ kk => r_ifF i0_72 (XT.i0_eq_f e) kk) ?_
    refine lift (fun _ kk => r_iconst i0_75 kk) ?_
    refine lift (fun _ kk => r_goto i0_76 kk) ?_
    refine lift (fun _ kk => s0_80 hw (H1 := [_, _, _, _, _]) (M) rfl (leB rfl) kk) ?_
    refine lift (fun _ kk => r_ifF i0_83 (XT.i0_eq_f (by decide)) kk) ?_
    refine lift (fun _ kk => r_iload i0_86 rfl kk) ?_
    refine lift (fun _ kk => r_ifF i0_88 (XT.i0_eq_f (by decide)) kk) ?_
    refine lift (fun _ kk => r_iconst i0_91 kk) ?_
    refine lift (fun _ kk => r_goto i0_92 kk) ?_
    refine lift (fun _ kk => r_istore (ls' := [_, _, _, _, _, _, _, _]) i0_96 rfl rfl kk) ?_
    exact stage98 hw p0 p1 p2 p3 I'
theorem law_runs {l : Launch} {Z : State} {a0 : Array Value} {n0 : Nat} (hw : HW Z a0) (p0 : Int32) (p1 : Int32) (p2 : Int32) (p3 : Int32) : RunsB K l Z n0 m0 0 [.val (.int p0), .val (.int p1), .val (.int p2), .val (.int p3), .unset, .unset, .unset, .unset] [] [] (some (.int 1)) 24 192 := by
  by_cases h1 : p0 = p1
  · skip
    refine lift (fun _ kk => r_iloadN i0_0 rfl kk) ?_
    refine lift (fun _ kk => r_iloadN i0_1 rfl kk) ?_
    refine lift (fun _ kk => r_icT i0_2 (XT.ii_eq_t h1) kk) ?_
    refine lift (fun _ kk => r_iconst i0_15 kk) ?_
    exact ⟨_, r_zreturn i0_16 rfl (by first | decide | simp), leB rfl, leB rfl⟩
  by_cases h2 : p1 = p2
  · skip
    refine lift (fun _ kk => r_iloadN i0_0 rfl kk) ?_
    refine lift (fun _ kk => r_iloadN i0_1 rfl kk) ?_
    refine lift (fun _ kk => r_icF i0_2 (XT.ii_eq_f h1) kk) ?_
    refine lift (fun _ kk => r_iloadN i0_5 rfl kk) ?_
    refine lift (fun _ kk => r_iloadN i0_6 rfl kk) ?_
    refine lift (fun _ kk => r_icT i0_7 (XT.ii_eq_t h2) kk) ?_
    refine lift (fun _ kk => r_iconst i0_15 kk) ?_
    exact ⟨_, r_zreturn i0_16 rfl (by first | decide | simp), leB rfl, leB rfl⟩
  by_cases h3 : p0 = p2
  · skip
    refine lift (fun _ kk => r_iloadN i0_0 rfl kk) ?_
    refine lift (fun _ kk => r_iloadN i0_1 rfl kk) ?_
    refine lift (fun _ kk => r_icF i0_2 (XT.ii_eq_f h1) kk) ?_
    refine lift (fun _ kk => r_iloadN i0_5 rfl kk) ?_
    refine lift (fun _ kk => r_iloadN i0_6 rfl kk) ?_
    refine lift (fun _ kk => r_icF i0_7 (XT.ii_eq_f h2) kk) ?_
    refine lift (fun _ kk => r_iloadN i0_10 rfl kk) ?_
    refine lift (fun _ kk => r_iloadN i0_11 rfl kk) ?_
    refine lift (fun _ kk => r_icF i0_12 (XT.ii_ne_f h3) kk) ?_
    refine lift (fun _ kk => r_iconst i0_15 kk) ?_
    exact ⟨_, r_zreturn i0_16 rfl (by first | decide | simp), leB rfl, leB rfl⟩
  · skip
    refine lift (fun _ kk => r_iloadN i0_0 rfl kk) ?_
    refine lift (fun _ kk => r_iloadN i0_1 rfl kk) ?_
    refine lift (fun _ kk => r_icF i0_2 (XT.ii_eq_f h1) kk) ?_
    refine lift (fun _ kk => r_iloadN i0_5 rfl kk) ?_
    refine lift (fun _ kk => r_iloadN i0_6 rfl kk) ?_
    refine lift (fun _ kk => r_icF i0_7 (XT.ii_eq_f h2) kk) ?_
    refine lift (fun _ kk => r_iloadN i0_10 rfl kk) ?_
    refine lift (fun _ kk => r_iloadN i0_11 rfl kk) ?_
    refine lift (fun _ kk => r_icT i0_12 (XT.ii_ne_t h3) kk) ?_
    refine lift (fun _ kk => r_iconst i0_17 kk) ?_
    refine lift (fun _ kk => s0_18 hw (a := 0) (o := [.int 0, .int 0, .int 0]) (H1 := [_]) (by decide) (by decide) rfl rfl rfl kk) ?_
    refine lift (fun _ kk => r_dup i0_20 rfl kk) ?_
    refine lift (fun _ kk => r_iconst i0_21 kk) ?_
    refine lift (fun _ kk => r_iloadN i0_22 rfl kk) ?_
    refine lift (fun _ kk => r_iastore (i := 0) (vs' := [_, _, _]) (H1 := [_]) i0_23 rfl ⟨by decide, by decide⟩ (ltB rfl) rfl rfl kk) ?_
    refine lift (fun _ kk => r_dup i0_24 rfl kk) ?_
    refine lift (fun _ kk => r_iconst i0_25 kk) ?_
    refine lift (fun _ kk => r_iloadN i0_26 rfl kk) ?_
    refine lift (fun _ kk => r_iastore (i := 1) (vs' := [_, _, _]) (H1 := [_]) i0_27 rfl ⟨by decide, by decide⟩ (ltB rfl) rfl rfl kk) ?_
    refine lift (fun _ kk => r_dup i0_28 rfl kk) ?_
    refine lift (fun _ kk => r_iconst i0_29 kk) ?_
    refine lift (fun _ kk => r_iloadN i0_30 rfl kk) ?_
    refine lift (fun _ kk => r_iastore (i := 2) (vs' := [_, _, _]) (H1 := [_]) i0_31 rfl ⟨by decide, by decide⟩ (ltB rfl) rfl rfl kk) ?_
    refine lift (fun _ kk => r_astore (ls' := [_, _, _, _, _, _, _, _]) i0_32 rfl rfl rfl kk) ?_
    refine lift (fun _ kk => r_iconst i0_34 kk) ?_
    refine lift (fun _ kk => s0_35 hw (a := 1) (o := [.int 0, .int 0]) (H1 := [_, _]) (by decide) (by decide) rfl rfl rfl kk) ?_
    refine lift (fun _ kk => r_dup i0_37 rfl kk) ?_
    refine lift (fun _ kk => r_iconst i0_38 kk) ?_
    refine lift (fun _ kk => r_iconst i0_39 kk) ?_
    refine lift (fun _ kk => r_iastore (i := 0) (vs' := [_, _]) (H1 := [_, _]) i0_40 rfl ⟨by decide, by decide⟩ (ltB rfl) rfl rfl kk) ?_
    refine lift (fun _ kk => r_dup i0_41 rfl kk) ?_
    refine lift (fun _ kk => r_iconst i0_42 kk) ?_
    refine lift (fun _ kk => r_iconst i0_43 kk) ?_
    refine lift (fun _ kk => r_iastore (i := 1) (vs' := [_, _]) (H1 := [_, _]) i0_44 rfl ⟨by decide, by decide⟩ (ltB rfl) rfl rfl kk) ?_
    refine lift (fun _ kk => r_astore (ls' := [_, _, _, _, _, _, _, _]) i0_45 rfl rfl rfl kk) ?_
    refine lift (fun _ kk => s0_47 hw (a := 2) (H1 := [_, _, _]) rfl rfl kk) ?_
    refine lift (fun _ kk => r_dup i0_50 rfl kk) ?_
    refine lift (fun _ kk => s0_51 hw (H1 := [_, _, _, _, _]) (init_m hw) rfl (leB rfl) kk) ?_
    refine lift (fun _ kk => r_astore (ls' := [_, _, _, _, _, _, _, _]) i0_54 rfl rfl rfl kk) ?_
    refine lift (fun _ kk => r_aload i0_56 rfl rfl kk) ?_
    refine lift (fun _ kk => s0_58 hw (H1 := [_, _, _, _, _]) rfl (empty_yes hw rfl rfl) rfl (leB rfl) kk) ?_
    refine lift (fun _ kk => r_istore (ls' := [_, _, _, _, _, _, _, _]) i0_61 rfl rfl kk) ?_
    exact stage63 hw p0 p1 p2 p3 ⟨by decide, by decide, by decide, by decide, by decide, by decide, by decide⟩
set_option maxRecDepth 65536 in
set_option maxHeartbeats 40000000 in
theorem comes_1 {Post : Tables → Env → Array Value → State → Outcome → State → Prop} (hpost : ∀ tb e args s v u, (limb_1_1.after args s (.returned v) u = true ∧ limb_1_2.after args s (.returned v) u = true ∧ True) → FrameEnd s (.returned v) u (Jvm.fieldLocs frame_1_writes args s ++ Jvm.arrayLocs frame_1_arrays args s ++ Jvm.staticLocs frame_1_statics s) 24 192 → Post tb e args s (.returned v) u) :
    ArmFor flags0 classFile x code maxLocals ret World_1 tables_1 room_1 Calls_1 rest_1 Pre_1 Post := by
  intro l hfl _ _ p e ha hc hk s m args below hf hA hF happ hP
  obtain ⟨hcalls, hrest, hpre⟩ := hP
  obtain ⟨-, -, -, hnamed, -, -, -, hat⟩ := (Spec.applies_iff hf).mp happ
  obtain ⟨hg, hn⟩ := and_e (Cond.before_iff.mp (show (Jvm.Cond.and given_1 narrow_1).before args s = true from hpre))
  obtain ⟨hcount, hk0⟩ := and_e hg
  obtain ⟨w0, w1, w2, w3, rfl⟩ : ∃ w0 w1 w2 w3 : Value, args = #[w0, w1, w2, w3] := by
    have hs : args.size = 4 := by simpa [Cond.value, given_1] using hcount
    obtain ⟨L⟩ := args
    match L, hs with
    | [w0, w1, w2, w3], _ => exact ⟨w0, w1, w2, w3, rfl⟩
  have hw : HW s _ := fun d (hd : d ∈ tables_1) => atoms_spec (ws := Jvm.Cond.code x code maxLocals ret :: tables_1) hat d (List.mem_cons_of_mem _ hd)
  replace hk0 := and_e hk0
  obtain ⟨p0, e0⟩ := is_v hk0.1
  obtain rfl : w0 = (.int p0) := Option.some.inj e0
  have hk1 := hk0.2
  replace hk1 := and_e hk1
  obtain ⟨p1, e1⟩ := is_v hk1.1
  obtain rfl : w1 = (.int p1) := Option.some.inj e1
  have hk2 := hk1.2
  replace hk2 := and_e hk2
  obtain ⟨p2, e2⟩ := is_v hk2.1
  obtain rfl : w2 = (.int p2) := Option.some.inj e2
  have hk3 := hk2.2
  obtain ⟨p3, e3⟩ := is_v hk3
  obtain rfl : w3 = (.int p3) := Option.some.inj e3
  obtain ⟨H', k, hcl, hsl⟩ := law_runs (l := l) (n0 := s.heap.size) hw p0 p1 p2 p3
  obtain ⟨n, o, h1, h2, h3, _, L, rfl, ⟨rfl, -, N⟩, hq⟩ := met_gen (mi := m0) (as := [.int p0, .int p1, .int p2, .int p3]) tables_1 room_1 pf0 rfl (fun h => nomatch h) k (by decide) (by decide) (by show H'.length ≤ 24 + 0; omega) (by show szs K H' ≤ 192 + 0; omega) (h := s.heap) ⟨rfl, fun k o h => by simp at h⟩ p e ha hc hk s m _ below hf ((Spec.applies_iff_loose hf).mp happ).1 ⟨rfl, State.Warmed39.refl s, rfl⟩ trivial
  refine ⟨n, _, h1, h2, h3, hpost _ _ _ _ _ _ ⟨Cond.after_iff.mpr rfl, Cond.after_iff.mpr (eq_i res_at (Term.int_eval (1)) rfl), trivial⟩ ⟨hq.1, hq.2.1, (hq.2.2.sift fun y hy => Or.inr (N y hy)).mono (by show H'.length - 0 ≤ _; omega) (by show szs K H' - 0 ≤ _; omega)⟩⟩
theorem main_1_1 : Claimed_1_1 := comes_1 fun _ _ _ _ _ _ h hF => ⟨h.1, hF⟩
theorem main_1_2 : Claimed_1_2 := comes_1 fun _ _ _ _ _ _ h hF => ⟨h.2.1, hF⟩
end Jvm.Pilot.@@N@@
namespace Jvm.Pilot.@@N@@
open Jvm Jvm.ClassFile Sem Op Lib Jvm.Free Jvm.Stand Jvm.Pilot.@@N@@.Jvm.D
/-! MADE BY PROGRAM (witnessworld.py) out of the Statement's table words and the real class files: 9 classes; the members and pool entries that the words name. The judged class is class 1, her method 2. -/
namespace start1
open Jvm.ClassFile
def u (s : String) : CpInfo := .utf8 (stringToUtf16 s)
/-- a pool by its gaps: so many unusable entries, then the entry; so many at the end -/
def gap : Nat → List CpInfo → List CpInfo
  | 0, r => r
  | n + 1, r => .unusable :: gap n r
def poolList (es : List (Nat × CpInfo)) (last : Nat) : List CpInfo := es.foldr (fun e r => gap e.1 (e.2 :: r)) (gap last [])
def pool (es : List (Nat × CpInfo)) (last : Nat) : Array CpInfo := ⟨poolList es last⟩
def fileOf (pool : Array CpInfo) (this : Nat) (attrs : Array Attribute := #[]) (ms : Array MethodInfo := #[]) (fl : Nat := 33) (sup : Nat := 0) (ifs : Array Nat := #[]) (fds : Array FieldInfo := #[]) : ClassFile where
  minorVersion := 0
  majorVersion := 65
  constantPool := pool
  accessFlags := fl
  thisClass := this
  superClass := sup
  interfaces := ifs
  fields := fds
  methods := ms
  attributes := attrs
def plain (name : String) (sup : Option ClassId) : Class where
  name := name
  kind := .ordinary
  loader := none
  accessFlags := 33
  super := sup
  interfaces := #[]
  cf := none
  fields := #[]
  methods := #[]
  instanceTypes := #[]
  staticTypes := #[]
  resolved := #[]
  callSites := []
  init := .initialized
  statics := none
  mirror := none

def pool0 : Array CpInfo := pool [(5, u "<init>"), (0, u "()V"), (1, .class_ 10), (1, u "java/lang/Object")] 113

def k0c0 : Code := { maxStack := 0, maxLocals := 1, code := object_method_1_code, exceptionTable := #[], attributes := #[] }
def k0m0 : Method := { name := "<init>", desc := "()V", sig := { parameters := [], returnType := none }, accessFlags := 1, code := some k0c0 }
/-- java/lang/Object -/
def k0 : Class := { plain "java/lang/Object" none with
  accessFlags := 33
  interfaces := #[]
  cf := some (fileOf pool0 8 #[] #[{ accessFlags := 1, nameIndex := 5, descriptorIndex := 6, attributes := #[] }] 33 0 #[] #[])
  fields := #[]
  methods := #[k0m0]
  instanceTypes := #[]
  staticTypes := #[]
  resolved := Array.replicate 124 none
  statics := none }

def pool1 : Array CpInfo := pool [(2, .class_ 4), (0, .nameAndType 5 6), (0, u "java/lang/Object"), (0, u "<init>"), (0, u "()V"), (0, .methodref 8 9), (0, .class_ 10), (0, .nameAndType 11 12), (0, u "com/example/makespan/makespan/Ranks"), (0, u "add"), (0, u "(I)V"), (0, .methodref 8 14), (0, .nameAndType 15 16), (0, u "take"), (0, u "()I"), (0, .methodref 8 18), (0, .nameAndType 19 20), (0, u "isEmpty"), (0, u "()Z"), (0, .methodref 8 3), (0, .methodref 23 24), (0, .class_ 25), (0, .nameAndType 26 27), (0, u "com/example/makespan/makespan/RanksIsEmptyPinLaw"), (0, u "step"), (0, u "(Lcom/example/makespan/makespan/Ranks;[I[IZ)Z"), (5, u "law"), (0, u "(IIII)Z")] 2

def k1m0 : Method := { name := "<init>", desc := "()V", sig := { parameters := [], returnType := none }, accessFlags := 1, code := none }
def k1c1 : Code := { maxStack := 4, maxLocals := 4, code := method_2_code, exceptionTable := #[], attributes := #[] }
def k1m1 : Method := { name := "step", desc := "(Lcom/example/makespan/makespan/Ranks;[I[IZ)Z", sig := { parameters := [(.object "com/example/makespan/makespan/Ranks"), (.array .int), (.array .int), .boolean], returnType := some .boolean }, accessFlags := 10, code := some k1c1 }
def k1c2 : Code := { maxStack := 5, maxLocals := 8, code := code, exceptionTable := #[], attributes := #[] }
def k1m2 : Method := { name := "law", desc := "(IIII)Z", sig := { parameters := [.int, .int, .int, .int], returnType := some .boolean }, accessFlags := 9, code := some k1c2 }
/-- com/example/makespan/makespan/RanksIsEmptyPinLaw -/
def k1 : Class := { plain "com/example/makespan/makespan/RanksIsEmptyPinLaw" (some 0) with
  accessFlags := 49
  interfaces := #[]
  cf := some (fileOf pool1 23 #[] #[{ accessFlags := 1, nameIndex := 5, descriptorIndex := 6, attributes := #[] }, { accessFlags := 10, nameIndex := 26, descriptorIndex := 27, attributes := #[] }, { accessFlags := 9, nameIndex := 33, descriptorIndex := 34, attributes := #[] }] 49 2 #[] #[])
  fields := #[]
  methods := #[k1m0, k1m1, k1m2]
  instanceTypes := #[]
  staticTypes := #[]
  resolved := Array.replicate 37 none
  statics := none }

def pool2 : Array CpInfo := pool [(1, .methodref 2 3), (0, .class_ 4), (0, .nameAndType 5 6), (0, u "java/lang/Object"), (0, u "<init>"), (0, u "()V"), (0, .fieldref 8 9), (0, .class_ 10), (0, .nameAndType 11 12), (0, u "com/example/makespan/makespan/Ranks"), (0, u "queue"), (0, u "[I"), (0, .fieldref 8 14), (0, .nameAndType 15 12), (0, u "heap"), (0, .fieldref 8 17), (0, .nameAndType 18 19), (0, u "queued"), (0, u "I"), (0, .fieldref 8 21), (0, .nameAndType 22 19), (0, u "heaped"), (0, .methodref 8 24), (0, .nameAndType 25 26), (0, u "fromQueue"), (0, u "()Z"), (0, .fieldref 8 28), (0, .nameAndType 29 19), (0, u "head"), (0, .methodref 8 31), (0, .nameAndType 32 33), (0, u "siftDown"), (0, u "(I)V"), (9, .methodref 8 44), (0, .nameAndType 45 33), (0, u "siftUp"), (2, u "isEmpty"), (2, u "()I"), (0, u "take"), (0, u "add")] 3

def k2c0 : Code := { maxStack := 2, maxLocals := 1, code := prog_14_method_1_code, exceptionTable := #[], attributes := #[] }
def k2m0 : Method := { name := "<init>", desc := "()V", sig := { parameters := [], returnType := none }, accessFlags := 0, code := some k2c0 }
def k2c1 : Code := { maxStack := 1, maxLocals := 1, code := prog_14_method_2_code, exceptionTable := #[], attributes := #[] }
def k2m1 : Method := { name := "isEmpty", desc := "()Z", sig := { parameters := [], returnType := some .boolean }, accessFlags := 0, code := some k2c1 }
def k2c2 : Code := { maxStack := 5, maxLocals := 2, code := prog_14_method_4_code, exceptionTable := #[], attributes := #[] }
def k2m2 : Method := { name := "take", desc := "()I", sig := { parameters := [], returnType := some .int }, accessFlags := 0, code := some k2c2 }
def k2c3 : Code := { maxStack := 5, maxLocals := 2, code := prog_14_method_5_code, exceptionTable := #[], attributes := #[] }
def k2m3 : Method := { name := "add", desc := "(I)V", sig := { parameters := [.int], returnType := none }, accessFlags := 0, code := some k2c3 }
def k2c4 : Code := { maxStack := 3, maxLocals := 1, code := prog_14_method_6_code, exceptionTable := #[], attributes := #[] }
def k2m4 : Method := { name := "fromQueue", desc := "()Z", sig := { parameters := [], returnType := some .boolean }, accessFlags := 2, code := some k2c4 }
def k2c5 : Code := { maxStack := 5, maxLocals := 3, code := prog_14_method_8_code, exceptionTable := #[], attributes := #[] }
def k2m5 : Method := { name := "siftUp", desc := "(I)V", sig := { parameters := [.int], returnType := none }, accessFlags := 2, code := some k2c5 }
def k2c6 : Code := { maxStack := 4, maxLocals := 4, code := prog_14_method_9_code, exceptionTable := #[], attributes := #[] }
def k2m6 : Method := { name := "siftDown", desc := "(I)V", sig := { parameters := [.int], returnType := none }, accessFlags := 2, code := some k2c6 }
/-- com/example/makespan/makespan/Ranks -/
def k2 : Class := { plain "com/example/makespan/makespan/Ranks" (some 0) with
  accessFlags := 48
  interfaces := #[]
  cf := some (fileOf pool2 8 #[] #[{ accessFlags := 0, nameIndex := 5, descriptorIndex := 6, attributes := #[] }, { accessFlags := 0, nameIndex := 48, descriptorIndex := 26, attributes := #[] }, { accessFlags := 0, nameIndex := 52, descriptorIndex := 51, attributes := #[] }, { accessFlags := 0, nameIndex := 53, descriptorIndex := 33, attributes := #[] }, { accessFlags := 2, nameIndex := 25, descriptorIndex := 26, attributes := #[] }, { accessFlags := 2, nameIndex := 45, descriptorIndex := 33, attributes := #[] }, { accessFlags := 2, nameIndex := 32, descriptorIndex := 33, attributes := #[] }] 48 2 #[] #[{ accessFlags := 2, nameIndex := 11, descriptorIndex := 12, attributes := #[] }, { accessFlags := 2, nameIndex := 29, descriptorIndex := 19, attributes := #[] }, { accessFlags := 2, nameIndex := 18, descriptorIndex := 19, attributes := #[] }, { accessFlags := 2, nameIndex := 15, descriptorIndex := 12, attributes := #[] }, { accessFlags := 2, nameIndex := 22, descriptorIndex := 19, attributes := #[] }])
  fields := #[{ name := "queue", type := (.array .int), accessFlags := 2, slot := 0, constantValue := 0 }, { name := "head", type := .int, accessFlags := 2, slot := 1, constantValue := 0 }, { name := "queued", type := .int, accessFlags := 2, slot := 2, constantValue := 0 }, { name := "heap", type := (.array .int), accessFlags := 2, slot := 3, constantValue := 0 }, { name := "heaped", type := .int, accessFlags := 2, slot := 4, constantValue := 0 }]
  methods := #[k2m0, k2m1, k2m2, k2m3, k2m4, k2m5, k2m6]
  instanceTypes := #[(.array .int), .int, .int, (.array .int), .int]
  staticTypes := #[]
  resolved := Array.replicate 57 none
  statics := none }

def pool3 : Array CpInfo := pool [(1, u "java/lang/Cloneable"), (0, .class_ 1), (0, u "java/lang/Object"), (0, .class_ 3)] 3

/-- java/lang/Cloneable -/
def k3 : Class := { plain "java/lang/Cloneable" (some 0) with
  accessFlags := 1537
  interfaces := #[]
  cf := some (fileOf pool3 2 #[] #[] 1537 4 #[] #[])
  fields := #[]
  methods := #[]
  instanceTypes := #[]
  staticTypes := #[]
  resolved := Array.replicate 8 none
  statics := none }

def pool4 : Array CpInfo := pool [(1, u "java/io/Serializable"), (0, .class_ 1), (0, u "java/lang/Object"), (0, .class_ 3)] 3

/-- java/io/Serializable -/
def k4 : Class := { plain "java/io/Serializable" (some 0) with
  accessFlags := 1537
  interfaces := #[]
  cf := some (fileOf pool4 2 #[] #[] 1537 4 #[] #[])
  fields := #[]
  methods := #[]
  instanceTypes := #[]
  staticTypes := #[]
  resolved := Array.replicate 8 none
  statics := none }

/-- the primitive byte -/
def k5 : Class := { plain "byte" none with kind := .primitive 'B', accessFlags := 0x411 }
/-- [B -/
def k6 : Class := { plain "[B" (some 0) with kind := .array 5 .byte, interfaces := #[3, 4], accessFlags := 1041 }

/-- the primitive int -/
def k7 : Class := { plain "int" none with kind := .primitive 'I', accessFlags := 0x411 }
/-- [I -/
def k8 : Class := { plain "[I" (some 0) with kind := .array 7 .int, interfaces := #[3, 4], accessFlags := 1041 }

def heap : Heap := #[]
def classes : Array Class := #[k0, k1, k2, k3, k4, k5, k6, k7, k8]
def interned : List (Array UInt16 × Addr) := []
def slotsUsed : Nat := 0
def theMethod : MethodId := ⟨1, 2⟩
def args0 : Array Value := #[.int 5, .int 300, .int 7, .int 5]
def aboutOver (below : List Frame) : State where
  vm := { classes := classes, interned := interned.toArray }
  heap := heap
  slotsUsed := slotsUsed
  threads := #[{ frames := .invoking theMethod args0 :: below }]
def below0 : List Frame := [.native { method := ⟨0, 0⟩, args := #[] }]
def about1 : State := aboutOver below0
def p0 : Program := .bare "" "" ""
def e0 : Env := launch0.env 0 0 0
theorem w_frames : about1.frames = Frame.invoking theMethod args0 :: below0 := rfl
set_option maxRecDepth 65536 in
theorem w_args : argsFit about1.vm theMethod args0 = true := by decide +kernel
set_option maxRecDepth 65536 in
theorem w_heap : heapFits about1 = true := by decide +kernel
set_option maxRecDepth 65536 in
theorem w_runnable : about1.curStatus? = some .runnable := by decide +kernel
set_option maxRecDepth 65536 in
theorem w_alone : about1.alone = true := by decide +kernel
set_option maxRecDepth 65536 in
theorem w_named : about1.methodNamed? x = some theMethod := by decide +kernel
set_option maxRecDepth 65536 in
theorem w_hears : about1.hears theMethod below0 = true := by decide +kernel
set_option maxRecDepth 65536 in
theorem w_ripe : about1.ripe theMethod args0 below0 = true := by decide +kernel
theorem w_running : about1.status = .running := rfl
set_option maxRecDepth 65536 in
theorem w_room : about1.hasRoom e0.platform room_1 = true :=
  launch0.hasRoom_least _ room_1 (by decide +kernel) (by decide +kernel) (by decide +kernel) (by decide +kernel) (by decide +kernel) (by decide +kernel)
theorem allAtoms_all (ts : List Jvm.Cond) (a : Array Jvm.Value) (st : Jvm.State) : (allAtoms ts).before a st = ts.all (fun c => c.before a st) := by
  induction ts with
  | nil => rfl
  | cons c t ih =>
    show (Jvm.Cond.and c (allAtoms t)).before a st = _
    rw [Jvm.Cond.before_and, ih, List.all_cons]
def words1 : List Jvm.Cond := Jvm.Cond.code x code maxLocals ret :: tables_1
/-- a 'code' word, met by the world's own term for the bytes: nothing is compared byte by byte -/
theorem code_word {y : MethodName} {bytes : ByteArray} {mx : Nat} {rt : Option FieldType} {a : Array Value} {s : State} {m : MethodId} {meth : Method} {c : Code} (h1 : s.methodNamed? y = some m) (h2 : s.vm.method? m = some meth) (h3 : meth.code = some c) (h4 : c.code = bytes)
    (h5 : (c.maxLocals == mx && c.exceptionTable.isEmpty && decide (c.maxStack ≤ mostOperands) && decide (meth.sig.returnType = rt) && !meth.locks && decide (parseMethodDescriptor y.desc = some meth.sig)) = true) : (Jvm.Cond.code y bytes mx rt).before a s = true := by
  simp only [Bool.and_eq_true, beq_iff_eq, Bool.not_eq_true', decide_eq_true_eq] at h5
  obtain ⟨⟨⟨⟨⟨g1, g2⟩, g3⟩, g4⟩, g5⟩, g6⟩ := h5
  simp [Cond.before, Cond.holds, Cond.value, h1, h2, h3, h4, g1, g2, g3, g4, g5, g6]
def isCode : Jvm.Cond → Bool
  | .code _ _ _ _ => true
  | _ => false
theorem all_split {L : List Jvm.Cond} {P : Jvm.Cond → Bool} (h1 : L.all (fun c => isCode c || P c) = true) (h2 : ∀ c ∈ L.filter isCode, P c = true) : L.all P = true := by
  refine List.all_eq_true.mpr fun c hc => ?_
  have h := List.all_eq_true.mp h1 c hc
  rcases Bool.eq_false_or_eq_true (isCode c) with hi | hi
  · exact h2 c (List.mem_filter.mpr ⟨hc, hi⟩)
  · simpa [hi] using h
set_option maxRecDepth 65536 in
theorem w_c0 : (Jvm.Cond.code x code maxLocals ret).before args0 about1 = true := code_word (m := ⟨1, 2⟩) (meth := k1m2) (c := k1c2) (by decide +kernel) rfl rfl rfl (by decide +kernel)
set_option maxRecDepth 65536 in
theorem w_c1 : (Jvm.Cond.code ({ cls := "com/example/makespan/makespan/Ranks", name := "<init>", desc := "()V" } : Jvm.MethodName) prog_14_method_1_code (1 : Nat) (Option.none : Option Jvm.ClassFile.FieldType)).before args0 about1 = true := code_word (m := ⟨2, 0⟩) (meth := k2m0) (c := k2c0) (by decide +kernel) rfl rfl rfl (by decide +kernel)
set_option maxRecDepth 65536 in
theorem w_c2 : (Jvm.Cond.code ({ cls := "java/lang/Object", name := "<init>", desc := "()V" } : Jvm.MethodName) object_method_1_code (1 : Nat) (Option.none : Option Jvm.ClassFile.FieldType)).before args0 about1 = true := code_word (m := ⟨0, 0⟩) (meth := k0m0) (c := k0c0) (by decide +kernel) rfl rfl rfl (by decide +kernel)
set_option maxRecDepth 65536 in
theorem w_c3 : (Jvm.Cond.code ({ cls := "com/example/makespan/makespan/Ranks", name := "isEmpty", desc := "()Z" } : Jvm.MethodName) prog_14_method_2_code (1 : Nat) (Option.some Jvm.ClassFile.FieldType.boolean)).before args0 about1 = true := code_word (m := ⟨2, 1⟩) (meth := k2m1) (c := k2c1) (by decide +kernel) rfl rfl rfl (by decide +kernel)
set_option maxRecDepth 65536 in
theorem w_c4 : (Jvm.Cond.code ({ cls := "com/example/makespan/makespan/RanksIsEmptyPinLaw", name := "step", desc := "(Lcom/example/makespan/makespan/Ranks;[I[IZ)Z" } : Jvm.MethodName) method_2_code (4 : Nat) (Option.some Jvm.ClassFile.FieldType.boolean)).before args0 about1 = true := code_word (m := ⟨1, 1⟩) (meth := k1m1) (c := k1c1) (by decide +kernel) rfl rfl rfl (by decide +kernel)
set_option maxRecDepth 65536 in
theorem w_c5 : (Jvm.Cond.code ({ cls := "com/example/makespan/makespan/Ranks", name := "add", desc := "(I)V" } : Jvm.MethodName) prog_14_method_5_code (2 : Nat) (Option.none : Option Jvm.ClassFile.FieldType)).before args0 about1 = true := code_word (m := ⟨2, 3⟩) (meth := k2m3) (c := k2c3) (by decide +kernel) rfl rfl rfl (by decide +kernel)
set_option maxRecDepth 65536 in
theorem w_c6 : (Jvm.Cond.code ({ cls := "com/example/makespan/makespan/Ranks", name := "take", desc := "()I" } : Jvm.MethodName) prog_14_method_4_code (2 : Nat) (Option.some Jvm.ClassFile.FieldType.int)).before args0 about1 = true := code_word (m := ⟨2, 2⟩) (meth := k2m2) (c := k2c2) (by decide +kernel) rfl rfl rfl (by decide +kernel)
set_option maxRecDepth 65536 in
theorem w_c7 : (Jvm.Cond.code ({ cls := "com/example/makespan/makespan/Ranks", name := "fromQueue", desc := "()Z" } : Jvm.MethodName) prog_14_method_6_code (1 : Nat) (Option.some Jvm.ClassFile.FieldType.boolean)).before args0 about1 = true := code_word (m := ⟨2, 4⟩) (meth := k2m4) (c := k2c4) (by decide +kernel) rfl rfl rfl (by decide +kernel)
set_option maxRecDepth 65536 in
theorem w_c8 : (Jvm.Cond.code ({ cls := "com/example/makespan/makespan/Ranks", name := "siftUp", desc := "(I)V" } : Jvm.MethodName) prog_14_method_8_code (3 : Nat) (Option.none : Option Jvm.ClassFile.FieldType)).before args0 about1 = true := code_word (m := ⟨2, 5⟩) (meth := k2m5) (c := k2c5) (by decide +kernel) rfl rfl rfl (by decide +kernel)
set_option maxRecDepth 65536 in
theorem w_c9 : (Jvm.Cond.code ({ cls := "com/example/makespan/makespan/Ranks", name := "siftDown", desc := "(I)V" } : Jvm.MethodName) prog_14_method_9_code (4 : Nat) (Option.none : Option Jvm.ClassFile.FieldType)).before args0 about1 = true := code_word (m := ⟨2, 6⟩) (meth := k2m6) (c := k2c6) (by decide +kernel) rfl rfl rfl (by decide +kernel)
def codes1 : List Jvm.Cond := [Jvm.Cond.code x code maxLocals ret, Jvm.Cond.code ({ cls := "com/example/makespan/makespan/Ranks", name := "<init>", desc := "()V" } : Jvm.MethodName) prog_14_method_1_code (1 : Nat) (Option.none : Option Jvm.ClassFile.FieldType), Jvm.Cond.code ({ cls := "java/lang/Object", name := "<init>", desc := "()V" } : Jvm.MethodName) object_method_1_code (1 : Nat) (Option.none : Option Jvm.ClassFile.FieldType), Jvm.Cond.code ({ cls := "com/example/makespan/makespan/Ranks", name := "isEmpty", desc := "()Z" } : Jvm.MethodName) prog_14_method_2_code (1 : Nat) (Option.some Jvm.ClassFile.FieldType.boolean), Jvm.Cond.code ({ cls := "com/example/makespan/makespan/RanksIsEmptyPinLaw", name := "step", desc := "(Lcom/example/makespan/makespan/Ranks;[I[IZ)Z" } : Jvm.MethodName) method_2_code (4 : Nat) (Option.some Jvm.ClassFile.FieldType.boolean), Jvm.Cond.code ({ cls := "com/example/makespan/makespan/Ranks", name := "add", desc := "(I)V" } : Jvm.MethodName) prog_14_method_5_code (2 : Nat) (Option.none : Option Jvm.ClassFile.FieldType), Jvm.Cond.code ({ cls := "com/example/makespan/makespan/Ranks", name := "take", desc := "()I" } : Jvm.MethodName) prog_14_method_4_code (2 : Nat) (Option.some Jvm.ClassFile.FieldType.int), Jvm.Cond.code ({ cls := "com/example/makespan/makespan/Ranks", name := "fromQueue", desc := "()Z" } : Jvm.MethodName) prog_14_method_6_code (1 : Nat) (Option.some Jvm.ClassFile.FieldType.boolean), Jvm.Cond.code ({ cls := "com/example/makespan/makespan/Ranks", name := "siftUp", desc := "(I)V" } : Jvm.MethodName) prog_14_method_8_code (3 : Nat) (Option.none : Option Jvm.ClassFile.FieldType), Jvm.Cond.code ({ cls := "com/example/makespan/makespan/Ranks", name := "siftDown", desc := "(I)V" } : Jvm.MethodName) prog_14_method_9_code (4 : Nat) (Option.none : Option Jvm.ClassFile.FieldType)]
set_option maxRecDepth 65536 in
theorem codes_eq : words1.filter isCode = codes1 := rfl
theorem w_codes : ∀ c ∈ words1.filter isCode, c.before args0 about1 = true := by
  rw [codes_eq]
  intro c hc
  simp only [codes1, List.mem_cons, List.not_mem_nil, or_false] at hc
  rcases hc with rfl | rfl | rfl | rfl | rfl | rfl | rfl | rfl | rfl | rfl
  · exact w_c0
  · exact w_c1
  · exact w_c2
  · exact w_c3
  · exact w_c4
  · exact w_c5
  · exact w_c6
  · exact w_c7
  · exact w_c8
  · exact w_c9
set_option maxRecDepth 65536 in
theorem w_t1 : (words1.take 24).all (fun c => isCode c || c.before args0 about1) = true := by decide +kernel
set_option maxRecDepth 65536 in
theorem w_t2 : ((words1.drop 24).take 24).all (fun c => isCode c || c.before args0 about1) = true := by decide +kernel
set_option maxRecDepth 65536 in
theorem w_t3 : ((words1.drop 24).drop 24).all (fun c => isCode c || c.before args0 about1) = true := by decide +kernel
theorem w_tables : (allAtoms (Jvm.Cond.code x code maxLocals ret :: tables_1)).before args0 about1 = true := by
  rw [allAtoms_all]
  show words1.all (fun c => c.before args0 about1) = true
  refine all_split ?_ w_codes
  rw [← List.take_append_drop 24 words1, List.all_append, w_t1, ← List.take_append_drop 24 (words1.drop 24), List.all_append, w_t2, w_t3]
  rfl
set_option maxRecDepth 65536 in
theorem w_case : (Jvm.Cond.and given_1 narrow_1).before args0 about1 = true := by decide +kernel
theorem w_applies : (headSpec (Jvm.Cond.code x code maxLocals ret :: tables_1) room_1).applies x e0.platform about1 = true :=
  (Spec.applies_iff w_frames).mpr ⟨w_running, w_runnable, w_alone, w_named, w_hears, w_ripe, w_room, w_tables⟩
theorem atStart : AtStart classFile x code maxLocals ret World_1 tables_1 room_1 Calls_1 rest_1 Pre_1 launch0 p0 e0 about1 theMethod args0 below0 :=
  ⟨lists_1, trivial, launch0.admits_env _ _ _, launch0.least_env, fairChoices_fair.cas, fairChoices_fair.clock, w_frames, w_args, w_heap, w_applies, trivial, trivial, w_case⟩
end start1
theorem witness_1 : WitnessClaimed_1 := ⟨start1.p0, start1.e0, start1.about1, start1.theMethod, start1.args0, start1.below0, start1.atStart⟩
end Jvm.Pilot.@@N@@
