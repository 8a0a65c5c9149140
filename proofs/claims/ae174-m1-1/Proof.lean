import JvmDerived
import JvmDerived.Pilot.@@N@@Statement
import JvmDerived.Pilot.@@N@@Code
set_option linter.unusedVariables false
set_option linter.unusedSimpArgs false
namespace Jvm.Pilot.@@N@@
open Jvm Jvm.ClassFile Sem Op Lib Jvm.Free Jvm.Stand Jvm.LawKit Jvm.RoadKit Bundle Jvm.Pilot.@@N@@.Jvm.D
/-! ## A small logic of runs over a virtual heap (own work, the same text in every proof of this seat)
References count from the first cell that the law makes (n0): `shV n0`. `Ob`: an object by its class (a place in K) and its laid fields, or an array by its component type and values.
`Runs K l Z n0 mi pc ls st H v H'`: whoever stands in the method mi at pc with locals ls, stack st and virtual heap H comes out returning v with heap H'. -/
def shV (n0 : Nat) : Value → Value
  | .ref a => .ref (n0 + a)
  | v => v
def shS (n0 : Nat) : Slot → Slot
  | .val v => .val (shV n0 v)
  | s => s
abbrev Ob : Type := (Nat × List Value) ⊕ (FieldType × List Value)
/-- a field: who declares it, its name, its descriptor, its type -/
abbrev FI : Type := String × String × String × FieldType
/-- a class: its name, the number of its slots, its fields -/
abbrev CI : Type := String × Nat × List FI
/-- a method: name, bytes, max_locals, return type; frames and words that its callees need -/
abbrev MI : Type := MethodName × ByteArray × Nat × Option FieldType × Nat × Nat
def osz (K : List CI) : Ob → Nat
  | .inl (c, _) => ((K[c]?).map (fun ci => ci.2.1)).getD 0
  | .inr (_, vs) => vs.length
def szs (K : List CI) (H : List Ob) : Nat := (H.map (osz K)).sum
def OOk (K : List CI) (Z : State) (n0 : Nat) (h : Heap) (a : Addr) : Ob → Prop
  | .inl (c, vs) => ∃ ci, K[c]? = some ci ∧ Exa Z h a ci.1 ∧ ∀ (i : Nat) (f : FI) (v : Value), ci.2.2[i]? = some f → vs[i]? = some v → Fld Z h a f.1 f.2.1 f.2.2.1 (shV n0 v)
  | .inr (ty, vs) => ∃ cl, Arr Z h a cl ty ∧ cl.slots.size = vs.length ∧ vs.length < 2 ^ 31 ∧ ∀ (i : Nat) (v : Value), vs[i]? = some v → cl.slots[i]? = some (shV n0 v) ∧ fits ty v = true
def Rel (K : List CI) (Z : State) (n0 : Nat) (H : List Ob) (h : Heap) : Prop := h.size = n0 + H.length ∧ ∀ (k : Nat) (o : Ob), H[k]? = some o → OOk K Z n0 h (n0 + k) o
def KOk (K : List CI) (Z : State) (a0 : Array Value) : Prop := ∀ (k : Nat) (ci : CI), K[k]? = some ci → (Jvm.Cond.instantiable ci.1 ci.2.1).before a0 Z = true ∧ (∀ f ∈ ci.2.2, Laid Z a0 ci.1 f.1 f.2.1 f.2.2.1 ∧ parseFieldDescriptor f.2.2.1 = some f.2.2.2) ∧ ci.2.2.Pairwise (fun f g => f.2.1 ≠ g.2.1)
theorem cat_sh (n0 : Nat) (v : Value) : (shV n0 v).category = v.category := by cases v <;> rfl
theorem cats_sh (n0 : Nat) (st : List Value) : ((st.map (shV n0)).map fun v => v.category).sum = (st.map fun v => v.category).sum := by
  rw [List.map_map]; congr 1; exact List.map_congr_left fun v _ => cat_sh n0 v
theorem laid_map (n0 : Nat) : ∀ as : List Value, Jvm.Sym.laidSlots (as.map (shV n0)) = (Jvm.Sym.laidSlots as).map (shS n0)
  | [] => rfl
  | v :: vs => by
    simp only [List.map_cons, Jvm.Sym.laidSlots, cat_sh, laid_map n0 vs]
    split <;> rfl
theorem entry_eq (n0 : Nat) (m : MethodId) (as : List Value) (n : Nat) {ls : List Slot} (h : Jvm.Sym.laidSlots as ++ List.replicate (n - (Jvm.Sym.laidSlots as).length) .unset = ls) :
    entryFrame m (as.map (shV n0)).toArray n = mkF m 0 (ls.map (shS n0)).toArray [] := by
  have e : argsToLocals (as.map (shV n0)).toArray n = (ls.map (shS n0)).toArray := Array.toList_inj.mp (by
    rw [Jvm.Sym.argsToLocals_toList]
    simp only [laid_map, List.length_map, ← h, List.map_append, List.map_replicate]
    rfl)
  show ({ method := m, pc := 0, locals := argsToLocals (as.map (shV n0)).toArray n, stack := [], locked := none } : JFrame) = _
  rw [e]
theorem loc_at {n0 : Nat} {ls : List Slot} {k : Nat} {s : Slot} (h : ls[k]? = some s) : ((ls.map (shS n0)).toArray)[k]? = some (shS n0 s) := by
  simp [h]
/-- the place k may take a value of one word -/
def P1 (ls : List Slot) (k : Nat) : Bool := match ls[k]? with | some .unset => true | some (.val w) => w.category == 1 | _ => false
/-- the places k and k + 1 may take a value of two words -/
def P2 (ls : List Slot) (k : Nat) : Bool := match ls[k]?, ls[k + 1]? with | some (.val w), some .second => w.category == 2 | _, _ => P1 ls k && P1 ls (k + 1)
theorem P1_slot {ls : List Slot} {k : Nat} (h : P1 ls k = true) : ∃ s, ls[k]? = some s ∧ (match s with | .second => False | .val old => old.category = 1 | .unset => True) := by
  unfold P1 at h
  split at h
  · rename_i e; exact ⟨_, e, trivial⟩
  · rename_i w e; exact ⟨_, e, by simpa using h⟩
  · cases h
theorem st1 {n0 : Nat} {ls ls' : List Slot} {k : Nat} {v : Value} (hp : P1 ls k = true) (hv : v.category = 1) (hs : ls.set k (.val v) = ls') : storeLocals (ls.map (shS n0)).toArray k (shV n0 v) = some (ls'.map (shS n0)).toArray := by
  obtain ⟨s, e, q⟩ := P1_slot hp
  rw [storeLocals_cat1 (loc_at (n0 := n0) e) (by rw [cat_sh]; exact hv) (by cases s <;> simp_all [shS, cat_sh]), ← hs]
  simp [List.map_set, shS]
theorem st2 {n0 : Nat} {ls ls' : List Slot} {k : Nat} {v : Value} (hp : P2 ls k = true) (hv : v.category = 2) (hs : (ls.set k (.val v)).set (k + 1) .second = ls') : storeLocals (ls.map (shS n0)).toArray k (shV n0 v) = some (ls'.map (shS n0)).toArray := by
  have key : ∃ x y, ls[k]? = some x ∧ ls[k + 1]? = some y ∧ ((Jvm.Free.Fl.Plain1 (shS n0 x) ∧ Jvm.Free.Fl.Plain1 (shS n0 y)) ∨ ((∃ old, shS n0 x = .val old ∧ old.category = 2) ∧ shS n0 y = .second)) := by
    unfold P2 at hp
    split at hp
    · rename_i w e1 e2
      exact ⟨_, _, e1, e2, Or.inr ⟨⟨_, rfl, by rw [cat_sh]; simpa using hp⟩, rfl⟩⟩
    · rw [Bool.and_eq_true] at hp
      obtain ⟨s, e, q⟩ := P1_slot hp.1
      obtain ⟨s', e', q'⟩ := P1_slot hp.2
      exact ⟨s, s', e, e', Or.inl ⟨by cases s <;> simp_all [shS, cat_sh, Jvm.Free.Fl.Plain1], by cases s' <;> simp_all [shS, cat_sh, Jvm.Free.Fl.Plain1]⟩⟩
  obtain ⟨x, y, e1, e2, q⟩ := key
  rw [Jvm.Free.Fl.storeLocals_cat2 (loc_at (n0 := n0) e1) (loc_at (n0 := n0) e2) (by rw [cat_sh]; exact hv) q, ← hs]
  simp [List.map_set, shS]
def Runs (K : List CI) (l : Launch) (Z : State) (n0 : Nat) (mi : MI) (pc : Nat) (ls : List Slot) (st : List Value) (H : List Ob) (v : Option Value) (H' : List Ob) : Prop :=
  H.length ≤ H'.length ∧ szs K H ≤ szs K H' ∧
  ∀ (p : Program) (e : Env) (R : Room) (s : State) (m : MethodId) (args : Array Value) (below : List Frame) (meth : Method) (c : Code) (T : State) (locs : List Loc) (cells slots : Nat),
    Stand p l e R s m args below meth c T locs cells slots → p.tables.exec = Jvm.exec → Z.Warmed39 s.vm → c.code = mi.2.1 → c.maxLocals = mi.2.2.1 → meth.sig.returnType = mi.2.2.2.1 → s.vm.findClass mi.1.cls = some m.cls → meth.name = mi.1.name →
    Rel K Z n0 H T.heap → Fr n0 locs → mi.2.2.2.2.1 ≤ R.frames → mi.2.2.2.2.2 ≤ R.locals → s.heap.size + cells = n0 + H.length → cells + H'.length ≤ R.cells + H.length → slots + szs K H' ≤ R.slots + szs K H →
    ∃ (T' : State) (locs' : List Loc) (cells' slots' : Nat), Stand p l e R s m args below meth c T' locs' cells' slots' ∧ Rel K Z n0 H' T'.heap ∧ Fr n0 locs' ∧ s.heap.size + cells' = n0 + H'.length ∧ slots' + szs K H ≤ slots + szs K H' ∧
      ∀ fs, (∀ (f : JFrame) (acts : List Action), f.method = m → f.locked = none → f.entered = [] → (doReturn e (T'.setTop f) acts (v.map (shV n0))).1 = T'.setFrames fs) →
        Steps p.tables e below (T.setTop (mkF m pc (ls.map (shS n0)).toArray (st.map (shV n0)))) (T'.setFrames fs)
def rmOf (K : List CI) (mi : MI) (H H' : List Ob) : Room := { frames := mi.2.2.2.2.1, cells := H'.length - H.length, slots := szs K H' - szs K H, locals := mi.2.2.2.2.2 }
def Meets (K : List CI) (l : Launch) (Z : State) (n0 : Nat) (mi : MI) (as : List Value) (H : List Ob) (v : Option Value) (H' : List Ob) : Prop :=
  H.length ≤ H'.length ∧ szs K H ≤ szs K H' ∧ ∀ h, Rel K Z n0 H h →
    MetFree l mi.1 (head1 [Jvm.Cond.code mi.1 mi.2.1 mi.2.2.1 mi.2.2.2.1] (rmOf K mi H H')) (fun a U => a = (as.map (shV n0)).toArray ∧ Z.Warmed39 U.vm ∧ U.heap = h) (fun _ _ _ _ _ => True)
      (fun _ U o U' => ∃ w L, o = .returned w ∧ (w = v.map (shV n0) ∧ Rel K Z n0 H' U'.heap ∧ Fr n0 L) ∧ FrameEnd U o U' L (rmOf K mi H H').cells (rmOf K mi H H').slots)
theorem leB {a b : Nat} (h : Nat.ble a b = true) : a ≤ b := Nat.le_of_ble_eq_true h
theorem ltB {a b : Nat} (h : Nat.ble (a + 1) b = true) : a < b := Nat.le_of_ble_eq_true h
section Logic
variable {K : List CI} {l : Launch} {Z : State} {a0 : Array Value} {n0 : Nat} {mi : MI} {pc np tp : Nat} {ls ls' : List Slot} {st rest : List Value} {H H' H1 : List Ob} {v : Option Value}
/-- from a run of the body to the method's contract, in any room that holds it -/
theorem met_gen {as : List Value} (ws : List Jvm.Cond) (R0 : Room) (hp : plainFor mi.1 = true) (hls : Jvm.Sym.laidSlots as ++ List.replicate (mi.2.2.1 - (Jvm.Sym.laidSlots as).length) .unset = ls) (hv : mi.2.2.2.1 = none → v = none)
    (k : Runs K l Z n0 mi 0 ls [] H v H') (hfr : mi.2.2.2.2.1 ≤ R0.frames) (hlo : mi.2.2.2.2.2 ≤ R0.locals) (hcl : H'.length ≤ R0.cells + H.length) (hsl : szs K H' ≤ R0.slots + szs K H) {h : Heap} (hrel : Rel K Z n0 H h) :
    MetFree l mi.1 (head1 (Jvm.Cond.code mi.1 mi.2.1 mi.2.2.1 mi.2.2.2.1 :: ws) R0) (fun a U => a = (as.map (shV n0)).toArray ∧ Z.Warmed39 U.vm ∧ U.heap = h) (fun _ _ _ _ _ => True)
      (fun _ U o U' => ∃ w L, o = .returned w ∧ (w = v.map (shV n0) ∧ Rel K Z n0 H' U'.heap ∧ Fr n0 L) ∧ FrameEnd U o U' L (H'.length - H.length) (szs K H' - szs K H)) := by
  refine MetFree.of_bodySF hp hisR ?_
  intro p e s m args below meth c s₁ Bd hml0 hP hK
  obtain ⟨rfl, hZ, hh⟩ := hP
  have hx := Bd.exec
  have hby := Bd.bytes
  have hown : s.vm.findClass mi.1.cls = some m.cls := findClass_of_methodNamed Bd.named
  have hnm := (name_of_methodNamed Bd.named Bd.method).1
  have X0 : Stand p l e R0 s m (as.map (shV n0)).toArray below meth c s₁ [] 0 0 := Stand.of_body Bd
  have e0 : s₁.heap = h := by rw [← hh, Bd.state]; rfl
  obtain ⟨T', locs', cells', slots', X', rel', fr', hc', hs', stp⟩ := k.2.2 p e R0 s m _ below meth c s₁ [] 0 0 X0 hx hZ hby hml0 Bd.returns hown hnm (e0 ▸ hrel) (Fr.nil n0) hfr hlo (by rw [hh, hrel.1]; rfl) (by omega) (by omega)
  have hsz : s.heap.size = n0 + H.length := by rw [hh, hrel.1]
  obtain ⟨fs, hr, hrun, hended, hW, hsame⟩ := X'.leave (v := v.map (shV n0)) (fun q => by rw [Bd.returns] at q; rw [hv q]; rfl)
  exact ⟨_, _, castTop (entry_eq n0 m as mi.2.2.1 hls) (stp fs hr), hrun, hended, _, _, rfl, ⟨rfl, rel', fr'⟩, ⟨_, rfl⟩, hW, hsame.mono (by omega) (by omega)⟩
theorem meets {as : List Value} (hp : plainFor mi.1 = true) (hls : Jvm.Sym.laidSlots as ++ List.replicate (mi.2.2.1 - (Jvm.Sym.laidSlots as).length) .unset = ls) (hv : mi.2.2.2.1 = none → v = none) (k : Runs K l Z n0 mi 0 ls [] H v H') : Meets K l Z n0 mi as H v H' :=
  ⟨k.1, k.2.1, fun h hrel => met_gen [] (rmOf K mi H H') hp hls hv k (Nat.le_refl _) (Nat.le_refl _) (by have := k.1; show _ ≤ (H'.length - H.length) + _; omega) (by have := k.2.1; show _ ≤ (szs K H' - szs K H) + _; omega) hrel⟩
/-- a run that ends in some heap of at most c cells and n slots -/
def RunsB (K : List CI) (l : Launch) (Z : State) (n0 : Nat) (mi : MI) (pc : Nat) (ls : List Slot) (st : List Value) (H : List Ob) (v : Option Value) (c n : Nat) : Prop := ∃ H' : List Ob, Runs K l Z n0 mi pc ls st H v H' ∧ H'.length ≤ c ∧ szs K H' ≤ n
theorem lift {st2 : List Value} {c n : Nat} (f : ∀ H' : List Ob, Runs K l Z n0 mi np ls' st2 H1 v H' → Runs K l Z n0 mi pc ls st H v H') (k : RunsB K l Z n0 mi np ls' st2 H1 v c n) : RunsB K l Z n0 mi pc ls st H v c n := by
  obtain ⟨H', k1, k2⟩ := k
  exact ⟨H', f H' k1, k2⟩
/-- a run that ends in a value and a heap of which Q holds -/
def RunsP (K : List CI) (l : Launch) (Z : State) (n0 : Nat) (mi : MI) (pc : Nat) (ls : List Slot) (st : List Value) (H : List Ob) (Q : Option Value → List Ob → Prop) : Prop := ∃ v H', Runs K l Z n0 mi pc ls st H v H' ∧ Q v H'
theorem liftP {st2 : List Value} {Q : Option Value → List Ob → Prop} (f : ∀ (v : Option Value) (H' : List Ob), Runs K l Z n0 mi np ls' st2 H1 v H' → Runs K l Z n0 mi pc ls st H v H') (k : RunsP K l Z n0 mi np ls' st2 H1 Q) : RunsP K l Z n0 mi pc ls st H Q := by
  obtain ⟨v, H', k1, k2⟩ := k
  exact ⟨v, H', f v H' k1, k2⟩
/-- a step that reads no heap -/
theorem Runs.pure {st2 : List Value} (hstep : ∀ (p : Program) (e : Env) (R : Room) (s : State) (m : MethodId) (args : Array Value) (below : List Frame) (meth : Method) (c : Code) (T : State) (locs : List Loc) (cells slots : Nat),
      Stand p l e R s m args below meth c T locs cells slots → p.tables.exec = Jvm.exec → Z.Warmed39 s.vm → c.code = mi.2.1 → s.vm.findClass mi.1.cls = some m.cls → ∀ target,
      Steps p.tables e below (T.setTop (mkF m np (ls'.map (shS n0)).toArray (st2.map (shV n0)))) target → Steps p.tables e below (T.setTop (mkF m pc (ls.map (shS n0)).toArray (st.map (shV n0)))) target)
    (k : Runs K l Z n0 mi np ls' st2 H v H') : Runs K l Z n0 mi pc ls st H v H' := by
  refine ⟨k.1, k.2.1, fun p e R s m args below meth c T locs cells slots X hx hZ hc hml hret hown hnm hrel hfr hf hlo hsz hcl hsl => ?_⟩
  obtain ⟨T', locs', cells', slots', X', rel', fr', hc', hs', stp⟩ := k.2.2 p e R s m args below meth c T locs cells slots X hx hZ hc hml hret hown hnm hrel hfr hf hlo hsz hcl hsl
  exact ⟨T', locs', cells', slots', X', rel', fr', hc', hs', fun fs hr => hstep p e R s m args below meth c T locs cells slots X hx hZ hc hown _ (stp fs hr)⟩
theorem isRef_sh {n0 : Nat} {x : Value} (h : x.isRef = true) : (shV n0 x).isRef = true := by cases x <;> first | rfl | cases h
theorem P1_int {ls : List Slot} {k : Nat} {x : Int32} (h : ls[k]? = some (.val (.int x))) : P1 ls k = true := by unfold P1; rw [h]; rfl
theorem r_iloadN {k : Fin 4} {x : Int32} (hd : decode mi.2.1 pc = .ok (.iload_n k, 1) ∧ pc + 1 = np) (hl : ls[k.val]? = some (.val (.int x))) (kk : Runs K l Z n0 mi np ls (.int x :: st) H v H') : Runs K l Z n0 mi pc ls st H v H' := by
  obtain ⟨hd, rfl⟩ := hd
  exact Runs.pure (fun _ _ _ _ _ _ _ _ _ _ _ _ _ X hx hZ hc hown t h => XS.iloadN X.here hx rfl (hb hc hd) (loc_at hl) h) kk
theorem r_iload {k : Nat} {x : Int32} (hd : decode mi.2.1 pc = .ok (.iload k, 2) ∧ pc + 2 = np) (hl : ls[k]? = some (.val (.int x))) (kk : Runs K l Z n0 mi np ls (.int x :: st) H v H') : Runs K l Z n0 mi pc ls st H v H' := by
  obtain ⟨hd, rfl⟩ := hd
  exact Runs.pure (fun _ _ _ _ _ _ _ _ _ _ _ _ _ X hx hZ hc hown t h => XS.iload X.here hx rfl (hb hc hd) (loc_at hl) h) kk
theorem r_lloadN {k : Fin 4} {x : Int64} (hd : decode mi.2.1 pc = .ok (.lload_n k, 1) ∧ pc + 1 = np) (hl : ls[k.val]? = some (.val (.long x))) (kk : Runs K l Z n0 mi np ls (.long x :: st) H v H') : Runs K l Z n0 mi pc ls st H v H' := by
  obtain ⟨hd, rfl⟩ := hd
  exact Runs.pure (fun _ _ _ _ _ _ _ _ _ _ _ _ _ X hx hZ hc hown t h => XT.lloadN X.here hx rfl (hb hc hd) (loc_at hl) h) kk
theorem r_lload {k : Nat} {x : Int64} (hd : decode mi.2.1 pc = .ok (.lload k, 2) ∧ pc + 2 = np) (hl : ls[k]? = some (.val (.long x))) (kk : Runs K l Z n0 mi np ls (.long x :: st) H v H') : Runs K l Z n0 mi pc ls st H v H' := by
  obtain ⟨hd, rfl⟩ := hd
  exact Runs.pure (fun _ _ _ _ _ _ _ _ _ _ _ _ _ X hx hZ hc hown t h => XT.lload X.here hx rfl (hb hc hd) (loc_at hl) h) kk
theorem r_aloadN {k : Fin 4} {x : Value} (hd : decode mi.2.1 pc = .ok (.aload_n k, 1) ∧ pc + 1 = np) (hl : ls[k.val]? = some (.val x)) (hv : x.isRef = true) (kk : Runs K l Z n0 mi np ls (x :: st) H v H') : Runs K l Z n0 mi pc ls st H v H' := by
  obtain ⟨hd, rfl⟩ := hd
  exact Runs.pure (fun _ _ _ _ _ _ _ _ _ _ _ _ _ X hx hZ hc hown t h => XS.aloadN X.here hx rfl (hb hc hd) (loc_at hl) (isRef_sh hv) h) kk
theorem r_aload {k : Nat} {x : Value} (hd : decode mi.2.1 pc = .ok (.aload k, 2) ∧ pc + 2 = np) (hl : ls[k]? = some (.val x)) (hv : x.isRef = true) (kk : Runs K l Z n0 mi np ls (x :: st) H v H') : Runs K l Z n0 mi pc ls st H v H' := by
  obtain ⟨hd, rfl⟩ := hd
  exact Runs.pure (fun _ _ _ _ _ _ _ _ _ _ _ _ _ X hx hZ hc hown t h => XS.aload X.here hx rfl (hb hc hd) (loc_at hl) (isRef_sh hv) h) kk
theorem r_istoreN {k : Fin 4} {x : Int32} (hd : decode mi.2.1 pc = .ok (.istore_n k, 1) ∧ pc + 1 = np) (hp : P1 ls k.val = true) (hs : ls.set k.val (.val (.int x)) = ls') (kk : Runs K l Z n0 mi np ls' st H v H') : Runs K l Z n0 mi pc ls (.int x :: st) H v H' := by
  obtain ⟨hd, rfl⟩ := hd
  exact Runs.pure (fun _ _ _ _ _ _ _ _ _ _ _ _ _ X hx hZ hc hown t h => XS.istoreN X.here hx rfl (hb hc hd) rfl (st1 hp rfl hs) h) kk
theorem r_istore {k : Nat} {x : Int32} (hd : decode mi.2.1 pc = .ok (.istore k, 2) ∧ pc + 2 = np) (hp : P1 ls k = true) (hs : ls.set k (.val (.int x)) = ls') (kk : Runs K l Z n0 mi np ls' st H v H') : Runs K l Z n0 mi pc ls (.int x :: st) H v H' := by
  obtain ⟨hd, rfl⟩ := hd
  exact Runs.pure (fun _ _ _ _ _ _ _ _ _ _ _ _ _ X hx hZ hc hown t h => XS.istore X.here hx rfl (hb hc hd) rfl (st1 hp rfl hs) h) kk
theorem r_lstoreN {k : Fin 4} {x : Int64} (hd : decode mi.2.1 pc = .ok (.lstore_n k, 1) ∧ pc + 1 = np) (hp : P2 ls k.val = true) (hs : (ls.set k.val (.val (.long x))).set (k.val + 1) .second = ls') (kk : Runs K l Z n0 mi np ls' st H v H') : Runs K l Z n0 mi pc ls (.long x :: st) H v H' := by
  obtain ⟨hd, rfl⟩ := hd
  exact Runs.pure (fun _ _ _ _ _ _ _ _ _ _ _ _ _ X hx hZ hc hown t h => XT.lstoreN X.here hx rfl (hb hc hd) rfl (st2 hp rfl hs) h) kk
theorem r_lstore {k : Nat} {x : Int64} (hd : decode mi.2.1 pc = .ok (.lstore k, 2) ∧ pc + 2 = np) (hp : P2 ls k = true) (hs : (ls.set k (.val (.long x))).set (k + 1) .second = ls') (kk : Runs K l Z n0 mi np ls' st H v H') : Runs K l Z n0 mi pc ls (.long x :: st) H v H' := by
  obtain ⟨hd, rfl⟩ := hd
  exact Runs.pure (fun _ _ _ _ _ _ _ _ _ _ _ _ _ X hx hZ hc hown t h => XT.lstore X.here hx rfl (hb hc hd) rfl (st2 hp rfl hs) h) kk
theorem r_astoreN {k : Fin 4} {x : Value} (hd : decode mi.2.1 pc = .ok (.astore_n k, 1) ∧ pc + 1 = np) (hp : P1 ls k.val = true) (hv : x.isRef = true) (hs : ls.set k.val (.val x) = ls') (kk : Runs K l Z n0 mi np ls' st H v H') : Runs K l Z n0 mi pc ls (x :: st) H v H' := by
  obtain ⟨hd, rfl⟩ := hd
  exact Runs.pure (fun _ _ _ _ _ _ _ _ _ _ _ _ _ X hx hZ hc hown t h => XS.astoreN X.here hx rfl (hb hc hd) rfl (isRef_sh hv) (st1 hp (XT.cat1 hv) hs) h) kk
theorem r_astore {k : Nat} {x : Value} (hd : decode mi.2.1 pc = .ok (.astore k, 2) ∧ pc + 2 = np) (hp : P1 ls k = true) (hv : x.isRef = true) (hs : ls.set k (.val x) = ls') (kk : Runs K l Z n0 mi np ls' st H v H') : Runs K l Z n0 mi pc ls (x :: st) H v H' := by
  obtain ⟨hd, rfl⟩ := hd
  exact Runs.pure (fun _ _ _ _ _ _ _ _ _ _ _ _ _ X hx hZ hc hown t h => XS.astore X.here hx rfl (hb hc hd) rfl (isRef_sh hv) (st1 hp (XT.cat1 hv) hs) h) kk
theorem r_iadd {x y : Int32} (hd : decode mi.2.1 pc = .ok (.iadd, 1) ∧ pc + 1 = np) (kk : Runs K l Z n0 mi np ls (.int (x + y) :: st) H v H') : Runs K l Z n0 mi pc ls (.int y :: .int x :: st) H v H' := by
  obtain ⟨hd, rfl⟩ := hd
  exact Runs.pure (fun _ _ _ _ _ _ _ _ _ _ _ _ _ X hx hZ hc hown t h => XS.iadd X.here hx rfl (hb hc hd) rfl h) kk
theorem r_isub {x y : Int32} (hd : decode mi.2.1 pc = .ok (.isub, 1) ∧ pc + 1 = np) (kk : Runs K l Z n0 mi np ls (.int (x - y) :: st) H v H') : Runs K l Z n0 mi pc ls (.int y :: .int x :: st) H v H' := by
  obtain ⟨hd, rfl⟩ := hd
  exact Runs.pure (fun _ _ _ _ _ _ _ _ _ _ _ _ _ X hx hZ hc hown t h => XS.isub X.here hx rfl (hb hc hd) rfl h) kk
theorem r_imul {x y : Int32} (hd : decode mi.2.1 pc = .ok (.imul, 1) ∧ pc + 1 = np) (kk : Runs K l Z n0 mi np ls (.int (x * y) :: st) H v H') : Runs K l Z n0 mi pc ls (.int y :: .int x :: st) H v H' := by
  obtain ⟨hd, rfl⟩ := hd
  exact Runs.pure (fun _ _ _ _ _ _ _ _ _ _ _ _ _ X hx hZ hc hown t h => XS.imul X.here hx rfl (hb hc hd) rfl h) kk
theorem r_iand {x y : Int32} (hd : decode mi.2.1 pc = .ok (.iand, 1) ∧ pc + 1 = np) (kk : Runs K l Z n0 mi np ls (.int (x &&& y) :: st) H v H') : Runs K l Z n0 mi pc ls (.int y :: .int x :: st) H v H' := by
  obtain ⟨hd, rfl⟩ := hd
  exact Runs.pure (fun _ _ _ _ _ _ _ _ _ _ _ _ _ X hx hZ hc hown t h => XS.iand X.here hx rfl (hb hc hd) rfl h) kk
theorem r_ior {x y : Int32} (hd : decode mi.2.1 pc = .ok (.ior, 1) ∧ pc + 1 = np) (kk : Runs K l Z n0 mi np ls (.int (x ||| y) :: st) H v H') : Runs K l Z n0 mi pc ls (.int y :: .int x :: st) H v H' := by
  obtain ⟨hd, rfl⟩ := hd
  exact Runs.pure (fun _ _ _ _ _ _ _ _ _ _ _ _ _ X hx hZ hc hown t h => XT.ior X.here hx rfl (hb hc hd) rfl h) kk
theorem r_ixor {x y : Int32} (hd : decode mi.2.1 pc = .ok (.ixor, 1) ∧ pc + 1 = np) (kk : Runs K l Z n0 mi np ls (.int (x ^^^ y) :: st) H v H') : Runs K l Z n0 mi pc ls (.int y :: .int x :: st) H v H' := by
  obtain ⟨hd, rfl⟩ := hd
  exact Runs.pure (fun _ _ _ _ _ _ _ _ _ _ _ _ _ X hx hZ hc hown t h => XT.ixor X.here hx rfl (hb hc hd) rfl h) kk
theorem r_ishl {x y : Int32} (hd : decode mi.2.1 pc = .ok (.ishl, 1) ∧ pc + 1 = np) (kk : Runs K l Z n0 mi np ls (.int (x <<< (y &&& 31)) :: st) H v H') : Runs K l Z n0 mi pc ls (.int y :: .int x :: st) H v H' := by
  obtain ⟨hd, rfl⟩ := hd
  exact Runs.pure (fun _ _ _ _ _ _ _ _ _ _ _ _ _ X hx hZ hc hown t h => XT.ishl X.here hx rfl (hb hc hd) rfl h) kk
theorem r_ishr {x y : Int32} (hd : decode mi.2.1 pc = .ok (.ishr, 1) ∧ pc + 1 = np) (kk : Runs K l Z n0 mi np ls (.int (x >>> (y &&& 31)) :: st) H v H') : Runs K l Z n0 mi pc ls (.int y :: .int x :: st) H v H' := by
  obtain ⟨hd, rfl⟩ := hd
  exact Runs.pure (fun _ _ _ _ _ _ _ _ _ _ _ _ _ X hx hZ hc hown t h => XT.ishr X.here hx rfl (hb hc hd) rfl h) kk
theorem r_iushr {x y : Int32} (hd : decode mi.2.1 pc = .ok (.iushr, 1) ∧ pc + 1 = np) (kk : Runs K l Z n0 mi np ls (.int (XT.ushr x y) :: st) H v H') : Runs K l Z n0 mi pc ls (.int y :: .int x :: st) H v H' := by
  obtain ⟨hd, rfl⟩ := hd
  exact Runs.pure (fun _ _ _ _ _ _ _ _ _ _ _ _ _ X hx hZ hc hown t h => XT.iushr X.here hx rfl (hb hc hd) rfl h) kk
theorem r_idiv {x y : Int32} (hd : decode mi.2.1 pc = .ok (.idiv, 1) ∧ pc + 1 = np) (hy : y ≠ 0) (kk : Runs K l Z n0 mi np ls (.int (x / y) :: st) H v H') : Runs K l Z n0 mi pc ls (.int y :: .int x :: st) H v H' := by
  obtain ⟨hd, rfl⟩ := hd
  exact Runs.pure (fun _ _ _ _ _ _ _ _ _ _ _ _ _ X hx hZ hc hown t h => XS.idiv X.here hx rfl (hb hc hd) rfl hy h) kk
theorem r_irem {x y : Int32} (hd : decode mi.2.1 pc = .ok (.irem, 1) ∧ pc + 1 = np) (hy : y ≠ 0) (kk : Runs K l Z n0 mi np ls (.int (x % y) :: st) H v H') : Runs K l Z n0 mi pc ls (.int y :: .int x :: st) H v H' := by
  obtain ⟨hd, rfl⟩ := hd
  exact Runs.pure (fun _ _ _ _ _ _ _ _ _ _ _ _ _ X hx hZ hc hown t h => iremM X hx rfl (hb hc hd) rfl hy h) kk
theorem r_ladd {x y : Int64} (hd : decode mi.2.1 pc = .ok (.ladd, 1) ∧ pc + 1 = np) (kk : Runs K l Z n0 mi np ls (.long (x + y) :: st) H v H') : Runs K l Z n0 mi pc ls (.long y :: .long x :: st) H v H' := by
  obtain ⟨hd, rfl⟩ := hd
  exact Runs.pure (fun _ _ _ _ _ _ _ _ _ _ _ _ _ X hx hZ hc hown t h => XT.ladd X.here hx rfl (hb hc hd) rfl h) kk
theorem r_lsub {x y : Int64} (hd : decode mi.2.1 pc = .ok (.lsub, 1) ∧ pc + 1 = np) (kk : Runs K l Z n0 mi np ls (.long (x - y) :: st) H v H') : Runs K l Z n0 mi pc ls (.long y :: .long x :: st) H v H' := by
  obtain ⟨hd, rfl⟩ := hd
  exact Runs.pure (fun _ _ _ _ _ _ _ _ _ _ _ _ _ X hx hZ hc hown t h => XT.lsub X.here hx rfl (hb hc hd) rfl h) kk
theorem r_lmul {x y : Int64} (hd : decode mi.2.1 pc = .ok (.lmul, 1) ∧ pc + 1 = np) (kk : Runs K l Z n0 mi np ls (.long (x * y) :: st) H v H') : Runs K l Z n0 mi pc ls (.long y :: .long x :: st) H v H' := by
  obtain ⟨hd, rfl⟩ := hd
  exact Runs.pure (fun _ _ _ _ _ _ _ _ _ _ _ _ _ X hx hZ hc hown t h => XT.lmul X.here hx rfl (hb hc hd) rfl h) kk
theorem r_land {x y : Int64} (hd : decode mi.2.1 pc = .ok (.land, 1) ∧ pc + 1 = np) (kk : Runs K l Z n0 mi np ls (.long (x &&& y) :: st) H v H') : Runs K l Z n0 mi pc ls (.long y :: .long x :: st) H v H' := by
  obtain ⟨hd, rfl⟩ := hd
  exact Runs.pure (fun _ _ _ _ _ _ _ _ _ _ _ _ _ X hx hZ hc hown t h => XT.land X.here hx rfl (hb hc hd) rfl h) kk
theorem r_lor {x y : Int64} (hd : decode mi.2.1 pc = .ok (.lor, 1) ∧ pc + 1 = np) (kk : Runs K l Z n0 mi np ls (.long (x ||| y) :: st) H v H') : Runs K l Z n0 mi pc ls (.long y :: .long x :: st) H v H' := by
  obtain ⟨hd, rfl⟩ := hd
  exact Runs.pure (fun _ _ _ _ _ _ _ _ _ _ _ _ _ X hx hZ hc hown t h => XT.lor X.here hx rfl (hb hc hd) rfl h) kk
theorem r_lxor {x y : Int64} (hd : decode mi.2.1 pc = .ok (.lxor, 1) ∧ pc + 1 = np) (kk : Runs K l Z n0 mi np ls (.long (x ^^^ y) :: st) H v H') : Runs K l Z n0 mi pc ls (.long y :: .long x :: st) H v H' := by
  obtain ⟨hd, rfl⟩ := hd
  exact Runs.pure (fun _ _ _ _ _ _ _ _ _ _ _ _ _ X hx hZ hc hown t h => XT.lxor X.here hx rfl (hb hc hd) rfl h) kk
theorem r_lshl {x : Int64} {y : Int32} (hd : decode mi.2.1 pc = .ok (.lshl, 1) ∧ pc + 1 = np) (kk : Runs K l Z n0 mi np ls (.long (x <<< (y.toInt64 &&& 63)) :: st) H v H') : Runs K l Z n0 mi pc ls (.int y :: .long x :: st) H v H' := by
  obtain ⟨hd, rfl⟩ := hd
  exact Runs.pure (fun _ _ _ _ _ _ _ _ _ _ _ _ _ X hx hZ hc hown t h => XT.lshl X.here hx rfl (hb hc hd) rfl h) kk
theorem r_lshr {x : Int64} {y : Int32} (hd : decode mi.2.1 pc = .ok (.lshr, 1) ∧ pc + 1 = np) (kk : Runs K l Z n0 mi np ls (.long (x >>> (y.toInt64 &&& 63)) :: st) H v H') : Runs K l Z n0 mi pc ls (.int y :: .long x :: st) H v H' := by
  obtain ⟨hd, rfl⟩ := hd
  exact Runs.pure (fun _ _ _ _ _ _ _ _ _ _ _ _ _ X hx hZ hc hown t h => XT.lshr X.here hx rfl (hb hc hd) rfl h) kk
theorem r_lushr {x : Int64} {y : Int32} (hd : decode mi.2.1 pc = .ok (.lushr, 1) ∧ pc + 1 = np) (kk : Runs K l Z n0 mi np ls (.long (XT.ushrL x y) :: st) H v H') : Runs K l Z n0 mi pc ls (.int y :: .long x :: st) H v H' := by
  obtain ⟨hd, rfl⟩ := hd
  exact Runs.pure (fun _ _ _ _ _ _ _ _ _ _ _ _ _ X hx hZ hc hown t h => XT.lushr X.here hx rfl (hb hc hd) rfl h) kk
theorem r_ldiv {x y : Int64} (hd : decode mi.2.1 pc = .ok (.ldiv, 1) ∧ pc + 1 = np) (hy : y ≠ 0) (kk : Runs K l Z n0 mi np ls (.long (x / y) :: st) H v H') : Runs K l Z n0 mi pc ls (.long y :: .long x :: st) H v H' := by
  obtain ⟨hd, rfl⟩ := hd
  exact Runs.pure (fun _ _ _ _ _ _ _ _ _ _ _ _ _ X hx hZ hc hown t h => XT.ldiv X.here hx rfl (hb hc hd) rfl hy h) kk
theorem r_lrem {x y : Int64} (hd : decode mi.2.1 pc = .ok (.lrem, 1) ∧ pc + 1 = np) (hy : y ≠ 0) (kk : Runs K l Z n0 mi np ls (.long (x % y) :: st) H v H') : Runs K l Z n0 mi pc ls (.long y :: .long x :: st) H v H' := by
  obtain ⟨hd, rfl⟩ := hd
  exact Runs.pure (fun _ _ _ _ _ _ _ _ _ _ _ _ _ X hx hZ hc hown t h => XT.lrem X.here hx rfl (hb hc hd) rfl hy (by rw [lrem_mod]; exact h)) kk
theorem r_lcmp {x y : Int64} (hd : decode mi.2.1 pc = .ok (.lcmp, 1) ∧ pc + 1 = np) (kk : Runs K l Z n0 mi np ls (.int (XT.cmpL x y) :: st) H v H') : Runs K l Z n0 mi pc ls (.long y :: .long x :: st) H v H' := by
  obtain ⟨hd, rfl⟩ := hd
  exact Runs.pure (fun _ _ _ _ _ _ _ _ _ _ _ _ _ X hx hZ hc hown t h => XT.lcmp X.here hx rfl (hb hc hd) rfl h) kk
theorem r_ineg {x : Int32} (hd : decode mi.2.1 pc = .ok (.ineg, 1) ∧ pc + 1 = np) (kk : Runs K l Z n0 mi np ls (.int (-x) :: st) H v H') : Runs K l Z n0 mi pc ls (.int x :: st) H v H' := by
  obtain ⟨hd, rfl⟩ := hd
  exact Runs.pure (fun _ _ _ _ _ _ _ _ _ _ _ _ _ X hx hZ hc hown t h => XS.ineg X.here hx rfl (hb hc hd) rfl h) kk
theorem r_lneg {x : Int64} (hd : decode mi.2.1 pc = .ok (.lneg, 1) ∧ pc + 1 = np) (kk : Runs K l Z n0 mi np ls (.long (-x) :: st) H v H') : Runs K l Z n0 mi pc ls (.long x :: st) H v H' := by
  obtain ⟨hd, rfl⟩ := hd
  exact Runs.pure (fun _ _ _ _ _ _ _ _ _ _ _ _ _ X hx hZ hc hown t h => XT.lneg X.here hx rfl (hb hc hd) rfl h) kk
theorem r_i2l {x : Int32} (hd : decode mi.2.1 pc = .ok (.i2l, 1) ∧ pc + 1 = np) (kk : Runs K l Z n0 mi np ls (.long x.toInt64 :: st) H v H') : Runs K l Z n0 mi pc ls (.int x :: st) H v H' := by
  obtain ⟨hd, rfl⟩ := hd
  exact Runs.pure (fun _ _ _ _ _ _ _ _ _ _ _ _ _ X hx hZ hc hown t h => XT.i2l X.here hx rfl (hb hc hd) rfl h) kk
theorem r_l2i {x : Int64} (hd : decode mi.2.1 pc = .ok (.l2i, 1) ∧ pc + 1 = np) (kk : Runs K l Z n0 mi np ls (.int x.toInt32 :: st) H v H') : Runs K l Z n0 mi pc ls (.long x :: st) H v H' := by
  obtain ⟨hd, rfl⟩ := hd
  exact Runs.pure (fun _ _ _ _ _ _ _ _ _ _ _ _ _ X hx hZ hc hown t h => XT.l2i X.here hx rfl (hb hc hd) rfl h) kk
theorem r_i2b {x : Int32} (hd : decode mi.2.1 pc = .ok (.i2b, 1) ∧ pc + 1 = np) (kk : Runs K l Z n0 mi np ls (.int x.toInt8.toInt32 :: st) H v H') : Runs K l Z n0 mi pc ls (.int x :: st) H v H' := by
  obtain ⟨hd, rfl⟩ := hd
  exact Runs.pure (fun _ _ _ _ _ _ _ _ _ _ _ _ _ X hx hZ hc hown t h => XT.i2b X.here hx rfl (hb hc hd) rfl h) kk
theorem r_i2s {x : Int32} (hd : decode mi.2.1 pc = .ok (.i2s, 1) ∧ pc + 1 = np) (kk : Runs K l Z n0 mi np ls (.int x.toInt16.toInt32 :: st) H v H') : Runs K l Z n0 mi pc ls (.int x :: st) H v H' := by
  obtain ⟨hd, rfl⟩ := hd
  exact Runs.pure (fun _ _ _ _ _ _ _ _ _ _ _ _ _ X hx hZ hc hown t h => XT.i2s X.here hx rfl (hb hc hd) rfl h) kk
theorem r_i2c {x : Int32} (hd : decode mi.2.1 pc = .ok (.i2c, 1) ∧ pc + 1 = np) (kk : Runs K l Z n0 mi np ls (.int x.toUInt32.toUInt16.toUInt32.toInt32 :: st) H v H') : Runs K l Z n0 mi pc ls (.int x :: st) H v H' := by
  obtain ⟨hd, rfl⟩ := hd
  exact Runs.pure (fun _ _ _ _ _ _ _ _ _ _ _ _ _ X hx hZ hc hown t h => XT.i2c X.here hx rfl (hb hc hd) rfl h) kk
theorem r_dup {x : Value} (hd : decode mi.2.1 pc = .ok (.dup, 1) ∧ pc + 1 = np) (hx1 : x.category = 1) (kk : Runs K l Z n0 mi np ls (x :: x :: st) H v H') : Runs K l Z n0 mi pc ls (x :: st) H v H' := by
  obtain ⟨hd, rfl⟩ := hd
  exact Runs.pure (fun _ _ _ _ _ _ _ _ _ _ _ _ _ X hx hZ hc hown t h => XS.dup X.here hx rfl (hb hc hd) rfl ((cat_sh _ _).trans hx1) h) kk
theorem r_pop {x : Value} (hd : decode mi.2.1 pc = .ok (.pop, 1) ∧ pc + 1 = np) (hx1 : x.category = 1) (kk : Runs K l Z n0 mi np ls st H v H') : Runs K l Z n0 mi pc ls (x :: st) H v H' := by
  obtain ⟨hd, rfl⟩ := hd
  exact Runs.pure (fun _ _ _ _ _ _ _ _ _ _ _ _ _ X hx hZ hc hown t h => XT.pop X.here hx rfl (hb hc hd) rfl ((cat_sh _ _).trans hx1) h) kk
theorem r_dupX1 {x y : Value} (hd : decode mi.2.1 pc = .ok (.dup_x1, 1) ∧ pc + 1 = np) (hx1 : x.category = 1) (hy1 : y.category = 1) (kk : Runs K l Z n0 mi np ls (x :: y :: x :: st) H v H') : Runs K l Z n0 mi pc ls (x :: y :: st) H v H' := by
  obtain ⟨hd, rfl⟩ := hd
  exact Runs.pure (fun _ _ _ _ _ _ _ _ _ _ _ _ _ X hx hZ hc hown t h => XT.dupX1 X.here hx rfl (hb hc hd) rfl ((cat_sh _ _).trans hx1) ((cat_sh _ _).trans hy1) h) kk
theorem r_dup2 {x y : Value} (hd : decode mi.2.1 pc = .ok (.dup2, 1) ∧ pc + 1 = np) (hx1 : x.category = 1) (hy1 : y.category = 1) (kk : Runs K l Z n0 mi np ls (x :: y :: x :: y :: st) H v H') : Runs K l Z n0 mi pc ls (x :: y :: st) H v H' := by
  obtain ⟨hd, rfl⟩ := hd
  exact Runs.pure (fun _ _ _ _ _ _ _ _ _ _ _ _ _ X hx hZ hc hown t h => XT.dup2 X.here hx rfl (hb hc hd) rfl ((cat_sh _ _).trans hx1) ((cat_sh _ _).trans hy1) h) kk
theorem r_dup2L {x : Int64} (hd : decode mi.2.1 pc = .ok (.dup2, 1) ∧ pc + 1 = np) (kk : Runs K l Z n0 mi np ls (.long x :: .long x :: st) H v H') : Runs K l Z n0 mi pc ls (.long x :: st) H v H' := by
  obtain ⟨hd, rfl⟩ := hd
  exact Runs.pure (fun _ _ _ _ _ _ _ _ _ _ _ _ _ X hx hZ hc hown t h => XT.dup2L X.here hx rfl (hb hc hd) rfl h) kk
theorem r_aconstNull  (hd : decode mi.2.1 pc = .ok (.aconst_null, 1) ∧ pc + 1 = np) (kk : Runs K l Z n0 mi np ls (.null :: st) H v H') : Runs K l Z n0 mi pc ls st H v H' := by
  obtain ⟨hd, rfl⟩ := hd
  exact Runs.pure (fun _ _ _ _ _ _ _ _ _ _ _ _ _ X hx hZ hc hown t h => XS.aconstNull X.here hx rfl (hb hc hd) h) kk
theorem r_iconst {i : Int} {x : Int32} (hd : decode mi.2.1 pc = .ok (.iconst i, 1) ∧ pc + 1 = np ∧ Int32.ofInt i = x) (kk : Runs K l Z n0 mi np ls (.int x :: st) H v H') : Runs K l Z n0 mi pc ls st H v H' := by
  obtain ⟨hd, rfl, hx0⟩ := hd
  exact Runs.pure (fun _ _ _ _ _ _ _ _ _ _ _ _ _ X hx hZ hc hown t h => XT.iconstV X.here hx rfl x (hb hc hd) hx0 h) kk
theorem r_bipush {i : Int} {x : Int32} (hd : decode mi.2.1 pc = .ok (.bipush i, 2) ∧ pc + 2 = np ∧ (Int8.ofInt i).toInt32 = x) (kk : Runs K l Z n0 mi np ls (.int x :: st) H v H') : Runs K l Z n0 mi pc ls st H v H' := by
  obtain ⟨hd, rfl, hx0⟩ := hd
  exact Runs.pure (fun _ _ _ _ _ _ _ _ _ _ _ _ _ X hx hZ hc hown t h => XT.bipushV X.here hx rfl x (hb hc hd) hx0 h) kk
theorem r_sipush {i : Int} {x : Int32} (hd : decode mi.2.1 pc = .ok (.sipush i, 3) ∧ pc + 3 = np ∧ (Int16.ofInt i).toInt32 = x) (kk : Runs K l Z n0 mi np ls (.int x :: st) H v H') : Runs K l Z n0 mi pc ls st H v H' := by
  obtain ⟨hd, rfl, hx0⟩ := hd
  exact Runs.pure (fun _ _ _ _ _ _ _ _ _ _ _ _ _ X hx hZ hc hown t h => XT.sipushV X.here hx rfl x (hb hc hd) hx0 h) kk
theorem r_lconst {i : Fin 2} {x : Int64} (hd : decode mi.2.1 pc = .ok (.lconst i, 1) ∧ pc + 1 = np ∧ Int64.ofNat i = x) (kk : Runs K l Z n0 mi np ls (.long x :: st) H v H') : Runs K l Z n0 mi pc ls st H v H' := by
  obtain ⟨hd, rfl, hx0⟩ := hd
  exact Runs.pure (fun _ _ _ _ _ _ _ _ _ _ _ _ _ X hx hZ hc hown t h => XT.lconstV X.here hx rfl x (hb hc hd) hx0 h) kk
theorem r_ldc {i : Nat} {x : Int32} (hd : decode mi.2.1 pc = .ok (.ldc i, 2) ∧ pc + 2 = np) (w : (Jvm.Cond.constant mi.1.cls i x).before a0 Z = true) (kk : Runs K l Z n0 mi np ls (.int x :: st) H v H') : Runs K l Z n0 mi pc ls st H v H' := by
  obtain ⟨hd, rfl⟩ := hd
  exact Runs.pure (fun _ _ _ _ _ _ _ _ _ _ _ _ _ X hx hZ hc hown t h => X.ldcI hx hown (mv hZ w) rfl (hb hc hd) h) kk
theorem r_ldcW {i : Nat} {x : Int32} (hd : decode mi.2.1 pc = .ok (.ldc_w i, 3) ∧ pc + 3 = np) (w : (Jvm.Cond.constant mi.1.cls i x).before a0 Z = true) (kk : Runs K l Z n0 mi np ls (.int x :: st) H v H') : Runs K l Z n0 mi pc ls st H v H' := by
  obtain ⟨hd, rfl⟩ := hd
  exact Runs.pure (fun _ _ _ _ _ _ _ _ _ _ _ _ _ X hx hZ hc hown t h => X.ldcWI hx hown (mv hZ w) rfl (hb hc hd) h) kk
theorem r_ldc2 {i : Nat} {x : Int64} (hd : decode mi.2.1 pc = .ok (.ldc2_w i, 3) ∧ pc + 3 = np) (w : (Jvm.Cond.constantLong mi.1.cls i x).before a0 Z = true) (kk : Runs K l Z n0 mi np ls (.long x :: st) H v H') : Runs K l Z n0 mi pc ls st H v H' := by
  obtain ⟨hd, rfl⟩ := hd
  exact Runs.pure (fun _ _ _ _ _ _ _ _ _ _ _ _ _ X hx hZ hc hown t h => X.ldc2J hx hown (mv hZ w) rfl (hb hc hd) h) kk
theorem r_iinc {k : Nat} {i : Int} {x y : Int32} (hd : decode mi.2.1 pc = .ok (.iinc k i, 3) ∧ pc + 3 = np ∧ Int32.ofInt i = y) (hl : ls[k]? = some (.val (.int x))) (hs : ls.set k (.val (.int (x + y))) = ls') (kk : Runs K l Z n0 mi np ls' st H v H') : Runs K l Z n0 mi pc ls st H v H' := by
  obtain ⟨hd, rfl, hx0⟩ := hd
  exact Runs.pure (fun _ _ _ _ _ _ _ _ _ _ _ _ _ X hx hZ hc hown t h => XT.iincV X.here hx rfl y (hb hc hd) hx0 (loc_at hl) (st1 (P1_int hl) rfl hs) h) kk
theorem r_goto  {o : Int} (hd : decode mi.2.1 pc = .ok (.goto o, 3) ∧ pc + 3 = np ∧ 0 ≤ (pc : Int) + o ∧ ((pc : Int) + o).toNat = tp) (kk : Runs K l Z n0 mi tp ls st H v H') : Runs K l Z n0 mi pc ls st H v H' := by
  obtain ⟨hd, hn, h1, h2⟩ := hd
  exact Runs.pure (fun _ _ _ _ _ _ _ _ _ _ _ _ _ X hx hZ hc hown t h => XS.goto X.here hx rfl rfl (hb hc hd) h1 h2 h) kk
theorem r_ifT {cd : ClassFile.Cond} {x : Int32} {o : Int} (hd : decode mi.2.1 pc = .ok (.ifCond cd o, 3) ∧ pc + 3 = np ∧ 0 ≤ (pc : Int) + o ∧ ((pc : Int) + o).toNat = tp) (hq : ifCond.holds cd x = true) (kk : Runs K l Z n0 mi tp ls st H v H') : Runs K l Z n0 mi pc ls (.int x :: st) H v H' := by
  obtain ⟨hd, hn, h1, h2⟩ := hd
  exact Runs.pure (fun _ _ _ _ _ _ _ _ _ _ _ _ _ X hx hZ hc hown t h => XS.ifYes X.here hx rfl rfl (hb hc hd) rfl hq h1 h2 h) kk
theorem r_ifF {cd : ClassFile.Cond} {x : Int32} {o : Int} (hd : decode mi.2.1 pc = .ok (.ifCond cd o, 3) ∧ pc + 3 = np ∧ 0 ≤ (pc : Int) + o ∧ ((pc : Int) + o).toNat = tp) (hq : ifCond.holds cd x = false) (kk : Runs K l Z n0 mi np ls st H v H') : Runs K l Z n0 mi pc ls (.int x :: st) H v H' := by
  obtain ⟨hd, rfl, h1, h2⟩ := hd
  exact Runs.pure (fun _ _ _ _ _ _ _ _ _ _ _ _ _ X hx hZ hc hown t h => XS.ifNo X.here hx rfl (hb hc hd) rfl hq h) kk
theorem r_icT {cd : ClassFile.Cond} {x y : Int32} {o : Int} (hd : decode mi.2.1 pc = .ok (.if_icmp cd o, 3) ∧ pc + 3 = np ∧ 0 ≤ (pc : Int) + o ∧ ((pc : Int) + o).toNat = tp) (hq : if_icmp.holds cd x y = true) (kk : Runs K l Z n0 mi tp ls st H v H') : Runs K l Z n0 mi pc ls (.int y :: .int x :: st) H v H' := by
  obtain ⟨hd, hn, h1, h2⟩ := hd
  exact Runs.pure (fun _ _ _ _ _ _ _ _ _ _ _ _ _ X hx hZ hc hown t h => XS.icmpYes X.here hx rfl rfl (hb hc hd) rfl hq h1 h2 h) kk
theorem r_icF {cd : ClassFile.Cond} {x y : Int32} {o : Int} (hd : decode mi.2.1 pc = .ok (.if_icmp cd o, 3) ∧ pc + 3 = np ∧ 0 ≤ (pc : Int) + o ∧ ((pc : Int) + o).toNat = tp) (hq : if_icmp.holds cd x y = false) (kk : Runs K l Z n0 mi np ls st H v H') : Runs K l Z n0 mi pc ls (.int y :: .int x :: st) H v H' := by
  obtain ⟨hd, rfl, h1, h2⟩ := hd
  exact Runs.pure (fun _ _ _ _ _ _ _ _ _ _ _ _ _ X hx hZ hc hown t h => XS.icmpNo X.here hx rfl (hb hc hd) rfl hq h) kk
theorem r_nullT  {o : Int} (hd : decode mi.2.1 pc = .ok (.ifnull o, 3) ∧ pc + 3 = np ∧ 0 ≤ (pc : Int) + o ∧ ((pc : Int) + o).toNat = tp) (kk : Runs K l Z n0 mi tp ls st H v H') : Runs K l Z n0 mi pc ls (.null :: st) H v H' := by
  obtain ⟨hd, hn, h1, h2⟩ := hd
  exact Runs.pure (fun _ _ _ _ _ _ _ _ _ _ _ _ _ X hx hZ hc hown t h => XS.ifnullYes X.here hx rfl rfl (hb hc hd) rfl h1 h2 h) kk
theorem r_nullF {a : Addr} {o : Int} (hd : decode mi.2.1 pc = .ok (.ifnull o, 3) ∧ pc + 3 = np ∧ 0 ≤ (pc : Int) + o ∧ ((pc : Int) + o).toNat = tp) (kk : Runs K l Z n0 mi np ls st H v H') : Runs K l Z n0 mi pc ls (.ref a :: st) H v H' := by
  obtain ⟨hd, rfl, h1, h2⟩ := hd
  exact Runs.pure (fun _ _ _ _ _ _ _ _ _ _ _ _ _ X hx hZ hc hown t h => XS.ifnullNo X.here hx rfl (hb hc hd) rfl h) kk
theorem r_nonnullT {a : Addr} {o : Int} (hd : decode mi.2.1 pc = .ok (.ifnonnull o, 3) ∧ pc + 3 = np ∧ 0 ≤ (pc : Int) + o ∧ ((pc : Int) + o).toNat = tp) (kk : Runs K l Z n0 mi tp ls st H v H') : Runs K l Z n0 mi pc ls (.ref a :: st) H v H' := by
  obtain ⟨hd, hn, h1, h2⟩ := hd
  exact Runs.pure (fun _ _ _ _ _ _ _ _ _ _ _ _ _ X hx hZ hc hown t h => XT.ifnonnullYes X.here hx rfl rfl (hb hc hd) rfl h1 h2 h) kk
theorem r_nonnullF  {o : Int} (hd : decode mi.2.1 pc = .ok (.ifnonnull o, 3) ∧ pc + 3 = np ∧ 0 ≤ (pc : Int) + o ∧ ((pc : Int) + o).toNat = tp) (kk : Runs K l Z n0 mi np ls st H v H') : Runs K l Z n0 mi pc ls (.null :: st) H v H' := by
  obtain ⟨hd, rfl, h1, h2⟩ := hd
  exact Runs.pure (fun _ _ _ _ _ _ _ _ _ _ _ _ _ X hx hZ hc hown t h => XT.ifnonnullNo X.here hx rfl (hb hc hd) rfl h) kk
/-- a step that may turn the heap -/
theorem Runs.heap {st2 : List Value} (m1 : H.length ≤ H1.length) (m2 : szs K H ≤ szs K H1) (hstep : ∀ (p : Program) (e : Env) (R : Room) (s : State) (m : MethodId) (args : Array Value) (below : List Frame) (meth : Method) (c : Code) (T : State) (locs : List Loc) (cells slots : Nat),
      Stand p l e R s m args below meth c T locs cells slots → p.tables.exec = Jvm.exec → Z.Warmed39 s.vm → c.code = mi.2.1 → c.maxLocals = mi.2.2.1 → s.vm.findClass mi.1.cls = some m.cls → meth.name = mi.1.name → Rel K Z n0 H T.heap → Fr n0 locs → mi.2.2.2.2.1 ≤ R.frames → mi.2.2.2.2.2 ≤ R.locals →
      s.heap.size + cells = n0 + H.length → cells + H1.length ≤ R.cells + H.length → slots + szs K H1 ≤ R.slots + szs K H →
      ∃ (T1 : State) (locs1 : List Loc) (cells1 slots1 : Nat), Stand p l e R s m args below meth c T1 locs1 cells1 slots1 ∧ Rel K Z n0 H1 T1.heap ∧ Fr n0 locs1 ∧ s.heap.size + cells1 = n0 + H1.length ∧ slots1 + szs K H ≤ slots + szs K H1 ∧
        ∀ target, Steps p.tables e below (T1.setTop (mkF m np (ls'.map (shS n0)).toArray (st2.map (shV n0)))) target → Steps p.tables e below (T.setTop (mkF m pc (ls.map (shS n0)).toArray (st.map (shV n0)))) target)
    (k : Runs K l Z n0 mi np ls' st2 H1 v H') : Runs K l Z n0 mi pc ls st H v H' := by
  have k1 := k.1
  have k2 := k.2.1
  refine ⟨Nat.le_trans m1 k1, Nat.le_trans m2 k2, fun p e R s m args below meth c T locs cells slots X hx hZ hc hml hret hown hnm hrel hfr hf hlo hsz hcl hsl => ?_⟩
  obtain ⟨T1, locs1, cells1, slots1, X1, rel1, fr1, hc1, hs1, st1⟩ := hstep p e R s m args below meth c T locs cells slots X hx hZ hc hml hown hnm hrel hfr hf hlo hsz (by omega) (by omega)
  obtain ⟨T', locs', cells', slots', X', rel', fr', hc', hs', stp⟩ := k.2.2 p e R s m args below meth c T1 locs1 cells1 slots1 X1 hx hZ hc hml hret hown hnm rel1 fr1 hf hlo hc1 (by omega) (by omega)
  exact ⟨T', locs', cells', slots', X', rel', fr', hc', by omega, fun fs hr => st1 _ (stp fs hr)⟩
theorem r_ret {x : Value} {t : FieldType} {i : Instr} (hd : decode mi.2.1 pc = .ok (i, 1)) (hret : mi.2.2.2.1 = some t) (hn : narrow t x = x)
    (hi : (i = .ireturn ∧ (t = .int ∨ t = .boolean ∨ t = .byte ∨ t = .char ∨ t = .short) ∧ ∃ z, x = .int z) ∨ (i = .lreturn ∧ t = .long ∧ ∃ z, x = .long z) ∨ (i = .areturn ∧ t.isReference = true ∧ x.isRef = true)) : Runs K l Z n0 mi pc ls (x :: st) H (some x) H := by
  refine ⟨Nat.le_refl _, Nat.le_refl _, fun p e R s m args below meth c T locs cells slots X hx hZ hc hml hret' hown hnm hrel hfr hf hlo hsz hcl hsl => ⟨T, locs, cells, slots, X, hrel, hfr, hsz, Nat.le_refl _, fun fs hr => ?_⟩⟩
  have hn' : narrow t (shV n0 x) = shV n0 x := by
    rcases hi with ⟨-, -, z, rfl⟩ | ⟨-, -, z, rfl⟩ | ⟨-, -, q⟩
    · exact hn
    · exact hn
    · cases x <;> first | (cases q; done) | (cases t <;> rfl)
  refine retOut X hx (hret'.trans hret) hn' ?_ (hb hc hd) hr
  rcases hi with ⟨h1, h2, z, rfl⟩ | ⟨h1, h2, z, rfl⟩ | ⟨h1, h2, q⟩
  · exact Or.inl ⟨h1, h2, z, rfl⟩
  · exact Or.inr (Or.inl ⟨h1, h2, z, rfl⟩)
  · exact Or.inr (Or.inr (Or.inr (Or.inr ⟨h1, h2, isRef_sh q⟩)))
theorem r_ireturn {z : Int32} (hd : decode mi.2.1 pc = .ok (.ireturn, 1)) (hret : mi.2.2.2.1 = some .int) : Runs K l Z n0 mi pc ls (.int z :: st) H (some (.int z)) H := r_ret hd hret rfl (Or.inl ⟨rfl, Or.inl rfl, z, rfl⟩)
theorem r_ireturnE {z z' : Int32} (hd : decode mi.2.1 pc = .ok (.ireturn, 1)) (hret : mi.2.2.2.1 = some .int) (h : z = z') : Runs K l Z n0 mi pc ls (.int z :: st) H (some (.int z')) H := h ▸ r_ireturn hd hret
theorem r_zreturn {z : Int32} (hd : decode mi.2.1 pc = .ok (.ireturn, 1)) (hret : mi.2.2.2.1 = some .boolean) (hz : z = 0 ∨ z = 1) : Runs K l Z n0 mi pc ls (.int z :: st) H (some (.int z)) H := r_ret hd hret (by rcases hz with rfl | rfl <;> rfl) (Or.inl ⟨rfl, Or.inr (Or.inl rfl), z, rfl⟩)
theorem r_lreturn {z : Int64} (hd : decode mi.2.1 pc = .ok (.lreturn, 1)) (hret : mi.2.2.2.1 = some .long) : Runs K l Z n0 mi pc ls (.long z :: st) H (some (.long z)) H := r_ret hd hret rfl (Or.inr (Or.inl ⟨rfl, rfl, z, rfl⟩))
theorem r_areturn {x : Value} {t : FieldType} (hd : decode mi.2.1 pc = .ok (.areturn, 1)) (hret : mi.2.2.2.1 = some t) (ht : t.isReference = true) (hx : x.isRef = true) : Runs K l Z n0 mi pc ls (x :: st) H (some x) H := r_ret hd hret (by cases x <;> first | (cases hx; done) | (cases t <;> rfl)) (Or.inr (Or.inr ⟨rfl, ht, hx⟩))
theorem r_return (hd : decode mi.2.1 pc = .ok (.return_, 1)) (hret : mi.2.2.2.1 = none) : Runs K l Z n0 mi pc ls [] H none H := by
  refine ⟨Nat.le_refl _, Nat.le_refl _, fun p e R s m args below meth c T locs cells slots X hx hZ hc hml hret' hown hnm hrel hfr hf hlo hsz hcl hsl => ⟨T, locs, cells, slots, X, hrel, hfr, hsz, Nat.le_refl _, fun fs hr => ?_⟩⟩
  exact X.returnOut hx (hret'.trans hret) (hb hc hd) hr
theorem r_tswIn {dflt low high o : Int} {offs : Array Int} {len : Nat} {i : Int32} (hd : decode mi.2.1 pc = .ok (.tableswitch dflt low high offs, len)) (hin : ¬ (i.toInt < low ∨ i.toInt > high)) (hoff : offs[(i.toInt - low).toNat]? = some o) (ho : 0 ≤ (pc : Int) + o) (hp : ((pc : Int) + o).toNat = tp)
    (kk : Runs K l Z n0 mi tp ls st H v H') : Runs K l Z n0 mi pc ls (.int i :: st) H v H' :=
  Runs.pure (fun _ _ _ _ _ _ _ _ _ _ _ _ _ X hx hZ hc hown t h => XS.tswIn X.here hx rfl rfl (hb hc hd) rfl hin hoff ho hp h) kk
theorem r_tswOut {dflt low high : Int} {offs : Array Int} {len : Nat} {i : Int32} (hd : decode mi.2.1 pc = .ok (.tableswitch dflt low high offs, len)) (hout : i.toInt < low ∨ i.toInt > high) (ho : 0 ≤ (pc : Int) + dflt) (hp : ((pc : Int) + dflt).toNat = tp)
    (kk : Runs K l Z n0 mi tp ls st H v H') : Runs K l Z n0 mi pc ls (.int i :: st) H v H' :=
  Runs.pure (fun _ _ _ _ _ _ _ _ _ _ _ _ _ X hx hZ hc hown t h => XS.tswOut X.here hx rfl rfl (hb hc hd) rfl hout ho hp h) kk
/-! ### the heap -/
theorem OOk.ext {h h' : Heap} {a : Addr} {o : Ob} (E : Ext h h') (q : OOk K Z n0 h a o) : OOk K Z n0 h' a o := by
  cases o with
  | inl o => obtain ⟨ci, h1, h2, h3⟩ := q; exact ⟨ci, h1, h2.ext E, fun i f v a b => (h3 i f v a b).ext E⟩
  | inr o => obtain ⟨cl, h1, h2⟩ := q; exact ⟨cl, h1.ext E, h2⟩
theorem OOk.other {h h' : Heap} {a b : Addr} {sl : Nat} {x : Value} {o : Ob} (W : Wr h h' b sl x) (ne : a ≠ b) (q : OOk K Z n0 h a o) : OOk K Z n0 h' a o := by
  cases o with
  | inl o => obtain ⟨ci, h1, h2, h3⟩ := q; exact ⟨ci, h1, h2.wr W, fun i f v a b => (h3 i f v a b).other W (Or.inl ne)⟩
  | inr o => obtain ⟨cl, h1, h2⟩ := q; exact ⟨cl, h1.other W ne, h2⟩
theorem Rel.push {h h' : Heap} {o : Ob} (r : Rel K Z n0 H h) (E : Ext h h') (hs : h'.size = h.size + 1) (ho : OOk K Z n0 h' h.size o) : Rel K Z n0 (H ++ [o]) h' := by
  refine ⟨by rw [hs, r.1, List.length_append]; rfl, fun k q hk => ?_⟩
  by_cases hl : k < H.length
  · rw [List.getElem?_append_left hl] at hk; exact (r.2 k q hk).ext E
  · rw [List.getElem?_append_right (Nat.le_of_not_lt hl)] at hk
    have e : k - H.length = 0 := by
      cases hq : k - H.length with
      | zero => rfl
      | succ j => rw [hq] at hk; simp at hk
    rw [e] at hk
    simp at hk
    subst hk
    have : k = H.length := by omega
    subst this
    rw [← r.1]; exact ho
theorem Rel.put {h h' : Heap} {o : Ob} {a sl : Nat} {x : Value} (r : Rel K Z n0 H h) (W : Wr h h' (n0 + a) sl x) (ha : a < H.length) (ho : OOk K Z n0 h' (n0 + a) o) : Rel K Z n0 (H.set a o) h' := by
  refine ⟨by rw [W.size, r.1, List.length_set], fun k q hk => ?_⟩
  by_cases e : a = k
  · subst e
    rw [List.getElem?_set_self ha] at hk
    cases hk; exact ho
  · rw [List.getElem?_set_ne e] at hk
    exact (r.2 k q hk).other W (fun z => e (Nat.add_left_cancel z).symm)
theorem map_set_same {α β : Type} (f : α → β) : ∀ (H : List α) (a : Nat) (o o' : α), H[a]? = some o' → f o = f o' → (H.set a o).map f = H.map f
  | [], _, _, _, h, _ => by simp at h
  | x :: r, 0, o, o', h, e => by simp at h; subst h; simp [e]
  | x :: r, a + 1, o, o', h, e => by simp at h; simp [map_set_same f r a o o' h e]
theorem szs_set {a : Nat} {o o' : Ob} (h : H[a]? = some o') (e : osz K o = osz K o') : szs K (H.set a o) = szs K H := by unfold szs; rw [map_set_same (osz K) H a o o' h e]
theorem szs_push {o : Ob} : szs K (H ++ [o]) = szs K H + osz K o := by simp [szs]
theorem lt_of_at {α : Type} {L : List α} {a : Nat} {o : α} (h : L[a]? = some o) : a < L.length := (List.getElem?_eq_some_iff.mp h).1
theorem nar_sh {t : FieldType} {x : Value} (h : narrow t x = x) : narrow t (shV n0 x) = shV n0 x := by cases x <;> first | exact h | (cases t <;> rfl)
theorem fits_sh {t : FieldType} {x : Value} (h : fits t x = true) : fits t (shV n0 x) = true := by cases x <;> first | exact h | (cases t <;> first | rfl | cases h)
theorem sh_dflt (ty : FieldType) : shV n0 (defaultValue ty) = defaultValue ty := by cases ty <;> rfl
theorem r_getF {a cid i idx : Nat} {vs : List Value} {ci : CI} {f : FI} {x : Value} {R0 : String} (hd : decode mi.2.1 pc = .ok (.getfield idx, 3) ∧ pc + 3 = np) (w : (Jvm.Cond.fieldLink mi.1.cls idx R0 f.2.1 f.2.2.1).before a0 Z = true) (via : Via Z R0 f.1 f.2.1 f.2.2.1) (hci : K[cid]? = some ci) (hf : ci.2.2[i]? = some f)
    (ho : H[a]? = some (.inl (cid, vs))) (hv : vs[i]? = some x) (kk : Runs K l Z n0 mi np ls (x :: st) H v H') : Runs K l Z n0 mi pc ls (.ref a :: st) H v H' := by
  obtain ⟨hd, rfl⟩ := hd
  refine Runs.heap (Nat.le_refl _) (Nat.le_refl _) (fun p e R s m args below meth c T locs cells slots X hx hZ hc hml hown hnm hrel hfr hf' hlo hsz hcl hsl => ?_) kk
  obtain ⟨ci', q1, E, F⟩ := hrel.2 a _ ho
  cases hci.symm.trans q1
  obtain ⟨T1, X1, e1, st1⟩ := getF X hx hZ hown (host := "") (Or.inl w) via rfl (F i f x hf hv) (g := mkF m pc (ls.map (shS n0)).toArray (.ref (n0 + a) :: st.map (shV n0))) rfl rfl (hb hc hd)
  exact ⟨T1, _, _, _, X1, by rw [e1]; exact hrel, hfr, hsz, Nat.le_refl _, st1⟩
theorem r_putF {a cid i idx : Nat} {vs vs' : List Value} {ci : CI} {f : FI} {x : Value} {R0 : String} (hK : KOk K Z a0) (hd : decode mi.2.1 pc = .ok (.putfield idx, 3) ∧ pc + 3 = np) (w : (Jvm.Cond.fieldLink mi.1.cls idx R0 f.2.1 f.2.2.1).before a0 Z = true) (via : Via Z R0 f.1 f.2.1 f.2.2.1) (hci : K[cid]? = some ci) (hf : ci.2.2[i]? = some f)
    (L : (Jvm.Cond.lays ci.1 f.1 f.2.1 f.2.2.1).before a0 Z = true ∨ ((Jvm.Cond.laysFinal ci.1 f.1 f.2.1 f.2.2.1).before a0 Z = true ∧ mi.1.cls = f.1 ∧ mi.1.name = "<init>"))
    (ho : H[a]? = some (.inl (cid, vs))) (hi : i < vs.length) (hn : narrow f.2.2.2 x = x) (hft : fits f.2.2.2 x = true) (hvs : vs.set i x = vs') (hH : H.set a (.inl (cid, vs')) = H1) (kk : Runs K l Z n0 mi np ls st H1 v H') : Runs K l Z n0 mi pc ls (x :: .ref a :: st) H v H' := by
  obtain ⟨hd, rfl⟩ := hd
  subst hvs hH
  have ha := lt_of_at ho
  have es : szs K (H.set a (.inl (cid, vs.set i x))) = szs K H := szs_set ho rfl
  refine Runs.heap (by rw [List.length_set]; exact Nat.le_refl _) (by rw [es]; exact Nat.le_refl _) (fun p e R s m args below meth c T locs cells slots X hx hZ hc hml hown hnm hrel hfr hf' hlo hsz hcl hsl => ?_) kk
  obtain ⟨ci', q1, E, F⟩ := hrel.2 a _ ho
  cases hci.symm.trans q1
  obtain ⟨kk1, kk2, kk3⟩ := hK cid ci hci
  have hfm : f ∈ ci.2.2 := List.mem_of_getElem? hf
  obtain ⟨T1, h1, X1, e1, W1, st1⟩ := putF X hx hZ hown (host := "") (Or.inl w) via rfl (F i f _ hf (List.getElem?_eq_getElem hi)) E (L.imp id fun q => ⟨q.1, q.2.1, hnm.trans q.2.2⟩) kk1 (kk2 f hfm).2 (nar_sh hn) (fits_sh hft)
    (g := mkF m pc (ls.map (shS n0)).toArray (shV n0 x :: .ref (n0 + a) :: st.map (shV n0))) rfl rfl (hb hc hd)
  refine ⟨T1, _, _, _, X1, ?_, Fr.snoc X1 hfr (Nat.le_add_right _ _), by rw [List.length_set]; exact hsz, by rw [es]; exact Nat.le_refl _, st1⟩
  rw [e1]
  refine hrel.put W1 ha ⟨ci, hci, E.wr W1, fun j g y hg hy => ?_⟩
  by_cases ji : i = j
  · subst ji
    cases hf.symm.trans hg
    rw [List.getElem?_set_self hi] at hy
    cases hy
    exact (F i f _ hf (List.getElem?_eq_getElem hi)).same W1
  · rw [List.getElem?_set_ne ji] at hy
    have hgm : g ∈ ci.2.2 := List.mem_of_getElem? hg
    refine (F j g y hg hy).other W1 (Or.inr (slot_ne (kk2 g hgm).1 (kk2 f hfm).1 ?_ (kk2 g hgm).2 (kk2 f hfm).2))
    obtain ⟨li, ei⟩ := List.getElem?_eq_some_iff.mp hf
    obtain ⟨lj, ej⟩ := List.getElem?_eq_some_iff.mp hg
    have pw := List.pairwise_iff_getElem.mp kk3
    rcases Nat.lt_or_gt_of_ne ji with q | q
    · have := pw i j li lj q; rw [ei, ej] at this; exact fun z => this z.symm
    · have := pw j i lj li q; rw [ei, ej] at this; exact this
theorem r_new {a cid idx : Nat} {ci : CI} {o : List Value} (hK : KOk K Z a0) (hd : decode mi.2.1 pc = .ok (.new idx, 3) ∧ pc + 3 = np) (w : (Jvm.Cond.classLink mi.1.cls idx ci.1).before a0 Z = true) (wz : (Jvm.Cond.initialized ci.1).before a0 Z = true) (hci : K[cid]? = some ci)
    (ho : ci.2.2.map (fun f => defaultValue f.2.2.2) = o) (ha : H.length = a) (hH : H ++ [.inl (cid, o)] = H1) (kk : Runs K l Z n0 mi np ls (.ref a :: st) H1 v H') : Runs K l Z n0 mi pc ls st H v H' := by
  obtain ⟨hd, rfl⟩ := hd
  subst ho ha hH
  obtain ⟨kk1, kk2, kk3⟩ := hK cid ci hci
  have es : osz K (.inl (cid, ci.2.2.map (fun f => defaultValue f.2.2.2))) = ci.2.1 := by show ((K[cid]?).map (fun ci => ci.2.1)).getD 0 = _; rw [hci]; rfl
  refine Runs.heap (by simp) (by rw [szs_push]; exact Nat.le_add_right _ _) (fun p e R s m args below meth c T locs cells slots X hx hZ hc hml hown hnm hrel hfr hf' hlo hsz hcl hsl => ?_) kk
  rw [szs_push, es] at hsl
  simp only [List.length_append, List.length_cons, List.length_nil] at hcl
  obtain ⟨T1, h1, X1, e1, E1, A1, D1, -, st1⟩ := newO X hx hZ hown w kk1 wz rfl (g := mkF m pc (ls.map (shS n0)).toArray (st.map (shV n0))) rfl (hb hc hd) (by omega) (by omega)
  have hs1 := X1.heapSize
  have hlt : T.heap.size < h1.size := A1.lt
  have hh := hrel.1
  rw [e1] at hs1
  refine ⟨T1, _, _, _, X1, ?_, hfr, by simp only [List.length_append, List.length_cons, List.length_nil]; omega, by rw [szs_push, es]; omega, fun t q => st1 t ?_⟩
  · rw [e1]
    refine hrel.push E1 (by omega) ⟨ci, hci, A1, fun i f x hf hx => ?_⟩
    have hfm : f ∈ ci.2.2 := List.mem_of_getElem? hf
    rw [List.getElem?_map, hf] at hx
    cases hx
    show Fld Z h1 T.heap.size f.1 f.2.1 f.2.2.1 (shV n0 (defaultValue f.2.2.2))
    rw [sh_dflt]
    exact D1 (kk2 f hfm).1 (kk2 f hfm).2
  · show Steps _ _ _ (T1.setTop (mkF m (pc + 3) _ (.ref T.heap.size :: _))) t
    rw [hh]; exact q
theorem toNat_of {n : Int32} (h : ¬ n < 0) : n.toNatClampNeg < 2 ^ 31 := (back32 h).2
theorem r_newA {a : Nat} {n : Int32} {aty : ArrayType} {o : List Value} (hd : decode mi.2.1 pc = .ok (.newarray aty, 2) ∧ pc + 2 = np) (w : (Jvm.Cond.arrayClass (newarray.typeOf aty)).before a0 Z = true) (hn : ¬ n < 0) (hb8 : n.toNatClampNeg * 8 ≤ 536870912)
    (ho : List.replicate n.toNatClampNeg (defaultValue (newarray.typeOf aty)) = o) (ha : H.length = a) (hH : H ++ [.inr (newarray.typeOf aty, o)] = H1) (kk : Runs K l Z n0 mi np ls (.ref a :: st) H1 v H') : Runs K l Z n0 mi pc ls (.int n :: st) H v H' := by
  obtain ⟨hd, rfl⟩ := hd
  subst ho ha hH
  have es : osz K (.inr (newarray.typeOf aty, List.replicate n.toNatClampNeg (defaultValue (newarray.typeOf aty)))) = n.toNatClampNeg := by show (List.replicate _ _).length = _; simp
  refine Runs.heap (by simp) (by rw [szs_push]; exact Nat.le_add_right _ _) (fun p e R s m args below meth c T locs cells slots X hx hZ hc hml hown hnm hrel hfr hf' hlo hsz hcl hsl => ?_) kk
  rw [szs_push, es] at hsl
  simp only [List.length_append, List.length_cons, List.length_nil] at hcl
  obtain ⟨T1, h1, cA, X1, e1, E1, A1, st1⟩ := newP X hx hZ w rfl (g := mkF m pc (ls.map (shS n0)).toArray (.int n :: st.map (shV n0))) rfl (hb hc hd) rfl hn (cap := n.toNatClampNeg) (Nat.le_refl _) hb8 (by omega) (by omega)
  have hs1 := X1.heapSize
  have hlt : T.heap.size < h1.size := A1.lt
  have hh := hrel.1
  rw [e1] at hs1
  refine ⟨T1, _, _, _, X1, ?_, hfr, by simp only [List.length_append, List.length_cons, List.length_nil]; omega, by rw [szs_push, es]; omega, fun t q => st1 t ?_⟩
  · rw [e1]
    refine hrel.push E1 (by omega) ⟨_, A1, by rw [sz_new]; simp, by simpa using toNat_of hn, fun i x hx => ?_⟩
    rw [List.getElem?_replicate] at hx
    split at hx
    · rename_i hi
      cases hx
      have q1 : (newA cA (newarray.typeOf aty) n).slots[i]? = some (defaultValue (newarray.typeOf aty)) := by simp [newA, hi]
      exact ⟨by rw [q1]; cases newarray.typeOf aty <;> rfl, by cases newarray.typeOf aty <;> rfl⟩
    · cases hx
  · show Steps _ _ _ (T1.setTop (mkF m (pc + 2) _ (.ref T.heap.size :: _))) t
    rw [hh]; exact q
theorem fits_byte (x : Int32) : fits .byte (.int x.toInt8.toInt32) = true := by
  have h1 : (x.toInt8.toInt32).toInt = x.toInt8.toInt := Int8.toInt_toInt32 _
  have h2 := x.toInt8.toInt_lt
  have h3 := x.toInt8.le_toInt
  have e1 : (-128 : Int32).toInt = -128 := by decide
  have e2 : (127 : Int32).toInt = 127 := by decide
  simp only [fits, Bool.and_eq_true, decide_eq_true_eq]
  rw [Int32.le_iff_toInt_le, Int32.le_iff_toInt_le, h1, e1, e2]
  omega
/-- the int j names the place i -/
def Ix (j : Int32) (i : Nat) : Prop := ¬ j < 0 ∧ j.toNatClampNeg = i
theorem r_len {a : Nat} {ty : FieldType} {vs : List Value} {n : Int32} (hd : decode mi.2.1 pc = .ok (.arraylength, 1) ∧ pc + 1 = np) (ho : H[a]? = some (.inr (ty, vs))) (hn : vs.length.toInt32 = n) (kk : Runs K l Z n0 mi np ls (.int n :: st) H v H') : Runs K l Z n0 mi pc ls (.ref a :: st) H v H' := by
  obtain ⟨hd, rfl⟩ := hd
  subst hn
  refine Runs.heap (Nat.le_refl _) (Nat.le_refl _) (fun p e R s m args below meth c T locs cells slots X hx hZ hc hml hown hnm hrel hfr hf' hlo hsz hcl hsl => ?_) kk
  obtain ⟨cl, A, hs, hl, hv⟩ := hrel.2 a _ ho
  refine ⟨T, _, _, _, X, hrel, hfr, hsz, Nat.le_refl _, fun t q => ?_⟩
  refine X.arraylength hx A.1 (State.isArrayOf_alike hZ.alike A.2.1) (g := mkF m pc (ls.map (shS n0)).toArray (.ref (n0 + a) :: st.map (shV n0))) rfl rfl (hb hc hd) _ ?_
  rw [hs]; exact q
theorem r_iaload {a i : Nat} {vs : List Value} {j : Int32} {x : Value} (hd : decode mi.2.1 pc = .ok (.iaload, 1) ∧ pc + 1 = np) (ho : H[a]? = some (.inr (.int, vs))) (hj : Ix j i) (hv : vs[i]? = some x) (kk : Runs K l Z n0 mi np ls (x :: st) H v H') : Runs K l Z n0 mi pc ls (.int j :: .ref a :: st) H v H' := by
  obtain ⟨hd, rfl⟩ := hd
  obtain ⟨hj0, rfl⟩ := hj
  refine Runs.heap (Nat.le_refl _) (Nat.le_refl _) (fun p e R s m args below meth c T locs cells slots X hx hZ hc hml hown hnm hrel hfr hf' hlo hsz hcl hsl => ?_) kk
  obtain ⟨cl, A, hs, hl, hvs⟩ := hrel.2 a _ ho
  have hi := lt_of_at hv
  refine ⟨T, _, _, _, X, hrel, hfr, hsz, Nat.le_refl _, fun t q => ?_⟩
  exact X.iaload hx (j := j) (v := shV n0 x) A.1 (State.isArrayOf_alike hZ.alike A.2.1) A.2.2 (fun z => z.elim hj0 (fun q => by rw [hs] at q; omega)) (hvs _ _ hv).1 (g := mkF m pc (ls.map (shS n0)).toArray (.int j :: .ref (n0 + a) :: st.map (shV n0))) rfl rfl (hb hc hd) _ q
theorem r_laload {a i : Nat} {vs : List Value} {j : Int32} {x : Value} (hd : decode mi.2.1 pc = .ok (.laload, 1) ∧ pc + 1 = np) (ho : H[a]? = some (.inr (.long, vs))) (hj : Ix j i) (hv : vs[i]? = some x) (kk : Runs K l Z n0 mi np ls (x :: st) H v H') : Runs K l Z n0 mi pc ls (.int j :: .ref a :: st) H v H' := by
  obtain ⟨hd, rfl⟩ := hd
  obtain ⟨hj0, rfl⟩ := hj
  refine Runs.heap (Nat.le_refl _) (Nat.le_refl _) (fun p e R s m args below meth c T locs cells slots X hx hZ hc hml hown hnm hrel hfr hf' hlo hsz hcl hsl => ?_) kk
  obtain ⟨cl, A, hs, hl, hvs⟩ := hrel.2 a _ ho
  have hi := lt_of_at hv
  refine ⟨T, _, _, _, X, hrel, hfr, hsz, Nat.le_refl _, fun t q => ?_⟩
  exact X.laload hx (j := j) (v := shV n0 x) A.1 (State.isArrayOf_alike hZ.alike A.2.1) A.2.2 (fun z => z.elim hj0 (fun q => by rw [hs] at q; omega)) (hvs _ _ hv).1 (g := mkF m pc (ls.map (shS n0)).toArray (.int j :: .ref (n0 + a) :: st.map (shV n0))) rfl rfl (hb hc hd) _ q
theorem r_baload {a i : Nat} {vs : List Value} {j : Int32} {x : Value} (hd : decode mi.2.1 pc = .ok (.baload, 1) ∧ pc + 1 = np) (ho : H[a]? = some (.inr (.byte, vs))) (hj : Ix j i) (hv : vs[i]? = some x) (kk : Runs K l Z n0 mi np ls (x :: st) H v H') : Runs K l Z n0 mi pc ls (.int j :: .ref a :: st) H v H' := by
  obtain ⟨hd, rfl⟩ := hd
  obtain ⟨hj0, rfl⟩ := hj
  refine Runs.heap (Nat.le_refl _) (Nat.le_refl _) (fun p e R s m args below meth c T locs cells slots X hx hZ hc hml hown hnm hrel hfr hf' hlo hsz hcl hsl => ?_) kk
  obtain ⟨cl, A, hs, hl, hvs⟩ := hrel.2 a _ ho
  have hi := lt_of_at hv
  refine ⟨T, _, _, _, X, hrel, hfr, hsz, Nat.le_refl _, fun t q => ?_⟩
  exact X.baloadBytes hx (j := j) (v := shV n0 x) A.1 (State.isArrayOf_alike hZ.alike A.2.1) A.2.2 (fun z => z.elim hj0 (fun q => by rw [hs] at q; omega)) (hvs _ _ hv).1 (g := mkF m pc (ls.map (shS n0)).toArray (.int j :: .ref (n0 + a) :: st.map (shV n0))) rfl rfl (hb hc hd) _ q
theorem r_caload {a i : Nat} {vs : List Value} {j : Int32} {x : Value} (hd : decode mi.2.1 pc = .ok (.caload, 1) ∧ pc + 1 = np) (ho : H[a]? = some (.inr (.char, vs))) (hj : Ix j i) (hv : vs[i]? = some x) (kk : Runs K l Z n0 mi np ls (x :: st) H v H') : Runs K l Z n0 mi pc ls (.int j :: .ref a :: st) H v H' := by
  obtain ⟨hd, rfl⟩ := hd
  obtain ⟨hj0, rfl⟩ := hj
  refine Runs.heap (Nat.le_refl _) (Nat.le_refl _) (fun p e R s m args below meth c T locs cells slots X hx hZ hc hml hown hnm hrel hfr hf' hlo hsz hcl hsl => ?_) kk
  obtain ⟨cl, A, hs, hl, hvs⟩ := hrel.2 a _ ho
  have hi := lt_of_at hv
  refine ⟨T, _, _, _, X, hrel, hfr, hsz, Nat.le_refl _, fun t q => ?_⟩
  exact X.caload hx (j := j) (v := shV n0 x) A.1 (State.isArrayOf_alike hZ.alike A.2.1) A.2.2 (fun z => z.elim hj0 (fun q => by rw [hs] at q; omega)) (hvs _ _ hv).1 (g := mkF m pc (ls.map (shS n0)).toArray (.int j :: .ref (n0 + a) :: st.map (shV n0))) rfl rfl (hb hc hd) _ q
theorem r_iastore {a i : Nat} {vs vs' : List Value} {j : Int32} {x : Int32} (hd : decode mi.2.1 pc = .ok (.iastore, 1) ∧ pc + 1 = np) (ho : H[a]? = some (.inr (.int, vs))) (hj : Ix j i) (hi : i < vs.length) (hvs : vs.set i (.int x) = vs') (hH : H.set a (.inr (.int, vs')) = H1) (kk : Runs K l Z n0 mi np ls st H1 v H') : Runs K l Z n0 mi pc ls (.int x :: .int j :: .ref a :: st) H v H' := by
  obtain ⟨hd, rfl⟩ := hd
  obtain ⟨hj0, rfl⟩ := hj
  subst hvs hH
  have ha := lt_of_at ho
  have es : szs K (H.set a (.inr (.int, vs.set j.toNatClampNeg (.int x)))) = szs K H := szs_set ho (by show (List.set _ _ _).length = _; simp [osz])
  refine Runs.heap (by rw [List.length_set]; exact Nat.le_refl _) (by rw [es]; exact Nat.le_refl _) (fun p e R s m args below meth c T locs cells slots X hx hZ hc hml hown hnm hrel hfr hf' hlo hsz hcl hsl => ?_) kk
  obtain ⟨cl, A, hs, hl, hvs⟩ := hrel.2 a _ ho
  have hin : ¬ (j < 0 ∨ cl.slots.size ≤ j.toNatClampNeg) := fun z => z.elim hj0 (fun q => by rw [hs] at q; omega)
  obtain ⟨T1, h1, X1, e1, W1, st1⟩ := stI X hx hZ rfl A hin (g := mkF m pc (ls.map (shS n0)).toArray (.int x :: .int j :: .ref (n0 + a) :: st.map (shV n0))) rfl rfl (hb hc hd)
  refine ⟨T1, _, _, _, X1, ?_, Fr.snoc X1 hfr (Nat.le_add_right _ _), by rw [List.length_set]; exact hsz, by rw [es]; exact Nat.le_refl _, st1⟩
  rw [e1]
  refine hrel.put W1 ha ⟨_, A.same W1, by rw [sz_set, hs, List.length_set], by rw [List.length_set]; exact hl, fun k y hy => ?_⟩
  by_cases e : j.toNatClampNeg = k
  · subst e
    rw [List.getElem?_set_self hi] at hy
    cases hy
    exact ⟨by simp [Cell.setSlot, hs, hi, shV, nar], rfl⟩
  · rw [List.getElem?_set_ne e] at hy
    refine ⟨?_, (hvs k y hy).2⟩
    exact (Array.getElem?_setIfInBounds_ne e).trans (hvs k y hy).1
theorem r_lastore {a i : Nat} {vs vs' : List Value} {j : Int32} {x : Int64} (hd : decode mi.2.1 pc = .ok (.lastore, 1) ∧ pc + 1 = np) (ho : H[a]? = some (.inr (.long, vs))) (hj : Ix j i) (hi : i < vs.length) (hvs : vs.set i (.long x) = vs') (hH : H.set a (.inr (.long, vs')) = H1) (kk : Runs K l Z n0 mi np ls st H1 v H') : Runs K l Z n0 mi pc ls (.long x :: .int j :: .ref a :: st) H v H' := by
  obtain ⟨hd, rfl⟩ := hd
  obtain ⟨hj0, rfl⟩ := hj
  subst hvs hH
  have ha := lt_of_at ho
  have es : szs K (H.set a (.inr (.long, vs.set j.toNatClampNeg (.long x)))) = szs K H := szs_set ho (by show (List.set _ _ _).length = _; simp [osz])
  refine Runs.heap (by rw [List.length_set]; exact Nat.le_refl _) (by rw [es]; exact Nat.le_refl _) (fun p e R s m args below meth c T locs cells slots X hx hZ hc hml hown hnm hrel hfr hf' hlo hsz hcl hsl => ?_) kk
  obtain ⟨cl, A, hs, hl, hvs⟩ := hrel.2 a _ ho
  have hin : ¬ (j < 0 ∨ cl.slots.size ≤ j.toNatClampNeg) := fun z => z.elim hj0 (fun q => by rw [hs] at q; omega)
  obtain ⟨T1, h1, X1, e1, W1, st1⟩ := stJ X hx hZ rfl A hin (g := mkF m pc (ls.map (shS n0)).toArray (.long x :: .int j :: .ref (n0 + a) :: st.map (shV n0))) rfl rfl (hb hc hd)
  refine ⟨T1, _, _, _, X1, ?_, Fr.snoc X1 hfr (Nat.le_add_right _ _), by rw [List.length_set]; exact hsz, by rw [es]; exact Nat.le_refl _, st1⟩
  rw [e1]
  refine hrel.put W1 ha ⟨_, A.same W1, by rw [sz_set, hs, List.length_set], by rw [List.length_set]; exact hl, fun k y hy => ?_⟩
  by_cases e : j.toNatClampNeg = k
  · subst e
    rw [List.getElem?_set_self hi] at hy
    cases hy
    exact ⟨by simp [Cell.setSlot, hs, hi, shV, nar], rfl⟩
  · rw [List.getElem?_set_ne e] at hy
    refine ⟨?_, (hvs k y hy).2⟩
    exact (Array.getElem?_setIfInBounds_ne e).trans (hvs k y hy).1
theorem r_bastore {a i : Nat} {vs vs' : List Value} {j : Int32} {x : Int32} (hd : decode mi.2.1 pc = .ok (.bastore, 1) ∧ pc + 1 = np) (ho : H[a]? = some (.inr (.byte, vs))) (hj : Ix j i) (hi : i < vs.length) (hvs : vs.set i (.int x.toInt8.toInt32) = vs') (hH : H.set a (.inr (.byte, vs')) = H1) (kk : Runs K l Z n0 mi np ls st H1 v H') : Runs K l Z n0 mi pc ls (.int x :: .int j :: .ref a :: st) H v H' := by
  obtain ⟨hd, rfl⟩ := hd
  obtain ⟨hj0, rfl⟩ := hj
  subst hvs hH
  have ha := lt_of_at ho
  have es : szs K (H.set a (.inr (.byte, vs.set j.toNatClampNeg (.int x.toInt8.toInt32)))) = szs K H := szs_set ho (by show (List.set _ _ _).length = _; simp [osz])
  refine Runs.heap (by rw [List.length_set]; exact Nat.le_refl _) (by rw [es]; exact Nat.le_refl _) (fun p e R s m args below meth c T locs cells slots X hx hZ hc hml hown hnm hrel hfr hf' hlo hsz hcl hsl => ?_) kk
  obtain ⟨cl, A, hs, hl, hvs⟩ := hrel.2 a _ ho
  have hin : ¬ (j < 0 ∨ cl.slots.size ≤ j.toNatClampNeg) := fun z => z.elim hj0 (fun q => by rw [hs] at q; omega)
  obtain ⟨T1, h1, X1, e1, W1, st1⟩ := stB X hx hZ rfl A hin (g := mkF m pc (ls.map (shS n0)).toArray (.int x :: .int j :: .ref (n0 + a) :: st.map (shV n0))) rfl rfl (hb hc hd)
  refine ⟨T1, _, _, _, X1, ?_, Fr.snoc X1 hfr (Nat.le_add_right _ _), by rw [List.length_set]; exact hsz, by rw [es]; exact Nat.le_refl _, st1⟩
  rw [e1]
  refine hrel.put W1 ha ⟨_, A.same W1, by rw [sz_set, hs, List.length_set], by rw [List.length_set]; exact hl, fun k y hy => ?_⟩
  by_cases e : j.toNatClampNeg = k
  · subst e
    rw [List.getElem?_set_self hi] at hy
    cases hy
    exact ⟨by simp [Cell.setSlot, hs, hi, shV, nar], fits_byte x⟩
  · rw [List.getElem?_set_ne e] at hy
    refine ⟨?_, (hvs k y hy).2⟩
    exact (Array.getElem?_setIfInBounds_ne e).trans (hvs k y hy).1
/-! ### calls -/
theorem map_toList (w : Option Value) (rest : List Value) : ((w.toList ++ rest).map (shV n0)) = (w.map (shV n0)).toList ++ rest.map (shV n0) := by cases w <;> simp
theorem r_initO {a idx : Nat} (hd : decode mi.2.1 pc = .ok (.invokespecial idx, 3) ∧ pc + 3 = np) (w1 : (Jvm.Cond.methodLink mi.1.cls idx Lib.objectInit).before a0 Z = true) (w2 : (Jvm.Cond.instanceMethod Lib.objectInit).before a0 Z = true) (w3 : (Jvm.Cond.code Lib.objectInit ⟨#[0xb1]⟩ 1 none).before a0 Z = true)
    (hls : ls.length = mi.2.2.1) (hf : 1 ≤ mi.2.2.2.2.1) (hlo : (st.map fun v => v.category).sum + 12 ≤ mi.2.2.2.2.2) (kk : Runs K l Z n0 mi np ls st H v H') : Runs K l Z n0 mi pc ls (.ref a :: st) H v H' := by
  obtain ⟨hd, rfl⟩ := hd
  refine Runs.heap (Nat.le_refl _) (Nat.le_refl _) (fun p e R s m args below meth c T locs cells slots X hx hZ hc hml hown hnm hrel hfr hf' hlo' hsz hcl hsl => ?_) kk
  obtain ⟨T1, X1, e1, st1⟩ := initO X hx hZ hown w1 w2 w3 rfl (g := mkF m pc (ls.map (shS n0)).toArray (.ref (n0 + a) :: st.map (shV n0))) rfl (by rw [hml, ← hls]; simp) rfl (hb hc hd) (by omega) (W := (st.map fun v => v.category).sum) (by rw [cats_sh]; show 2 * 0 + _ ≤ _; omega) (by omega)
  exact ⟨T1, _, _, _, X1, by rw [e1]; exact hrel, hfr, hsz, Nat.le_refl _, st1⟩
theorem backM {mj : MI} {as : List Value} {w : Option Value} {h : Heap} {p : Program} {e : Env} {R : Room} {s : State} {args : Array Value} {below : List Frame} {len W : Nat} (M : Meets K l Z n0 mj as H w H1) (hrel : Rel K Z n0 H h) (hZ : Z.Warmed39 s.vm) (w4 : (Jvm.Cond.code mj.1 mj.2.1 mj.2.2.1 mj.2.2.2.1).before a0 Z = true) (w3 : (Jvm.Cond.initialized mj.1.cls).before a0 Z = true)
    (hf : mj.2.2.2.2.1 + 1 ≤ R.frames) (hl : W + (mj.2.2.1 + 11) + mj.2.2.2.2.2 ≤ R.locals) :
    Back l R p e below s args mj.1 len W (fun A a => a = (as.map (shV n0)).toArray ∧ A.U.heap = h ∧ A.cells + (H1.length - H.length) ≤ R.cells ∧ A.slots + (szs K H1 - szs K H) ≤ R.slots)
      (fun A _ v B => ∃ L, (v = w.map (shV n0) ∧ Rel K Z n0 H1 B.U.heap ∧ Fr n0 L) ∧ B.locs = A.locs ++ L ∧ B.cells = A.cells + (H1.length - H.length) ∧ B.slots = A.slots + (szs K H1 - szs K H)) :=
  backOf (rm := rmOf K mj H H1) (Q := fun v h L => v = w.map (shV n0) ∧ Rel K Z n0 H1 h ∧ Fr n0 L) (M.2.2 h hrel) hZ w4 w3 hf hl
theorem r_static {mj : MI} {as : List Value} {w : Option Value} {idx : Nat} (hd : decode mi.2.1 pc = .ok (.invokestatic idx, 3) ∧ pc + 3 = np) (w1 : (Jvm.Cond.methodLink mi.1.cls idx mj.1).before a0 Z = true) (w2 : (Jvm.Cond.static mj.1).before a0 Z = true) (w3 : (Jvm.Cond.initialized mj.1.cls).before a0 Z = true) (w4 : (Jvm.Cond.code mj.1 mj.2.1 mj.2.2.1 mj.2.2.2.1).before a0 Z = true)
    (hy : mj.1.cls ≠ "java/lang/invoke/MethodHandle" ∧ mj.1.cls ≠ "java/lang/invoke/VarHandle") (hlen : ∀ sig, parseMethodDescriptor mj.1.desc = some sig → as.length = sig.parameters.length) (hfr : mj.2.2.2.2.1 + 1 ≤ mi.2.2.2.2.1)
    (hst : as.reverse ++ rest = st) (hls : ls.length = mi.2.2.1) (hlo : (rest.map fun v => v.category).sum + (mj.2.2.1 + 11) + mj.2.2.2.2.2 ≤ mi.2.2.2.2.2)
    (M : Meets K l Z n0 mj as H w H1) (kk : Runs K l Z n0 mi np ls (w.toList ++ rest) H1 v H') : Runs K l Z n0 mi pc ls st H v H' := by
  obtain ⟨hd, rfl⟩ := hd
  subst hst
  have m1 := M.1
  have m2 := M.2.1
  refine Runs.heap m1 m2 (fun p e R s m args below meth c T locs cells slots X hx hZ hc hml hown hnm hrel hfr' hf' hlo' hsz hcl hsl => ?_) kk
  obtain ⟨_, _, ⟨T1, L1, k1, n1⟩, -, X1, ⟨Lc, hQ, l1, y1, z1⟩, st1⟩ := Jvm.LawKit.callS X hx (y := mj.1) hown (mvT hZ w1) (mvT hZ w2) (mvT hZ w3) (mvT hZ w4) hy
    (backM (W := (rest.map fun v => v.category).sum) M hrel hZ w4 w3 (by omega) (by omega))
    (g := mkF m pc (ls.map (shS n0)).toArray ((as.reverse ++ rest).map (shV n0))) rfl (by rw [hml, ← hls]; simp) (argsL := as.map (shV n0)) (rest := rest.map (shV n0)) (fun sig q => by rw [List.length_map]; exact hlen sig q) (by simp) (by rw [cats_sh]; show 2 * 0 + _ ≤ _; omega) (hb hc hd)
    (fun _ _ => ⟨rfl, rfl, (by show cells + (H1.length - H.length) ≤ _; omega), (by show slots + (szs K H1 - szs K H) ≤ _; omega)⟩)
  dsimp only [Pt.U, Pt.locs, Pt.cells, Pt.slots] at X1 l1 y1 z1 st1 hQ
  subst l1 y1 z1
  obtain ⟨rfl, R1, F1⟩ := hQ
  refine ⟨T1, _, _, _, X1, R1, Fr.app hfr' F1, by show s.heap.size + (cells + (H1.length - H.length)) = _; omega, by show slots + (szs K H1 - szs K H) + _ ≤ _; omega, fun t q => st1 t ?_⟩
  rw [map_toList] at q; exact q
theorem r_special {mj : MI} {as : List Value} {a idx : Nat} (hd : decode mi.2.1 pc = .ok (.invokespecial idx, 3) ∧ pc + 3 = np) (hy1 : mj.1.name = "<init>") (hr : mj.2.2.2.1 = none) (w1 : (Jvm.Cond.methodLink mi.1.cls idx mj.1).before a0 Z = true) (w2 : (Jvm.Cond.instanceMethod mj.1).before a0 Z = true) (w3 : (Jvm.Cond.initialized mj.1.cls).before a0 Z = true) (w4 : (Jvm.Cond.code mj.1 mj.2.1 mj.2.2.1 mj.2.2.2.1).before a0 Z = true)
    (hy : mj.1.cls ≠ "java/lang/invoke/MethodHandle" ∧ mj.1.cls ≠ "java/lang/invoke/VarHandle") (hlen : ∀ sig, parseMethodDescriptor mj.1.desc = some sig → as.length = sig.parameters.length) (hfr : mj.2.2.2.2.1 + 1 ≤ mi.2.2.2.2.1)
    (hst : as.reverse ++ .ref a :: rest = st) (hls : ls.length = mi.2.2.1) (hlo : (rest.map fun v => v.category).sum + (mj.2.2.1 + 11) + mj.2.2.2.2.2 ≤ mi.2.2.2.2.2)
    (M : Meets K l Z n0 mj (.ref a :: as) H none H1) (kk : Runs K l Z n0 mi np ls rest H1 v H') : Runs K l Z n0 mi pc ls st H v H' := by
  obtain ⟨hd, rfl⟩ := hd
  subst hst
  have m1 := M.1
  have m2 := M.2.1
  refine Runs.heap m1 m2 (fun p e R s m args below meth c T locs cells slots X hx hZ hc hml hown hnm hrel hfr' hf' hlo' hsz hcl hsl => ?_) kk
  have w4' := w4
  rw [hr] at w4'
  obtain ⟨_, _, ⟨T1, L1, k1, n1⟩, -, X1, ⟨Lc, hQ, l1, y1, z1⟩, st1⟩ := X.specialBack hx (y := mj.1) hy1 hown (mvT hZ w1) (mvT hZ w2) (mvT hZ w4') hy
    (backM (W := (rest.map fun v => v.category).sum) M hrel hZ w4 w3 (by omega) (by omega))
    (g := mkF m pc (ls.map (shS n0)).toArray ((as.reverse ++ .ref a :: rest).map (shV n0))) rfl (by rw [hml, ← hls]; simp) (Steps.refl _) (a := n0 + a) (argsL := as.map (shV n0)) (rest := rest.map (shV n0)) (fun sig q => by rw [List.length_map]; exact hlen sig q) (by simp [shV]) (by rw [cats_sh]; show 2 * 0 + _ ≤ _; omega) (hb hc hd)
    (fun _ _ => ⟨rfl, rfl, (by show cells + (H1.length - H.length) ≤ _; omega), (by show slots + (szs K H1 - szs K H) ≤ _; omega)⟩)
  dsimp only [Pt.U, Pt.locs, Pt.cells, Pt.slots] at X1 l1 y1 z1 st1 hQ
  subst l1 y1 z1
  obtain ⟨rfl, R1, F1⟩ := hQ
  exact ⟨T1, _, _, _, X1, R1, Fr.app hfr' F1, by show s.heap.size + (cells + (H1.length - H.length)) = _; omega, by show slots + (szs K H1 - szs K H) + _ ≤ _; omega, fun t q => st1.trans q⟩
theorem r_virtual {mj : MI} {as : List Value} {w : Option Value} {a cid idx : Nat} {ci : CI} {vs : List Value} (hd : decode mi.2.1 pc = .ok (.invokevirtual idx, 3) ∧ pc + 3 = np) (w1 : (Jvm.Cond.methodLink mi.1.cls idx mj.1).before a0 Z = true) (w2 : (Jvm.Cond.declares mj.1).before a0 Z = true) (w5 : (Jvm.Cond.selects ci.1 mj.1 mj.1).before a0 Z = true) (w6 : (Jvm.Cond.instanceMethod mj.1).before a0 Z = true) (w3 : (Jvm.Cond.initialized mj.1.cls).before a0 Z = true) (w4 : (Jvm.Cond.code mj.1 mj.2.1 mj.2.2.1 mj.2.2.2.1).before a0 Z = true)
    (hy : mj.1.cls ≠ "java/lang/invoke/MethodHandle" ∧ mj.1.cls ≠ "java/lang/invoke/VarHandle") (hlen : ∀ sig, parseMethodDescriptor mj.1.desc = some sig → as.length = sig.parameters.length) (hfr : mj.2.2.2.2.1 + 1 ≤ mi.2.2.2.2.1) (hci : K[cid]? = some ci)
    (hst : as.reverse ++ .ref a :: rest = st) (ho : H[a]? = some (.inl (cid, vs))) (hls : ls.length = mi.2.2.1) (hlo : (rest.map fun v => v.category).sum + (mj.2.2.1 + 11) + mj.2.2.2.2.2 ≤ mi.2.2.2.2.2)
    (M : Meets K l Z n0 mj (.ref a :: as) H w H1) (kk : Runs K l Z n0 mi np ls (w.toList ++ rest) H1 v H') : Runs K l Z n0 mi pc ls st H v H' := by
  obtain ⟨hd, rfl⟩ := hd
  subst hst
  have m1 := M.1
  have m2 := M.2.1
  refine Runs.heap m1 m2 (fun p e R s m args below meth c T locs cells slots X hx hZ hc hml hown hnm hrel hfr' hf' hlo' hsz hcl hsl => ?_) kk
  obtain ⟨ci', q1, E, F⟩ := hrel.2 a _ ho
  cases hci.symm.trans q1
  obtain ⟨cq, kq, qa, qb, qc⟩ := isOf hZ rfl E
  obtain ⟨_, _, ⟨T1, L1, k1, n1⟩, -, X1, ⟨Lc, hQ, l1, y1, z1⟩, st1⟩ := X.virtualBack hx (y := mj.1) (z := mj.1) hown (mvT hZ w1) (mvT hZ w2) (notFace_of_selects (args := #[]) (mvT hZ w5)) (mvT hZ w5) (mvT hZ w6) hy
    (backM (W := (rest.map fun v => v.category).sum) M hrel hZ w4 w3 (by omega) (by omega)) qa qc
    (g := mkF m pc (ls.map (shS n0)).toArray ((as.reverse ++ .ref a :: rest).map (shV n0))) rfl (by rw [hml, ← hls]; simp) (Steps.refl _) (argsL := as.map (shV n0)) (rest := rest.map (shV n0)) (fun sig q => by rw [List.length_map]; exact hlen sig q) (by simp [shV]) (by rw [cats_sh]; show 2 * 0 + _ ≤ _; omega) (hb hc hd)
    (fun _ _ => ⟨rfl, rfl, (by show cells + (H1.length - H.length) ≤ _; omega), (by show slots + (szs K H1 - szs K H) ≤ _; omega)⟩)
  dsimp only [Pt.U, Pt.locs, Pt.cells, Pt.slots] at X1 l1 y1 z1 st1 hQ
  subst l1 y1 z1
  obtain ⟨rfl, R1, F1⟩ := hQ
  refine ⟨T1, _, _, _, X1, R1, Fr.app hfr' F1, by show s.heap.size + (cells + (H1.length - H.length)) = _; omega, by show slots + (szs K H1 - szs K H) + _ ≤ _; omega, fun t q => st1.trans ?_⟩
  rw [map_toList] at q; exact q
theorem r_private {mj : MI} {as : List Value} {w : Option Value} {a cid idx : Nat} {ci : CI} {vs : List Value} (hd : decode mi.2.1 pc = .ok (.invokevirtual idx, 3) ∧ pc + 3 = np) (w1 : (Jvm.Cond.methodLink mi.1.cls idx mj.1).before a0 Z = true) (w5 : (Jvm.Cond.selects mj.1.cls mj.1 mj.1).before a0 Z = true) (w7 : (Jvm.Cond.privateMethod mj.1).before a0 Z = true) (w6 : (Jvm.Cond.instanceMethod mj.1).before a0 Z = true) (w3 : (Jvm.Cond.initialized mj.1.cls).before a0 Z = true) (w4 : (Jvm.Cond.code mj.1 mj.2.1 mj.2.2.1 mj.2.2.2.1).before a0 Z = true)
    (hy : mj.1.cls ≠ "java/lang/invoke/MethodHandle" ∧ mj.1.cls ≠ "java/lang/invoke/VarHandle") (hlen : ∀ sig, parseMethodDescriptor mj.1.desc = some sig → as.length = sig.parameters.length) (hfr : mj.2.2.2.2.1 + 1 ≤ mi.2.2.2.2.1) (hci : K[cid]? = some ci)
    (hst : as.reverse ++ .ref a :: rest = st) (ho : H[a]? = some (.inl (cid, vs))) (hls : ls.length = mi.2.2.1) (hlo : (rest.map fun v => v.category).sum + (mj.2.2.1 + 11) + mj.2.2.2.2.2 ≤ mi.2.2.2.2.2)
    (M : Meets K l Z n0 mj (.ref a :: as) H w H1) (kk : Runs K l Z n0 mi np ls (w.toList ++ rest) H1 v H') : Runs K l Z n0 mi pc ls st H v H' := by
  obtain ⟨hd, rfl⟩ := hd
  subst hst
  have m1 := M.1
  have m2 := M.2.1
  refine Runs.heap m1 m2 (fun p e R s m args below meth c T locs cells slots X hx hZ hc hml hown hnm hrel hfr' hf' hlo' hsz hcl hsl => ?_) kk
  obtain ⟨ci', q1, E, F⟩ := hrel.2 a _ ho
  cases hci.symm.trans q1
  obtain ⟨cq, qa, qc⟩ := E.cell
  obtain ⟨_, _, ⟨T1, L1, k1, n1⟩, -, X1, ⟨Lc, hQ, l1, y1, z1⟩, st1⟩ := X.privateBack hx (y := mj.1) hown (mvT hZ w1) (mvT hZ w6) (mvT hZ w5) (Cond.privateMethod_at (mvP hZ w7 (args := #[]))) (mvT hZ w4) hy
    (backM (W := (rest.map fun v => v.category).sum) M hrel hZ w4 w3 (by omega) (by omega))
    (g := mkF m pc (ls.map (shS n0)).toArray ((as.reverse ++ .ref a :: rest).map (shV n0))) rfl (by rw [hml, ← hls]; simp) (Steps.refl _) (a := n0 + a) qa qc (argsL := as.map (shV n0)) (rest := rest.map (shV n0)) (fun sig q => by rw [List.length_map]; exact hlen sig q) (by simp [shV]) (by rw [cats_sh]; show 2 * 0 + _ ≤ _; omega) (hb hc hd)
    (fun _ _ => ⟨rfl, rfl, (by show cells + (H1.length - H.length) ≤ _; omega), (by show slots + (szs K H1 - szs K H) ≤ _; omega)⟩)
  dsimp only [Pt.U, Pt.locs, Pt.cells, Pt.slots] at X1 l1 y1 z1 st1 hQ
  subst l1 y1 z1
  obtain ⟨rfl, R1, F1⟩ := hQ
  refine ⟨T1, _, _, _, X1, R1, Fr.app hfr' F1, by show s.heap.size + (cells + (H1.length - H.length)) = _; omega, by show slots + (szs K H1 - szs K H) + _ ≤ _; omega, fun t q => st1.trans ?_⟩
  rw [map_toList] at q; exact q
end Logic
/-! ### arrays by a function of the place; small naturals as ints -/
def arrF (m : Nat) (f : Nat → Int32) : List Value := (List.range m).map (fun j => Value.int (f j))
def arrJ (m : Nat) (f : Nat → Int64) : List Value := (List.range m).map (fun j => Value.long (f j))
theorem arrF_len {m : Nat} {f : Nat → Int32} : (arrF m f).length = m := by simp [arrF]
theorem arrJ_len {m : Nat} {f : Nat → Int64} : (arrJ m f).length = m := by simp [arrJ]
theorem arrF_at {m i : Nat} {f : Nat → Int32} (h : i < m) : (arrF m f)[i]? = some (.int (f i)) := by simp [arrF, h]
theorem arrJ_at {m i : Nat} {f : Nat → Int64} (h : i < m) : (arrJ m f)[i]? = some (.long (f i)) := by simp [arrJ, h]
theorem arrF_set {m i : Nat} {f : Nat → Int32} {x : Int32} : (arrF m f).set i (.int x) = arrF m (fun j => if j = i then x else f j) := by
  apply List.ext_getElem?
  intro j
  by_cases hj : j < m
  · rw [arrF_at hj]
    by_cases e : i = j
    · subst e; rw [List.getElem?_set_self (by rw [arrF_len]; exact hj), if_pos rfl]
    · rw [List.getElem?_set_ne e, arrF_at hj, if_neg (fun q => e q.symm)]
  · rw [List.getElem?_eq_none (by rw [List.length_set, arrF_len]; omega), List.getElem?_eq_none (by rw [arrF_len]; omega)]
theorem arrJ_set {m i : Nat} {f : Nat → Int64} {x : Int64} : (arrJ m f).set i (.long x) = arrJ m (fun j => if j = i then x else f j) := by
  apply List.ext_getElem?
  intro j
  by_cases hj : j < m
  · rw [arrJ_at hj]
    by_cases e : i = j
    · subst e; rw [List.getElem?_set_self (by rw [arrJ_len]; exact hj), if_pos rfl]
    · rw [List.getElem?_set_ne e, arrJ_at hj, if_neg (fun q => e q.symm)]
  · rw [List.getElem?_eq_none (by rw [List.length_set, arrJ_len]; omega), List.getElem?_eq_none (by rw [arrJ_len]; omega)]
theorem arrF_congr {m : Nat} {f g : Nat → Int32} (h : ∀ j, j < m → f j = g j) : arrF m f = arrF m g := List.map_congr_left fun j hj => by rw [h j (List.mem_range.mp hj)]
theorem arrJ_congr {m : Nat} {f g : Nat → Int64} (h : ∀ j, j < m → f j = g j) : arrJ m f = arrJ m g := List.map_congr_left fun j hj => by rw [h j (List.mem_range.mp hj)]
theorem arrF_zero {m : Nat} : List.replicate m (Value.int 0) = arrF m (fun _ => 0) := by
  apply List.ext_getElem?
  intro j
  by_cases hj : j < m
  · rw [arrF_at hj, List.getElem?_replicate, if_pos hj]
  · rw [List.getElem?_eq_none (by simp; omega), List.getElem?_eq_none (by rw [arrF_len]; omega)]
theorem arrJ_zero {m : Nat} : List.replicate m (Value.long 0) = arrJ m (fun _ => 0) := by
  apply List.ext_getElem?
  intro j
  by_cases hj : j < m
  · rw [arrJ_at hj, List.getElem?_replicate, if_pos hj]
  · rw [List.getElem?_eq_none (by simp; omega), List.getElem?_eq_none (by rw [arrJ_len]; omega)]
theorem ti_int {n : Nat} (h : n < 2 ^ 31) : n.toInt32.toInt = n := len_toInt h
theorem ti_ix {n : Nat} (h : n < 2 ^ 31) : Ix n.toInt32 n := by
  have q := ti_int h
  have e0 : (0 : Int32).toInt = 0 := by decide
  refine ⟨?_, ?_⟩
  · rw [Int32.lt_iff_toInt_lt]; omega
  · simp only [Int32.toNatClampNeg]; omega
theorem ti_lt {a b : Nat} (ha : a < 2 ^ 31) (hb : b < 2 ^ 31) : a.toInt32 < b.toInt32 ↔ a < b := by
  rw [Int32.lt_iff_toInt_lt, ti_int ha, ti_int hb]; omega
theorem ti_eq {a b : Nat} (ha : a < 2 ^ 31) (hb : b < 2 ^ 31) : a.toInt32 = b.toInt32 ↔ a = b := by
  rw [← Int32.toInt_inj, ti_int ha, ti_int hb]; omega
theorem ti_add {a b : Nat} (h : a + b < 2 ^ 31) : a.toInt32 + b.toInt32 = (a + b).toInt32 := by
  apply Int32.toInt_inj.mp
  have q := c_iadd a.toInt32 b.toInt32
  have l1 := Int32.le_toInt (a.toInt32 + b.toInt32)
  have l2 := Int32.toInt_lt (a.toInt32 + b.toInt32)
  have e1 := ti_int (show a < 2 ^ 31 by omega)
  have e2 := ti_int (show b < 2 ^ 31 by omega)
  have e3 := ti_int h
  omega
theorem ti_succ {a : Nat} (h : a + 1 < 2 ^ 31) : a.toInt32 + 1 = (a + 1).toInt32 := ti_add (b := 1) h
theorem ti_of {x : Int32} (h : 0 ≤ x.toInt) : x = x.toNatClampNeg.toInt32 := by
  have b := Int32.toInt_lt x
  apply Int32.toInt_inj.mp
  rw [ti_int (by simp only [Int32.toNatClampNeg]; omega)]
  simp only [Int32.toNatClampNeg]; omega
theorem ix_of {x : Int32} (h : 0 ≤ x.toInt) : Ix x x.toNatClampNeg := by
  refine ⟨?_, rfl⟩
  have e0 : (0 : Int32).toInt = 0 := by decide
  rw [Int32.lt_iff_toInt_lt]; omega
section Logic2
variable {K : List CI} {l : Launch} {Z : State} {a0 : Array Value} {n0 : Nat} {mi : MI} {pc np tp : Nat} {ls ls' : List Slot} {st rest : List Value} {H H' H1 : List Ob} {v : Option Value}
theorem OOk.keep {h h' : Heap} {a : Addr} {o : Ob} {ws : List Addr} (E : Keep h h' ws) (ne : a ∉ ws) (q : OOk K Z n0 h a o) : OOk K Z n0 h' a o := by
  cases o with
  | inl o => obtain ⟨ci, h1, h2, h3⟩ := q; exact ⟨ci, h1, h2.keep E, fun i f v a b => (h3 i f v a b).keep E ne⟩
  | inr o => obtain ⟨cl, h1, h2⟩ := q; exact ⟨cl, ⟨E.2.1 a cl h1.1 ne, h1.2⟩, h2⟩
theorem getD_sh {vs : List Value} {i : Nat} {x : Value} (h : vs[i]? = some x) (d : Value) : (vs.map (shV n0)).getD i d = shV n0 x := by
  rw [List.getD_eq_getElem?_getD, List.getElem?_map, h]; rfl
theorem OOk.arv {h : Heap} {a : Addr} {ty : FieldType} {vs : List Value} (q : OOk K Z n0 h a (.inr (ty, vs))) : ∃ k, Arv Z h a k ty vs.length.toInt32 (vs.map (shV n0)) (.int 0) := by
  obtain ⟨cl, A, hs, hl, hv⟩ := q
  have j := ti_ix hl
  refine ⟨cl.cls, cl, A, rfl, by rw [j.2]; exact hs, j.1, fun i hi => ?_, fun i hi => ?_⟩
  · rw [hs] at hi
    have e := List.getElem?_eq_getElem hi
    rw [getD_sh e]; exact (hv i _ e).1
  · rw [hs] at hi
    have e := List.getElem?_eq_getElem hi
    rw [getD_sh e]; exact fits_sh (hv i _ e).2
theorem us_eq {vs : List Value} {sp n : Nat} (h : sp + n ≤ vs.length) (d : Value) : ((vs.drop sp).take n).map (shV n0) = (List.range n).map fun i => (vs.map (shV n0)).getD (sp + i) d := by
  apply List.ext_getElem?
  intro i
  by_cases hi : i < n
  · rw [List.getElem?_map, List.getElem?_map, List.getElem?_take_of_lt hi, List.getElem?_drop, List.getElem?_range hi]
    have e := List.getElem?_eq_getElem (show sp + i < vs.length by omega)
    rw [e]
    show some _ = some ((vs.map (shV n0)).getD (sp + i) d)
    rw [getD_sh e]
  · rw [List.getElem?_eq_none (by simp; omega), List.getElem?_eq_none (by simp; omega)]
theorem r_acopy {a b idx : Nat} {ty : FieldType} {vs wd wd' : List Value} {sp dp nn : Int32} {spN dpN nN : Nat} (hd : decode mi.2.1 pc = .ok (.invokestatic idx, 3) ∧ pc + 3 = np) (w1 : (Jvm.Cond.methodLink mi.1.cls idx Jvm.Stand.acN).before a0 Z = true) (w2 : (Jvm.Cond.native Jvm.Stand.acN).before a0 Z = true) (w3 : (Jvm.Cond.static Jvm.Stand.acN).before a0 Z = true) (w4 : (Jvm.Cond.initialized "java/lang/System").before a0 Z = true)
    (hty : refKind ty = false) (ho : H[a]? = some (.inr (ty, vs))) (ho' : H[b]? = some (.inr (ty, wd))) (h1 : Ix sp spN) (h2 : Ix dp dpN) (h3 : Ix nn nN) (h4 : spN + nN ≤ vs.length) (h5 : dpN + nN ≤ wd.length) (hwd : wd.take dpN ++ (vs.drop spN).take nN ++ wd.drop (dpN + nN) = wd') (hH : H.set b (.inr (ty, wd')) = H1)
    (hls : ls.length = mi.2.2.1) (hf : 1 ≤ mi.2.2.2.2.1) (hlo : (st.map fun v => v.category).sum + 18 ≤ mi.2.2.2.2.2) (kk : Runs K l Z n0 mi np ls st H1 v H') : Runs K l Z n0 mi pc ls (.int nn :: .int dp :: .ref b :: .int sp :: .ref a :: st) H v H' := by
  obtain ⟨hd, rfl⟩ := hd
  obtain ⟨h1, rfl⟩ := h1
  obtain ⟨h2, rfl⟩ := h2
  obtain ⟨h3, rfl⟩ := h3
  subst hH
  have hb2 := lt_of_at ho'
  have hlen : wd'.length = wd.length := by rw [← hwd]; simp only [List.length_append, List.length_take, List.length_drop]; omega
  have es : szs K (H.set b (.inr (ty, wd'))) = szs K H := szs_set ho' hlen
  refine Runs.heap (by rw [List.length_set]; exact Nat.le_refl _) (by rw [es]; exact Nat.le_refl _) (fun p e R s m args below meth c T locs cells slots X hx hZ hc hml hown hnm hrel hfr hf' hlo' hsz hcl hsl => ?_) kk
  have qa := hrel.2 a _ ho
  have qb := hrel.2 b _ ho'
  obtain ⟨k1, A⟩ := qa.arv
  obtain ⟨k2, B⟩ := qb.arv
  obtain ⟨-, -, -, va, -⟩ := qa
  obtain ⟨-, -, -, vb, -⟩ := qb
  obtain ⟨T1, h', L1, X1, e1, F1, K1, B1, st1⟩ := cpA X hx hZ hown w1 w2 w3 w4 rfl A B (Or.inl ⟨rfl, hty⟩) h1 h2 h3 (by rw [(ti_ix va).2]; exact h4) (by rw [(ti_ix vb).2]; exact h5) (us := (((vs.drop sp.toNatClampNeg).take nn.toNatClampNeg).map (shV n0))) (us_eq h4 _) (by rw [List.length_map]; exact h5) hfr (Nat.le_add_right _ _)
    (g := mkF m pc (ls.map (shS n0)).toArray (.int nn :: .int dp :: .ref (n0 + b) :: .int sp :: .ref (n0 + a) :: st.map (shV n0))) rfl (by rw [hml, ← hls]; simp) rfl (hb hc hd) (by omega) (W := (st.map fun v => v.category).sum) (by rw [cats_sh]; show 2 * 0 + _ ≤ _; omega) (by show _ + (7 + 11) ≤ _; omega)
  have hs1 := X1.heapSize
  rw [e1] at hs1
  have hk := K1.1
  have hh := hrel.1
  refine ⟨T1, _, _, _, X1, ?_, F1, by rw [List.length_set]; exact hsz, by rw [es]; exact Nat.le_refl _, st1⟩
  rw [e1]
  refine ⟨by rw [List.length_set]; omega, fun k o hk2 => ?_⟩
  by_cases e : b = k
  · subst e
    rw [List.getElem?_set_self hb2] at hk2
    cases hk2
    obtain ⟨c', A', -, S', -, V', G'⟩ := B1
    rw [(ti_ix vb).2] at S'
    have ew : ((wd.map (shV n0)).take dp.toNatClampNeg ++ ((vs.drop sp.toNatClampNeg).take nn.toNatClampNeg).map (shV n0) ++ (wd.map (shV n0)).drop (dp.toNatClampNeg + nn.toNatClampNeg)) = wd'.map (shV n0) := by
      rw [← hwd]; simp only [List.map_append, List.map_take, List.map_drop]
    rw [ew] at V' G'
    refine ⟨c', A', by rw [S', hlen], by rw [hlen]; exact vb, fun i x hx2 => ?_⟩
    have hi := lt_of_at hx2
    have q1 := V' i (by rw [S', ← hlen]; exact hi)
    have q2 := G' i (by rw [S', ← hlen]; exact hi)
    rw [getD_sh hx2] at q1 q2
    refine ⟨q1, ?_⟩
    cases x with
    | ref y => cases ty <;> first | (simp [refKind] at hty; done) | (simp [shV, fits] at q2)
    | _ => exact q2
  · rw [List.getElem?_set_ne e] at hk2
    exact (hrel.2 k o hk2).keep K1 (fun z => e ((Nat.add_left_cancel (List.mem_singleton.mp z)).symm))
end Logic2
abbrev HW (Z : State) (a0 : Array Value) : Prop := ∀ d ∈ tables_1, d.before a0 Z = true
def K : List CI := [("com/example/features_at_odds/featuresatodds/search/Rows", 4, [("com/example/features_at_odds/featuresatodds/search/Rows", "values", "[I", (.array .int)), ("com/example/features_at_odds/featuresatodds/search/Rows", "start", "[I", (.array .int)), ("com/example/features_at_odds/featuresatodds/search/Rows", "count", "I", .int), ("com/example/features_at_odds/featuresatodds/search/Rows", "size", "I", .int)])]
theorem allL0 {α : Type} {P : α → Prop} : ∀ x ∈ ([] : List α), P x := fun _ q => nomatch q
theorem allLS {α : Type} {P : α → Prop} {y : α} {L : List α} (q : P y) (r : ∀ x ∈ L, P x) : ∀ x ∈ y :: L, P x := fun x z => (List.mem_cons.mp z).elim (fun u => u ▸ q) (r x)
theorem kok {Z : State} {a0 : Array Value} (hw : HW Z a0) : KOk K Z a0 := by
  intro k ci h
  match k, h with
  | 0, h => cases h; exact ⟨(hw _ (List.mem_of_getElem? (i := 1) rfl)), (allLS ⟨Or.inl (hw _ (List.mem_of_getElem? (i := 11) rfl)), by decide⟩ (allLS ⟨Or.inl (hw _ (List.mem_of_getElem? (i := 13) rfl)), by decide⟩ (allLS ⟨Or.inl (hw _ (List.mem_of_getElem? (i := 26) rfl)), by decide⟩ (allLS ⟨Or.inl (hw _ (List.mem_of_getElem? (i := 28) rfl)), by decide⟩ (allL0))))), by decide⟩
  | (k + 1), h => simp [K] at h
def m0 : MI := (x, code, 10, some .boolean, 4, 66)
def m1 : MI := (⟨"com/example/features_at_odds/featuresatodds/search/Rows", "<init>", "(II)V"⟩, prog_39_method_1_code, 3, none, 1, 12)
def m3 : MI := (⟨"com/example/features_at_odds/featuresatodds/search/RowsAsWordsPinLaw", "step", "(Lcom/example/features_at_odds/featuresatodds/search/Rows;[J[I[JIIJ)V"⟩, method_3_code, 9, none, 3, 46)
def m4 : MI := (⟨"com/example/features_at_odds/featuresatodds/search/Rows", "endRow", "()V"⟩, prog_39_method_13_code, 1, none, 2, 33)
def m5 : MI := (⟨"com/example/features_at_odds/featuresatodds/search/Capacity", "grown", "(IJ)I"⟩, prog_27_method_2_code, 3, some .int, 1, 17)
def m6 : MI := (⟨"java/lang/Math", "min", "(JJ)J"⟩, jdk_29_method_70_code, 4, some .long, 0, 0)
def m7 : MI := (⟨"java/lang/Math", "max", "(JJ)J"⟩, jdk_29_method_66_code, 4, some .long, 0, 0)
def m8 : MI := (⟨"java/util/Arrays", "copyOf", "([II)[I"⟩, jdk_65_method_123_code, 3, some (.array .int), 1, 18)
def m9 : MI := (⟨"java/lang/Math", "min", "(II)I"⟩, jdk_29_method_69_code, 2, some .int, 0, 0)
def m10 : MI := (⟨"com/example/features_at_odds/featuresatodds/search/Rows", "asWords", "()[J"⟩, prog_39_method_10_code, 4, some (.array .long), 0, 0)
def m11 : MI := (⟨"com/example/features_at_odds/featuresatodds/search/RowsAsWordsPinLaw", "at", "([J[JII)Z"⟩, method_4_code, 4, some .boolean, 0, 0)
def m12 : MI := (⟨"com/example/features_at_odds/featuresatodds/search/Rows", "add", "(I)V"⟩, prog_39_method_12_code, 2, none, 2, 33)
theorem pd0 : parseMethodDescriptor "(IJI)Z" = some ⟨[.int, .long, .int], some .boolean⟩ := by decide +kernel
theorem pf0 : plainFor m0.1 = true := by first | exact plainFor_of_name (by first | (simp [m0, x, plainName, overriddenIn]; done) | decide +kernel) | decide +kernel
theorem pd1 : parseMethodDescriptor "(II)V" = some ⟨[.int, .int], none⟩ := by decide +kernel
theorem pf1 : plainFor m1.1 = true := by first | exact plainFor_of_name (by first | (simp [m1, x, plainName, overriddenIn]; done) | decide +kernel) | decide +kernel
theorem pd3 : parseMethodDescriptor "(Lcom/example/features_at_odds/featuresatodds/search/Rows;[J[I[JIIJ)V" = some ⟨[(.object "com/example/features_at_odds/featuresatodds/search/Rows"), (.array .long), (.array .int), (.array .long), .int, .int, .long], none⟩ := by decide +kernel
theorem pf3 : plainFor m3.1 = true := by first | exact plainFor_of_name (by first | (simp [m3, x, plainName, overriddenIn]; done) | decide +kernel) | decide +kernel
theorem pd4 : parseMethodDescriptor "()V" = some ⟨[], none⟩ := by decide +kernel
theorem pf4 : plainFor m4.1 = true := by first | exact plainFor_of_name (by first | (simp [m4, x, plainName, overriddenIn]; done) | decide +kernel) | decide +kernel
theorem pd5 : parseMethodDescriptor "(IJ)I" = some ⟨[.int, .long], some .int⟩ := by decide +kernel
theorem pf5 : plainFor m5.1 = true := by first | exact plainFor_of_name (by first | (simp [m5, x, plainName, overriddenIn]; done) | decide +kernel) | decide +kernel
theorem pd6 : parseMethodDescriptor "(JJ)J" = some ⟨[.long, .long], some .long⟩ := by decide +kernel
theorem pf6 : plainFor m6.1 = true := by first | exact plainFor_of_name (by first | (simp [m6, x, plainName, overriddenIn]; done) | decide +kernel) | decide +kernel
theorem pd7 : parseMethodDescriptor "(JJ)J" = some ⟨[.long, .long], some .long⟩ := by decide +kernel
theorem pf7 : plainFor m7.1 = true := by first | exact plainFor_of_name (by first | (simp [m7, x, plainName, overriddenIn]; done) | decide +kernel) | decide +kernel
theorem pd8 : parseMethodDescriptor "([II)[I" = some ⟨[(.array .int), .int], some (.array .int)⟩ := by decide +kernel
theorem pf8 : plainFor m8.1 = true := by first | exact plainFor_of_name (by first | (simp [m8, x, plainName, overriddenIn]; done) | decide +kernel) | decide +kernel
theorem pd9 : parseMethodDescriptor "(II)I" = some ⟨[.int, .int], some .int⟩ := by decide +kernel
theorem pf9 : plainFor m9.1 = true := by first | exact plainFor_of_name (by first | (simp [m9, x, plainName, overriddenIn]; done) | decide +kernel) | decide +kernel
theorem pd10 : parseMethodDescriptor "()[J" = some ⟨[], some (.array .long)⟩ := by decide +kernel
theorem pf10 : plainFor m10.1 = true := by first | exact plainFor_of_name (by first | (simp [m10, x, plainName, overriddenIn]; done) | decide +kernel) | decide +kernel
theorem pd11 : parseMethodDescriptor "([J[JII)Z" = some ⟨[(.array .long), (.array .long), .int, .int], some .boolean⟩ := by decide +kernel
theorem pf11 : plainFor m11.1 = true := by first | exact plainFor_of_name (by first | (simp [m11, x, plainName, overriddenIn]; done) | decide +kernel) | decide +kernel
theorem pd12 : parseMethodDescriptor "(I)V" = some ⟨[.int], none⟩ := by decide +kernel
theorem pf12 : plainFor m12.1 = true := by first | exact plainFor_of_name (by first | (simp [m12, x, plainName, overriddenIn]; done) | decide +kernel) | decide +kernel
theorem i0_0 : decode m0.2.1 0 = .ok (.new 7, 3) ∧ 0 + 3 = 3 := ⟨by decide +kernel, rfl⟩
theorem i0_3 : decode m0.2.1 3 = .ok (.dup, 1) ∧ 3 + 1 = 4 := ⟨by decide +kernel, rfl⟩
theorem i0_4 : decode m0.2.1 4 = .ok (.iload_n 3, 1) ∧ 4 + 1 = 5 := ⟨by decide +kernel, rfl⟩
theorem i0_5 : decode m0.2.1 5 = .ok (.iconst 3, 1) ∧ 5 + 1 = 6 ∧ Int32.ofInt 3 = 3 := ⟨by decide +kernel, rfl, by decide⟩
theorem i0_6 : decode m0.2.1 6 = .ok (.iand, 1) ∧ 6 + 1 = 7 := ⟨by decide +kernel, rfl⟩
theorem i0_7 : decode m0.2.1 7 = .ok (.iload_n 3, 1) ∧ 7 + 1 = 8 := ⟨by decide +kernel, rfl⟩
theorem i0_8 : decode m0.2.1 8 = .ok (.iconst 2, 1) ∧ 8 + 1 = 9 ∧ Int32.ofInt 2 = 2 := ⟨by decide +kernel, rfl, by decide⟩
theorem i0_9 : decode m0.2.1 9 = .ok (.iushr, 1) ∧ 9 + 1 = 10 := ⟨by decide +kernel, rfl⟩
theorem i0_10 : decode m0.2.1 10 = .ok (.iconst 3, 1) ∧ 10 + 1 = 11 ∧ Int32.ofInt 3 = 3 := ⟨by decide +kernel, rfl, by decide⟩
theorem i0_11 : decode m0.2.1 11 = .ok (.iand, 1) ∧ 11 + 1 = 12 := ⟨by decide +kernel, rfl⟩
theorem i0_12 : decode m0.2.1 12 = .ok (.invokespecial 9, 3) ∧ 12 + 3 = 15 := ⟨by decide +kernel, rfl⟩
theorem i0_15 : decode m0.2.1 15 = .ok (.astore 4, 2) ∧ 15 + 2 = 17 := ⟨by decide +kernel, rfl⟩
theorem i0_17 : decode m0.2.1 17 = .ok (.bipush 8, 2) ∧ 17 + 2 = 19 ∧ (Int8.ofInt 8).toInt32 = 8 := ⟨by decide +kernel, rfl, by decide⟩
theorem i0_19 : decode m0.2.1 19 = .ok (.newarray .long, 2) ∧ 19 + 2 = 21 := ⟨by decide +kernel, rfl⟩
theorem i0_21 : decode m0.2.1 21 = .ok (.astore 5, 2) ∧ 21 + 2 = 23 := ⟨by decide +kernel, rfl⟩
theorem i0_23 : decode m0.2.1 23 = .ok (.iconst 1, 1) ∧ 23 + 1 = 24 ∧ Int32.ofInt 1 = 1 := ⟨by decide +kernel, rfl, by decide⟩
theorem i0_24 : decode m0.2.1 24 = .ok (.newarray .int, 2) ∧ 24 + 2 = 26 := ⟨by decide +kernel, rfl⟩
theorem i0_26 : decode m0.2.1 26 = .ok (.astore 6, 2) ∧ 26 + 2 = 28 := ⟨by decide +kernel, rfl⟩
theorem i0_28 : decode m0.2.1 28 = .ok (.iconst 1, 1) ∧ 28 + 1 = 29 ∧ Int32.ofInt 1 = 1 := ⟨by decide +kernel, rfl, by decide⟩
theorem i0_29 : decode m0.2.1 29 = .ok (.newarray .long, 2) ∧ 29 + 2 = 31 := ⟨by decide +kernel, rfl⟩
theorem i0_31 : decode m0.2.1 31 = .ok (.astore 7, 2) ∧ 31 + 2 = 33 := ⟨by decide +kernel, rfl⟩
theorem i0_33 : decode m0.2.1 33 = .ok (.aload 4, 2) ∧ 33 + 2 = 35 := ⟨by decide +kernel, rfl⟩
theorem i0_35 : decode m0.2.1 35 = .ok (.aload 5, 2) ∧ 35 + 2 = 37 := ⟨by decide +kernel, rfl⟩
theorem i0_37 : decode m0.2.1 37 = .ok (.aload 6, 2) ∧ 37 + 2 = 39 := ⟨by decide +kernel, rfl⟩
theorem i0_39 : decode m0.2.1 39 = .ok (.aload 7, 2) ∧ 39 + 2 = 41 := ⟨by decide +kernel, rfl⟩
theorem i0_41 : decode m0.2.1 41 = .ok (.iload_n 0, 1) ∧ 41 + 1 = 42 := ⟨by decide +kernel, rfl⟩
theorem i0_42 : decode m0.2.1 42 = .ok (.iconst 0, 1) ∧ 42 + 1 = 43 ∧ Int32.ofInt 0 = 0 := ⟨by decide +kernel, rfl, by decide⟩
theorem i0_43 : decode m0.2.1 43 = .ok (.lload_n 1, 1) ∧ 43 + 1 = 44 := ⟨by decide +kernel, rfl⟩
theorem i0_44 : decode m0.2.1 44 = .ok (.invokestatic 12, 3) ∧ 44 + 3 = 47 := ⟨by decide +kernel, rfl⟩
theorem i0_47 : decode m0.2.1 47 = .ok (.aload 4, 2) ∧ 47 + 2 = 49 := ⟨by decide +kernel, rfl⟩
theorem i0_49 : decode m0.2.1 49 = .ok (.aload 5, 2) ∧ 49 + 2 = 51 := ⟨by decide +kernel, rfl⟩
theorem i0_51 : decode m0.2.1 51 = .ok (.aload 6, 2) ∧ 51 + 2 = 53 := ⟨by decide +kernel, rfl⟩
theorem i0_53 : decode m0.2.1 53 = .ok (.aload 7, 2) ∧ 53 + 2 = 55 := ⟨by decide +kernel, rfl⟩
theorem i0_55 : decode m0.2.1 55 = .ok (.iload_n 0, 1) ∧ 55 + 1 = 56 := ⟨by decide +kernel, rfl⟩
theorem i0_56 : decode m0.2.1 56 = .ok (.iconst 1, 1) ∧ 56 + 1 = 57 ∧ Int32.ofInt 1 = 1 := ⟨by decide +kernel, rfl, by decide⟩
theorem i0_57 : decode m0.2.1 57 = .ok (.lload_n 1, 1) ∧ 57 + 1 = 58 := ⟨by decide +kernel, rfl⟩
theorem i0_58 : decode m0.2.1 58 = .ok (.invokestatic 12, 3) ∧ 58 + 3 = 61 := ⟨by decide +kernel, rfl⟩
theorem i0_61 : decode m0.2.1 61 = .ok (.aload 4, 2) ∧ 61 + 2 = 63 := ⟨by decide +kernel, rfl⟩
theorem i0_63 : decode m0.2.1 63 = .ok (.aload 5, 2) ∧ 63 + 2 = 65 := ⟨by decide +kernel, rfl⟩
theorem i0_65 : decode m0.2.1 65 = .ok (.aload 6, 2) ∧ 65 + 2 = 67 := ⟨by decide +kernel, rfl⟩
theorem i0_67 : decode m0.2.1 67 = .ok (.aload 7, 2) ∧ 67 + 2 = 69 := ⟨by decide +kernel, rfl⟩
theorem i0_69 : decode m0.2.1 69 = .ok (.iload_n 0, 1) ∧ 69 + 1 = 70 := ⟨by decide +kernel, rfl⟩
theorem i0_70 : decode m0.2.1 70 = .ok (.iconst 2, 1) ∧ 70 + 1 = 71 ∧ Int32.ofInt 2 = 2 := ⟨by decide +kernel, rfl, by decide⟩
theorem i0_71 : decode m0.2.1 71 = .ok (.lload_n 1, 1) ∧ 71 + 1 = 72 := ⟨by decide +kernel, rfl⟩
theorem i0_72 : decode m0.2.1 72 = .ok (.invokestatic 12, 3) ∧ 72 + 3 = 75 := ⟨by decide +kernel, rfl⟩
theorem i0_75 : decode m0.2.1 75 = .ok (.aload 4, 2) ∧ 75 + 2 = 77 := ⟨by decide +kernel, rfl⟩
theorem i0_77 : decode m0.2.1 77 = .ok (.aload 5, 2) ∧ 77 + 2 = 79 := ⟨by decide +kernel, rfl⟩
theorem i0_79 : decode m0.2.1 79 = .ok (.aload 6, 2) ∧ 79 + 2 = 81 := ⟨by decide +kernel, rfl⟩
theorem i0_81 : decode m0.2.1 81 = .ok (.aload 7, 2) ∧ 81 + 2 = 83 := ⟨by decide +kernel, rfl⟩
theorem i0_83 : decode m0.2.1 83 = .ok (.iload_n 0, 1) ∧ 83 + 1 = 84 := ⟨by decide +kernel, rfl⟩
theorem i0_84 : decode m0.2.1 84 = .ok (.iconst 3, 1) ∧ 84 + 1 = 85 ∧ Int32.ofInt 3 = 3 := ⟨by decide +kernel, rfl, by decide⟩
theorem i0_85 : decode m0.2.1 85 = .ok (.lload_n 1, 1) ∧ 85 + 1 = 86 := ⟨by decide +kernel, rfl⟩
theorem i0_86 : decode m0.2.1 86 = .ok (.invokestatic 12, 3) ∧ 86 + 3 = 89 := ⟨by decide +kernel, rfl⟩
theorem i0_89 : decode m0.2.1 89 = .ok (.aload 4, 2) ∧ 89 + 2 = 91 := ⟨by decide +kernel, rfl⟩
theorem i0_91 : decode m0.2.1 91 = .ok (.aload 5, 2) ∧ 91 + 2 = 93 := ⟨by decide +kernel, rfl⟩
theorem i0_93 : decode m0.2.1 93 = .ok (.aload 6, 2) ∧ 93 + 2 = 95 := ⟨by decide +kernel, rfl⟩
theorem i0_95 : decode m0.2.1 95 = .ok (.aload 7, 2) ∧ 95 + 2 = 97 := ⟨by decide +kernel, rfl⟩
theorem i0_97 : decode m0.2.1 97 = .ok (.iload_n 0, 1) ∧ 97 + 1 = 98 := ⟨by decide +kernel, rfl⟩
theorem i0_98 : decode m0.2.1 98 = .ok (.iconst 4, 1) ∧ 98 + 1 = 99 ∧ Int32.ofInt 4 = 4 := ⟨by decide +kernel, rfl, by decide⟩
theorem i0_99 : decode m0.2.1 99 = .ok (.lload_n 1, 1) ∧ 99 + 1 = 100 := ⟨by decide +kernel, rfl⟩
theorem i0_100 : decode m0.2.1 100 = .ok (.invokestatic 12, 3) ∧ 100 + 3 = 103 := ⟨by decide +kernel, rfl⟩
theorem i0_103 : decode m0.2.1 103 = .ok (.aload 4, 2) ∧ 103 + 2 = 105 := ⟨by decide +kernel, rfl⟩
theorem i0_105 : decode m0.2.1 105 = .ok (.aload 5, 2) ∧ 105 + 2 = 107 := ⟨by decide +kernel, rfl⟩
theorem i0_107 : decode m0.2.1 107 = .ok (.aload 6, 2) ∧ 107 + 2 = 109 := ⟨by decide +kernel, rfl⟩
theorem i0_109 : decode m0.2.1 109 = .ok (.aload 7, 2) ∧ 109 + 2 = 111 := ⟨by decide +kernel, rfl⟩
theorem i0_111 : decode m0.2.1 111 = .ok (.iload_n 0, 1) ∧ 111 + 1 = 112 := ⟨by decide +kernel, rfl⟩
theorem i0_112 : decode m0.2.1 112 = .ok (.iconst 5, 1) ∧ 112 + 1 = 113 ∧ Int32.ofInt 5 = 5 := ⟨by decide +kernel, rfl, by decide⟩
theorem i0_113 : decode m0.2.1 113 = .ok (.lload_n 1, 1) ∧ 113 + 1 = 114 := ⟨by decide +kernel, rfl⟩
theorem i0_114 : decode m0.2.1 114 = .ok (.invokestatic 12, 3) ∧ 114 + 3 = 117 := ⟨by decide +kernel, rfl⟩
theorem i0_117 : decode m0.2.1 117 = .ok (.aload 4, 2) ∧ 117 + 2 = 119 := ⟨by decide +kernel, rfl⟩
theorem i0_119 : decode m0.2.1 119 = .ok (.aload 5, 2) ∧ 119 + 2 = 121 := ⟨by decide +kernel, rfl⟩
theorem i0_121 : decode m0.2.1 121 = .ok (.aload 6, 2) ∧ 121 + 2 = 123 := ⟨by decide +kernel, rfl⟩
theorem i0_123 : decode m0.2.1 123 = .ok (.aload 7, 2) ∧ 123 + 2 = 125 := ⟨by decide +kernel, rfl⟩
theorem i0_125 : decode m0.2.1 125 = .ok (.iload_n 0, 1) ∧ 125 + 1 = 126 := ⟨by decide +kernel, rfl⟩
theorem i0_126 : decode m0.2.1 126 = .ok (.bipush 6, 2) ∧ 126 + 2 = 128 ∧ (Int8.ofInt 6).toInt32 = 6 := ⟨by decide +kernel, rfl, by decide⟩
theorem i0_128 : decode m0.2.1 128 = .ok (.lload_n 1, 1) ∧ 128 + 1 = 129 := ⟨by decide +kernel, rfl⟩
theorem i0_129 : decode m0.2.1 129 = .ok (.invokestatic 12, 3) ∧ 129 + 3 = 132 := ⟨by decide +kernel, rfl⟩
theorem i0_132 : decode m0.2.1 132 = .ok (.aload 4, 2) ∧ 132 + 2 = 134 := ⟨by decide +kernel, rfl⟩
theorem i0_134 : decode m0.2.1 134 = .ok (.invokevirtual 18, 3) ∧ 134 + 3 = 137 := ⟨by decide +kernel, rfl⟩
theorem i0_137 : decode m0.2.1 137 = .ok (.astore 8, 2) ∧ 137 + 2 = 139 := ⟨by decide +kernel, rfl⟩
theorem i0_139 : decode m0.2.1 139 = .ok (.aload 6, 2) ∧ 139 + 2 = 141 := ⟨by decide +kernel, rfl⟩
theorem i0_141 : decode m0.2.1 141 = .ok (.iconst 0, 1) ∧ 141 + 1 = 142 ∧ Int32.ofInt 0 = 0 := ⟨by decide +kernel, rfl, by decide⟩
theorem i0_142 : decode m0.2.1 142 = .ok (.iaload, 1) ∧ 142 + 1 = 143 := ⟨by decide +kernel, rfl⟩
theorem i0_143 : decode m0.2.1 143 = .ok (.istore 9, 2) ∧ 143 + 2 = 145 := ⟨by decide +kernel, rfl⟩
theorem i0_145 : decode m0.2.1 145 = .ok (.aload 8, 2) ∧ 145 + 2 = 147 := ⟨by decide +kernel, rfl⟩
theorem i0_147 : decode m0.2.1 147 = .ok (.arraylength, 1) ∧ 147 + 1 = 148 := ⟨by decide +kernel, rfl⟩
theorem i0_148 : decode m0.2.1 148 = .ok (.iload 9, 2) ∧ 148 + 2 = 150 := ⟨by decide +kernel, rfl⟩
theorem i0_150 : decode m0.2.1 150 = .ok (.if_icmp .eq 5, 3) ∧ 150 + 3 = 153 ∧ 0 ≤ ((150 : Nat) : Int) + 5 ∧ (((150 : Nat) : Int) + 5).toNat = 155 := ⟨by decide +kernel, rfl, by decide, by decide⟩
theorem i0_153 : decode m0.2.1 153 = .ok (.iconst 0, 1) ∧ 153 + 1 = 154 ∧ Int32.ofInt 0 = 0 := ⟨by decide +kernel, rfl, by decide⟩
theorem i0_154 : decode m0.2.1 154 = .ok (.ireturn, 1) := by decide +kernel
theorem i0_155 : decode m0.2.1 155 = .ok (.aload 8, 2) ∧ 155 + 2 = 157 := ⟨by decide +kernel, rfl⟩
theorem i0_157 : decode m0.2.1 157 = .ok (.aload 5, 2) ∧ 157 + 2 = 159 := ⟨by decide +kernel, rfl⟩
theorem i0_159 : decode m0.2.1 159 = .ok (.iload 9, 2) ∧ 159 + 2 = 161 := ⟨by decide +kernel, rfl⟩
theorem i0_161 : decode m0.2.1 161 = .ok (.iconst 0, 1) ∧ 161 + 1 = 162 ∧ Int32.ofInt 0 = 0 := ⟨by decide +kernel, rfl, by decide⟩
theorem i0_162 : decode m0.2.1 162 = .ok (.invokestatic 22, 3) ∧ 162 + 3 = 165 := ⟨by decide +kernel, rfl⟩
theorem i0_165 : decode m0.2.1 165 = .ok (.ifCond .eq 86, 3) ∧ 165 + 3 = 168 ∧ 0 ≤ ((165 : Nat) : Int) + 86 ∧ (((165 : Nat) : Int) + 86).toNat = 251 := ⟨by decide +kernel, rfl, by decide, by decide⟩
theorem i0_168 : decode m0.2.1 168 = .ok (.aload 8, 2) ∧ 168 + 2 = 170 := ⟨by decide +kernel, rfl⟩
theorem i0_170 : decode m0.2.1 170 = .ok (.aload 5, 2) ∧ 170 + 2 = 172 := ⟨by decide +kernel, rfl⟩
theorem i0_172 : decode m0.2.1 172 = .ok (.iload 9, 2) ∧ 172 + 2 = 174 := ⟨by decide +kernel, rfl⟩
theorem i0_174 : decode m0.2.1 174 = .ok (.iconst 1, 1) ∧ 174 + 1 = 175 ∧ Int32.ofInt 1 = 1 := ⟨by decide +kernel, rfl, by decide⟩
theorem i0_175 : decode m0.2.1 175 = .ok (.invokestatic 22, 3) ∧ 175 + 3 = 178 := ⟨by decide +kernel, rfl⟩
theorem i0_178 : decode m0.2.1 178 = .ok (.ifCond .eq 73, 3) ∧ 178 + 3 = 181 ∧ 0 ≤ ((178 : Nat) : Int) + 73 ∧ (((178 : Nat) : Int) + 73).toNat = 251 := ⟨by decide +kernel, rfl, by decide, by decide⟩
theorem i0_181 : decode m0.2.1 181 = .ok (.aload 8, 2) ∧ 181 + 2 = 183 := ⟨by decide +kernel, rfl⟩
theorem i0_183 : decode m0.2.1 183 = .ok (.aload 5, 2) ∧ 183 + 2 = 185 := ⟨by decide +kernel, rfl⟩
theorem i0_185 : decode m0.2.1 185 = .ok (.iload 9, 2) ∧ 185 + 2 = 187 := ⟨by decide +kernel, rfl⟩
theorem i0_187 : decode m0.2.1 187 = .ok (.iconst 2, 1) ∧ 187 + 1 = 188 ∧ Int32.ofInt 2 = 2 := ⟨by decide +kernel, rfl, by decide⟩
theorem i0_188 : decode m0.2.1 188 = .ok (.invokestatic 22, 3) ∧ 188 + 3 = 191 := ⟨by decide +kernel, rfl⟩
theorem i0_191 : decode m0.2.1 191 = .ok (.ifCond .eq 60, 3) ∧ 191 + 3 = 194 ∧ 0 ≤ ((191 : Nat) : Int) + 60 ∧ (((191 : Nat) : Int) + 60).toNat = 251 := ⟨by decide +kernel, rfl, by decide, by decide⟩
theorem i0_194 : decode m0.2.1 194 = .ok (.aload 8, 2) ∧ 194 + 2 = 196 := ⟨by decide +kernel, rfl⟩
theorem i0_196 : decode m0.2.1 196 = .ok (.aload 5, 2) ∧ 196 + 2 = 198 := ⟨by decide +kernel, rfl⟩
theorem i0_198 : decode m0.2.1 198 = .ok (.iload 9, 2) ∧ 198 + 2 = 200 := ⟨by decide +kernel, rfl⟩
theorem i0_200 : decode m0.2.1 200 = .ok (.iconst 3, 1) ∧ 200 + 1 = 201 ∧ Int32.ofInt 3 = 3 := ⟨by decide +kernel, rfl, by decide⟩
theorem i0_201 : decode m0.2.1 201 = .ok (.invokestatic 22, 3) ∧ 201 + 3 = 204 := ⟨by decide +kernel, rfl⟩
theorem i0_204 : decode m0.2.1 204 = .ok (.ifCond .eq 47, 3) ∧ 204 + 3 = 207 ∧ 0 ≤ ((204 : Nat) : Int) + 47 ∧ (((204 : Nat) : Int) + 47).toNat = 251 := ⟨by decide +kernel, rfl, by decide, by decide⟩
theorem i0_207 : decode m0.2.1 207 = .ok (.aload 8, 2) ∧ 207 + 2 = 209 := ⟨by decide +kernel, rfl⟩
theorem i0_209 : decode m0.2.1 209 = .ok (.aload 5, 2) ∧ 209 + 2 = 211 := ⟨by decide +kernel, rfl⟩
theorem i0_211 : decode m0.2.1 211 = .ok (.iload 9, 2) ∧ 211 + 2 = 213 := ⟨by decide +kernel, rfl⟩
theorem i0_213 : decode m0.2.1 213 = .ok (.iconst 4, 1) ∧ 213 + 1 = 214 ∧ Int32.ofInt 4 = 4 := ⟨by decide +kernel, rfl, by decide⟩
theorem i0_214 : decode m0.2.1 214 = .ok (.invokestatic 22, 3) ∧ 214 + 3 = 217 := ⟨by decide +kernel, rfl⟩
theorem i0_217 : decode m0.2.1 217 = .ok (.ifCond .eq 34, 3) ∧ 217 + 3 = 220 ∧ 0 ≤ ((217 : Nat) : Int) + 34 ∧ (((217 : Nat) : Int) + 34).toNat = 251 := ⟨by decide +kernel, rfl, by decide, by decide⟩
theorem i0_220 : decode m0.2.1 220 = .ok (.aload 8, 2) ∧ 220 + 2 = 222 := ⟨by decide +kernel, rfl⟩
theorem i0_222 : decode m0.2.1 222 = .ok (.aload 5, 2) ∧ 222 + 2 = 224 := ⟨by decide +kernel, rfl⟩
theorem i0_224 : decode m0.2.1 224 = .ok (.iload 9, 2) ∧ 224 + 2 = 226 := ⟨by decide +kernel, rfl⟩
theorem i0_226 : decode m0.2.1 226 = .ok (.iconst 5, 1) ∧ 226 + 1 = 227 ∧ Int32.ofInt 5 = 5 := ⟨by decide +kernel, rfl, by decide⟩
theorem i0_227 : decode m0.2.1 227 = .ok (.invokestatic 22, 3) ∧ 227 + 3 = 230 := ⟨by decide +kernel, rfl⟩
theorem i0_230 : decode m0.2.1 230 = .ok (.ifCond .eq 21, 3) ∧ 230 + 3 = 233 ∧ 0 ≤ ((230 : Nat) : Int) + 21 ∧ (((230 : Nat) : Int) + 21).toNat = 251 := ⟨by decide +kernel, rfl, by decide, by decide⟩
theorem i0_233 : decode m0.2.1 233 = .ok (.aload 8, 2) ∧ 233 + 2 = 235 := ⟨by decide +kernel, rfl⟩
theorem i0_235 : decode m0.2.1 235 = .ok (.aload 5, 2) ∧ 235 + 2 = 237 := ⟨by decide +kernel, rfl⟩
theorem i0_237 : decode m0.2.1 237 = .ok (.iload 9, 2) ∧ 237 + 2 = 239 := ⟨by decide +kernel, rfl⟩
theorem i0_239 : decode m0.2.1 239 = .ok (.bipush 6, 2) ∧ 239 + 2 = 241 ∧ (Int8.ofInt 6).toInt32 = 6 := ⟨by decide +kernel, rfl, by decide⟩
theorem i0_241 : decode m0.2.1 241 = .ok (.invokestatic 22, 3) ∧ 241 + 3 = 244 := ⟨by decide +kernel, rfl⟩
theorem i0_244 : decode m0.2.1 244 = .ok (.ifCond .eq 7, 3) ∧ 244 + 3 = 247 ∧ 0 ≤ ((244 : Nat) : Int) + 7 ∧ (((244 : Nat) : Int) + 7).toNat = 251 := ⟨by decide +kernel, rfl, by decide, by decide⟩
theorem i0_247 : decode m0.2.1 247 = .ok (.iconst 1, 1) ∧ 247 + 1 = 248 ∧ Int32.ofInt 1 = 1 := ⟨by decide +kernel, rfl, by decide⟩
theorem i0_248 : decode m0.2.1 248 = .ok (.goto 4, 3) ∧ 248 + 3 = 251 ∧ 0 ≤ ((248 : Nat) : Int) + 4 ∧ (((248 : Nat) : Int) + 4).toNat = 252 := ⟨by decide +kernel, rfl, by decide, by decide⟩
theorem i0_251 : decode m0.2.1 251 = .ok (.iconst 0, 1) ∧ 251 + 1 = 252 ∧ Int32.ofInt 0 = 0 := ⟨by decide +kernel, rfl, by decide⟩
theorem i0_252 : decode m0.2.1 252 = .ok (.ireturn, 1) := by decide +kernel
theorem i1_0 : decode m1.2.1 0 = .ok (.aload_n 0, 1) ∧ 0 + 1 = 1 := ⟨by decide +kernel, rfl⟩
theorem i1_1 : decode m1.2.1 1 = .ok (.invokespecial 1, 3) ∧ 1 + 3 = 4 := ⟨by decide +kernel, rfl⟩
theorem i1_4 : decode m1.2.1 4 = .ok (.aload_n 0, 1) ∧ 4 + 1 = 5 := ⟨by decide +kernel, rfl⟩
theorem i1_5 : decode m1.2.1 5 = .ok (.iload_n 2, 1) ∧ 5 + 1 = 6 := ⟨by decide +kernel, rfl⟩
theorem i1_6 : decode m1.2.1 6 = .ok (.newarray .int, 2) ∧ 6 + 2 = 8 := ⟨by decide +kernel, rfl⟩
theorem i1_8 : decode m1.2.1 8 = .ok (.putfield 7, 3) ∧ 8 + 3 = 11 := ⟨by decide +kernel, rfl⟩
theorem i1_11 : decode m1.2.1 11 = .ok (.aload_n 0, 1) ∧ 11 + 1 = 12 := ⟨by decide +kernel, rfl⟩
theorem i1_12 : decode m1.2.1 12 = .ok (.iload_n 1, 1) ∧ 12 + 1 = 13 := ⟨by decide +kernel, rfl⟩
theorem i1_13 : decode m1.2.1 13 = .ok (.iconst 1, 1) ∧ 13 + 1 = 14 ∧ Int32.ofInt 1 = 1 := ⟨by decide +kernel, rfl, by decide⟩
theorem i1_14 : decode m1.2.1 14 = .ok (.iadd, 1) ∧ 14 + 1 = 15 := ⟨by decide +kernel, rfl⟩
theorem i1_15 : decode m1.2.1 15 = .ok (.newarray .int, 2) ∧ 15 + 2 = 17 := ⟨by decide +kernel, rfl⟩
theorem i1_17 : decode m1.2.1 17 = .ok (.putfield 13, 3) ∧ 17 + 3 = 20 := ⟨by decide +kernel, rfl⟩
theorem i1_20 : decode m1.2.1 20 = .ok (.return_, 1) := by decide +kernel
theorem i3_0 : decode m3.2.1 0 = .ok (.lload 6, 2) ∧ 0 + 2 = 2 := ⟨by decide +kernel, rfl⟩
theorem i3_2 : decode m3.2.1 2 = .ok (.bipush 6, 2) ∧ 2 + 2 = 4 ∧ (Int8.ofInt 6).toInt32 = 6 := ⟨by decide +kernel, rfl, by decide⟩
theorem i3_4 : decode m3.2.1 4 = .ok (.iload 5, 2) ∧ 4 + 2 = 6 := ⟨by decide +kernel, rfl⟩
theorem i3_6 : decode m3.2.1 6 = .ok (.imul, 1) ∧ 6 + 1 = 7 := ⟨by decide +kernel, rfl⟩
theorem i3_7 : decode m3.2.1 7 = .ok (.lushr, 1) ∧ 7 + 1 = 8 := ⟨by decide +kernel, rfl⟩
theorem i3_8 : decode m3.2.1 8 = .ok (.ldc2_w 26, 3) ∧ 8 + 3 = 11 := ⟨by decide +kernel, rfl⟩
theorem i3_11 : decode m3.2.1 11 = .ok (.land, 1) ∧ 11 + 1 = 12 := ⟨by decide +kernel, rfl⟩
theorem i3_12 : decode m3.2.1 12 = .ok (.l2i, 1) ∧ 12 + 1 = 13 := ⟨by decide +kernel, rfl⟩
theorem i3_13 : decode m3.2.1 13 = .ok (.istore 8, 2) ∧ 13 + 2 = 15 := ⟨by decide +kernel, rfl⟩
theorem i3_15 : decode m3.2.1 15 = .ok (.iload 4, 2) ∧ 15 + 2 = 17 := ⟨by decide +kernel, rfl⟩
theorem i3_17 : decode m3.2.1 17 = .ok (.iload 5, 2) ∧ 17 + 2 = 19 := ⟨by decide +kernel, rfl⟩
theorem i3_19 : decode m3.2.1 19 = .ok (.iushr, 1) ∧ 19 + 1 = 20 := ⟨by decide +kernel, rfl⟩
theorem i3_20 : decode m3.2.1 20 = .ok (.iconst 1, 1) ∧ 20 + 1 = 21 ∧ Int32.ofInt 1 = 1 := ⟨by decide +kernel, rfl, by decide⟩
theorem i3_21 : decode m3.2.1 21 = .ok (.iand, 1) ∧ 21 + 1 = 22 := ⟨by decide +kernel, rfl⟩
theorem i3_22 : decode m3.2.1 22 = .ok (.ifCond .eq 23, 3) ∧ 22 + 3 = 25 ∧ 0 ≤ ((22 : Nat) : Int) + 23 ∧ (((22 : Nat) : Int) + 23).toNat = 45 := ⟨by decide +kernel, rfl, by decide, by decide⟩
theorem i3_25 : decode m3.2.1 25 = .ok (.aload_n 0, 1) ∧ 25 + 1 = 26 := ⟨by decide +kernel, rfl⟩
theorem i3_26 : decode m3.2.1 26 = .ok (.iload 8, 2) ∧ 26 + 2 = 28 := ⟨by decide +kernel, rfl⟩
theorem i3_28 : decode m3.2.1 28 = .ok (.invokevirtual 28, 3) ∧ 28 + 3 = 31 := ⟨by decide +kernel, rfl⟩
theorem i3_31 : decode m3.2.1 31 = .ok (.aload_n 3, 1) ∧ 31 + 1 = 32 := ⟨by decide +kernel, rfl⟩
theorem i3_32 : decode m3.2.1 32 = .ok (.iconst 0, 1) ∧ 32 + 1 = 33 ∧ Int32.ofInt 0 = 0 := ⟨by decide +kernel, rfl, by decide⟩
theorem i3_33 : decode m3.2.1 33 = .ok (.aload_n 3, 1) ∧ 33 + 1 = 34 := ⟨by decide +kernel, rfl⟩
theorem i3_34 : decode m3.2.1 34 = .ok (.iconst 0, 1) ∧ 34 + 1 = 35 ∧ Int32.ofInt 0 = 0 := ⟨by decide +kernel, rfl, by decide⟩
theorem i3_35 : decode m3.2.1 35 = .ok (.laload, 1) ∧ 35 + 1 = 36 := ⟨by decide +kernel, rfl⟩
theorem i3_36 : decode m3.2.1 36 = .ok (.lconst 1, 1) ∧ 36 + 1 = 37 ∧ Int64.ofNat ((1 : Fin 2) : Nat) = 1 := ⟨by decide +kernel, rfl, by decide⟩
theorem i3_37 : decode m3.2.1 37 = .ok (.iload 8, 2) ∧ 37 + 2 = 39 := ⟨by decide +kernel, rfl⟩
theorem i3_39 : decode m3.2.1 39 = .ok (.lshl, 1) ∧ 39 + 1 = 40 := ⟨by decide +kernel, rfl⟩
theorem i3_40 : decode m3.2.1 40 = .ok (.lor, 1) ∧ 40 + 1 = 41 := ⟨by decide +kernel, rfl⟩
theorem i3_41 : decode m3.2.1 41 = .ok (.lastore, 1) ∧ 41 + 1 = 42 := ⟨by decide +kernel, rfl⟩
theorem i3_42 : decode m3.2.1 42 = .ok (.goto 27, 3) ∧ 42 + 3 = 45 ∧ 0 ≤ ((42 : Nat) : Int) + 27 ∧ (((42 : Nat) : Int) + 27).toNat = 69 := ⟨by decide +kernel, rfl, by decide, by decide⟩
theorem i3_45 : decode m3.2.1 45 = .ok (.aload_n 0, 1) ∧ 45 + 1 = 46 := ⟨by decide +kernel, rfl⟩
theorem i3_46 : decode m3.2.1 46 = .ok (.invokevirtual 32, 3) ∧ 46 + 3 = 49 := ⟨by decide +kernel, rfl⟩
theorem i3_49 : decode m3.2.1 49 = .ok (.aload_n 1, 1) ∧ 49 + 1 = 50 := ⟨by decide +kernel, rfl⟩
theorem i3_50 : decode m3.2.1 50 = .ok (.aload_n 2, 1) ∧ 50 + 1 = 51 := ⟨by decide +kernel, rfl⟩
theorem i3_51 : decode m3.2.1 51 = .ok (.iconst 0, 1) ∧ 51 + 1 = 52 ∧ Int32.ofInt 0 = 0 := ⟨by decide +kernel, rfl, by decide⟩
theorem i3_52 : decode m3.2.1 52 = .ok (.iaload, 1) ∧ 52 + 1 = 53 := ⟨by decide +kernel, rfl⟩
theorem i3_53 : decode m3.2.1 53 = .ok (.aload_n 3, 1) ∧ 53 + 1 = 54 := ⟨by decide +kernel, rfl⟩
theorem i3_54 : decode m3.2.1 54 = .ok (.iconst 0, 1) ∧ 54 + 1 = 55 ∧ Int32.ofInt 0 = 0 := ⟨by decide +kernel, rfl, by decide⟩
theorem i3_55 : decode m3.2.1 55 = .ok (.laload, 1) ∧ 55 + 1 = 56 := ⟨by decide +kernel, rfl⟩
theorem i3_56 : decode m3.2.1 56 = .ok (.lastore, 1) ∧ 56 + 1 = 57 := ⟨by decide +kernel, rfl⟩
theorem i3_57 : decode m3.2.1 57 = .ok (.aload_n 2, 1) ∧ 57 + 1 = 58 := ⟨by decide +kernel, rfl⟩
theorem i3_58 : decode m3.2.1 58 = .ok (.iconst 0, 1) ∧ 58 + 1 = 59 ∧ Int32.ofInt 0 = 0 := ⟨by decide +kernel, rfl, by decide⟩
theorem i3_59 : decode m3.2.1 59 = .ok (.aload_n 2, 1) ∧ 59 + 1 = 60 := ⟨by decide +kernel, rfl⟩
theorem i3_60 : decode m3.2.1 60 = .ok (.iconst 0, 1) ∧ 60 + 1 = 61 ∧ Int32.ofInt 0 = 0 := ⟨by decide +kernel, rfl, by decide⟩
theorem i3_61 : decode m3.2.1 61 = .ok (.iaload, 1) ∧ 61 + 1 = 62 := ⟨by decide +kernel, rfl⟩
theorem i3_62 : decode m3.2.1 62 = .ok (.iconst 1, 1) ∧ 62 + 1 = 63 ∧ Int32.ofInt 1 = 1 := ⟨by decide +kernel, rfl, by decide⟩
theorem i3_63 : decode m3.2.1 63 = .ok (.iadd, 1) ∧ 63 + 1 = 64 := ⟨by decide +kernel, rfl⟩
theorem i3_64 : decode m3.2.1 64 = .ok (.iastore, 1) ∧ 64 + 1 = 65 := ⟨by decide +kernel, rfl⟩
theorem i3_65 : decode m3.2.1 65 = .ok (.aload_n 3, 1) ∧ 65 + 1 = 66 := ⟨by decide +kernel, rfl⟩
theorem i3_66 : decode m3.2.1 66 = .ok (.iconst 0, 1) ∧ 66 + 1 = 67 ∧ Int32.ofInt 0 = 0 := ⟨by decide +kernel, rfl, by decide⟩
theorem i3_67 : decode m3.2.1 67 = .ok (.lconst 0, 1) ∧ 67 + 1 = 68 ∧ Int64.ofNat ((0 : Fin 2) : Nat) = 0 := ⟨by decide +kernel, rfl, by decide⟩
theorem i3_68 : decode m3.2.1 68 = .ok (.lastore, 1) ∧ 68 + 1 = 69 := ⟨by decide +kernel, rfl⟩
theorem i3_69 : decode m3.2.1 69 = .ok (.return_, 1) := by decide +kernel
theorem i4_0 : decode m4.2.1 0 = .ok (.aload_n 0, 1) ∧ 0 + 1 = 1 := ⟨by decide +kernel, rfl⟩
theorem i4_1 : decode m4.2.1 1 = .ok (.getfield 16, 3) ∧ 1 + 3 = 4 := ⟨by decide +kernel, rfl⟩
theorem i4_4 : decode m4.2.1 4 = .ok (.iconst 2, 1) ∧ 4 + 1 = 5 ∧ Int32.ofInt 2 = 2 := ⟨by decide +kernel, rfl, by decide⟩
theorem i4_5 : decode m4.2.1 5 = .ok (.iadd, 1) ∧ 5 + 1 = 6 := ⟨by decide +kernel, rfl⟩
theorem i4_6 : decode m4.2.1 6 = .ok (.aload_n 0, 1) ∧ 6 + 1 = 7 := ⟨by decide +kernel, rfl⟩
theorem i4_7 : decode m4.2.1 7 = .ok (.getfield 13, 3) ∧ 7 + 3 = 10 := ⟨by decide +kernel, rfl⟩
theorem i4_10 : decode m4.2.1 10 = .ok (.arraylength, 1) ∧ 10 + 1 = 11 := ⟨by decide +kernel, rfl⟩
theorem i4_11 : decode m4.2.1 11 = .ok (.if_icmp .le 31, 3) ∧ 11 + 3 = 14 ∧ 0 ≤ ((11 : Nat) : Int) + 31 ∧ (((11 : Nat) : Int) + 31).toNat = 42 := ⟨by decide +kernel, rfl, by decide, by decide⟩
theorem i4_14 : decode m4.2.1 14 = .ok (.aload_n 0, 1) ∧ 14 + 1 = 15 := ⟨by decide +kernel, rfl⟩
theorem i4_15 : decode m4.2.1 15 = .ok (.aload_n 0, 1) ∧ 15 + 1 = 16 := ⟨by decide +kernel, rfl⟩
theorem i4_16 : decode m4.2.1 16 = .ok (.getfield 13, 3) ∧ 16 + 3 = 19 := ⟨by decide +kernel, rfl⟩
theorem i4_19 : decode m4.2.1 19 = .ok (.aload_n 0, 1) ∧ 19 + 1 = 20 := ⟨by decide +kernel, rfl⟩
theorem i4_20 : decode m4.2.1 20 = .ok (.getfield 13, 3) ∧ 20 + 3 = 23 := ⟨by decide +kernel, rfl⟩
theorem i4_23 : decode m4.2.1 23 = .ok (.arraylength, 1) ∧ 23 + 1 = 24 := ⟨by decide +kernel, rfl⟩
theorem i4_24 : decode m4.2.1 24 = .ok (.aload_n 0, 1) ∧ 24 + 1 = 25 := ⟨by decide +kernel, rfl⟩
theorem i4_25 : decode m4.2.1 25 = .ok (.getfield 16, 3) ∧ 25 + 3 = 28 := ⟨by decide +kernel, rfl⟩
theorem i4_28 : decode m4.2.1 28 = .ok (.i2l, 1) ∧ 28 + 1 = 29 := ⟨by decide +kernel, rfl⟩
theorem i4_29 : decode m4.2.1 29 = .ok (.ldc2_w 53, 3) ∧ 29 + 3 = 32 := ⟨by decide +kernel, rfl⟩
theorem i4_32 : decode m4.2.1 32 = .ok (.ladd, 1) ∧ 32 + 1 = 33 := ⟨by decide +kernel, rfl⟩
theorem i4_33 : decode m4.2.1 33 = .ok (.invokestatic 43, 3) ∧ 33 + 3 = 36 := ⟨by decide +kernel, rfl⟩
theorem i4_36 : decode m4.2.1 36 = .ok (.invokestatic 49, 3) ∧ 36 + 3 = 39 := ⟨by decide +kernel, rfl⟩
theorem i4_39 : decode m4.2.1 39 = .ok (.putfield 13, 3) ∧ 39 + 3 = 42 := ⟨by decide +kernel, rfl⟩
theorem i4_42 : decode m4.2.1 42 = .ok (.aload_n 0, 1) ∧ 42 + 1 = 43 := ⟨by decide +kernel, rfl⟩
theorem i4_43 : decode m4.2.1 43 = .ok (.getfield 13, 3) ∧ 43 + 3 = 46 := ⟨by decide +kernel, rfl⟩
theorem i4_46 : decode m4.2.1 46 = .ok (.aload_n 0, 1) ∧ 46 + 1 = 47 := ⟨by decide +kernel, rfl⟩
theorem i4_47 : decode m4.2.1 47 = .ok (.dup, 1) ∧ 47 + 1 = 48 := ⟨by decide +kernel, rfl⟩
theorem i4_48 : decode m4.2.1 48 = .ok (.getfield 16, 3) ∧ 48 + 3 = 51 := ⟨by decide +kernel, rfl⟩
theorem i4_51 : decode m4.2.1 51 = .ok (.iconst 1, 1) ∧ 51 + 1 = 52 ∧ Int32.ofInt 1 = 1 := ⟨by decide +kernel, rfl, by decide⟩
theorem i4_52 : decode m4.2.1 52 = .ok (.iadd, 1) ∧ 52 + 1 = 53 := ⟨by decide +kernel, rfl⟩
theorem i4_53 : decode m4.2.1 53 = .ok (.dup_x1, 1) ∧ 53 + 1 = 54 := ⟨by decide +kernel, rfl⟩
theorem i4_54 : decode m4.2.1 54 = .ok (.putfield 16, 3) ∧ 54 + 3 = 57 := ⟨by decide +kernel, rfl⟩
theorem i4_57 : decode m4.2.1 57 = .ok (.aload_n 0, 1) ∧ 57 + 1 = 58 := ⟨by decide +kernel, rfl⟩
theorem i4_58 : decode m4.2.1 58 = .ok (.getfield 40, 3) ∧ 58 + 3 = 61 := ⟨by decide +kernel, rfl⟩
theorem i4_61 : decode m4.2.1 61 = .ok (.iastore, 1) ∧ 61 + 1 = 62 := ⟨by decide +kernel, rfl⟩
theorem i4_62 : decode m4.2.1 62 = .ok (.return_, 1) := by decide +kernel
theorem i5_0 : decode m5.2.1 0 = .ok (.lload_n 1, 1) ∧ 0 + 1 = 1 := ⟨by decide +kernel, rfl⟩
theorem i5_1 : decode m5.2.1 1 = .ok (.ldc2_w 11, 3) ∧ 1 + 3 = 4 := ⟨by decide +kernel, rfl⟩
theorem i5_4 : decode m5.2.1 4 = .ok (.lcmp, 1) ∧ 4 + 1 = 5 := ⟨by decide +kernel, rfl⟩
theorem i5_5 : decode m5.2.1 5 = .ok (.ifCond .le 17, 3) ∧ 5 + 3 = 8 ∧ 0 ≤ ((5 : Nat) : Int) + 17 ∧ (((5 : Nat) : Int) + 17).toNat = 22 := ⟨by decide +kernel, rfl, by decide, by decide⟩
theorem i5_8 : decode m5.2.1 8 = .ok (.new 13, 3) ∧ 8 + 3 = 11 := ⟨by decide +kernel, rfl⟩
theorem i5_11 : decode m5.2.1 11 = .ok (.dup, 1) ∧ 11 + 1 = 12 := ⟨by decide +kernel, rfl⟩
theorem i5_12 : decode m5.2.1 12 = .ok (.lload_n 1, 1) ∧ 12 + 1 = 13 := ⟨by decide +kernel, rfl⟩
theorem i5_13 : decode m5.2.1 13 = .ok (.invokedynamic 15, 5) ∧ 13 + 5 = 18 := ⟨by decide +kernel, rfl⟩
theorem i5_18 : decode m5.2.1 18 = .ok (.invokespecial 19, 3) ∧ 18 + 3 = 21 := ⟨by decide +kernel, rfl⟩
theorem i5_21 : decode m5.2.1 21 = .ok (.athrow, 1) ∧ 21 + 1 = 22 := ⟨by decide +kernel, rfl⟩
theorem i5_22 : decode m5.2.1 22 = .ok (.lload_n 1, 1) ∧ 22 + 1 = 23 := ⟨by decide +kernel, rfl⟩
theorem i5_23 : decode m5.2.1 23 = .ok (.ldc2_w 11, 3) ∧ 23 + 3 = 26 := ⟨by decide +kernel, rfl⟩
theorem i5_26 : decode m5.2.1 26 = .ok (.ldc2_w 22, 3) ∧ 26 + 3 = 29 := ⟨by decide +kernel, rfl⟩
theorem i5_29 : decode m5.2.1 29 = .ok (.iload_n 0, 1) ∧ 29 + 1 = 30 := ⟨by decide +kernel, rfl⟩
theorem i5_30 : decode m5.2.1 30 = .ok (.i2l, 1) ∧ 30 + 1 = 31 := ⟨by decide +kernel, rfl⟩
theorem i5_31 : decode m5.2.1 31 = .ok (.lmul, 1) ∧ 31 + 1 = 32 := ⟨by decide +kernel, rfl⟩
theorem i5_32 : decode m5.2.1 32 = .ok (.invokestatic 24, 3) ∧ 32 + 3 = 35 := ⟨by decide +kernel, rfl⟩
theorem i5_35 : decode m5.2.1 35 = .ok (.invokestatic 30, 3) ∧ 35 + 3 = 38 := ⟨by decide +kernel, rfl⟩
theorem i5_38 : decode m5.2.1 38 = .ok (.l2i, 1) ∧ 38 + 1 = 39 := ⟨by decide +kernel, rfl⟩
theorem i5_39 : decode m5.2.1 39 = .ok (.ireturn, 1) := by decide +kernel
theorem i6_0 : decode m6.2.1 0 = .ok (.lload_n 0, 1) ∧ 0 + 1 = 1 := ⟨by decide +kernel, rfl⟩
theorem i6_1 : decode m6.2.1 1 = .ok (.lload_n 2, 1) ∧ 1 + 1 = 2 := ⟨by decide +kernel, rfl⟩
theorem i6_2 : decode m6.2.1 2 = .ok (.lcmp, 1) ∧ 2 + 1 = 3 := ⟨by decide +kernel, rfl⟩
theorem i6_3 : decode m6.2.1 3 = .ok (.ifCond .gt 7, 3) ∧ 3 + 3 = 6 ∧ 0 ≤ ((3 : Nat) : Int) + 7 ∧ (((3 : Nat) : Int) + 7).toNat = 10 := ⟨by decide +kernel, rfl, by decide, by decide⟩
theorem i6_6 : decode m6.2.1 6 = .ok (.lload_n 0, 1) ∧ 6 + 1 = 7 := ⟨by decide +kernel, rfl⟩
theorem i6_7 : decode m6.2.1 7 = .ok (.goto 4, 3) ∧ 7 + 3 = 10 ∧ 0 ≤ ((7 : Nat) : Int) + 4 ∧ (((7 : Nat) : Int) + 4).toNat = 11 := ⟨by decide +kernel, rfl, by decide, by decide⟩
theorem i6_10 : decode m6.2.1 10 = .ok (.lload_n 2, 1) ∧ 10 + 1 = 11 := ⟨by decide +kernel, rfl⟩
theorem i6_11 : decode m6.2.1 11 = .ok (.lreturn, 1) := by decide +kernel
theorem i7_0 : decode m7.2.1 0 = .ok (.lload_n 0, 1) ∧ 0 + 1 = 1 := ⟨by decide +kernel, rfl⟩
theorem i7_1 : decode m7.2.1 1 = .ok (.lload_n 2, 1) ∧ 1 + 1 = 2 := ⟨by decide +kernel, rfl⟩
theorem i7_2 : decode m7.2.1 2 = .ok (.lcmp, 1) ∧ 2 + 1 = 3 := ⟨by decide +kernel, rfl⟩
theorem i7_3 : decode m7.2.1 3 = .ok (.ifCond .lt 7, 3) ∧ 3 + 3 = 6 ∧ 0 ≤ ((3 : Nat) : Int) + 7 ∧ (((3 : Nat) : Int) + 7).toNat = 10 := ⟨by decide +kernel, rfl, by decide, by decide⟩
theorem i7_6 : decode m7.2.1 6 = .ok (.lload_n 0, 1) ∧ 6 + 1 = 7 := ⟨by decide +kernel, rfl⟩
theorem i7_7 : decode m7.2.1 7 = .ok (.goto 4, 3) ∧ 7 + 3 = 10 ∧ 0 ≤ ((7 : Nat) : Int) + 4 ∧ (((7 : Nat) : Int) + 4).toNat = 11 := ⟨by decide +kernel, rfl, by decide, by decide⟩
theorem i7_10 : decode m7.2.1 10 = .ok (.lload_n 2, 1) ∧ 10 + 1 = 11 := ⟨by decide +kernel, rfl⟩
theorem i7_11 : decode m7.2.1 11 = .ok (.lreturn, 1) := by decide +kernel
theorem i8_0 : decode m8.2.1 0 = .ok (.iload_n 1, 1) ∧ 0 + 1 = 1 := ⟨by decide +kernel, rfl⟩
theorem i8_1 : decode m8.2.1 1 = .ok (.aload_n 0, 1) ∧ 1 + 1 = 2 := ⟨by decide +kernel, rfl⟩
theorem i8_2 : decode m8.2.1 2 = .ok (.arraylength, 1) ∧ 2 + 1 = 3 := ⟨by decide +kernel, rfl⟩
theorem i8_3 : decode m8.2.1 3 = .ok (.if_icmp .ne 11, 3) ∧ 3 + 3 = 6 ∧ 0 ≤ ((3 : Nat) : Int) + 11 ∧ (((3 : Nat) : Int) + 11).toNat = 14 := ⟨by decide +kernel, rfl, by decide, by decide⟩
theorem i8_6 : decode m8.2.1 6 = .ok (.aload_n 0, 1) ∧ 6 + 1 = 7 := ⟨by decide +kernel, rfl⟩
theorem i8_7 : decode m8.2.1 7 = .ok (.invokevirtual 316, 3) ∧ 7 + 3 = 10 := ⟨by decide +kernel, rfl⟩
theorem i8_10 : decode m8.2.1 10 = .ok (.checkcast 317, 3) ∧ 10 + 3 = 13 := ⟨by decide +kernel, rfl⟩
theorem i8_13 : decode m8.2.1 13 = .ok (.areturn, 1) := by decide +kernel
theorem i8_14 : decode m8.2.1 14 = .ok (.iload_n 1, 1) ∧ 14 + 1 = 15 := ⟨by decide +kernel, rfl⟩
theorem i8_15 : decode m8.2.1 15 = .ok (.newarray .int, 2) ∧ 15 + 2 = 17 := ⟨by decide +kernel, rfl⟩
theorem i8_17 : decode m8.2.1 17 = .ok (.astore_n 2, 1) ∧ 17 + 1 = 18 := ⟨by decide +kernel, rfl⟩
theorem i8_18 : decode m8.2.1 18 = .ok (.aload_n 0, 1) ∧ 18 + 1 = 19 := ⟨by decide +kernel, rfl⟩
theorem i8_19 : decode m8.2.1 19 = .ok (.iconst 0, 1) ∧ 19 + 1 = 20 ∧ Int32.ofInt 0 = 0 := ⟨by decide +kernel, rfl, by decide⟩
theorem i8_20 : decode m8.2.1 20 = .ok (.aload_n 2, 1) ∧ 20 + 1 = 21 := ⟨by decide +kernel, rfl⟩
theorem i8_21 : decode m8.2.1 21 = .ok (.iconst 0, 1) ∧ 21 + 1 = 22 ∧ Int32.ofInt 0 = 0 := ⟨by decide +kernel, rfl, by decide⟩
theorem i8_22 : decode m8.2.1 22 = .ok (.aload_n 0, 1) ∧ 22 + 1 = 23 := ⟨by decide +kernel, rfl⟩
theorem i8_23 : decode m8.2.1 23 = .ok (.arraylength, 1) ∧ 23 + 1 = 24 := ⟨by decide +kernel, rfl⟩
theorem i8_24 : decode m8.2.1 24 = .ok (.iload_n 1, 1) ∧ 24 + 1 = 25 := ⟨by decide +kernel, rfl⟩
theorem i8_25 : decode m8.2.1 25 = .ok (.invokestatic 304, 3) ∧ 25 + 3 = 28 := ⟨by decide +kernel, rfl⟩
theorem i8_28 : decode m8.2.1 28 = .ok (.invokestatic 150, 3) ∧ 28 + 3 = 31 := ⟨by decide +kernel, rfl⟩
theorem i8_31 : decode m8.2.1 31 = .ok (.aload_n 2, 1) ∧ 31 + 1 = 32 := ⟨by decide +kernel, rfl⟩
theorem i8_32 : decode m8.2.1 32 = .ok (.areturn, 1) := by decide +kernel
theorem i9_0 : decode m9.2.1 0 = .ok (.iload_n 0, 1) ∧ 0 + 1 = 1 := ⟨by decide +kernel, rfl⟩
theorem i9_1 : decode m9.2.1 1 = .ok (.iload_n 1, 1) ∧ 1 + 1 = 2 := ⟨by decide +kernel, rfl⟩
theorem i9_2 : decode m9.2.1 2 = .ok (.if_icmp .gt 7, 3) ∧ 2 + 3 = 5 ∧ 0 ≤ ((2 : Nat) : Int) + 7 ∧ (((2 : Nat) : Int) + 7).toNat = 9 := ⟨by decide +kernel, rfl, by decide, by decide⟩
theorem i9_5 : decode m9.2.1 5 = .ok (.iload_n 0, 1) ∧ 5 + 1 = 6 := ⟨by decide +kernel, rfl⟩
theorem i9_6 : decode m9.2.1 6 = .ok (.goto 4, 3) ∧ 6 + 3 = 9 ∧ 0 ≤ ((6 : Nat) : Int) + 4 ∧ (((6 : Nat) : Int) + 4).toNat = 10 := ⟨by decide +kernel, rfl, by decide, by decide⟩
theorem i9_9 : decode m9.2.1 9 = .ok (.iload_n 1, 1) ∧ 9 + 1 = 10 := ⟨by decide +kernel, rfl⟩
theorem i9_10 : decode m9.2.1 10 = .ok (.ireturn, 1) := by decide +kernel
theorem i10_0 : decode m10.2.1 0 = .ok (.aload_n 0, 1) ∧ 0 + 1 = 1 := ⟨by decide +kernel, rfl⟩
theorem i10_1 : decode m10.2.1 1 = .ok (.getfield 16, 3) ∧ 1 + 3 = 4 := ⟨by decide +kernel, rfl⟩
theorem i10_4 : decode m10.2.1 4 = .ok (.newarray .long, 2) ∧ 4 + 2 = 6 := ⟨by decide +kernel, rfl⟩
theorem i10_6 : decode m10.2.1 6 = .ok (.astore_n 1, 1) ∧ 6 + 1 = 7 := ⟨by decide +kernel, rfl⟩
theorem i10_7 : decode m10.2.1 7 = .ok (.iconst 0, 1) ∧ 7 + 1 = 8 ∧ Int32.ofInt 0 = 0 := ⟨by decide +kernel, rfl, by decide⟩
theorem i10_8 : decode m10.2.1 8 = .ok (.istore_n 2, 1) ∧ 8 + 1 = 9 := ⟨by decide +kernel, rfl⟩
theorem i10_9 : decode m10.2.1 9 = .ok (.iload_n 2, 1) ∧ 9 + 1 = 10 := ⟨by decide +kernel, rfl⟩
theorem i10_10 : decode m10.2.1 10 = .ok (.aload_n 0, 1) ∧ 10 + 1 = 11 := ⟨by decide +kernel, rfl⟩
theorem i10_11 : decode m10.2.1 11 = .ok (.getfield 16, 3) ∧ 11 + 3 = 14 := ⟨by decide +kernel, rfl⟩
theorem i10_14 : decode m10.2.1 14 = .ok (.if_icmp .ge 48, 3) ∧ 14 + 3 = 17 ∧ 0 ≤ ((14 : Nat) : Int) + 48 ∧ (((14 : Nat) : Int) + 48).toNat = 62 := ⟨by decide +kernel, rfl, by decide, by decide⟩
theorem i10_17 : decode m10.2.1 17 = .ok (.aload_n 0, 1) ∧ 17 + 1 = 18 := ⟨by decide +kernel, rfl⟩
theorem i10_18 : decode m10.2.1 18 = .ok (.getfield 13, 3) ∧ 18 + 3 = 21 := ⟨by decide +kernel, rfl⟩
theorem i10_21 : decode m10.2.1 21 = .ok (.iload_n 2, 1) ∧ 21 + 1 = 22 := ⟨by decide +kernel, rfl⟩
theorem i10_22 : decode m10.2.1 22 = .ok (.iaload, 1) ∧ 22 + 1 = 23 := ⟨by decide +kernel, rfl⟩
theorem i10_23 : decode m10.2.1 23 = .ok (.istore_n 3, 1) ∧ 23 + 1 = 24 := ⟨by decide +kernel, rfl⟩
theorem i10_24 : decode m10.2.1 24 = .ok (.iload_n 3, 1) ∧ 24 + 1 = 25 := ⟨by decide +kernel, rfl⟩
theorem i10_25 : decode m10.2.1 25 = .ok (.aload_n 0, 1) ∧ 25 + 1 = 26 := ⟨by decide +kernel, rfl⟩
theorem i10_26 : decode m10.2.1 26 = .ok (.getfield 13, 3) ∧ 26 + 3 = 29 := ⟨by decide +kernel, rfl⟩
theorem i10_29 : decode m10.2.1 29 = .ok (.iload_n 2, 1) ∧ 29 + 1 = 30 := ⟨by decide +kernel, rfl⟩
theorem i10_30 : decode m10.2.1 30 = .ok (.iconst 1, 1) ∧ 30 + 1 = 31 ∧ Int32.ofInt 1 = 1 := ⟨by decide +kernel, rfl, by decide⟩
theorem i10_31 : decode m10.2.1 31 = .ok (.iadd, 1) ∧ 31 + 1 = 32 := ⟨by decide +kernel, rfl⟩
theorem i10_32 : decode m10.2.1 32 = .ok (.iaload, 1) ∧ 32 + 1 = 33 := ⟨by decide +kernel, rfl⟩
theorem i10_33 : decode m10.2.1 33 = .ok (.if_icmp .ge 23, 3) ∧ 33 + 3 = 36 ∧ 0 ≤ ((33 : Nat) : Int) + 23 ∧ (((33 : Nat) : Int) + 23).toNat = 56 := ⟨by decide +kernel, rfl, by decide, by decide⟩
theorem i10_36 : decode m10.2.1 36 = .ok (.aload_n 1, 1) ∧ 36 + 1 = 37 := ⟨by decide +kernel, rfl⟩
theorem i10_37 : decode m10.2.1 37 = .ok (.iload_n 2, 1) ∧ 37 + 1 = 38 := ⟨by decide +kernel, rfl⟩
theorem i10_38 : decode m10.2.1 38 = .ok (.dup2, 1) ∧ 38 + 1 = 39 := ⟨by decide +kernel, rfl⟩
theorem i10_39 : decode m10.2.1 39 = .ok (.laload, 1) ∧ 39 + 1 = 40 := ⟨by decide +kernel, rfl⟩
theorem i10_40 : decode m10.2.1 40 = .ok (.lconst 1, 1) ∧ 40 + 1 = 41 ∧ Int64.ofNat ((1 : Fin 2) : Nat) = 1 := ⟨by decide +kernel, rfl, by decide⟩
theorem i10_41 : decode m10.2.1 41 = .ok (.aload_n 0, 1) ∧ 41 + 1 = 42 := ⟨by decide +kernel, rfl⟩
theorem i10_42 : decode m10.2.1 42 = .ok (.getfield 7, 3) ∧ 42 + 3 = 45 := ⟨by decide +kernel, rfl⟩
theorem i10_45 : decode m10.2.1 45 = .ok (.iload_n 3, 1) ∧ 45 + 1 = 46 := ⟨by decide +kernel, rfl⟩
theorem i10_46 : decode m10.2.1 46 = .ok (.iaload, 1) ∧ 46 + 1 = 47 := ⟨by decide +kernel, rfl⟩
theorem i10_47 : decode m10.2.1 47 = .ok (.lshl, 1) ∧ 47 + 1 = 48 := ⟨by decide +kernel, rfl⟩
theorem i10_48 : decode m10.2.1 48 = .ok (.lor, 1) ∧ 48 + 1 = 49 := ⟨by decide +kernel, rfl⟩
theorem i10_49 : decode m10.2.1 49 = .ok (.lastore, 1) ∧ 49 + 1 = 50 := ⟨by decide +kernel, rfl⟩
theorem i10_50 : decode m10.2.1 50 = .ok (.iinc 3 1, 3) ∧ 50 + 3 = 53 ∧ Int32.ofInt 1 = 1 := ⟨by decide +kernel, rfl, by decide⟩
theorem i10_53 : decode m10.2.1 53 = .ok (.goto (-29), 3) ∧ 53 + 3 = 56 ∧ 0 ≤ ((53 : Nat) : Int) + (-29) ∧ (((53 : Nat) : Int) + (-29)).toNat = 24 := ⟨by decide +kernel, rfl, by decide, by decide⟩
theorem i10_56 : decode m10.2.1 56 = .ok (.iinc 2 1, 3) ∧ 56 + 3 = 59 ∧ Int32.ofInt 1 = 1 := ⟨by decide +kernel, rfl, by decide⟩
theorem i10_59 : decode m10.2.1 59 = .ok (.goto (-50), 3) ∧ 59 + 3 = 62 ∧ 0 ≤ ((59 : Nat) : Int) + (-50) ∧ (((59 : Nat) : Int) + (-50)).toNat = 9 := ⟨by decide +kernel, rfl, by decide, by decide⟩
theorem i10_62 : decode m10.2.1 62 = .ok (.aload_n 1, 1) ∧ 62 + 1 = 63 := ⟨by decide +kernel, rfl⟩
theorem i10_63 : decode m10.2.1 63 = .ok (.areturn, 1) := by decide +kernel
theorem i11_0 : decode m11.2.1 0 = .ok (.iload_n 3, 1) ∧ 0 + 1 = 1 := ⟨by decide +kernel, rfl⟩
theorem i11_1 : decode m11.2.1 1 = .ok (.iload_n 2, 1) ∧ 1 + 1 = 2 := ⟨by decide +kernel, rfl⟩
theorem i11_2 : decode m11.2.1 2 = .ok (.if_icmp .ge 13, 3) ∧ 2 + 3 = 5 ∧ 0 ≤ ((2 : Nat) : Int) + 13 ∧ (((2 : Nat) : Int) + 13).toNat = 15 := ⟨by decide +kernel, rfl, by decide, by decide⟩
theorem i11_5 : decode m11.2.1 5 = .ok (.aload_n 0, 1) ∧ 5 + 1 = 6 := ⟨by decide +kernel, rfl⟩
theorem i11_6 : decode m11.2.1 6 = .ok (.iload_n 3, 1) ∧ 6 + 1 = 7 := ⟨by decide +kernel, rfl⟩
theorem i11_7 : decode m11.2.1 7 = .ok (.laload, 1) ∧ 7 + 1 = 8 := ⟨by decide +kernel, rfl⟩
theorem i11_8 : decode m11.2.1 8 = .ok (.aload_n 1, 1) ∧ 8 + 1 = 9 := ⟨by decide +kernel, rfl⟩
theorem i11_9 : decode m11.2.1 9 = .ok (.iload_n 3, 1) ∧ 9 + 1 = 10 := ⟨by decide +kernel, rfl⟩
theorem i11_10 : decode m11.2.1 10 = .ok (.laload, 1) ∧ 10 + 1 = 11 := ⟨by decide +kernel, rfl⟩
theorem i11_11 : decode m11.2.1 11 = .ok (.lcmp, 1) ∧ 11 + 1 = 12 := ⟨by decide +kernel, rfl⟩
theorem i11_12 : decode m11.2.1 12 = .ok (.ifCond .ne 7, 3) ∧ 12 + 3 = 15 ∧ 0 ≤ ((12 : Nat) : Int) + 7 ∧ (((12 : Nat) : Int) + 7).toNat = 19 := ⟨by decide +kernel, rfl, by decide, by decide⟩
theorem i11_15 : decode m11.2.1 15 = .ok (.iconst 1, 1) ∧ 15 + 1 = 16 ∧ Int32.ofInt 1 = 1 := ⟨by decide +kernel, rfl, by decide⟩
theorem i11_16 : decode m11.2.1 16 = .ok (.goto 4, 3) ∧ 16 + 3 = 19 ∧ 0 ≤ ((16 : Nat) : Int) + 4 ∧ (((16 : Nat) : Int) + 4).toNat = 20 := ⟨by decide +kernel, rfl, by decide, by decide⟩
theorem i11_19 : decode m11.2.1 19 = .ok (.iconst 0, 1) ∧ 19 + 1 = 20 ∧ Int32.ofInt 0 = 0 := ⟨by decide +kernel, rfl, by decide⟩
theorem i11_20 : decode m11.2.1 20 = .ok (.ireturn, 1) := by decide +kernel
theorem i12_0 : decode m12.2.1 0 = .ok (.aload_n 0, 1) ∧ 0 + 1 = 1 := ⟨by decide +kernel, rfl⟩
theorem i12_1 : decode m12.2.1 1 = .ok (.getfield 40, 3) ∧ 1 + 3 = 4 := ⟨by decide +kernel, rfl⟩
theorem i12_4 : decode m12.2.1 4 = .ok (.aload_n 0, 1) ∧ 4 + 1 = 5 := ⟨by decide +kernel, rfl⟩
theorem i12_5 : decode m12.2.1 5 = .ok (.getfield 7, 3) ∧ 5 + 3 = 8 := ⟨by decide +kernel, rfl⟩
theorem i12_8 : decode m12.2.1 8 = .ok (.arraylength, 1) ∧ 8 + 1 = 9 := ⟨by decide +kernel, rfl⟩
theorem i12_9 : decode m12.2.1 9 = .ok (.if_icmp .ne 29, 3) ∧ 9 + 3 = 12 ∧ 0 ≤ ((9 : Nat) : Int) + 29 ∧ (((9 : Nat) : Int) + 29).toNat = 38 := ⟨by decide +kernel, rfl, by decide, by decide⟩
theorem i12_12 : decode m12.2.1 12 = .ok (.aload_n 0, 1) ∧ 12 + 1 = 13 := ⟨by decide +kernel, rfl⟩
theorem i12_13 : decode m12.2.1 13 = .ok (.aload_n 0, 1) ∧ 13 + 1 = 14 := ⟨by decide +kernel, rfl⟩
theorem i12_14 : decode m12.2.1 14 = .ok (.getfield 7, 3) ∧ 14 + 3 = 17 := ⟨by decide +kernel, rfl⟩
theorem i12_17 : decode m12.2.1 17 = .ok (.aload_n 0, 1) ∧ 17 + 1 = 18 := ⟨by decide +kernel, rfl⟩
theorem i12_18 : decode m12.2.1 18 = .ok (.getfield 7, 3) ∧ 18 + 3 = 21 := ⟨by decide +kernel, rfl⟩
theorem i12_21 : decode m12.2.1 21 = .ok (.arraylength, 1) ∧ 21 + 1 = 22 := ⟨by decide +kernel, rfl⟩
theorem i12_22 : decode m12.2.1 22 = .ok (.aload_n 0, 1) ∧ 22 + 1 = 23 := ⟨by decide +kernel, rfl⟩
theorem i12_23 : decode m12.2.1 23 = .ok (.getfield 40, 3) ∧ 23 + 3 = 26 := ⟨by decide +kernel, rfl⟩
theorem i12_26 : decode m12.2.1 26 = .ok (.i2l, 1) ∧ 26 + 1 = 27 := ⟨by decide +kernel, rfl⟩
theorem i12_27 : decode m12.2.1 27 = .ok (.lconst 1, 1) ∧ 27 + 1 = 28 ∧ Int64.ofNat ((1 : Fin 2) : Nat) = 1 := ⟨by decide +kernel, rfl, by decide⟩
theorem i12_28 : decode m12.2.1 28 = .ok (.ladd, 1) ∧ 28 + 1 = 29 := ⟨by decide +kernel, rfl⟩
theorem i12_29 : decode m12.2.1 29 = .ok (.invokestatic 43, 3) ∧ 29 + 3 = 32 := ⟨by decide +kernel, rfl⟩
theorem i12_32 : decode m12.2.1 32 = .ok (.invokestatic 49, 3) ∧ 32 + 3 = 35 := ⟨by decide +kernel, rfl⟩
theorem i12_35 : decode m12.2.1 35 = .ok (.putfield 7, 3) ∧ 35 + 3 = 38 := ⟨by decide +kernel, rfl⟩
theorem i12_38 : decode m12.2.1 38 = .ok (.aload_n 0, 1) ∧ 38 + 1 = 39 := ⟨by decide +kernel, rfl⟩
theorem i12_39 : decode m12.2.1 39 = .ok (.getfield 7, 3) ∧ 39 + 3 = 42 := ⟨by decide +kernel, rfl⟩
theorem i12_42 : decode m12.2.1 42 = .ok (.aload_n 0, 1) ∧ 42 + 1 = 43 := ⟨by decide +kernel, rfl⟩
theorem i12_43 : decode m12.2.1 43 = .ok (.dup, 1) ∧ 43 + 1 = 44 := ⟨by decide +kernel, rfl⟩
theorem i12_44 : decode m12.2.1 44 = .ok (.getfield 40, 3) ∧ 44 + 3 = 47 := ⟨by decide +kernel, rfl⟩
theorem i12_47 : decode m12.2.1 47 = .ok (.dup_x1, 1) ∧ 47 + 1 = 48 := ⟨by decide +kernel, rfl⟩
theorem i12_48 : decode m12.2.1 48 = .ok (.iconst 1, 1) ∧ 48 + 1 = 49 ∧ Int32.ofInt 1 = 1 := ⟨by decide +kernel, rfl, by decide⟩
theorem i12_49 : decode m12.2.1 49 = .ok (.iadd, 1) ∧ 49 + 1 = 50 := ⟨by decide +kernel, rfl⟩
theorem i12_50 : decode m12.2.1 50 = .ok (.putfield 40, 3) ∧ 50 + 3 = 53 := ⟨by decide +kernel, rfl⟩
theorem i12_53 : decode m12.2.1 53 = .ok (.iload_n 1, 1) ∧ 53 + 1 = 54 := ⟨by decide +kernel, rfl⟩
theorem i12_54 : decode m12.2.1 54 = .ok (.iastore, 1) ∧ 54 + 1 = 55 := ⟨by decide +kernel, rfl⟩
theorem i12_55 : decode m12.2.1 55 = .ok (.return_, 1) := by decide +kernel
theorem s0_0 {l : Launch} {Z : State} {a0 : Array Value} {n0 : Nat} {ls : List Slot} {st : List Value} {H H' H1 : List Ob} {v : Option Value} (hw : HW Z a0) {a : Nat} (ha : H.length = a) (hH : H ++ [.inl (0, [.null, .null, .int 0, .int 0])] = H1) (kk : Runs K l Z n0 m0 3 ls (.ref a :: st) H1 v H') : Runs K l Z n0 m0 0 ls st H v H' := r_new (cid := 0) (kok hw) i0_0 (hw _ (List.mem_of_getElem? (i := 0) rfl)) (hw _ (List.mem_of_getElem? (i := 2) rfl)) rfl rfl ha hH kk
theorem s0_12 {l : Launch} {Z : State} {a0 : Array Value} {n0 : Nat} {ls : List Slot} {st : List Value} {H H' H1 : List Ob} {v : Option Value} (hw : HW Z a0) {a : Nat} {x0 x1 : Value} (M : Meets K l Z n0 m1 [.ref a, x0, x1] H none H1) (hls : ls.length = 10) (hlo : (st.map fun v => v.category).sum ≤ 40) (kk : Runs K l Z n0 m0 15 ls st H1 v H') : Runs K l Z n0 m0 12 ls (x1 :: x0 :: .ref a :: st) H v H' := r_special (mj := m1) (as := [x0, x1]) (rest := st) i0_12 rfl rfl (hw _ (List.mem_of_getElem? (i := 3) rfl)) (hw _ (List.mem_of_getElem? (i := 4) rfl)) (hw _ (List.mem_of_getElem? (i := 2) rfl)) (hw _ (List.mem_of_getElem? (i := 5) rfl)) (by decide) (lenOf pd1 rfl) (by decide) rfl hls (by show _ + (3 + 11) + 12 ≤ 66; omega) M kk
theorem s0_19 {l : Launch} {Z : State} {a0 : Array Value} {n0 : Nat} {ls : List Slot} {st : List Value} {H H' H1 : List Ob} {v : Option Value} (hw : HW Z a0) {a : Nat} {n : Int32} {o : List Value} (hn : ¬ n < 0) (h8 : n.toNatClampNeg * 8 ≤ 536870912) (ho : List.replicate n.toNatClampNeg (.long 0) = o) (ha : H.length = a) (hH : H ++ [.inr (.long, o)] = H1) (kk : Runs K l Z n0 m0 21 ls (.ref a :: st) H1 v H') : Runs K l Z n0 m0 19 ls (.int n :: st) H v H' := r_newA i0_19 (hw _ (List.mem_of_getElem? (i := 14) rfl)) hn h8 ho ha hH kk
theorem s0_24 {l : Launch} {Z : State} {a0 : Array Value} {n0 : Nat} {ls : List Slot} {st : List Value} {H H' H1 : List Ob} {v : Option Value} (hw : HW Z a0) {a : Nat} {n : Int32} {o : List Value} (hn : ¬ n < 0) (h8 : n.toNatClampNeg * 8 ≤ 536870912) (ho : List.replicate n.toNatClampNeg (.int 0) = o) (ha : H.length = a) (hH : H ++ [.inr (.int, o)] = H1) (kk : Runs K l Z n0 m0 26 ls (.ref a :: st) H1 v H') : Runs K l Z n0 m0 24 ls (.int n :: st) H v H' := r_newA i0_24 (hw _ (List.mem_of_getElem? (i := 9) rfl)) hn h8 ho ha hH kk
theorem s0_29 {l : Launch} {Z : State} {a0 : Array Value} {n0 : Nat} {ls : List Slot} {st : List Value} {H H' H1 : List Ob} {v : Option Value} (hw : HW Z a0) {a : Nat} {n : Int32} {o : List Value} (hn : ¬ n < 0) (h8 : n.toNatClampNeg * 8 ≤ 536870912) (ho : List.replicate n.toNatClampNeg (.long 0) = o) (ha : H.length = a) (hH : H ++ [.inr (.long, o)] = H1) (kk : Runs K l Z n0 m0 31 ls (.ref a :: st) H1 v H') : Runs K l Z n0 m0 29 ls (.int n :: st) H v H' := r_newA i0_29 (hw _ (List.mem_of_getElem? (i := 14) rfl)) hn h8 ho ha hH kk
theorem s0_44 {l : Launch} {Z : State} {a0 : Array Value} {n0 : Nat} {ls : List Slot} {st : List Value} {H H' H1 : List Ob} {v : Option Value} (hw : HW Z a0) {x0 x1 x2 x3 x4 x5 x6 : Value} (M : Meets K l Z n0 m3 [x0, x1, x2, x3, x4, x5, x6] H none H1) (hls : ls.length = 10) (hlo : (st.map fun v => v.category).sum ≤ 0) (kk : Runs K l Z n0 m0 47 ls st H1 v H') : Runs K l Z n0 m0 44 ls (x6 :: x5 :: x4 :: x3 :: x2 :: x1 :: x0 :: st) H v H' := r_static (mj := m3) (as := [x0, x1, x2, x3, x4, x5, x6]) (rest := st) i0_44 (hw _ (List.mem_of_getElem? (i := 15) rfl)) (hw _ (List.mem_of_getElem? (i := 16) rfl)) (hw _ (List.mem_of_getElem? (i := 17) rfl)) (hw _ (List.mem_of_getElem? (i := 18) rfl)) (by decide) (lenOf pd3 rfl) (by decide) rfl hls (by show _ + (9 + 11) + 46 ≤ 66; omega) M kk
theorem s0_58 {l : Launch} {Z : State} {a0 : Array Value} {n0 : Nat} {ls : List Slot} {st : List Value} {H H' H1 : List Ob} {v : Option Value} (hw : HW Z a0) {x0 x1 x2 x3 x4 x5 x6 : Value} (M : Meets K l Z n0 m3 [x0, x1, x2, x3, x4, x5, x6] H none H1) (hls : ls.length = 10) (hlo : (st.map fun v => v.category).sum ≤ 0) (kk : Runs K l Z n0 m0 61 ls st H1 v H') : Runs K l Z n0 m0 58 ls (x6 :: x5 :: x4 :: x3 :: x2 :: x1 :: x0 :: st) H v H' := r_static (mj := m3) (as := [x0, x1, x2, x3, x4, x5, x6]) (rest := st) i0_58 (hw _ (List.mem_of_getElem? (i := 15) rfl)) (hw _ (List.mem_of_getElem? (i := 16) rfl)) (hw _ (List.mem_of_getElem? (i := 17) rfl)) (hw _ (List.mem_of_getElem? (i := 18) rfl)) (by decide) (lenOf pd3 rfl) (by decide) rfl hls (by show _ + (9 + 11) + 46 ≤ 66; omega) M kk
theorem s0_72 {l : Launch} {Z : State} {a0 : Array Value} {n0 : Nat} {ls : List Slot} {st : List Value} {H H' H1 : List Ob} {v : Option Value} (hw : HW Z a0) {x0 x1 x2 x3 x4 x5 x6 : Value} (M : Meets K l Z n0 m3 [x0, x1, x2, x3, x4, x5, x6] H none H1) (hls : ls.length = 10) (hlo : (st.map fun v => v.category).sum ≤ 0) (kk : Runs K l Z n0 m0 75 ls st H1 v H') : Runs K l Z n0 m0 72 ls (x6 :: x5 :: x4 :: x3 :: x2 :: x1 :: x0 :: st) H v H' := r_static (mj := m3) (as := [x0, x1, x2, x3, x4, x5, x6]) (rest := st) i0_72 (hw _ (List.mem_of_getElem? (i := 15) rfl)) (hw _ (List.mem_of_getElem? (i := 16) rfl)) (hw _ (List.mem_of_getElem? (i := 17) rfl)) (hw _ (List.mem_of_getElem? (i := 18) rfl)) (by decide) (lenOf pd3 rfl) (by decide) rfl hls (by show _ + (9 + 11) + 46 ≤ 66; omega) M kk
theorem s0_86 {l : Launch} {Z : State} {a0 : Array Value} {n0 : Nat} {ls : List Slot} {st : List Value} {H H' H1 : List Ob} {v : Option Value} (hw : HW Z a0) {x0 x1 x2 x3 x4 x5 x6 : Value} (M : Meets K l Z n0 m3 [x0, x1, x2, x3, x4, x5, x6] H none H1) (hls : ls.length = 10) (hlo : (st.map fun v => v.category).sum ≤ 0) (kk : Runs K l Z n0 m0 89 ls st H1 v H') : Runs K l Z n0 m0 86 ls (x6 :: x5 :: x4 :: x3 :: x2 :: x1 :: x0 :: st) H v H' := r_static (mj := m3) (as := [x0, x1, x2, x3, x4, x5, x6]) (rest := st) i0_86 (hw _ (List.mem_of_getElem? (i := 15) rfl)) (hw _ (List.mem_of_getElem? (i := 16) rfl)) (hw _ (List.mem_of_getElem? (i := 17) rfl)) (hw _ (List.mem_of_getElem? (i := 18) rfl)) (by decide) (lenOf pd3 rfl) (by decide) rfl hls (by show _ + (9 + 11) + 46 ≤ 66; omega) M kk
theorem s0_100 {l : Launch} {Z : State} {a0 : Array Value} {n0 : Nat} {ls : List Slot} {st : List Value} {H H' H1 : List Ob} {v : Option Value} (hw : HW Z a0) {x0 x1 x2 x3 x4 x5 x6 : Value} (M : Meets K l Z n0 m3 [x0, x1, x2, x3, x4, x5, x6] H none H1) (hls : ls.length = 10) (hlo : (st.map fun v => v.category).sum ≤ 0) (kk : Runs K l Z n0 m0 103 ls st H1 v H') : Runs K l Z n0 m0 100 ls (x6 :: x5 :: x4 :: x3 :: x2 :: x1 :: x0 :: st) H v H' := r_static (mj := m3) (as := [x0, x1, x2, x3, x4, x5, x6]) (rest := st) i0_100 (hw _ (List.mem_of_getElem? (i := 15) rfl)) (hw _ (List.mem_of_getElem? (i := 16) rfl)) (hw _ (List.mem_of_getElem? (i := 17) rfl)) (hw _ (List.mem_of_getElem? (i := 18) rfl)) (by decide) (lenOf pd3 rfl) (by decide) rfl hls (by show _ + (9 + 11) + 46 ≤ 66; omega) M kk
theorem s0_114 {l : Launch} {Z : State} {a0 : Array Value} {n0 : Nat} {ls : List Slot} {st : List Value} {H H' H1 : List Ob} {v : Option Value} (hw : HW Z a0) {x0 x1 x2 x3 x4 x5 x6 : Value} (M : Meets K l Z n0 m3 [x0, x1, x2, x3, x4, x5, x6] H none H1) (hls : ls.length = 10) (hlo : (st.map fun v => v.category).sum ≤ 0) (kk : Runs K l Z n0 m0 117 ls st H1 v H') : Runs K l Z n0 m0 114 ls (x6 :: x5 :: x4 :: x3 :: x2 :: x1 :: x0 :: st) H v H' := r_static (mj := m3) (as := [x0, x1, x2, x3, x4, x5, x6]) (rest := st) i0_114 (hw _ (List.mem_of_getElem? (i := 15) rfl)) (hw _ (List.mem_of_getElem? (i := 16) rfl)) (hw _ (List.mem_of_getElem? (i := 17) rfl)) (hw _ (List.mem_of_getElem? (i := 18) rfl)) (by decide) (lenOf pd3 rfl) (by decide) rfl hls (by show _ + (9 + 11) + 46 ≤ 66; omega) M kk
theorem s0_129 {l : Launch} {Z : State} {a0 : Array Value} {n0 : Nat} {ls : List Slot} {st : List Value} {H H' H1 : List Ob} {v : Option Value} (hw : HW Z a0) {x0 x1 x2 x3 x4 x5 x6 : Value} (M : Meets K l Z n0 m3 [x0, x1, x2, x3, x4, x5, x6] H none H1) (hls : ls.length = 10) (hlo : (st.map fun v => v.category).sum ≤ 0) (kk : Runs K l Z n0 m0 132 ls st H1 v H') : Runs K l Z n0 m0 129 ls (x6 :: x5 :: x4 :: x3 :: x2 :: x1 :: x0 :: st) H v H' := r_static (mj := m3) (as := [x0, x1, x2, x3, x4, x5, x6]) (rest := st) i0_129 (hw _ (List.mem_of_getElem? (i := 15) rfl)) (hw _ (List.mem_of_getElem? (i := 16) rfl)) (hw _ (List.mem_of_getElem? (i := 17) rfl)) (hw _ (List.mem_of_getElem? (i := 18) rfl)) (by decide) (lenOf pd3 rfl) (by decide) rfl hls (by show _ + (9 + 11) + 46 ≤ 66; omega) M kk
theorem s0_134 {l : Launch} {Z : State} {a0 : Array Value} {n0 : Nat} {ls : List Slot} {st : List Value} {H H' H1 : List Ob} {v : Option Value} (hw : HW Z a0) {a : Nat} {vs : List Value} {w : Value} (ho : H[a]? = some (.inl (0, vs))) (M : Meets K l Z n0 m10 [.ref a] H (some w) H1) (hls : ls.length = 10) (hlo : (st.map fun v => v.category).sum ≤ 51) (kk : Runs K l Z n0 m0 137 ls (w :: st) H1 v H') : Runs K l Z n0 m0 134 ls (.ref a :: st) H v H' := r_virtual (mj := m10) (cid := 0) (as := []) (rest := st) i0_134 (hw _ (List.mem_of_getElem? (i := 54) rfl)) (hw _ (List.mem_of_getElem? (i := 55) rfl)) (hw _ (List.mem_of_getElem? (i := 57) rfl)) (hw _ (List.mem_of_getElem? (i := 56) rfl)) (hw _ (List.mem_of_getElem? (i := 2) rfl)) (hw _ (List.mem_of_getElem? (i := 58) rfl)) (by decide) (lenOf pd10 rfl) (by decide) rfl rfl ho hls (by show _ + (4 + 11) + 0 ≤ 66; omega) M kk
theorem s0_162 {l : Launch} {Z : State} {a0 : Array Value} {n0 : Nat} {ls : List Slot} {st : List Value} {H H' H1 : List Ob} {v : Option Value} (hw : HW Z a0) {x0 x1 x2 x3 : Value} {w : Value} (M : Meets K l Z n0 m11 [x0, x1, x2, x3] H (some w) H1) (hls : ls.length = 10) (hlo : (st.map fun v => v.category).sum ≤ 51) (kk : Runs K l Z n0 m0 165 ls (w :: st) H1 v H') : Runs K l Z n0 m0 162 ls (x3 :: x2 :: x1 :: x0 :: st) H v H' := r_static (mj := m11) (as := [x0, x1, x2, x3]) (rest := st) i0_162 (hw _ (List.mem_of_getElem? (i := 59) rfl)) (hw _ (List.mem_of_getElem? (i := 60) rfl)) (hw _ (List.mem_of_getElem? (i := 17) rfl)) (hw _ (List.mem_of_getElem? (i := 61) rfl)) (by decide) (lenOf pd11 rfl) (by decide) rfl hls (by show _ + (4 + 11) + 0 ≤ 66; omega) M kk
theorem s0_175 {l : Launch} {Z : State} {a0 : Array Value} {n0 : Nat} {ls : List Slot} {st : List Value} {H H' H1 : List Ob} {v : Option Value} (hw : HW Z a0) {x0 x1 x2 x3 : Value} {w : Value} (M : Meets K l Z n0 m11 [x0, x1, x2, x3] H (some w) H1) (hls : ls.length = 10) (hlo : (st.map fun v => v.category).sum ≤ 51) (kk : Runs K l Z n0 m0 178 ls (w :: st) H1 v H') : Runs K l Z n0 m0 175 ls (x3 :: x2 :: x1 :: x0 :: st) H v H' := r_static (mj := m11) (as := [x0, x1, x2, x3]) (rest := st) i0_175 (hw _ (List.mem_of_getElem? (i := 59) rfl)) (hw _ (List.mem_of_getElem? (i := 60) rfl)) (hw _ (List.mem_of_getElem? (i := 17) rfl)) (hw _ (List.mem_of_getElem? (i := 61) rfl)) (by decide) (lenOf pd11 rfl) (by decide) rfl hls (by show _ + (4 + 11) + 0 ≤ 66; omega) M kk
theorem s0_188 {l : Launch} {Z : State} {a0 : Array Value} {n0 : Nat} {ls : List Slot} {st : List Value} {H H' H1 : List Ob} {v : Option Value} (hw : HW Z a0) {x0 x1 x2 x3 : Value} {w : Value} (M : Meets K l Z n0 m11 [x0, x1, x2, x3] H (some w) H1) (hls : ls.length = 10) (hlo : (st.map fun v => v.category).sum ≤ 51) (kk : Runs K l Z n0 m0 191 ls (w :: st) H1 v H') : Runs K l Z n0 m0 188 ls (x3 :: x2 :: x1 :: x0 :: st) H v H' := r_static (mj := m11) (as := [x0, x1, x2, x3]) (rest := st) i0_188 (hw _ (List.mem_of_getElem? (i := 59) rfl)) (hw _ (List.mem_of_getElem? (i := 60) rfl)) (hw _ (List.mem_of_getElem? (i := 17) rfl)) (hw _ (List.mem_of_getElem? (i := 61) rfl)) (by decide) (lenOf pd11 rfl) (by decide) rfl hls (by show _ + (4 + 11) + 0 ≤ 66; omega) M kk
theorem s0_201 {l : Launch} {Z : State} {a0 : Array Value} {n0 : Nat} {ls : List Slot} {st : List Value} {H H' H1 : List Ob} {v : Option Value} (hw : HW Z a0) {x0 x1 x2 x3 : Value} {w : Value} (M : Meets K l Z n0 m11 [x0, x1, x2, x3] H (some w) H1) (hls : ls.length = 10) (hlo : (st.map fun v => v.category).sum ≤ 51) (kk : Runs K l Z n0 m0 204 ls (w :: st) H1 v H') : Runs K l Z n0 m0 201 ls (x3 :: x2 :: x1 :: x0 :: st) H v H' := r_static (mj := m11) (as := [x0, x1, x2, x3]) (rest := st) i0_201 (hw _ (List.mem_of_getElem? (i := 59) rfl)) (hw _ (List.mem_of_getElem? (i := 60) rfl)) (hw _ (List.mem_of_getElem? (i := 17) rfl)) (hw _ (List.mem_of_getElem? (i := 61) rfl)) (by decide) (lenOf pd11 rfl) (by decide) rfl hls (by show _ + (4 + 11) + 0 ≤ 66; omega) M kk
theorem s0_214 {l : Launch} {Z : State} {a0 : Array Value} {n0 : Nat} {ls : List Slot} {st : List Value} {H H' H1 : List Ob} {v : Option Value} (hw : HW Z a0) {x0 x1 x2 x3 : Value} {w : Value} (M : Meets K l Z n0 m11 [x0, x1, x2, x3] H (some w) H1) (hls : ls.length = 10) (hlo : (st.map fun v => v.category).sum ≤ 51) (kk : Runs K l Z n0 m0 217 ls (w :: st) H1 v H') : Runs K l Z n0 m0 214 ls (x3 :: x2 :: x1 :: x0 :: st) H v H' := r_static (mj := m11) (as := [x0, x1, x2, x3]) (rest := st) i0_214 (hw _ (List.mem_of_getElem? (i := 59) rfl)) (hw _ (List.mem_of_getElem? (i := 60) rfl)) (hw _ (List.mem_of_getElem? (i := 17) rfl)) (hw _ (List.mem_of_getElem? (i := 61) rfl)) (by decide) (lenOf pd11 rfl) (by decide) rfl hls (by show _ + (4 + 11) + 0 ≤ 66; omega) M kk
theorem s0_227 {l : Launch} {Z : State} {a0 : Array Value} {n0 : Nat} {ls : List Slot} {st : List Value} {H H' H1 : List Ob} {v : Option Value} (hw : HW Z a0) {x0 x1 x2 x3 : Value} {w : Value} (M : Meets K l Z n0 m11 [x0, x1, x2, x3] H (some w) H1) (hls : ls.length = 10) (hlo : (st.map fun v => v.category).sum ≤ 51) (kk : Runs K l Z n0 m0 230 ls (w :: st) H1 v H') : Runs K l Z n0 m0 227 ls (x3 :: x2 :: x1 :: x0 :: st) H v H' := r_static (mj := m11) (as := [x0, x1, x2, x3]) (rest := st) i0_227 (hw _ (List.mem_of_getElem? (i := 59) rfl)) (hw _ (List.mem_of_getElem? (i := 60) rfl)) (hw _ (List.mem_of_getElem? (i := 17) rfl)) (hw _ (List.mem_of_getElem? (i := 61) rfl)) (by decide) (lenOf pd11 rfl) (by decide) rfl hls (by show _ + (4 + 11) + 0 ≤ 66; omega) M kk
theorem s0_241 {l : Launch} {Z : State} {a0 : Array Value} {n0 : Nat} {ls : List Slot} {st : List Value} {H H' H1 : List Ob} {v : Option Value} (hw : HW Z a0) {x0 x1 x2 x3 : Value} {w : Value} (M : Meets K l Z n0 m11 [x0, x1, x2, x3] H (some w) H1) (hls : ls.length = 10) (hlo : (st.map fun v => v.category).sum ≤ 51) (kk : Runs K l Z n0 m0 244 ls (w :: st) H1 v H') : Runs K l Z n0 m0 241 ls (x3 :: x2 :: x1 :: x0 :: st) H v H' := r_static (mj := m11) (as := [x0, x1, x2, x3]) (rest := st) i0_241 (hw _ (List.mem_of_getElem? (i := 59) rfl)) (hw _ (List.mem_of_getElem? (i := 60) rfl)) (hw _ (List.mem_of_getElem? (i := 17) rfl)) (hw _ (List.mem_of_getElem? (i := 61) rfl)) (by decide) (lenOf pd11 rfl) (by decide) rfl hls (by show _ + (4 + 11) + 0 ≤ 66; omega) M kk
theorem s1_1 {l : Launch} {Z : State} {a0 : Array Value} {n0 : Nat} {ls : List Slot} {st : List Value} {H H' : List Ob} {v : Option Value} (hw : HW Z a0) {a : Nat} (hls : ls.length = 3) (hlo : (st.map fun v => v.category).sum ≤ 0) (kk : Runs K l Z n0 m1 4 ls st H v H') : Runs K l Z n0 m1 1 ls (.ref a :: st) H v H' := r_initO i1_1 (hw _ (List.mem_of_getElem? (i := 6) rfl)) (hw _ (List.mem_of_getElem? (i := 7) rfl)) (hw _ (List.mem_of_getElem? (i := 8) rfl)) hls (by decide) (Nat.add_le_add_right hlo 12) kk
theorem s1_6 {l : Launch} {Z : State} {a0 : Array Value} {n0 : Nat} {ls : List Slot} {st : List Value} {H H' H1 : List Ob} {v : Option Value} (hw : HW Z a0) {a : Nat} {n : Int32} {o : List Value} (hn : ¬ n < 0) (h8 : n.toNatClampNeg * 8 ≤ 536870912) (ho : List.replicate n.toNatClampNeg (.int 0) = o) (ha : H.length = a) (hH : H ++ [.inr (.int, o)] = H1) (kk : Runs K l Z n0 m1 8 ls (.ref a :: st) H1 v H') : Runs K l Z n0 m1 6 ls (.int n :: st) H v H' := r_newA i1_6 (hw _ (List.mem_of_getElem? (i := 9) rfl)) hn h8 ho ha hH kk
theorem s1_8 {l : Launch} {Z : State} {a0 : Array Value} {n0 : Nat} {ls : List Slot} {st : List Value} {H H' H1 : List Ob} {v : Option Value} (hw : HW Z a0) {a : Nat} {f0 f1 f2 f3 x : Value} (ho : H[a]? = some (.inl (0, [f0, f1, f2, f3]))) (hn : narrow (.array .int) x = x) (hf : fits (.array .int) x = true) (hH : H.set a (.inl (0, [x, f1, f2, f3])) = H1) (kk : Runs K l Z n0 m1 11 ls st H1 v H') : Runs K l Z n0 m1 8 ls (x :: .ref a :: st) H v H' := r_putF (cid := 0) (i := 0) (kok hw) i1_8 (hw _ (List.mem_of_getElem? (i := 10) rfl)) Via.refl rfl rfl (Or.inl (hw _ (List.mem_of_getElem? (i := 11) rfl))) ho (ltB rfl) hn hf rfl hH kk
theorem s1_15 {l : Launch} {Z : State} {a0 : Array Value} {n0 : Nat} {ls : List Slot} {st : List Value} {H H' H1 : List Ob} {v : Option Value} (hw : HW Z a0) {a : Nat} {n : Int32} {o : List Value} (hn : ¬ n < 0) (h8 : n.toNatClampNeg * 8 ≤ 536870912) (ho : List.replicate n.toNatClampNeg (.int 0) = o) (ha : H.length = a) (hH : H ++ [.inr (.int, o)] = H1) (kk : Runs K l Z n0 m1 17 ls (.ref a :: st) H1 v H') : Runs K l Z n0 m1 15 ls (.int n :: st) H v H' := r_newA i1_15 (hw _ (List.mem_of_getElem? (i := 9) rfl)) hn h8 ho ha hH kk
theorem s1_17 {l : Launch} {Z : State} {a0 : Array Value} {n0 : Nat} {ls : List Slot} {st : List Value} {H H' H1 : List Ob} {v : Option Value} (hw : HW Z a0) {a : Nat} {f0 f1 f2 f3 x : Value} (ho : H[a]? = some (.inl (0, [f0, f1, f2, f3]))) (hn : narrow (.array .int) x = x) (hf : fits (.array .int) x = true) (hH : H.set a (.inl (0, [f0, x, f2, f3])) = H1) (kk : Runs K l Z n0 m1 20 ls st H1 v H') : Runs K l Z n0 m1 17 ls (x :: .ref a :: st) H v H' := r_putF (cid := 0) (i := 1) (kok hw) i1_17 (hw _ (List.mem_of_getElem? (i := 12) rfl)) Via.refl rfl rfl (Or.inl (hw _ (List.mem_of_getElem? (i := 13) rfl))) ho (ltB rfl) hn hf rfl hH kk
theorem s3_8 {l : Launch} {Z : State} {a0 : Array Value} {n0 : Nat} {ls : List Slot} {st : List Value} {H H' : List Ob} {v : Option Value} (hw : HW Z a0) (kk : Runs K l Z n0 m3 11 ls (.long 63 :: st) H v H') : Runs K l Z n0 m3 8 ls st H v H' := r_ldc2 i3_8 (hw _ (List.mem_of_getElem? (i := 19) rfl)) kk
theorem s3_28 {l : Launch} {Z : State} {a0 : Array Value} {n0 : Nat} {ls : List Slot} {st : List Value} {H H' H1 : List Ob} {v : Option Value} (hw : HW Z a0) {a : Nat} {vs : List Value} {x0 : Value} (ho : H[a]? = some (.inl (0, vs))) (M : Meets K l Z n0 m12 [.ref a, x0] H none H1) (hls : ls.length = 9) (hlo : (st.map fun v => v.category).sum ≤ 0) (kk : Runs K l Z n0 m3 31 ls st H1 v H') : Runs K l Z n0 m3 28 ls (x0 :: .ref a :: st) H v H' := r_virtual (mj := m12) (cid := 0) (as := [x0]) (rest := st) i3_28 (hw _ (List.mem_of_getElem? (i := 62) rfl)) (hw _ (List.mem_of_getElem? (i := 63) rfl)) (hw _ (List.mem_of_getElem? (i := 65) rfl)) (hw _ (List.mem_of_getElem? (i := 64) rfl)) (hw _ (List.mem_of_getElem? (i := 2) rfl)) (hw _ (List.mem_of_getElem? (i := 66) rfl)) (by decide) (lenOf pd12 rfl) (by decide) rfl rfl ho hls (by show _ + (2 + 11) + 33 ≤ 46; omega) M kk
theorem s3_46 {l : Launch} {Z : State} {a0 : Array Value} {n0 : Nat} {ls : List Slot} {st : List Value} {H H' H1 : List Ob} {v : Option Value} (hw : HW Z a0) {a : Nat} {vs : List Value} (ho : H[a]? = some (.inl (0, vs))) (M : Meets K l Z n0 m4 [.ref a] H none H1) (hls : ls.length = 9) (hlo : (st.map fun v => v.category).sum ≤ 1) (kk : Runs K l Z n0 m3 49 ls st H1 v H') : Runs K l Z n0 m3 46 ls (.ref a :: st) H v H' := r_virtual (mj := m4) (cid := 0) (as := []) (rest := st) i3_46 (hw _ (List.mem_of_getElem? (i := 20) rfl)) (hw _ (List.mem_of_getElem? (i := 21) rfl)) (hw _ (List.mem_of_getElem? (i := 23) rfl)) (hw _ (List.mem_of_getElem? (i := 22) rfl)) (hw _ (List.mem_of_getElem? (i := 2) rfl)) (hw _ (List.mem_of_getElem? (i := 24) rfl)) (by decide) (lenOf pd4 rfl) (by decide) rfl rfl ho hls (by show _ + (1 + 11) + 33 ≤ 46; omega) M kk
theorem s4_1 {l : Launch} {Z : State} {a0 : Array Value} {n0 : Nat} {ls : List Slot} {st : List Value} {H H' : List Ob} {v : Option Value} (hw : HW Z a0) {a : Nat} {f0 f1 f2 f3 : Value} (ho : H[a]? = some (.inl (0, [f0, f1, f2, f3]))) (kk : Runs K l Z n0 m4 4 ls (f2 :: st) H v H') : Runs K l Z n0 m4 1 ls (.ref a :: st) H v H' := r_getF (cid := 0) (i := 2) i4_1 (hw _ (List.mem_of_getElem? (i := 25) rfl)) Via.refl rfl rfl ho rfl kk
theorem s4_7 {l : Launch} {Z : State} {a0 : Array Value} {n0 : Nat} {ls : List Slot} {st : List Value} {H H' : List Ob} {v : Option Value} (hw : HW Z a0) {a : Nat} {f0 f1 f2 f3 : Value} (ho : H[a]? = some (.inl (0, [f0, f1, f2, f3]))) (kk : Runs K l Z n0 m4 10 ls (f1 :: st) H v H') : Runs K l Z n0 m4 7 ls (.ref a :: st) H v H' := r_getF (cid := 0) (i := 1) i4_7 (hw _ (List.mem_of_getElem? (i := 12) rfl)) Via.refl rfl rfl ho rfl kk
theorem s4_16 {l : Launch} {Z : State} {a0 : Array Value} {n0 : Nat} {ls : List Slot} {st : List Value} {H H' : List Ob} {v : Option Value} (hw : HW Z a0) {a : Nat} {f0 f1 f2 f3 : Value} (ho : H[a]? = some (.inl (0, [f0, f1, f2, f3]))) (kk : Runs K l Z n0 m4 19 ls (f1 :: st) H v H') : Runs K l Z n0 m4 16 ls (.ref a :: st) H v H' := r_getF (cid := 0) (i := 1) i4_16 (hw _ (List.mem_of_getElem? (i := 12) rfl)) Via.refl rfl rfl ho rfl kk
theorem s4_20 {l : Launch} {Z : State} {a0 : Array Value} {n0 : Nat} {ls : List Slot} {st : List Value} {H H' : List Ob} {v : Option Value} (hw : HW Z a0) {a : Nat} {f0 f1 f2 f3 : Value} (ho : H[a]? = some (.inl (0, [f0, f1, f2, f3]))) (kk : Runs K l Z n0 m4 23 ls (f1 :: st) H v H') : Runs K l Z n0 m4 20 ls (.ref a :: st) H v H' := r_getF (cid := 0) (i := 1) i4_20 (hw _ (List.mem_of_getElem? (i := 12) rfl)) Via.refl rfl rfl ho rfl kk
theorem s4_25 {l : Launch} {Z : State} {a0 : Array Value} {n0 : Nat} {ls : List Slot} {st : List Value} {H H' : List Ob} {v : Option Value} (hw : HW Z a0) {a : Nat} {f0 f1 f2 f3 : Value} (ho : H[a]? = some (.inl (0, [f0, f1, f2, f3]))) (kk : Runs K l Z n0 m4 28 ls (f2 :: st) H v H') : Runs K l Z n0 m4 25 ls (.ref a :: st) H v H' := r_getF (cid := 0) (i := 2) i4_25 (hw _ (List.mem_of_getElem? (i := 25) rfl)) Via.refl rfl rfl ho rfl kk
theorem s4_29 {l : Launch} {Z : State} {a0 : Array Value} {n0 : Nat} {ls : List Slot} {st : List Value} {H H' : List Ob} {v : Option Value} (hw : HW Z a0) (kk : Runs K l Z n0 m4 32 ls (.long 2 :: st) H v H') : Runs K l Z n0 m4 29 ls st H v H' := r_ldc2 i4_29 (hw _ (List.mem_of_getElem? (i := 29) rfl)) kk
theorem s4_33 {l : Launch} {Z : State} {a0 : Array Value} {n0 : Nat} {ls : List Slot} {st : List Value} {H H' H1 : List Ob} {v : Option Value} (hw : HW Z a0) {x0 x1 : Value} {w : Value} (M : Meets K l Z n0 m5 [x0, x1] H (some w) H1) (hls : ls.length = 1) (hlo : (st.map fun v => v.category).sum ≤ 2) (kk : Runs K l Z n0 m4 36 ls (w :: st) H1 v H') : Runs K l Z n0 m4 33 ls (x1 :: x0 :: st) H v H' := r_static (mj := m5) (as := [x0, x1]) (rest := st) i4_33 (hw _ (List.mem_of_getElem? (i := 30) rfl)) (hw _ (List.mem_of_getElem? (i := 31) rfl)) (hw _ (List.mem_of_getElem? (i := 32) rfl)) (hw _ (List.mem_of_getElem? (i := 33) rfl)) (by decide) (lenOf pd5 rfl) (by decide) rfl hls (by show _ + (3 + 11) + 17 ≤ 33; omega) M kk
theorem s4_36 {l : Launch} {Z : State} {a0 : Array Value} {n0 : Nat} {ls : List Slot} {st : List Value} {H H' H1 : List Ob} {v : Option Value} (hw : HW Z a0) {x0 x1 : Value} {w : Value} (M : Meets K l Z n0 m8 [x0, x1] H (some w) H1) (hls : ls.length = 1) (hlo : (st.map fun v => v.category).sum ≤ 1) (kk : Runs K l Z n0 m4 39 ls (w :: st) H1 v H') : Runs K l Z n0 m4 36 ls (x1 :: x0 :: st) H v H' := r_static (mj := m8) (as := [x0, x1]) (rest := st) i4_36 (hw _ (List.mem_of_getElem? (i := 43) rfl)) (hw _ (List.mem_of_getElem? (i := 44) rfl)) (hw _ (List.mem_of_getElem? (i := 45) rfl)) (hw _ (List.mem_of_getElem? (i := 46) rfl)) (by decide) (lenOf pd8 rfl) (by decide) rfl hls (by show _ + (3 + 11) + 18 ≤ 33; omega) M kk
theorem s4_39 {l : Launch} {Z : State} {a0 : Array Value} {n0 : Nat} {ls : List Slot} {st : List Value} {H H' H1 : List Ob} {v : Option Value} (hw : HW Z a0) {a : Nat} {f0 f1 f2 f3 x : Value} (ho : H[a]? = some (.inl (0, [f0, f1, f2, f3]))) (hn : narrow (.array .int) x = x) (hf : fits (.array .int) x = true) (hH : H.set a (.inl (0, [f0, x, f2, f3])) = H1) (kk : Runs K l Z n0 m4 42 ls st H1 v H') : Runs K l Z n0 m4 39 ls (x :: .ref a :: st) H v H' := r_putF (cid := 0) (i := 1) (kok hw) i4_39 (hw _ (List.mem_of_getElem? (i := 12) rfl)) Via.refl rfl rfl (Or.inl (hw _ (List.mem_of_getElem? (i := 13) rfl))) ho (ltB rfl) hn hf rfl hH kk
theorem s4_43 {l : Launch} {Z : State} {a0 : Array Value} {n0 : Nat} {ls : List Slot} {st : List Value} {H H' : List Ob} {v : Option Value} (hw : HW Z a0) {a : Nat} {f0 f1 f2 f3 : Value} (ho : H[a]? = some (.inl (0, [f0, f1, f2, f3]))) (kk : Runs K l Z n0 m4 46 ls (f1 :: st) H v H') : Runs K l Z n0 m4 43 ls (.ref a :: st) H v H' := r_getF (cid := 0) (i := 1) i4_43 (hw _ (List.mem_of_getElem? (i := 12) rfl)) Via.refl rfl rfl ho rfl kk
theorem s4_48 {l : Launch} {Z : State} {a0 : Array Value} {n0 : Nat} {ls : List Slot} {st : List Value} {H H' : List Ob} {v : Option Value} (hw : HW Z a0) {a : Nat} {f0 f1 f2 f3 : Value} (ho : H[a]? = some (.inl (0, [f0, f1, f2, f3]))) (kk : Runs K l Z n0 m4 51 ls (f2 :: st) H v H') : Runs K l Z n0 m4 48 ls (.ref a :: st) H v H' := r_getF (cid := 0) (i := 2) i4_48 (hw _ (List.mem_of_getElem? (i := 25) rfl)) Via.refl rfl rfl ho rfl kk
theorem s4_54 {l : Launch} {Z : State} {a0 : Array Value} {n0 : Nat} {ls : List Slot} {st : List Value} {H H' H1 : List Ob} {v : Option Value} (hw : HW Z a0) {a : Nat} {f0 f1 f2 f3 x : Value} (ho : H[a]? = some (.inl (0, [f0, f1, f2, f3]))) (hn : narrow .int x = x) (hf : fits .int x = true) (hH : H.set a (.inl (0, [f0, f1, x, f3])) = H1) (kk : Runs K l Z n0 m4 57 ls st H1 v H') : Runs K l Z n0 m4 54 ls (x :: .ref a :: st) H v H' := r_putF (cid := 0) (i := 2) (kok hw) i4_54 (hw _ (List.mem_of_getElem? (i := 25) rfl)) Via.refl rfl rfl (Or.inl (hw _ (List.mem_of_getElem? (i := 26) rfl))) ho (ltB rfl) hn hf rfl hH kk
theorem s4_58 {l : Launch} {Z : State} {a0 : Array Value} {n0 : Nat} {ls : List Slot} {st : List Value} {H H' : List Ob} {v : Option Value} (hw : HW Z a0) {a : Nat} {f0 f1 f2 f3 : Value} (ho : H[a]? = some (.inl (0, [f0, f1, f2, f3]))) (kk : Runs K l Z n0 m4 61 ls (f3 :: st) H v H') : Runs K l Z n0 m4 58 ls (.ref a :: st) H v H' := r_getF (cid := 0) (i := 3) i4_58 (hw _ (List.mem_of_getElem? (i := 27) rfl)) Via.refl rfl rfl ho rfl kk
theorem s5_1 {l : Launch} {Z : State} {a0 : Array Value} {n0 : Nat} {ls : List Slot} {st : List Value} {H H' : List Ob} {v : Option Value} (hw : HW Z a0) (kk : Runs K l Z n0 m5 4 ls (.long 2147483639 :: st) H v H') : Runs K l Z n0 m5 1 ls st H v H' := r_ldc2 i5_1 (hw _ (List.mem_of_getElem? (i := 34) rfl)) kk
-- 5_8 .new 13: no link word
-- 5_18 .invokespecial 19: no link word
theorem s5_23 {l : Launch} {Z : State} {a0 : Array Value} {n0 : Nat} {ls : List Slot} {st : List Value} {H H' : List Ob} {v : Option Value} (hw : HW Z a0) (kk : Runs K l Z n0 m5 26 ls (.long 2147483639 :: st) H v H') : Runs K l Z n0 m5 23 ls st H v H' := r_ldc2 i5_23 (hw _ (List.mem_of_getElem? (i := 34) rfl)) kk
theorem s5_26 {l : Launch} {Z : State} {a0 : Array Value} {n0 : Nat} {ls : List Slot} {st : List Value} {H H' : List Ob} {v : Option Value} (hw : HW Z a0) (kk : Runs K l Z n0 m5 29 ls (.long 2 :: st) H v H') : Runs K l Z n0 m5 26 ls st H v H' := r_ldc2 i5_26 (hw _ (List.mem_of_getElem? (i := 35) rfl)) kk
theorem s5_32 {l : Launch} {Z : State} {a0 : Array Value} {n0 : Nat} {ls : List Slot} {st : List Value} {H H' H1 : List Ob} {v : Option Value} (hw : HW Z a0) {x0 x1 : Value} {w : Value} (M : Meets K l Z n0 m6 [x0, x1] H (some w) H1) (hls : ls.length = 3) (hlo : (st.map fun v => v.category).sum ≤ 2) (kk : Runs K l Z n0 m5 35 ls (w :: st) H1 v H') : Runs K l Z n0 m5 32 ls (x1 :: x0 :: st) H v H' := r_static (mj := m6) (as := [x0, x1]) (rest := st) i5_32 (hw _ (List.mem_of_getElem? (i := 36) rfl)) (hw _ (List.mem_of_getElem? (i := 37) rfl)) (hw _ (List.mem_of_getElem? (i := 38) rfl)) (hw _ (List.mem_of_getElem? (i := 39) rfl)) (by decide) (lenOf pd6 rfl) (by decide) rfl hls (by show _ + (4 + 11) + 0 ≤ 17; omega) M kk
theorem s5_35 {l : Launch} {Z : State} {a0 : Array Value} {n0 : Nat} {ls : List Slot} {st : List Value} {H H' H1 : List Ob} {v : Option Value} (hw : HW Z a0) {x0 x1 : Value} {w : Value} (M : Meets K l Z n0 m7 [x0, x1] H (some w) H1) (hls : ls.length = 3) (hlo : (st.map fun v => v.category).sum ≤ 2) (kk : Runs K l Z n0 m5 38 ls (w :: st) H1 v H') : Runs K l Z n0 m5 35 ls (x1 :: x0 :: st) H v H' := r_static (mj := m7) (as := [x0, x1]) (rest := st) i5_35 (hw _ (List.mem_of_getElem? (i := 40) rfl)) (hw _ (List.mem_of_getElem? (i := 41) rfl)) (hw _ (List.mem_of_getElem? (i := 38) rfl)) (hw _ (List.mem_of_getElem? (i := 42) rfl)) (by decide) (lenOf pd7 rfl) (by decide) rfl hls (by show _ + (4 + 11) + 0 ≤ 17; omega) M kk
-- 8_7 .invokevirtual 316: no link word
-- 8_10 .checkcast 317: no link word
theorem s8_15 {l : Launch} {Z : State} {a0 : Array Value} {n0 : Nat} {ls : List Slot} {st : List Value} {H H' H1 : List Ob} {v : Option Value} (hw : HW Z a0) {a : Nat} {n : Int32} {o : List Value} (hn : ¬ n < 0) (h8 : n.toNatClampNeg * 8 ≤ 536870912) (ho : List.replicate n.toNatClampNeg (.int 0) = o) (ha : H.length = a) (hH : H ++ [.inr (.int, o)] = H1) (kk : Runs K l Z n0 m8 17 ls (.ref a :: st) H1 v H') : Runs K l Z n0 m8 15 ls (.int n :: st) H v H' := r_newA i8_15 (hw _ (List.mem_of_getElem? (i := 9) rfl)) hn h8 ho ha hH kk
theorem s8_25 {l : Launch} {Z : State} {a0 : Array Value} {n0 : Nat} {ls : List Slot} {st : List Value} {H H' H1 : List Ob} {v : Option Value} (hw : HW Z a0) {x0 x1 : Value} {w : Value} (M : Meets K l Z n0 m9 [x0, x1] H (some w) H1) (hls : ls.length = 3) (hlo : (st.map fun v => v.category).sum ≤ 5) (kk : Runs K l Z n0 m8 28 ls (w :: st) H1 v H') : Runs K l Z n0 m8 25 ls (x1 :: x0 :: st) H v H' := r_static (mj := m9) (as := [x0, x1]) (rest := st) i8_25 (hw _ (List.mem_of_getElem? (i := 47) rfl)) (hw _ (List.mem_of_getElem? (i := 48) rfl)) (hw _ (List.mem_of_getElem? (i := 38) rfl)) (hw _ (List.mem_of_getElem? (i := 49) rfl)) (by decide) (lenOf pd9 rfl) (by decide) rfl hls (by show _ + (2 + 11) + 0 ≤ 18; omega) M kk
theorem s8_28 {l : Launch} {Z : State} {a0 : Array Value} {n0 : Nat} {ls : List Slot} {st : List Value} {H H' H1 : List Ob} {v : Option Value} (hw : HW Z a0) {a b : Nat} {ty : FieldType} {vs wd wd' : List Value} {sp dp nn : Int32} {spN dpN nN : Nat} (hty : refKind ty = false) (ho : H[a]? = some (.inr (ty, vs))) (ho' : H[b]? = some (.inr (ty, wd))) (h1 : Ix sp spN) (h2 : Ix dp dpN) (h3 : Ix nn nN) (h4 : spN + nN ≤ vs.length) (h5 : dpN + nN ≤ wd.length) (hwd : wd.take dpN ++ (vs.drop spN).take nN ++ wd.drop (dpN + nN) = wd') (hH : H.set b (.inr (ty, wd')) = H1) (hls : ls.length = 3) (hlo : (st.map fun v => v.category).sum ≤ 0) (kk : Runs K l Z n0 m8 31 ls st H1 v H') : Runs K l Z n0 m8 28 ls (.int nn :: .int dp :: .ref b :: .int sp :: .ref a :: st) H v H' := r_acopy i8_28 (hw _ (List.mem_of_getElem? (i := 50) rfl)) (hw _ (List.mem_of_getElem? (i := 53) rfl)) (hw _ (List.mem_of_getElem? (i := 51) rfl)) (hw _ (List.mem_of_getElem? (i := 52) rfl)) hty ho ho' h1 h2 h3 h4 h5 hwd hH hls (by decide) (Nat.add_le_add_right hlo 18) kk
theorem s10_1 {l : Launch} {Z : State} {a0 : Array Value} {n0 : Nat} {ls : List Slot} {st : List Value} {H H' : List Ob} {v : Option Value} (hw : HW Z a0) {a : Nat} {f0 f1 f2 f3 : Value} (ho : H[a]? = some (.inl (0, [f0, f1, f2, f3]))) (kk : Runs K l Z n0 m10 4 ls (f2 :: st) H v H') : Runs K l Z n0 m10 1 ls (.ref a :: st) H v H' := r_getF (cid := 0) (i := 2) i10_1 (hw _ (List.mem_of_getElem? (i := 25) rfl)) Via.refl rfl rfl ho rfl kk
theorem s10_4 {l : Launch} {Z : State} {a0 : Array Value} {n0 : Nat} {ls : List Slot} {st : List Value} {H H' H1 : List Ob} {v : Option Value} (hw : HW Z a0) {a : Nat} {n : Int32} {o : List Value} (hn : ¬ n < 0) (h8 : n.toNatClampNeg * 8 ≤ 536870912) (ho : List.replicate n.toNatClampNeg (.long 0) = o) (ha : H.length = a) (hH : H ++ [.inr (.long, o)] = H1) (kk : Runs K l Z n0 m10 6 ls (.ref a :: st) H1 v H') : Runs K l Z n0 m10 4 ls (.int n :: st) H v H' := r_newA i10_4 (hw _ (List.mem_of_getElem? (i := 14) rfl)) hn h8 ho ha hH kk
theorem s10_11 {l : Launch} {Z : State} {a0 : Array Value} {n0 : Nat} {ls : List Slot} {st : List Value} {H H' : List Ob} {v : Option Value} (hw : HW Z a0) {a : Nat} {f0 f1 f2 f3 : Value} (ho : H[a]? = some (.inl (0, [f0, f1, f2, f3]))) (kk : Runs K l Z n0 m10 14 ls (f2 :: st) H v H') : Runs K l Z n0 m10 11 ls (.ref a :: st) H v H' := r_getF (cid := 0) (i := 2) i10_11 (hw _ (List.mem_of_getElem? (i := 25) rfl)) Via.refl rfl rfl ho rfl kk
theorem s10_18 {l : Launch} {Z : State} {a0 : Array Value} {n0 : Nat} {ls : List Slot} {st : List Value} {H H' : List Ob} {v : Option Value} (hw : HW Z a0) {a : Nat} {f0 f1 f2 f3 : Value} (ho : H[a]? = some (.inl (0, [f0, f1, f2, f3]))) (kk : Runs K l Z n0 m10 21 ls (f1 :: st) H v H') : Runs K l Z n0 m10 18 ls (.ref a :: st) H v H' := r_getF (cid := 0) (i := 1) i10_18 (hw _ (List.mem_of_getElem? (i := 12) rfl)) Via.refl rfl rfl ho rfl kk
theorem s10_26 {l : Launch} {Z : State} {a0 : Array Value} {n0 : Nat} {ls : List Slot} {st : List Value} {H H' : List Ob} {v : Option Value} (hw : HW Z a0) {a : Nat} {f0 f1 f2 f3 : Value} (ho : H[a]? = some (.inl (0, [f0, f1, f2, f3]))) (kk : Runs K l Z n0 m10 29 ls (f1 :: st) H v H') : Runs K l Z n0 m10 26 ls (.ref a :: st) H v H' := r_getF (cid := 0) (i := 1) i10_26 (hw _ (List.mem_of_getElem? (i := 12) rfl)) Via.refl rfl rfl ho rfl kk
theorem s10_42 {l : Launch} {Z : State} {a0 : Array Value} {n0 : Nat} {ls : List Slot} {st : List Value} {H H' : List Ob} {v : Option Value} (hw : HW Z a0) {a : Nat} {f0 f1 f2 f3 : Value} (ho : H[a]? = some (.inl (0, [f0, f1, f2, f3]))) (kk : Runs K l Z n0 m10 45 ls (f0 :: st) H v H') : Runs K l Z n0 m10 42 ls (.ref a :: st) H v H' := r_getF (cid := 0) (i := 0) i10_42 (hw _ (List.mem_of_getElem? (i := 10) rfl)) Via.refl rfl rfl ho rfl kk
theorem s12_1 {l : Launch} {Z : State} {a0 : Array Value} {n0 : Nat} {ls : List Slot} {st : List Value} {H H' : List Ob} {v : Option Value} (hw : HW Z a0) {a : Nat} {f0 f1 f2 f3 : Value} (ho : H[a]? = some (.inl (0, [f0, f1, f2, f3]))) (kk : Runs K l Z n0 m12 4 ls (f3 :: st) H v H') : Runs K l Z n0 m12 1 ls (.ref a :: st) H v H' := r_getF (cid := 0) (i := 3) i12_1 (hw _ (List.mem_of_getElem? (i := 27) rfl)) Via.refl rfl rfl ho rfl kk
theorem s12_5 {l : Launch} {Z : State} {a0 : Array Value} {n0 : Nat} {ls : List Slot} {st : List Value} {H H' : List Ob} {v : Option Value} (hw : HW Z a0) {a : Nat} {f0 f1 f2 f3 : Value} (ho : H[a]? = some (.inl (0, [f0, f1, f2, f3]))) (kk : Runs K l Z n0 m12 8 ls (f0 :: st) H v H') : Runs K l Z n0 m12 5 ls (.ref a :: st) H v H' := r_getF (cid := 0) (i := 0) i12_5 (hw _ (List.mem_of_getElem? (i := 10) rfl)) Via.refl rfl rfl ho rfl kk
theorem s12_14 {l : Launch} {Z : State} {a0 : Array Value} {n0 : Nat} {ls : List Slot} {st : List Value} {H H' : List Ob} {v : Option Value} (hw : HW Z a0) {a : Nat} {f0 f1 f2 f3 : Value} (ho : H[a]? = some (.inl (0, [f0, f1, f2, f3]))) (kk : Runs K l Z n0 m12 17 ls (f0 :: st) H v H') : Runs K l Z n0 m12 14 ls (.ref a :: st) H v H' := r_getF (cid := 0) (i := 0) i12_14 (hw _ (List.mem_of_getElem? (i := 10) rfl)) Via.refl rfl rfl ho rfl kk
theorem s12_18 {l : Launch} {Z : State} {a0 : Array Value} {n0 : Nat} {ls : List Slot} {st : List Value} {H H' : List Ob} {v : Option Value} (hw : HW Z a0) {a : Nat} {f0 f1 f2 f3 : Value} (ho : H[a]? = some (.inl (0, [f0, f1, f2, f3]))) (kk : Runs K l Z n0 m12 21 ls (f0 :: st) H v H') : Runs K l Z n0 m12 18 ls (.ref a :: st) H v H' := r_getF (cid := 0) (i := 0) i12_18 (hw _ (List.mem_of_getElem? (i := 10) rfl)) Via.refl rfl rfl ho rfl kk
theorem s12_23 {l : Launch} {Z : State} {a0 : Array Value} {n0 : Nat} {ls : List Slot} {st : List Value} {H H' : List Ob} {v : Option Value} (hw : HW Z a0) {a : Nat} {f0 f1 f2 f3 : Value} (ho : H[a]? = some (.inl (0, [f0, f1, f2, f3]))) (kk : Runs K l Z n0 m12 26 ls (f3 :: st) H v H') : Runs K l Z n0 m12 23 ls (.ref a :: st) H v H' := r_getF (cid := 0) (i := 3) i12_23 (hw _ (List.mem_of_getElem? (i := 27) rfl)) Via.refl rfl rfl ho rfl kk
theorem s12_29 {l : Launch} {Z : State} {a0 : Array Value} {n0 : Nat} {ls : List Slot} {st : List Value} {H H' H1 : List Ob} {v : Option Value} (hw : HW Z a0) {x0 x1 : Value} {w : Value} (M : Meets K l Z n0 m5 [x0, x1] H (some w) H1) (hls : ls.length = 2) (hlo : (st.map fun v => v.category).sum ≤ 2) (kk : Runs K l Z n0 m12 32 ls (w :: st) H1 v H') : Runs K l Z n0 m12 29 ls (x1 :: x0 :: st) H v H' := r_static (mj := m5) (as := [x0, x1]) (rest := st) i12_29 (hw _ (List.mem_of_getElem? (i := 30) rfl)) (hw _ (List.mem_of_getElem? (i := 31) rfl)) (hw _ (List.mem_of_getElem? (i := 32) rfl)) (hw _ (List.mem_of_getElem? (i := 33) rfl)) (by decide) (lenOf pd5 rfl) (by decide) rfl hls (by show _ + (3 + 11) + 17 ≤ 33; omega) M kk
theorem s12_32 {l : Launch} {Z : State} {a0 : Array Value} {n0 : Nat} {ls : List Slot} {st : List Value} {H H' H1 : List Ob} {v : Option Value} (hw : HW Z a0) {x0 x1 : Value} {w : Value} (M : Meets K l Z n0 m8 [x0, x1] H (some w) H1) (hls : ls.length = 2) (hlo : (st.map fun v => v.category).sum ≤ 1) (kk : Runs K l Z n0 m12 35 ls (w :: st) H1 v H') : Runs K l Z n0 m12 32 ls (x1 :: x0 :: st) H v H' := r_static (mj := m8) (as := [x0, x1]) (rest := st) i12_32 (hw _ (List.mem_of_getElem? (i := 43) rfl)) (hw _ (List.mem_of_getElem? (i := 44) rfl)) (hw _ (List.mem_of_getElem? (i := 45) rfl)) (hw _ (List.mem_of_getElem? (i := 46) rfl)) (by decide) (lenOf pd8 rfl) (by decide) rfl hls (by show _ + (3 + 11) + 18 ≤ 33; omega) M kk
theorem s12_35 {l : Launch} {Z : State} {a0 : Array Value} {n0 : Nat} {ls : List Slot} {st : List Value} {H H' H1 : List Ob} {v : Option Value} (hw : HW Z a0) {a : Nat} {f0 f1 f2 f3 x : Value} (ho : H[a]? = some (.inl (0, [f0, f1, f2, f3]))) (hn : narrow (.array .int) x = x) (hf : fits (.array .int) x = true) (hH : H.set a (.inl (0, [x, f1, f2, f3])) = H1) (kk : Runs K l Z n0 m12 38 ls st H1 v H') : Runs K l Z n0 m12 35 ls (x :: .ref a :: st) H v H' := r_putF (cid := 0) (i := 0) (kok hw) i12_35 (hw _ (List.mem_of_getElem? (i := 10) rfl)) Via.refl rfl rfl (Or.inl (hw _ (List.mem_of_getElem? (i := 11) rfl))) ho (ltB rfl) hn hf rfl hH kk
theorem s12_39 {l : Launch} {Z : State} {a0 : Array Value} {n0 : Nat} {ls : List Slot} {st : List Value} {H H' : List Ob} {v : Option Value} (hw : HW Z a0) {a : Nat} {f0 f1 f2 f3 : Value} (ho : H[a]? = some (.inl (0, [f0, f1, f2, f3]))) (kk : Runs K l Z n0 m12 42 ls (f0 :: st) H v H') : Runs K l Z n0 m12 39 ls (.ref a :: st) H v H' := r_getF (cid := 0) (i := 0) i12_39 (hw _ (List.mem_of_getElem? (i := 10) rfl)) Via.refl rfl rfl ho rfl kk
theorem s12_44 {l : Launch} {Z : State} {a0 : Array Value} {n0 : Nat} {ls : List Slot} {st : List Value} {H H' : List Ob} {v : Option Value} (hw : HW Z a0) {a : Nat} {f0 f1 f2 f3 : Value} (ho : H[a]? = some (.inl (0, [f0, f1, f2, f3]))) (kk : Runs K l Z n0 m12 47 ls (f3 :: st) H v H') : Runs K l Z n0 m12 44 ls (.ref a :: st) H v H' := r_getF (cid := 0) (i := 3) i12_44 (hw _ (List.mem_of_getElem? (i := 27) rfl)) Via.refl rfl rfl ho rfl kk
theorem s12_50 {l : Launch} {Z : State} {a0 : Array Value} {n0 : Nat} {ls : List Slot} {st : List Value} {H H' H1 : List Ob} {v : Option Value} (hw : HW Z a0) {a : Nat} {f0 f1 f2 f3 x : Value} (ho : H[a]? = some (.inl (0, [f0, f1, f2, f3]))) (hn : narrow .int x = x) (hf : fits .int x = true) (hH : H.set a (.inl (0, [f0, f1, f2, x])) = H1) (kk : Runs K l Z n0 m12 53 ls st H1 v H') : Runs K l Z n0 m12 50 ls (x :: .ref a :: st) H v H' := r_putF (cid := 0) (i := 3) (kok hw) i12_50 (hw _ (List.mem_of_getElem? (i := 27) rfl)) Via.refl rfl rfl (Or.inl (hw _ (List.mem_of_getElem? (i := 28) rfl))) ho (ltB rfl) hn hf rfl hH kk
def f6_0 (x0 : Int64) (x2 : Int64) : Int64 := (if x2 < x0 then x2 else x0)
set_option maxRecDepth 4000 in
theorem g6_0 {l : Launch} {Z : State} {a0 : Array Value} {n0 : Nat} (hw : HW Z a0) {H : List Ob} (x0 : Int64) (x2 : Int64) : Runs K l Z n0 m6 0 [.val (.long x0), .second, .val (.long x2), .second] [] H (some (.long (f6_0 x0 x2))) H := by
  unfold f6_0
  refine r_lloadN i6_0 rfl ?_
  refine r_lloadN i6_1 rfl ?_
  refine r_lcmp i6_2 ?_
  by_cases h1 : x2 < x0
  · rw [if_pos h1]
    refine r_ifT i6_3 (XT.ll_gt_t h1) ?_
    refine r_lloadN i6_10 rfl ?_
    exact r_lreturn i6_11 rfl
  · rw [if_neg h1]
    refine r_ifF i6_3 (XT.ll_gt_f h1) ?_
    refine r_lloadN i6_6 rfl ?_
    refine r_goto i6_7 ?_
    exact r_lreturn i6_11 rfl
theorem c6 {l : Launch} {Z : State} {a0 : Array Value} {n0 : Nat} (hw : HW Z a0) {H : List Ob} (x0 : Int64) (x1 : Int64) : Meets K l Z n0 m6 [.long x0, .long x1] H (some (.long (f6_0 x0 x1))) H := meets pf6 rfl (fun h => nomatch h) (g6_0 hw x0 x1)
def f7_0 (x0 : Int64) (x2 : Int64) : Int64 := (if x0 < x2 then x2 else x0)
set_option maxRecDepth 4000 in
theorem g7_0 {l : Launch} {Z : State} {a0 : Array Value} {n0 : Nat} (hw : HW Z a0) {H : List Ob} (x0 : Int64) (x2 : Int64) : Runs K l Z n0 m7 0 [.val (.long x0), .second, .val (.long x2), .second] [] H (some (.long (f7_0 x0 x2))) H := by
  unfold f7_0
  refine r_lloadN i7_0 rfl ?_
  refine r_lloadN i7_1 rfl ?_
  refine r_lcmp i7_2 ?_
  by_cases h1 : x0 < x2
  · rw [if_pos h1]
    refine r_ifT i7_3 (XT.ll_lt_t h1) ?_
    refine r_lloadN i7_10 rfl ?_
    exact r_lreturn i7_11 rfl
  · rw [if_neg h1]
    refine r_ifF i7_3 (XT.ll_lt_f h1) ?_
    refine r_lloadN i7_6 rfl ?_
    refine r_goto i7_7 ?_
    exact r_lreturn i7_11 rfl
theorem c7 {l : Launch} {Z : State} {a0 : Array Value} {n0 : Nat} (hw : HW Z a0) {H : List Ob} (x0 : Int64) (x1 : Int64) : Meets K l Z n0 m7 [.long x0, .long x1] H (some (.long (f7_0 x0 x1))) H := meets pf7 rfl (fun h => nomatch h) (g7_0 hw x0 x1)
def f9_0 (x0 : Int32) (x1 : Int32) : Int32 := (if x1 < x0 then x1 else x0)
set_option maxRecDepth 4000 in
theorem g9_0 {l : Launch} {Z : State} {a0 : Array Value} {n0 : Nat} (hw : HW Z a0) {H : List Ob} (x0 : Int32) (x1 : Int32) : Runs K l Z n0 m9 0 [.val (.int x0), .val (.int x1)] [] H (some (.int (f9_0 x0 x1))) H := by
  unfold f9_0
  refine r_iloadN i9_0 rfl ?_
  refine r_iloadN i9_1 rfl ?_
  by_cases h1 : x1 < x0
  · rw [if_pos h1]
    refine r_icT i9_2 (XT.ii_gt_t h1) ?_
    refine r_iloadN i9_9 rfl ?_
    exact r_ireturn i9_10 rfl
  · rw [if_neg h1]
    refine r_icF i9_2 (XT.ii_gt_f h1) ?_
    refine r_iloadN i9_5 rfl ?_
    refine r_goto i9_6 ?_
    exact r_ireturn i9_10 rfl
theorem c9 {l : Launch} {Z : State} {a0 : Array Value} {n0 : Nat} (hw : HW Z a0) {H : List Ob} (x0 : Int32) (x1 : Int32) : Meets K l Z n0 m9 [.int x0, .int x1] H (some (.int (f9_0 x0 x1))) H := meets pf9 rfl (fun h => nomatch h) (g9_0 hw x0 x1)
theorem arrF_grow (L n : Nat) (f : Nat → Int32) (h : L ≤ n) : (arrF n (fun _ => 0)).take 0 ++ ((arrF L f).drop 0).take L ++ (arrF n (fun _ => 0)).drop (0 + L) = arrF n (fun i => if i < L then f i else 0) := by
  rw [List.take_zero, List.nil_append, List.drop_zero, List.take_of_length_le (by rw [arrF_len]; exact Nat.le_refl _), Nat.zero_add]
  apply List.ext_getElem?
  intro i
  by_cases hi : i < L
  · rw [List.getElem?_append_left (by rw [arrF_len]; exact hi), arrF_at hi, arrF_at (by omega), if_pos hi]
  · rw [List.getElem?_append_right (by rw [arrF_len]; omega), List.getElem?_drop, arrF_len, show L + (i - L) = i by omega]
    by_cases hn : i < n
    · rw [arrF_at hn, arrF_at hn, if_neg hi]
    · rw [List.getElem?_eq_none (by rw [arrF_len]; omega), List.getElem?_eq_none (by rw [arrF_len]; omega)]
theorem own_max (a b : Int64) : (f7_0 a b).toInt = max a.toInt b.toInt := by
  unfold f7_0
  split <;> rename_i h <;> rw [Int64.lt_iff_toInt_lt] at h <;> omega
theorem own_min (a b : Int64) : (f6_0 a b).toInt = min a.toInt b.toInt := by
  unfold f6_0
  split <;> rename_i h <;> rw [Int64.lt_iff_toInt_lt] at h <;> omega
theorem own_min32 (a b : Nat) (ha : a < 2 ^ 31) (hb : b < 2 ^ 31) (h : a < b) : f9_0 a.toInt32 b.toInt32 = a.toInt32 := by
  unfold f9_0
  rw [if_neg (fun z => by have := (ti_lt hb ha).mp z; omega)]
theorem own_long (a : Nat) (h : a < 2 ^ 31) : a.toInt32.toInt64.toInt = a := by rw [c_i2l, ti_int h]
theorem own_gv (a : Nat) (nd : Int64) (ha : a < 100) (hn : 0 ≤ nd.toInt ∧ nd.toInt < 100) : (f7_0 nd (f6_0 2147483639 (2 * a.toInt32.toInt64))).toInt32 = (max nd.toInt.toNat (2 * a)).toInt32 := by
  have e1 : (2147483639 : Int64).toInt = 2147483639 := by decide
  have e2 : (2 : Int64).toInt = 2 := by decide
  have q0 := own_long a (by omega)
  have q1 : (2 * a.toInt32.toInt64).toInt = 2 * a := by
    have := XT.mul64 (x := 2) (y := a.toInt32.toInt64) ⟨by rw [e2, q0]; omega, by rw [e2, q0]; omega⟩
    rw [this, e2, q0]
  have q2 := own_max nd (f6_0 2147483639 (2 * a.toInt32.toInt64))
  have q3 := own_min 2147483639 (2 * a.toInt32.toInt64)
  have q4 : (f7_0 nd (f6_0 2147483639 (2 * a.toInt32.toInt64))).toInt32.toInt = (f7_0 nd (f6_0 2147483639 (2 * a.toInt32.toInt64))).toInt := XT.narrowInt ⟨by omega, by omega⟩
  apply Int32.toInt_inj.mp
  rw [ti_int (by omega), q4, q2, q3, q1, e1]
  omega
theorem grown_m {l : Launch} {Z : State} {a0 : Array Value} {n0 : Nat} (hw : HW Z a0) {H : List Ob} {a m : Nat} {nd : Int64} (ha : a < 100) (hn : 0 ≤ nd.toInt ∧ nd.toInt < 100) (hm : max nd.toInt.toNat (2 * a) = m) : Meets K l Z n0 m5 [.int a.toInt32, .long nd] H (some (.int m.toInt32)) H := by
  subst hm
  rw [← own_gv a nd ha hn]
  have e1 : (2147483639 : Int64).toInt = 2147483639 := by decide
  have q : ¬ 2147483639 < nd := by rw [Int64.lt_iff_toInt_lt]; omega
  refine meets (ls := [_, _, _]) pf5 rfl (fun h => nomatch h) ?_
  refine r_lloadN i5_0 rfl ?_
  refine s5_1 hw ?_
  refine r_lcmp i5_4 ?_
  refine r_ifT i5_5 (XT.ll_le_t q) ?_
  refine r_lloadN i5_22 rfl ?_
  refine s5_23 hw ?_
  refine s5_26 hw ?_
  refine r_iloadN i5_29 rfl ?_
  refine r_i2l i5_30 ?_
  refine r_lmul i5_31 ?_
  refine s5_32 hw (c6 hw _ _) rfl (leB rfl) ?_
  refine s5_35 hw (c7 hw _ _) rfl (leB rfl) ?_
  refine r_l2i i5_38 ?_
  exact r_ireturn i5_39 rfl
theorem copy_m {l : Launch} {Z : State} {a0 : Array Value} {n0 : Nat} (hw : HW Z a0) {H : List Ob} {a L n : Nat} {f : Nat → Int32} (ha : H[a]? = some (.inr (.int, arrF L f))) (hL : L < n) (hn : n < 100) : Meets K l Z n0 m8 [.ref a, .int n.toInt32] H (some (.ref H.length)) (H ++ [.inr (.int, arrF n (fun i => if i < L then f i else 0))]) := by
  have hlt := lt_of_at ha
  have ha' : (H ++ [.inr (.int, arrF n (fun _ => 0))])[a]? = some (.inr (.int, arrF L f)) := by rw [List.getElem?_append_left hlt]; exact ha
  have hb' : (H ++ [.inr (.int, arrF n (fun _ => 0))])[H.length]? = some (.inr (.int, arrF n (fun _ => 0))) := by rw [List.getElem?_append_right (Nat.le_refl _), Nat.sub_self]; rfl
  have jn := ti_ix (show n < 2 ^ 31 by omega)
  have nl : ¬ n.toInt32 = L.toInt32 := fun z => by have := (ti_eq (show n < 2 ^ 31 by omega) (show L < 2 ^ 31 by omega)).mp z; omega
  have mn := own_min32 L n (by omega) (by omega) hL
  refine meets (ls := [_, _, _]) pf8 rfl (fun h => nomatch h) ?_
  refine r_iloadN i8_0 rfl ?_
  refine r_aloadN i8_1 rfl rfl ?_
  refine r_len (n := L.toInt32) i8_2 ha (by rw [arrF_len]) ?_
  refine r_icT i8_3 (XT.ii_ne_t nl) ?_
  refine r_iloadN i8_14 rfl ?_
  refine s8_15 hw (a := H.length) (o := arrF n (fun _ => 0)) jn.1 (by rw [jn.2]; omega) (by rw [jn.2]; exact arrF_zero) rfl rfl ?_
  refine r_astoreN (ls' := [_, _, _]) i8_17 rfl rfl rfl ?_
  refine r_aloadN i8_18 rfl rfl ?_
  refine r_iconst i8_19 ?_
  refine r_aloadN i8_20 rfl rfl ?_
  refine r_iconst i8_21 ?_
  refine r_aloadN i8_22 rfl rfl ?_
  refine r_len (n := L.toInt32) i8_23 ha' (by rw [arrF_len]) ?_
  refine r_iloadN i8_24 rfl ?_
  refine s8_25 hw (c9 hw _ _) rfl (leB rfl) ?_
  rw [mn]
  refine s8_28 hw rfl ha' hb' (spN := 0) (dpN := 0) (nN := L) ⟨by decide, by decide⟩ ⟨by decide, by decide⟩ (ti_ix (by omega)) (by rw [arrF_len]; omega) (by rw [arrF_len]; omega) (arrF_grow L n f (by omega)) (List.set_append_right _ _ (Nat.le_refl _)) rfl (leB rfl) ?_
  rw [Nat.sub_self]
  show Runs K l Z n0 m8 31 _ _ (H ++ [_]) _ _
  refine r_aloadN i8_31 rfl rfl ?_
  exact r_areturn i8_32 rfl rfl rfl
theorem add_tail {l : Launch} {Z : State} {a0 : Array Value} {n0 : Nat} (hw : HW Z a0) {H : List Ob} {vr sr L s : Nat} {c x : Int32} {f : Nat → Int32} (h0 : H[0]? = some (.inl (0, [.ref vr, .ref sr, .int c, .int s.toInt32]))) (hv : H[vr]? = some (.inr (.int, arrF L f))) (hne : vr ≠ 0) (hs : s < L) (hL : L < 100) : Runs K l Z n0 m12 38 [.val (.ref 0), .val (.int x)] [] H none ((H.set 0 (.inl (0, [.ref vr, .ref sr, .int c, .int (s + 1).toInt32]))).set vr (.inr (.int, arrF L (fun j => if j = s then x else f j)))) := by
  have e := ti_succ (show s + 1 < 2 ^ 31 by omega)
  have hv' : (H.set 0 (.inl (0, [.ref vr, .ref sr, .int c, .int (s + 1).toInt32])))[vr]? = some (.inr (.int, arrF L f)) := by rw [List.getElem?_set_ne (fun z => hne z.symm)]; exact hv
  refine r_aloadN i12_38 rfl rfl ?_
  refine s12_39 hw h0 ?_
  refine r_aloadN i12_42 rfl rfl ?_
  refine r_dup i12_43 rfl ?_
  refine s12_44 hw h0 ?_
  refine r_dupX1 i12_47 rfl rfl ?_
  refine r_iconst i12_48 ?_
  refine r_iadd i12_49 ?_
  rw [e]
  refine s12_50 hw h0 rfl rfl rfl ?_
  refine r_iloadN i12_53 rfl ?_
  refine r_iastore i12_54 hv' (ti_ix (by omega)) (by rw [arrF_len]; exact hs) arrF_set rfl ?_
  exact r_return i12_55 rfl
theorem end_tail {l : Launch} {Z : State} {a0 : Array Value} {n0 : Nat} (hw : HW Z a0) {H : List Ob} {vr sr L c : Nat} {s : Int32} {f : Nat → Int32} (h0 : H[0]? = some (.inl (0, [.ref vr, .ref sr, .int c.toInt32, .int s]))) (hv : H[sr]? = some (.inr (.int, arrF L f))) (hne : sr ≠ 0) (hs : c + 1 < L) (hL : L < 100) : Runs K l Z n0 m4 42 [.val (.ref 0)] [] H none ((H.set 0 (.inl (0, [.ref vr, .ref sr, .int (c + 1).toInt32, .int s]))).set sr (.inr (.int, arrF L (fun j => if j = c + 1 then s else f j)))) := by
  have e := ti_succ (show c + 1 < 2 ^ 31 by omega)
  have hl0 := lt_of_at h0
  have hv' : (H.set 0 (.inl (0, [.ref vr, .ref sr, .int (c + 1).toInt32, .int s])))[sr]? = some (.inr (.int, arrF L f)) := by rw [List.getElem?_set_ne (fun z => hne z.symm)]; exact hv
  have h0' : (H.set 0 (.inl (0, [.ref vr, .ref sr, .int (c + 1).toInt32, .int s])))[0]? = some (.inl (0, [.ref vr, .ref sr, .int (c + 1).toInt32, .int s])) := List.getElem?_set_self hl0
  refine r_aloadN i4_42 rfl rfl ?_
  refine s4_43 hw h0 ?_
  refine r_aloadN i4_46 rfl rfl ?_
  refine r_dup i4_47 rfl ?_
  refine s4_48 hw h0 ?_
  refine r_iconst i4_51 ?_
  refine r_iadd i4_52 ?_
  rw [e]
  refine r_dupX1 i4_53 rfl rfl ?_
  refine s4_54 hw h0 rfl rfl rfl ?_
  refine r_aloadN i4_57 rfl rfl ?_
  refine s4_58 hw h0' ?_
  refine r_iastore i4_61 hv' (ti_ix (by omega)) (by rw [arrF_len]; exact hs) arrF_set rfl ?_
  exact r_return i4_62 rfl
def RO (c n : Nat) (H : List Ob) (vals : List Int32) (ends : List Nat) (vr sr Lv Ls : Nat) (fv fs : Nat → Int32) : Prop :=
  H[0]? = some (.inl (0, [.ref vr, .ref sr, .int ends.length.toInt32, .int vals.length.toInt32])) ∧ H[vr]? = some (.inr (.int, arrF Lv fv)) ∧ H[sr]? = some (.inr (.int, arrF Ls fs)) ∧
  (vr = 1 ∨ 6 ≤ vr) ∧ (sr = 2 ∨ 6 ≤ sr) ∧ vr ≠ sr ∧ vals.length ≤ Lv ∧ ends.length + 1 ≤ Ls ∧ Lv ≤ 14 ∧ Ls ≤ 14 ∧
  (∀ i x, vals[i]? = some x → fv i = x) ∧ fs 0 = 0 ∧ (∀ j e, ends[j]? = some e → fs (j + 1) = e.toInt32) ∧ 6 ≤ H.length ∧ H.length ≤ c ∧ szs K H ≤ n
def Same (H H' : List Ob) : Prop := H'[3]? = H[3]? ∧ H'[4]? = H[4]? ∧ H'[5]? = H[5]?
theorem same_set {H : List Ob} {k : Nat} {q : Ob} (h : k < 3 ∨ 6 ≤ k) : Same H (H.set k q) := ⟨List.getElem?_set_ne (by omega), List.getElem?_set_ne (by omega), List.getElem?_set_ne (by omega)⟩
theorem same_push {H : List Ob} {q : Ob} (h : 6 ≤ H.length) : Same H (H ++ [q]) := ⟨List.getElem?_append_left (by omega), List.getElem?_append_left (by omega), List.getElem?_append_left (by omega)⟩
theorem Same.trans {H H' H'' : List Ob} (a : Same H H') (b : Same H' H'') : Same H H'' := ⟨b.1.trans a.1, b.2.1.trans a.2.1, b.2.2.trans a.2.2⟩
theorem ro_add {c n : Nat} {H : List Ob} {vals : List Int32} {ends : List Nat} {vr sr Lv Ls : Nat} {fv fs : Nat → Int32} (x : Int32) (R : RO c n H vals ends vr sr Lv Ls fv fs) (hl : vals.length < Lv) :
    RO c n ((H.set 0 (.inl (0, [.ref vr, .ref sr, .int ends.length.toInt32, .int (vals.length + 1).toInt32]))).set vr (.inr (.int, arrF Lv (fun j => if j = vals.length then x else fv j)))) (vals ++ [x]) ends vr sr Lv Ls (fun j => if j = vals.length then x else fv j) fs := by
  obtain ⟨a1, a2, a3, a4, a5, a6, a7, a8, a9, b1, b2, b3, b4, b5, b6, b7⟩ := R
  have l0 := lt_of_at a1
  have lv := lt_of_at a2
  refine ⟨?_, ?_, ?_, a4, a5, a6, by simp; omega, a8, a9, b1, fun i y hy => ?_, b3, b4, by simp only [List.length_set]; exact b5, by simp only [List.length_set]; exact b6, ?_⟩
  · rw [List.getElem?_set_ne (by omega), List.getElem?_set_self l0]; simp
  · rw [List.getElem?_set_self (by rw [List.length_set]; exact lv)]
  · rw [List.getElem?_set_ne a6, List.getElem?_set_ne (by omega)]; exact a3
  · by_cases e : i = vals.length
    · subst e; simp at hy; show (if vals.length = vals.length then x else _) = y; rw [if_pos rfl]; exact hy
    · have hi := lt_of_at hy
      simp at hi
      rw [List.getElem?_append_left (by omega)] at hy
      show (if i = vals.length then x else fv i) = y
      rw [if_neg e]; exact b2 i y hy
  · rw [szs_set (o' := .inr (.int, arrF Lv fv)) (by rw [List.getElem?_set_ne (by omega)]; exact a2) (by show (arrF Lv _).length = (arrF Lv _).length; rw [arrF_len, arrF_len]), (szs_set a1 rfl : szs K (H.set 0 (.inl (0, [.ref vr, .ref sr, .int ends.length.toInt32, .int (vals.length + 1).toInt32]))) = szs K H)]; exact b7
theorem ro_growV {c n : Nat} {H : List Ob} {vals : List Int32} {ends : List Nat} {vr sr Lv Ls Ln : Nat} {fv fs : Nat → Int32} (R : RO c n H vals ends vr sr Lv Ls fv fs) (hn : Lv ≤ Ln) (h14 : Ln ≤ 14) :
    RO (c + 1) (n + 14) ((H ++ [(.inr (.int, arrF Ln (fun i => if i < Lv then fv i else 0)) : Ob)]).set 0 (.inl (0, [.ref H.length, .ref sr, .int ends.length.toInt32, .int vals.length.toInt32]))) vals ends H.length sr Ln Ls (fun i => if i < Lv then fv i else 0) fs := by
  obtain ⟨a1, a2, a3, a4, a5, a6, a7, a8, a9, b1, b2, b3, b4, b5, b6, b7⟩ := R
  have l0 := lt_of_at a1
  have ls := lt_of_at a3
  refine ⟨?_, ?_, ?_, Or.inr b5, a5, by omega, by omega, a8, h14, b1, fun i y hy => ?_, b3, b4, by simp; omega, by simp; omega, ?_⟩
  · rw [List.getElem?_set_self (by simp)]
  · rw [List.getElem?_set_ne (by omega), List.getElem?_append_right (Nat.le_refl _), Nat.sub_self]; rfl
  · rw [List.getElem?_set_ne (by omega), List.getElem?_append_left ls]; exact a3
  · have hi := lt_of_at hy
    show (if i < Lv then fv i else 0) = y
    rw [if_pos (by omega)]; exact b2 i y hy
  · rw [(szs_set (o' := .inl (0, [.ref vr, .ref sr, .int ends.length.toInt32, .int vals.length.toInt32])) (by rw [List.getElem?_append_left l0]; exact a1) rfl : szs K ((H ++ [(.inr (.int, arrF Ln (fun i => if i < Lv then fv i else 0)) : Ob)]).set 0 (.inl (0, [.ref H.length, .ref sr, .int ends.length.toInt32, .int vals.length.toInt32]))) = szs K (H ++ [(.inr (.int, arrF Ln (fun i => if i < Lv then fv i else 0)) : Ob)])), szs_push]
    show szs K H + (arrF Ln _).length ≤ n + 14
    rw [arrF_len]; omega
theorem ro_end {c n : Nat} {H : List Ob} {vals : List Int32} {ends : List Nat} {vr sr Lv Ls : Nat} {fv fs : Nat → Int32} (R : RO c n H vals ends vr sr Lv Ls fv fs) (hl : ends.length + 1 < Ls) :
    RO c n ((H.set 0 (.inl (0, [.ref vr, .ref sr, .int (ends.length + 1).toInt32, .int vals.length.toInt32]))).set sr (.inr (.int, arrF Ls (fun j => if j = ends.length + 1 then vals.length.toInt32 else fs j)))) vals (ends ++ [vals.length]) vr sr Lv Ls fv (fun j => if j = ends.length + 1 then vals.length.toInt32 else fs j) := by
  obtain ⟨a1, a2, a3, a4, a5, a6, a7, a8, a9, b1, b2, b3, b4, b5, b6, b7⟩ := R
  have l0 := lt_of_at a1
  have lv := lt_of_at a3
  refine ⟨?_, ?_, ?_, a4, a5, a6, a7, by simp; omega, a9, b1, b2, ?_, fun i y hy => ?_, by simp only [List.length_set]; exact b5, by simp only [List.length_set]; exact b6, ?_⟩
  · rw [List.getElem?_set_ne (by omega), List.getElem?_set_self l0]; simp
  · rw [List.getElem?_set_ne (fun z => a6 z.symm), List.getElem?_set_ne (by omega)]; exact a2
  · rw [List.getElem?_set_self (by rw [List.length_set]; exact lv)]
  · show (if 0 = ends.length + 1 then _ else fs 0) = 0
    rw [if_neg (by omega)]; exact b3
  · by_cases e : i = ends.length
    · subst e; simp at hy; show (if ends.length + 1 = ends.length + 1 then _ else _) = _; rw [if_pos rfl, ← hy]
    · have hi := lt_of_at hy
      simp at hi
      rw [List.getElem?_append_left (by omega)] at hy
      show (if i + 1 = ends.length + 1 then _ else fs (i + 1)) = _
      rw [if_neg (by omega)]; exact b4 i y hy
  · rw [szs_set (o' := .inr (.int, arrF Ls fs)) (by rw [List.getElem?_set_ne (by omega)]; exact a3) (by show (arrF Ls _).length = (arrF Ls _).length; rw [arrF_len, arrF_len]), (szs_set a1 rfl : szs K (H.set 0 (.inl (0, [.ref vr, .ref sr, .int (ends.length + 1).toInt32, .int vals.length.toInt32]))) = szs K H)]; exact b7
theorem ro_growS {c n : Nat} {H : List Ob} {vals : List Int32} {ends : List Nat} {vr sr Lv Ls Ln : Nat} {fv fs : Nat → Int32} (R : RO c n H vals ends vr sr Lv Ls fv fs) (hn : Ls ≤ Ln) (h14 : Ln ≤ 14) :
    RO (c + 1) (n + 14) ((H ++ [(.inr (.int, arrF Ln (fun i => if i < Ls then fs i else 0)) : Ob)]).set 0 (.inl (0, [.ref vr, .ref H.length, .int ends.length.toInt32, .int vals.length.toInt32]))) vals ends vr H.length Lv Ln fv (fun i => if i < Ls then fs i else 0) := by
  obtain ⟨a1, a2, a3, a4, a5, a6, a7, a8, a9, b1, b2, b3, b4, b5, b6, b7⟩ := R
  have l0 := lt_of_at a1
  have ls := lt_of_at a2
  refine ⟨?_, ?_, ?_, a4, Or.inr b5, by omega, a7, by omega, a9, h14, b2, ?_, fun i y hy => ?_, by simp; omega, by simp; omega, ?_⟩
  · rw [List.getElem?_set_self (by simp)]
  · rw [List.getElem?_set_ne (by omega), List.getElem?_append_left ls]; exact a2
  · rw [List.getElem?_set_ne (by omega), List.getElem?_append_right (Nat.le_refl _), Nat.sub_self]; rfl
  · show (if 0 < Ls then fs 0 else 0) = 0
    rw [if_pos (by omega)]; exact b3
  · have hi := lt_of_at hy
    show (if i + 1 < Ls then fs (i + 1) else 0) = _
    rw [if_pos (by omega)]; exact b4 i y hy
  · rw [(szs_set (o' := .inl (0, [.ref vr, .ref sr, .int ends.length.toInt32, .int vals.length.toInt32])) (by rw [List.getElem?_append_left l0]; exact a1) rfl : szs K ((H ++ [(.inr (.int, arrF Ln (fun i => if i < Ls then fs i else 0)) : Ob)]).set 0 (.inl (0, [.ref vr, .ref H.length, .int ends.length.toInt32, .int vals.length.toInt32]))) = szs K (H ++ [(.inr (.int, arrF Ln (fun i => if i < Ls then fs i else 0)) : Ob)])), szs_push]
    show szs K H + (arrF Ln _).length ≤ n + 14
    rw [arrF_len]; omega
def RR (c n : Nat) (H : List Ob) (vals : List Int32) (ends : List Nat) : Prop := ∃ vr sr Lv Ls fv fs, RO c n H vals ends vr sr Lv Ls fv fs
theorem ro_mono {c n c' n' : Nat} {H : List Ob} {vals : List Int32} {ends : List Nat} {vr sr Lv Ls : Nat} {fv fs : Nat → Int32} (R : RO c n H vals ends vr sr Lv Ls fv fs) (h1 : c ≤ c') (h2 : n ≤ n') : RO c' n' H vals ends vr sr Lv Ls fv fs := by
  obtain ⟨a1, a2, a3, a4, a5, a6, a7, a8, a9, b1, b2, b3, b4, b5, b6, b7⟩ := R
  exact ⟨a1, a2, a3, a4, a5, a6, a7, a8, a9, b1, b2, b3, b4, b5, by omega, by omega⟩
theorem own_ld (a : Nat) (k : Int64) (kn : Nat) (hk : k.toInt = kn) (h : a + kn < 2 ^ 31) : (a.toInt32.toInt64 + k).toInt = a + kn := by
  have q := own_long a (by omega)
  have := XT.add64 (x := a.toInt32.toInt64) (y := k) ⟨by omega, by omega⟩
  rw [this, q, hk]
theorem add_m {l : Launch} {Z : State} {a0 : Array Value} {n0 : Nat} (hw : HW Z a0) {c n : Nat} {H : List Ob} {vals : List Int32} {ends : List Nat} (x : Int32) (R : RR c n H vals ends) (h7 : vals.length < 7) : ∃ H', Meets K l Z n0 m12 [.ref 0, .int x] H none H' ∧ RR (c + 1) (n + 14) H' (vals ++ [x]) ends ∧ Same H H' := by
  obtain ⟨vr, sr, Lv, Ls, fv, fs, R⟩ := R
  have R0 := R
  obtain ⟨a1, a2, a3, a4, a5, a6, a7, a8, a9, b1, b2, b3, b4, b5, b6, b7⟩ := R
  have l0 := lt_of_at a1
  by_cases e : vals.length = Lv
  · have g := own_ld vals.length 1 1 (by decide) (by omega)
    have hLn : max (vals.length.toInt32.toInt64 + 1).toInt.toNat (2 * Lv) = max (Lv + 1) (2 * Lv) := by rw [g]; omega
    have G := ro_growV (Ln := max (Lv + 1) (2 * Lv)) R0 (by omega) (by omega)
    refine ⟨_, meets (ls := [_, _]) pf12 rfl (fun _ => rfl) ?_, ⟨_, _, _, _, _, _, ro_add x G (by omega)⟩, ((same_push b5).trans (same_set (Or.inl (by decide)))).trans ((same_set (Or.inl (by decide))).trans (same_set (Or.inr b5)))⟩
    have h0' : (H ++ [.inr (.int, arrF (max (Lv + 1) (2 * Lv)) (fun i => if i < Lv then fv i else 0))])[0]? = some (.inl (0, [.ref vr, .ref sr, .int ends.length.toInt32, .int vals.length.toInt32])) := by rw [List.getElem?_append_left l0]; exact a1
    refine r_aloadN i12_0 rfl rfl ?_
    refine s12_1 hw a1 ?_
    refine r_aloadN i12_4 rfl rfl ?_
    refine s12_5 hw a1 ?_
    refine r_len (n := Lv.toInt32) i12_8 a2 (by rw [arrF_len]) ?_
    refine r_icF i12_9 (XT.ii_ne_f (congrArg Nat.toInt32 e)) ?_
    refine r_aloadN i12_12 rfl rfl ?_
    refine r_aloadN i12_13 rfl rfl ?_
    refine s12_14 hw a1 ?_
    refine r_aloadN i12_17 rfl rfl ?_
    refine s12_18 hw a1 ?_
    refine r_len (n := Lv.toInt32) i12_21 a2 (by rw [arrF_len]) ?_
    refine r_aloadN i12_22 rfl rfl ?_
    refine s12_23 hw a1 ?_
    refine r_i2l i12_26 ?_
    refine r_lconst i12_27 ?_
    refine r_ladd i12_28 ?_
    refine s12_29 hw (grown_m hw (by omega) (by rw [g]; omega) hLn) rfl (leB rfl) ?_
    refine s12_32 hw (copy_m hw a2 (by omega) (by omega)) rfl (leB rfl) ?_
    refine s12_35 hw h0' rfl rfl rfl ?_
    exact add_tail hw G.1 G.2.1 (by omega) (by omega) (by omega)
  · refine ⟨_, meets (ls := [_, _]) pf12 rfl (fun _ => rfl) ?_, ⟨_, _, _, _, _, _, ro_mono (ro_add x R0 (by omega)) (by omega) (by omega)⟩, (same_set (Or.inl (by decide))).trans (same_set (by omega))⟩
    refine r_aloadN i12_0 rfl rfl ?_
    refine s12_1 hw a1 ?_
    refine r_aloadN i12_4 rfl rfl ?_
    refine s12_5 hw a1 ?_
    refine r_len (n := Lv.toInt32) i12_8 a2 (by rw [arrF_len]) ?_
    refine r_icT i12_9 (XT.ii_ne_t (fun z => e ((ti_eq (by omega) (by omega)).mp z))) ?_
    exact add_tail hw a1 a2 (by omega) (by omega) (by omega)
theorem end_m {l : Launch} {Z : State} {a0 : Array Value} {n0 : Nat} (hw : HW Z a0) {c n : Nat} {H : List Ob} {vals : List Int32} {ends : List Nat} (R : RR c n H vals ends) (h7 : ends.length < 7) (h8 : vals.length < 100) : ∃ H', Meets K l Z n0 m4 [.ref 0] H none H' ∧ RR (c + 1) (n + 14) H' vals (ends ++ [vals.length]) ∧ Same H H' := by
  obtain ⟨vr, sr, Lv, Ls, fv, fs, R⟩ := R
  have R0 := R
  obtain ⟨a1, a2, a3, a4, a5, a6, a7, a8, a9, b1, b2, b3, b4, b5, b6, b7⟩ := R
  have l0 := lt_of_at a1
  have e2 : ends.length.toInt32 + 2 = (ends.length + 2).toInt32 := ti_add (b := 2) (by omega)
  by_cases e : Ls < ends.length + 2
  · have g := own_ld ends.length 2 2 (by decide) (by omega)
    have hLn : max (ends.length.toInt32.toInt64 + 2).toInt.toNat (2 * Ls) = max (Ls + 1) (2 * Ls) := by rw [g]; omega
    have G := ro_growS (Ln := max (Ls + 1) (2 * Ls)) R0 (by omega) (by omega)
    refine ⟨_, meets (ls := [_]) pf4 rfl (fun _ => rfl) ?_, ⟨_, _, _, _, _, _, ro_end G (by omega)⟩, ((same_push b5).trans (same_set (Or.inl (by decide)))).trans ((same_set (Or.inl (by decide))).trans (same_set (Or.inr b5)))⟩
    have h0' : (H ++ [.inr (.int, arrF (max (Ls + 1) (2 * Ls)) (fun i => if i < Ls then fs i else 0))])[0]? = some (.inl (0, [.ref vr, .ref sr, .int ends.length.toInt32, .int vals.length.toInt32])) := by rw [List.getElem?_append_left l0]; exact a1
    refine r_aloadN i4_0 rfl rfl ?_
    refine s4_1 hw a1 ?_
    refine r_iconst i4_4 ?_
    refine r_iadd i4_5 ?_
    refine r_aloadN i4_6 rfl rfl ?_
    refine s4_7 hw a1 ?_
    refine r_len (n := Ls.toInt32) i4_10 a3 (by rw [arrF_len]) ?_
    refine r_icF i4_11 (XT.ii_le_f (by rw [e2]; exact (ti_lt (by omega) (by omega)).mpr e)) ?_
    refine r_aloadN i4_14 rfl rfl ?_
    refine r_aloadN i4_15 rfl rfl ?_
    refine s4_16 hw a1 ?_
    refine r_aloadN i4_19 rfl rfl ?_
    refine s4_20 hw a1 ?_
    refine r_len (n := Ls.toInt32) i4_23 a3 (by rw [arrF_len]) ?_
    refine r_aloadN i4_24 rfl rfl ?_
    refine s4_25 hw a1 ?_
    refine r_i2l i4_28 ?_
    refine s4_29 hw ?_
    refine r_ladd i4_32 ?_
    refine s4_33 hw (grown_m hw (by omega) (by rw [g]; omega) hLn) rfl (leB rfl) ?_
    refine s4_36 hw (copy_m hw a3 (by omega) (by omega)) rfl (leB rfl) ?_
    refine s4_39 hw h0' rfl rfl rfl ?_
    exact end_tail hw G.1 G.2.2.1 (by omega) (by omega) (by omega)
  · refine ⟨_, meets (ls := [_]) pf4 rfl (fun _ => rfl) ?_, ⟨_, _, _, _, _, _, ro_mono (ro_end R0 (by omega)) (by omega) (by omega)⟩, (same_set (Or.inl (by decide))).trans (same_set (by omega))⟩
    refine r_aloadN i4_0 rfl rfl ?_
    refine s4_1 hw a1 ?_
    refine r_iconst i4_4 ?_
    refine r_iadd i4_5 ?_
    refine r_aloadN i4_6 rfl rfl ?_
    refine s4_7 hw a1 ?_
    refine r_len (n := Ls.toInt32) i4_10 a3 (by rw [arrF_len]) ?_
    refine r_icT i4_11 (XT.ii_le_t (by rw [e2]; exact fun z => e ((ti_lt (by omega) (by omega)).mp z))) ?_
    exact end_tail hw a1 a3 (by omega) (by omega) (by omega)
def Wf (w : Int64) (L : List Int32) : Int64 := L.foldl (fun w v => w ||| ((1 : Int64) <<< (v.toInt64 &&& 63))) w
def own_st (ends : List Nat) (j : Nat) : Nat := (0 :: ends).getD j 0
def own_sl (vals : List Int32) (ends : List Nat) (j : Nat) : List Int32 := (vals.take (own_st ends (j + 1))).drop (own_st ends j)
def own_out (S : Nat → List Int32) : Nat → Nat → (Nat → Int64) → Nat → Int64
  | 0, _, g => g
  | t + 1, r, g => own_out S t (r + 1) (fun j => if j = r then Wf (g r) (S r) else g j)
theorem own_out_eq (S : Nat → List Int32) : ∀ (t r : Nat) (g : Nat → Int64) (j : Nat), own_out S t r g j = if r ≤ j ∧ j < r + t then Wf (g j) (S j) else g j
  | 0, r, g, j => by rw [if_neg (by omega)]; rfl
  | t + 1, r, g, j => by
    show own_out S t (r + 1) (fun j => if j = r then Wf (g r) (S r) else g j) j = _
    rw [own_out_eq S t (r + 1)]
    by_cases e : j = r
    · subst e; rw [if_neg (by omega), if_pos rfl, if_pos (by omega)]
    · by_cases q : r + 1 ≤ j ∧ j < r + 1 + t
      · rw [if_pos q, if_neg e, if_pos (by omega)]
      · rw [if_neg q, if_neg e, if_neg (by omega)]
theorem wf_step {vals : List Int32} {i e : Nat} {x : Int32} (w : Int64) (hi : i < e) (hx : vals[i]? = some x) : Wf w ((vals.take e).drop i) = Wf (w ||| ((1 : Int64) <<< (x.toInt64 &&& 63))) ((vals.take e).drop (i + 1)) := by
  have hl := lt_of_at hx
  have hlt : i < (vals.take e).length := by rw [List.length_take]; omega
  have q : (vals.take e).drop i = x :: (vals.take e).drop (i + 1) := by
    rw [List.drop_eq_getElem_cons hlt]
    congr 1
    have := List.getElem?_eq_getElem hlt
    rw [List.getElem?_take_of_lt hi, hx] at this
    exact (Option.some.inj this).symm
  rw [q]; rfl
theorem inner {l : Launch} {Z : State} {a0 : Array Value} {n0 : Nat} (hw : HW Z a0) {H1 : List Ob} {w vr sr Lv Ls n : Nat} {sz : Int32} {fv fs : Nat → Int32} {vals : List Int32} (h0 : H1[0]? = some (.inl (0, [.ref vr, .ref sr, .int n.toInt32, .int sz]))) (hv : H1[vr]? = some (.inr (.int, arrF Lv fv))) (hs : H1[sr]? = some (.inr (.int, arrF Ls fs))) (hwl : w < H1.length) (w0 : w ≠ 0) (wv : w ≠ vr) (ws : w ≠ sr) (hn : n < 100) (hLv : Lv < 100) (hLs : n + 1 ≤ Ls) (hLs2 : Ls < 100) (hvals : ∀ i x, vals[i]? = some x → fv i = x) (hle : vals.length ≤ Lv) (rN e : Nat) (hr : rN < n) (he : fs (rN + 1) = e.toInt32) (hel : e ≤ vals.length) {v : Option Value} {H' : List Ob} : ∀ (k i : Nat) (g : Nat → Int64), i + k = e → 
    (∀ _ : True, Runs K l Z n0 m10 56 [.val (.ref 0), .val (.ref w), .val (.int rN.toInt32), .val (.int e.toInt32)] [] (H1.set w (.inr (.long, arrJ n (fun j => if j = rN then Wf (g rN) ((vals.take e).drop i) else g j)))) v H') → Runs K l Z n0 m10 24 [.val (.ref 0), .val (.ref w), .val (.int rN.toInt32), .val (.int i.toInt32)] [] (H1.set w (.inr (.long, arrJ n g))) v H'
  | 0, i, g, hk, k => by
    obtain rfl : i = e := by omega
    have q0 : (H1.set w (.inr (.long, arrJ n g)))[0]? = some (.inl (0, [.ref vr, .ref sr, .int n.toInt32, .int sz])) := by rw [List.getElem?_set_ne w0]; exact h0
    have qs : (H1.set w (.inr (.long, arrJ n g)))[sr]? = some (.inr (.int, arrF Ls fs)) := by rw [List.getElem?_set_ne ws]; exact hs
    have j1 : Ix (rN.toInt32 + 1) (rN + 1) := by rw [ti_succ (by omega)]; exact ti_ix (by omega)
    have k' := k trivial
    rw [arrJ_congr (g := g) (fun j _ => by
      by_cases z : j = rN
      · subst z; rw [if_pos rfl, List.drop_of_length_le (by rw [List.length_take]; omega)]; rfl
      · rw [if_neg z])] at k'
    refine r_iloadN i10_24 rfl ?_
    refine r_aloadN i10_25 rfl rfl ?_
    refine s10_26 hw q0 ?_
    refine r_iloadN i10_29 rfl ?_
    refine r_iconst i10_30 ?_
    refine r_iadd i10_31 ?_
    refine r_iaload i10_32 qs j1 (arrF_at (by omega)) ?_
    rw [he]
    refine r_icT i10_33 (XT.ii_ge_t (fun z => absurd ((ti_lt (by omega) (by omega)).mp z) (Nat.lt_irrefl _))) ?_
    exact k'
  | kk + 1, i, g, hk, k => by
    have q0 : (H1.set w (.inr (.long, arrJ n g)))[0]? = some (.inl (0, [.ref vr, .ref sr, .int n.toInt32, .int sz])) := by rw [List.getElem?_set_ne w0]; exact h0
    have qs : (H1.set w (.inr (.long, arrJ n g)))[sr]? = some (.inr (.int, arrF Ls fs)) := by rw [List.getElem?_set_ne ws]; exact hs
    have qv : (H1.set w (.inr (.long, arrJ n g)))[vr]? = some (.inr (.int, arrF Lv fv)) := by rw [List.getElem?_set_ne wv]; exact hv
    have qw : (H1.set w (.inr (.long, arrJ n g)))[w]? = some (.inr (.long, arrJ n g)) := List.getElem?_set_self hwl
    have j1 : Ix (rN.toInt32 + 1) (rN + 1) := by rw [ti_succ (by omega)]; exact ti_ix (by omega)
    obtain ⟨x, hx⟩ : ∃ x, vals[i]? = some x := ⟨_, List.getElem?_eq_getElem (show i < vals.length by omega)⟩
    have hf := hvals i x hx
    have va := arrF_at (f := fv) (show i < Lv by omega)
    rw [hf] at va
    refine r_iloadN i10_24 rfl ?_
    refine r_aloadN i10_25 rfl rfl ?_
    refine s10_26 hw q0 ?_
    refine r_iloadN i10_29 rfl ?_
    refine r_iconst i10_30 ?_
    refine r_iadd i10_31 ?_
    refine r_iaload i10_32 qs j1 (arrF_at (by omega)) ?_
    rw [he]
    refine r_icF i10_33 (XT.ii_ge_f ((ti_lt (by omega) (by omega)).mpr (by omega))) ?_
    refine r_aloadN i10_36 rfl rfl ?_
    refine r_iloadN i10_37 rfl ?_
    refine r_dup2 i10_38 rfl rfl ?_
    refine r_laload i10_39 qw (ti_ix (by omega)) (arrJ_at hr) ?_
    refine r_lconst i10_40 ?_
    refine r_aloadN i10_41 rfl rfl ?_
    refine s10_42 hw q0 ?_
    refine r_iloadN i10_45 rfl ?_
    refine r_iaload i10_46 qv (ti_ix (by omega)) va ?_
    refine r_lshl i10_47 ?_
    refine r_lor i10_48 ?_
    refine r_lastore i10_49 qw (ti_ix (by omega)) (by rw [arrJ_len]; exact hr) arrJ_set (List.set_set _) ?_
    refine r_iinc (ls' := [_, _, _, _]) i10_50 rfl rfl ?_
    refine r_goto i10_53 ?_
    rw [ti_succ (by omega)]
    refine inner hw h0 hv hs hwl w0 wv ws hn hLv hLs hLs2 hvals hle rN e hr he hel kk (i + 1) _ (by omega) (fun _ => ?_)
    have k' := k trivial
    rw [arrJ_congr (g := fun j => if j = rN then Wf (g rN ||| ((1 : Int64) <<< (x.toInt64 &&& 63))) ((vals.take e).drop (i + 1)) else g j) (fun j _ => by
      by_cases z : j = rN
      · rw [if_pos z, if_pos z, wf_step (g rN) (by omega) hx]
      · rw [if_neg z, if_neg z])] at k'
    rw [arrJ_congr (g := fun j => if j = rN then Wf (g rN ||| ((1 : Int64) <<< (x.toInt64 &&& 63))) ((vals.take e).drop (i + 1)) else g j) (fun j _ => by
      by_cases z : j = rN
      · rw [if_pos z, if_pos z, if_pos rfl]
      · rw [if_neg z, if_neg z, if_neg z])]
    exact k'
theorem outer {l : Launch} {Z : State} {a0 : Array Value} {n0 : Nat} (hw : HW Z a0) {H1 : List Ob} {w vr sr Lv Ls n : Nat} {sz : Int32} {fv fs : Nat → Int32} {vals : List Int32} (h0 : H1[0]? = some (.inl (0, [.ref vr, .ref sr, .int n.toInt32, .int sz]))) (hv : H1[vr]? = some (.inr (.int, arrF Lv fv))) (hs : H1[sr]? = some (.inr (.int, arrF Ls fs))) (hwl : w < H1.length) (w0 : w ≠ 0) (wv : w ≠ vr) (ws : w ≠ sr) (hn : n < 100) (hLv : Lv < 100) (hLs : n + 1 ≤ Ls) (hLs2 : Ls < 100) (hvals : ∀ i x, vals[i]? = some x → fv i = x) (hle : vals.length ≤ Lv) (ends : List Nat) (hen : ends.length = n) (hst : ∀ j, j ≤ n → fs j = (own_st ends j).toInt32) (hmono : ∀ j, j < n → own_st ends j ≤ own_st ends (j + 1) ∧ own_st ends (j + 1) ≤ vals.length) : ∀ (t r : Nat) (g : Nat → Int64) (s3 : Slot), r + t = n → (s3 = .unset ∨ ∃ q, s3 = .val (.int q)) → Runs K l Z n0 m10 9 [.val (.ref 0), .val (.ref w), .val (.int r.toInt32), s3] [] (H1.set w (.inr (.long, arrJ n g))) (some (.ref w)) (H1.set w (.inr (.long, arrJ n (own_out (own_sl vals ends) t r g))))
  | 0, r, g, s3, h, h3 => by
    obtain rfl : r = n := by omega
    have q0 : (H1.set w (.inr (.long, arrJ r g)))[0]? = some (.inl (0, [.ref vr, .ref sr, .int r.toInt32, .int sz])) := by rw [List.getElem?_set_ne w0]; exact h0
    refine r_iloadN i10_9 rfl ?_
    refine r_aloadN i10_10 rfl rfl ?_
    refine s10_11 hw q0 ?_
    refine r_icT i10_14 (XT.ii_ge_t (fun z => absurd ((ti_lt (by omega) (by omega)).mp z) (Nat.lt_irrefl _))) ?_
    refine r_aloadN i10_62 rfl rfl ?_
    exact r_areturn i10_63 rfl rfl rfl
  | t + 1, r, g, s3, h, h3 => by
    have q0 : (H1.set w (.inr (.long, arrJ n g)))[0]? = some (.inl (0, [.ref vr, .ref sr, .int n.toInt32, .int sz])) := by rw [List.getElem?_set_ne w0]; exact h0
    have qs : (H1.set w (.inr (.long, arrJ n g)))[sr]? = some (.inr (.int, arrF Ls fs)) := by rw [List.getElem?_set_ne ws]; exact hs
    have m := hmono r (by omega)
    have vs1 := arrF_at (f := fs) (show r < Ls by omega)
    rw [hst r (by omega)] at vs1
    refine r_iloadN i10_9 rfl ?_
    refine r_aloadN i10_10 rfl rfl ?_
    refine s10_11 hw q0 ?_
    refine r_icF i10_14 (XT.ii_ge_f ((ti_lt (by omega) (by omega)).mpr (by omega))) ?_
    refine r_aloadN i10_17 rfl rfl ?_
    refine s10_18 hw q0 ?_
    refine r_iloadN i10_21 rfl ?_
    refine r_iaload i10_22 qs (ti_ix (by omega)) vs1 ?_
    refine r_istoreN (ls' := [_, _, _, _]) i10_23 (by rcases h3 with rfl | ⟨q, rfl⟩ <;> rfl) rfl ?_
    refine inner hw h0 hv hs hwl w0 wv ws hn hLv hLs hLs2 hvals hle r (own_st ends (r + 1)) (by omega) (hst (r + 1) (by omega)) m.2 (own_st ends (r + 1) - own_st ends r) (own_st ends r) g (by omega) (fun _ => ?_)
    refine r_iinc (ls' := [_, _, _, _]) i10_56 rfl rfl ?_
    refine r_goto i10_59 ?_
    rw [ti_succ (by omega)]
    exact outer hw h0 hv hs hwl w0 wv ws hn hLv hLs hLs2 hvals hle ends hen hst hmono t (r + 1) _ _ (by omega) (Or.inr ⟨_, rfl⟩)
theorem own_st_at {ends : List Nat} {fs : Nat → Int32} (h0 : fs 0 = 0) (h : ∀ j e, ends[j]? = some e → fs (j + 1) = e.toInt32) (j : Nat) (hj : j ≤ ends.length) : fs j = (own_st ends j).toInt32 := by
  cases j with
  | zero => exact h0
  | succ j =>
    have e := List.getElem?_eq_getElem (show j < ends.length by omega)
    rw [h j _ e]
    show _ = ((0 :: ends).getD (j + 1) 0).toInt32
    rw [List.getD_eq_getElem?_getD, List.getElem?_cons_succ, e]; rfl
theorem words_m {l : Launch} {Z : State} {a0 : Array Value} {n0 : Nat} (hw : HW Z a0) {c n : Nat} {H : List Ob} {vals : List Int32} {ends : List Nat} (R : RR c n H vals ends) (h7 : ends.length ≤ 7) (hmono : ∀ j, j < ends.length → own_st ends j ≤ own_st ends (j + 1) ∧ own_st ends (j + 1) ≤ vals.length) : ∃ g : Nat → Int64, Meets K l Z n0 m10 [.ref 0] H (some (.ref H.length)) (H ++ [.inr (.long, arrJ ends.length g)]) ∧ ∀ j, j < ends.length → g j = Wf 0 (own_sl vals ends j) := by
  obtain ⟨vr, sr, Lv, Ls, fv, fs, a1, a2, a3, a4, a5, a6, a7, a8, a9, b1, b2, b3, b4, b5, b6, b7⟩ := R
  have l0 := lt_of_at a1
  have lv := lt_of_at a2
  have lsr := lt_of_at a3
  have jn := ti_ix (show ends.length < 2 ^ 31 by omega)
  refine ⟨own_out (own_sl vals ends) ends.length 0 (fun _ => 0), ?_, fun j hj => by rw [own_out_eq, if_pos (by omega)]⟩
  have hset : ∀ q q' : Ob, (H ++ [q]).set H.length q' = H ++ [q'] := fun q q' => by rw [List.set_append_right _ _ (Nat.le_refl _), Nat.sub_self]; rfl
  refine meets (ls := [_, _, _, _]) pf10 rfl (fun h => nomatch h) ?_
  refine r_aloadN i10_0 rfl rfl ?_
  refine s10_1 hw a1 ?_
  refine s10_4 hw (a := H.length) (o := arrJ ends.length (fun _ => 0)) jn.1 (by rw [jn.2]; omega) (by rw [jn.2]; exact arrJ_zero) rfl rfl ?_
  refine r_astoreN (ls' := [_, _, _, _]) i10_6 rfl rfl rfl ?_
  refine r_iconst i10_7 ?_
  refine r_istoreN (ls' := [_, _, _, _]) i10_8 rfl rfl ?_
  have k := outer (l := l) (n0 := n0) hw (H1 := H ++ [.inr (.long, arrJ ends.length (fun _ => 0))]) (w := H.length) (by rw [List.getElem?_append_left l0]; exact a1) (by rw [List.getElem?_append_left lv]; exact a2) (by rw [List.getElem?_append_left lsr]; exact a3) (by simp) (by omega) (by omega) (by omega) (by omega) (by omega) a8 (by omega) b2 a7 ends rfl (own_st_at b3 b4) hmono ends.length 0 (fun _ => 0) .unset (by omega) (Or.inl rfl)
  rw [hset, hset] at k
  exact k
def JJ (H : List Ob) (vals : List Int32) (ends : List Nat) (fe : Nat → Int64) : Prop :=
  H[3]? = some (.inr (.long, arrJ 8 fe)) ∧ H[4]? = some (.inr (.int, [.int ends.length.toInt32])) ∧ H[5]? = some (.inr (.long, [.long (Wf 0 (vals.drop (own_st ends ends.length)))])) ∧ (∀ j, j < ends.length → fe j = Wf 0 (own_sl vals ends j)) ∧ (∀ j, j < ends.length → own_st ends j ≤ own_st ends (j + 1) ∧ own_st ends (j + 1) ≤ vals.length) ∧ own_st ends ends.length ≤ vals.length
theorem own_st_app {ends : List Nat} {e j : Nat} (h : j ≤ ends.length) : own_st (ends ++ [e]) j = own_st ends j := by
  unfold own_st
  rw [List.getD_eq_getElem?_getD, List.getD_eq_getElem?_getD, ← List.cons_append, List.getElem?_append_left (by simp; omega)]
theorem own_st_last {ends : List Nat} {e : Nat} : own_st (ends ++ [e]) (ends.length + 1) = e := by
  unfold own_st
  rw [List.getD_eq_getElem?_getD, List.getElem?_cons_succ, List.getElem?_append_right (Nat.le_refl _), Nat.sub_self]; rfl
theorem own_last_le {vals : List Int32} {ends : List Nat} (h : ∀ j, j < ends.length → own_st ends j ≤ own_st ends (j + 1) ∧ own_st ends (j + 1) ≤ vals.length) : own_st ends ends.length ≤ vals.length := by
  cases hl : ends.length with
  | zero => exact Nat.zero_le _
  | succ k => have := (h k (by omega)).2; exact this
theorem wf_app (w : Int64) (L : List Int32) (x : Int32) : Wf w (L ++ [x]) = Wf w L ||| ((1 : Int64) <<< (x.toInt64 &&& 63)) := by simp [Wf]
theorem sl_app {vals : List Int32} {ends : List Nat} {x : Int32} {j : Nat} (h : own_st ends (j + 1) ≤ vals.length) : own_sl (vals ++ [x]) ends j = own_sl vals ends j := by
  unfold own_sl
  rw [List.take_append_of_le_length h]
theorem sl_end {vals : List Int32} {ends : List Nat} {e j : Nat} (h : j < ends.length) : own_sl vals (ends ++ [e]) j = own_sl vals ends j := by
  unfold own_sl
  rw [own_st_app (by omega), own_st_app (by omega)]
theorem step_m {l : Launch} {Z : State} {a0 : Array Value} {n0 : Nat} (hw : HW Z a0) {c n t : Nat} {H : List Ob} {vals : List Int32} {ends : List Nat} {fe : Nat → Int64} (op k : Int32) (vl : Int64) (R : RR c n H vals ends) (J : JJ H vals ends fe) (ht : vals.length + ends.length = t) (h7 : t < 7) : ∃ H' vals' ends' fe', Meets K l Z n0 m3 [.ref 0, .ref 3, .ref 4, .ref 5, .int op, .int k, .long vl] H none H' ∧ RR (c + 1) (n + 14) H' vals' ends' ∧ JJ H' vals' ends' fe' ∧ vals'.length + ends'.length = t + 1 := by
  have R0 := R
  obtain ⟨vr0, sr0, Lv0, Ls0, fv0, fs0, A1, -⟩ := R0
  obtain ⟨j1, j2, j3, j4, j5, j6⟩ := J
  have h3 := lt_of_at j1
  have h4 := lt_of_at j2
  have h5 := lt_of_at j3
  by_cases b : XT.ushr op k &&& 1 = 0
  · obtain ⟨H', M, R', S⟩ := end_m (l := l) (n0 := n0) hw R (by omega) (by omega)
    have s3 := S.1.trans j1
    have s4 := S.2.1.trans j2
    have s5 := S.2.2.trans j3
    have l3 := lt_of_at s3
    have l4 := lt_of_at s4
    have l5 := lt_of_at s5
    have s4' : (H'.set 3 (.inr (.long, arrJ 8 (fun j => if j = ends.length then Wf 0 (vals.drop (own_st ends ends.length)) else fe j))))[4]? = some (.inr (.int, [.int ends.length.toInt32])) := by rw [List.getElem?_set_ne (by decide)]; exact s4
    have s5' : ((H'.set 3 (.inr (.long, arrJ 8 (fun j => if j = ends.length then Wf 0 (vals.drop (own_st ends ends.length)) else fe j)))).set 4 (.inr (.int, [.int (ends.length + 1).toInt32])))[5]? = some (.inr (.long, [.long (Wf 0 (vals.drop (own_st ends ends.length)))])) := by rw [List.getElem?_set_ne (by decide), List.getElem?_set_ne (by decide)]; exact s5
    have e1 := ti_succ (show ends.length + 1 < 2 ^ 31 by omega)
    have hst := own_last_le j5
    refine ⟨((H'.set 3 (.inr (.long, arrJ 8 (fun j => if j = ends.length then Wf 0 (vals.drop (own_st ends ends.length)) else fe j)))).set 4 (.inr (.int, [.int (ends.length + 1).toInt32]))).set 5 (.inr (.long, [.long 0])), vals, ends ++ [vals.length], (fun j => if j = ends.length then Wf 0 (vals.drop (own_st ends ends.length)) else fe j), meets (ls := [_, _, _, _, _, _, _, _, _]) pf3 rfl (fun _ => rfl) ?_, ?_, ?_, by simp; omega⟩
    rotate_left
    · obtain ⟨vr, sr, Lv, Ls, fv, fs, a1, a2, a3, a4, a5, a6, a7, a8, a9, b1, b2, b3, b4, b5, b6, b7⟩ := R'
      refine ⟨vr, sr, Lv, Ls, fv, fs, ?_, ?_, ?_, a4, a5, a6, a7, a8, a9, b1, b2, b3, b4, by simp only [List.length_set]; exact b5, by simp only [List.length_set]; exact b6, ?_⟩
      · rw [List.getElem?_set_ne (by omega), List.getElem?_set_ne (by omega), List.getElem?_set_ne (by omega)]; exact a1
      · rw [List.getElem?_set_ne (by omega), List.getElem?_set_ne (by omega), List.getElem?_set_ne (by omega)]; exact a2
      · rw [List.getElem?_set_ne (by omega), List.getElem?_set_ne (by omega), List.getElem?_set_ne (by omega)]; exact a3
      · refine Nat.le_trans (Nat.le_of_eq (szs_set s5' ?_)) ?_
        · rfl
        refine Nat.le_trans (Nat.le_of_eq (szs_set s4' ?_)) ?_
        · rfl
        refine Nat.le_trans (Nat.le_of_eq (szs_set s3 ?_)) b7
        show (arrJ 8 _).length = (arrJ 8 _).length
        rw [arrJ_len, arrJ_len]
    · refine ⟨?_, ?_, ?_, fun j hj => ?_, fun j hj => ?_, ?_⟩
      · rw [List.getElem?_set_ne (by decide), List.getElem?_set_ne (by decide), List.getElem?_set_self l3]
      · rw [List.getElem?_set_ne (by decide), List.getElem?_set_self (by rw [List.length_set]; exact l4)]; simp
      · rw [List.getElem?_set_self (by rw [List.length_set, List.length_set]; exact l5)]
        rw [show (ends ++ [vals.length]).length = ends.length + 1 by simp, own_st_last, List.drop_of_length_le (Nat.le_refl _)]; rfl
      · simp at hj
        by_cases e : j = ends.length
        · subst e
          show (if ends.length = ends.length then _ else _) = _
          rw [if_pos rfl]
          unfold own_sl
          rw [own_st_last, own_st_app (Nat.le_refl _), List.take_of_length_le (Nat.le_refl _)]
        · show (if j = ends.length then _ else fe j) = _
          rw [if_neg e, sl_end (by omega)]; exact j4 j (by omega)
      · simp at hj
        by_cases e : j = ends.length
        · subst e
          rw [own_st_last, own_st_app (Nat.le_refl _)]; exact ⟨hst, Nat.le_refl _⟩
        · rw [own_st_app (by omega), own_st_app (by omega)]; exact j5 j (by omega)
      · rw [show (ends ++ [vals.length]).length = ends.length + 1 by simp, own_st_last]; exact Nat.le_refl _
    refine r_lload i3_0 rfl ?_
    refine r_bipush i3_2 ?_
    refine r_iload i3_4 rfl ?_
    refine r_imul i3_6 ?_
    refine r_lushr i3_7 ?_
    refine s3_8 hw ?_
    refine r_land i3_11 ?_
    refine r_l2i i3_12 ?_
    refine r_istore (ls' := [_, _, _, _, _, _, _, _, _]) i3_13 rfl rfl ?_
    refine r_iload i3_15 rfl ?_
    refine r_iload i3_17 rfl ?_
    refine r_iushr i3_19 ?_
    refine r_iconst i3_20 ?_
    refine r_iand i3_21 ?_
    refine r_ifT i3_22 (XT.i0_eq_t b) ?_
    refine r_aloadN i3_45 rfl rfl ?_
    refine s3_46 hw A1 M rfl (leB rfl) ?_
    refine r_aloadN i3_49 rfl rfl ?_
    refine r_aloadN i3_50 rfl rfl ?_
    refine r_iconst i3_51 ?_
    refine r_iaload (i := 0) i3_52 s4 ⟨by decide, by decide⟩ rfl ?_
    refine r_aloadN i3_53 rfl rfl ?_
    refine r_iconst i3_54 ?_
    refine r_laload (i := 0) i3_55 s5 ⟨by decide, by decide⟩ rfl ?_
    refine r_lastore i3_56 s3 (ti_ix (by omega)) (by rw [arrJ_len]; omega) arrJ_set rfl ?_
    refine r_aloadN i3_57 rfl rfl ?_
    refine r_iconst i3_58 ?_
    refine r_aloadN i3_59 rfl rfl ?_
    refine r_iconst i3_60 ?_
    refine r_iaload (i := 0) i3_61 s4' ⟨by decide, by decide⟩ rfl ?_
    refine r_iconst i3_62 ?_
    refine r_iadd i3_63 ?_
    rw [e1]
    refine r_iastore (i := 0) (vs' := [_]) i3_64 s4' ⟨by decide, by decide⟩ (ltB rfl) rfl rfl ?_
    refine r_aloadN i3_65 rfl rfl ?_
    refine r_iconst i3_66 ?_
    refine r_lconst i3_67 ?_
    refine r_lastore (i := 0) (vs' := [_]) i3_68 s5' ⟨by decide, by decide⟩ (ltB rfl) rfl rfl ?_
    exact r_return i3_69 rfl
  · obtain ⟨H', M, R', S⟩ := add_m (l := l) (n0 := n0) hw ((XT.ushrL vl (6 * k) &&& 63).toInt32) R (by omega)
    have s3 := S.1.trans j1
    have s4 := S.2.1.trans j2
    have s5 := S.2.2.trans j3
    have l5 := lt_of_at s5
    refine ⟨H'.set 5 (.inr (.long, [.long (Wf 0 (vals.drop (own_st ends ends.length)) ||| ((1 : Int64) <<< ((XT.ushrL vl (6 * k) &&& 63).toInt32.toInt64 &&& 63)))])), vals ++ [(XT.ushrL vl (6 * k) &&& 63).toInt32], ends, fe, meets (ls := [_, _, _, _, _, _, _, _, _]) pf3 rfl (fun _ => rfl) ?_, ?_, ?_, by simp; omega⟩
    rotate_left
    · obtain ⟨vr, sr, Lv, Ls, fv, fs, a1, a2, a3, a4, a5, a6, a7, a8, a9, b1, b2, b3, b4, b5, b6, b7⟩ := R'
      refine ⟨vr, sr, Lv, Ls, fv, fs, ?_, ?_, ?_, a4, a5, a6, a7, a8, a9, b1, b2, b3, b4, by simp only [List.length_set]; exact b5, by simp only [List.length_set]; exact b6, ?_⟩
      · rw [List.getElem?_set_ne (by omega)]; exact a1
      · rw [List.getElem?_set_ne (by omega)]; exact a2
      · rw [List.getElem?_set_ne (by omega)]; exact a3
      · refine Nat.le_trans (Nat.le_of_eq (szs_set s5 ?_)) b7
        rfl
    · refine ⟨?_, ?_, ?_, fun j hj => ?_, fun j hj => ?_, ?_⟩
      · rw [List.getElem?_set_ne (by decide)]; exact s3
      · rw [List.getElem?_set_ne (by decide)]; exact s4
      · rw [List.getElem?_set_self l5, List.drop_append_of_le_length j6, wf_app]
      · rw [sl_app (j5 j hj).2]; exact j4 j hj
      · have := j5 j hj; simp; omega
      · simp; omega
    refine r_lload i3_0 rfl ?_
    refine r_bipush i3_2 ?_
    refine r_iload i3_4 rfl ?_
    refine r_imul i3_6 ?_
    refine r_lushr i3_7 ?_
    refine s3_8 hw ?_
    refine r_land i3_11 ?_
    refine r_l2i i3_12 ?_
    refine r_istore (ls' := [_, _, _, _, _, _, _, _, _]) i3_13 rfl rfl ?_
    refine r_iload i3_15 rfl ?_
    refine r_iload i3_17 rfl ?_
    refine r_iushr i3_19 ?_
    refine r_iconst i3_20 ?_
    refine r_iand i3_21 ?_
    refine r_ifF i3_22 (XT.i0_eq_f b) ?_
    refine r_aloadN i3_25 rfl rfl ?_
    refine r_iload i3_26 rfl ?_
    refine s3_28 hw A1 M rfl (leB rfl) ?_
    refine r_aloadN i3_31 rfl rfl ?_
    refine r_iconst i3_32 ?_
    refine r_aloadN i3_33 rfl rfl ?_
    refine r_iconst i3_34 ?_
    refine r_laload (i := 0) i3_35 s5 ⟨by decide, by decide⟩ rfl ?_
    refine r_lconst i3_36 ?_
    refine r_iload i3_37 rfl ?_
    refine r_lshl i3_39 ?_
    refine r_lor i3_40 ?_
    refine r_lastore (i := 0) (vs' := [_]) i3_41 s5 ⟨by decide, by decide⟩ (ltB rfl) rfl rfl ?_
    refine r_goto i3_42 ?_
    exact r_return i3_69 rfl
theorem at_out {l : Launch} {Z : State} {a0 : Array Value} {n0 : Nat} (hw : HW Z a0) {H : List Ob} {a b : Nat} {n i : Int32} (h : ¬ i < n) : Meets K l Z n0 m11 [.ref a, .ref b, .int n, .int i] H (some (.int 1)) H := by
  refine meets (ls := [_, _, _, _]) pf11 rfl (fun h => nomatch h) ?_
  refine r_iloadN i11_0 rfl ?_
  refine r_iloadN i11_1 rfl ?_
  refine r_icT i11_2 (XT.ii_ge_t h) ?_
  refine r_iconst i11_15 ?_
  refine r_goto i11_16 ?_
  exact r_zreturn i11_20 rfl (by first | decide | simp)
theorem at_in {l : Launch} {Z : State} {a0 : Array Value} {n0 : Nat} (hw : HW Z a0) {H : List Ob} {a b k : Nat} {n i : Int32} {x y : Int64} {vs ws : List Value} (h : i < n) (ha : H[a]? = some (.inr (.long, vs))) (hb : H[b]? = some (.inr (.long, ws))) (hi : Ix i k) (hx : vs[k]? = some (.long x)) (hy : ws[k]? = some (.long y)) (he : x = y) : Meets K l Z n0 m11 [.ref a, .ref b, .int n, .int i] H (some (.int 1)) H := by
  refine meets (ls := [_, _, _, _]) pf11 rfl (fun h => nomatch h) ?_
  refine r_iloadN i11_0 rfl ?_
  refine r_iloadN i11_1 rfl ?_
  refine r_icF i11_2 (XT.ii_ge_f h) ?_
  refine r_aloadN i11_5 rfl rfl ?_
  refine r_iloadN i11_6 rfl ?_
  refine r_laload i11_7 ha hi hx ?_
  refine r_aloadN i11_8 rfl rfl ?_
  refine r_iloadN i11_9 rfl ?_
  refine r_laload i11_10 hb hi hy ?_
  refine r_lcmp i11_11 ?_
  refine r_ifF i11_12 (XT.ll_ne_f he) ?_
  refine r_iconst i11_15 ?_
  refine r_goto i11_16 ?_
  exact r_zreturn i11_20 rfl (by first | decide | simp)
theorem at_m {l : Launch} {Z : State} {a0 : Array Value} {n0 : Nat} (hw : HW Z a0) {H : List Ob} {a b : Nat} {n : Nat} (j : Nat) (g fe : Nat → Int64) (hn : n ≤ 7) (hj : j < 7) (ha : H[a]? = some (.inr (.long, arrJ n g))) (hb : H[b]? = some (.inr (.long, arrJ 8 fe))) (he : ∀ j, j < n → g j = fe j) : Meets K l Z n0 m11 [.ref a, .ref b, .int n.toInt32, .int j.toInt32] H (some (.int 1)) H := by
  by_cases q : j < n
  · exact at_in hw ((ti_lt (by omega) (by omega)).mpr q) ha hb (ti_ix (by omega)) (arrJ_at q) (arrJ_at (by omega)) (he j q)
  · exact at_out hw (fun z => q ((ti_lt (by omega) (by omega)).mp z))
theorem init_m {l : Launch} {Z : State} {a0 : Array Value} {n0 : Nat} (hw : HW Z a0) {f2 f3 : Value} {r q : Nat} (hr : r < 4) (hq : q < 4) : Meets K l Z n0 m1 [.ref 0, .int r.toInt32, .int q.toInt32] [.inl (0, [.null, .null, f2, f3])] none [.inl (0, [.ref 1, .ref 2, f2, f3]), .inr (.int, arrF q (fun _ => 0)), .inr (.int, arrF (r + 1) (fun _ => 0))] := by
  have jq := ti_ix (show q < 2 ^ 31 by omega)
  have jr := ti_ix (show r + 1 < 2 ^ 31 by omega)
  have e := ti_succ (show r + 1 < 2 ^ 31 by omega)
  refine meets (ls := [_, _, _]) pf1 rfl (fun _ => rfl) ?_
  refine r_aloadN i1_0 rfl rfl ?_
  refine s1_1 hw rfl (leB rfl) ?_
  refine r_aloadN i1_4 rfl rfl ?_
  refine r_iloadN i1_5 rfl ?_
  refine s1_6 hw (a := 1) (o := arrF q (fun _ => 0)) (H1 := [_, _]) jq.1 (by rw [jq.2]; omega) (by rw [jq.2]; exact arrF_zero) rfl rfl ?_
  refine s1_8 hw (H1 := [_, _]) rfl rfl rfl rfl ?_
  refine r_aloadN i1_11 rfl rfl ?_
  refine r_iloadN i1_12 rfl ?_
  refine r_iconst i1_13 ?_
  refine r_iadd i1_14 ?_
  rw [e]
  refine s1_15 hw (a := 2) (o := arrF (r + 1) (fun _ => 0)) (H1 := [_, _, _]) jr.1 (by rw [jr.2]; omega) (by rw [jr.2]; exact arrF_zero) rfl rfl ?_
  refine s1_17 hw (H1 := [_, _, _]) rfl rfl rfl rfl ?_
  exact r_return i1_20 rfl
theorem own_4 (x : Int32) : ∃ n : Nat, n < 4 ∧ x &&& 3 = n.toInt32 := by
  have h := c_mask x 3 2 (by decide) (by decide)
  refine ⟨(x &&& 3).toNatClampNeg, ?_, ti_of (by omega)⟩
  simp only [Int32.toNatClampNeg]; omega
set_option maxHeartbeats 4000000 in
theorem law_runs {l : Launch} {Z : State} {a0 : Array Value} {n0 : Nat} (hw : HW Z a0) (p0 : Int32) (p1 : Int64) (p2 : Int32) : RunsB K l Z n0 m0 0 [.val (.int p0), .val (.long p1), .second, .val (.int p2), .unset, .unset, .unset, .unset, .unset, .unset] [] [] (some (.int 1)) 40 192 := by
  obtain ⟨r, hr, e1⟩ := own_4 p2
  obtain ⟨q, hq, e2⟩ := own_4 (XT.ushr p2 2)
  refine lift (fun _ kk => s0_0 hw (a := 0) (H1 := [_]) rfl rfl kk) ?_
  refine lift (fun _ kk => r_dup i0_3 rfl kk) ?_
  refine lift (fun _ kk => r_iloadN i0_4 rfl kk) ?_
  refine lift (fun _ kk => r_iconst i0_5 kk) ?_
  refine lift (fun _ kk => r_iand i0_6 kk) ?_
  refine lift (fun _ kk => r_iloadN i0_7 rfl kk) ?_
  refine lift (fun _ kk => r_iconst i0_8 kk) ?_
  refine lift (fun _ kk => r_iushr i0_9 kk) ?_
  refine lift (fun _ kk => r_iconst i0_10 kk) ?_
  refine lift (fun _ kk => r_iand i0_11 kk) ?_
  rw [e1, e2]
  refine lift (fun _ kk => s0_12 hw (H1 := [_, _, _]) (init_m hw hr hq) rfl (leB rfl) kk) ?_
  refine lift (fun _ kk => r_astore (ls' := [_, _, _, _, _, _, _, _, _, _]) i0_15 rfl rfl rfl kk) ?_
  refine lift (fun _ kk => r_bipush i0_17 kk) ?_
  refine lift (fun _ kk => s0_19 hw (a := 3) (o := arrJ 8 (fun _ => 0)) (H1 := [_, _, _, _]) (by decide) (by decide) arrJ_zero rfl rfl kk) ?_
  refine lift (fun _ kk => r_astore (ls' := [_, _, _, _, _, _, _, _, _, _]) i0_21 rfl rfl rfl kk) ?_
  refine lift (fun _ kk => r_iconst i0_23 kk) ?_
  refine lift (fun _ kk => s0_24 hw (a := 4) (o := [.int 0]) (H1 := [_, _, _, _, _]) (by decide) (by decide) rfl rfl rfl kk) ?_
  refine lift (fun _ kk => r_astore (ls' := [_, _, _, _, _, _, _, _, _, _]) i0_26 rfl rfl rfl kk) ?_
  refine lift (fun _ kk => r_iconst i0_28 kk) ?_
  refine lift (fun _ kk => s0_29 hw (a := 5) (o := [.long 0]) (H1 := [_, _, _, _, _, _]) (by decide) (by decide) rfl rfl rfl kk) ?_
  refine lift (fun _ kk => r_astore (ls' := [_, _, _, _, _, _, _, _, _, _]) i0_31 rfl rfl rfl kk) ?_
  have R0 : RR 6 21 [.inl (0, [.ref 1, .ref 2, .int 0, .int 0]), .inr (.int, arrF q (fun _ => 0)), .inr (.int, arrF (r + 1) (fun _ => 0)), .inr (.long, arrJ 8 (fun _ => 0)), .inr (.int, [.int 0]), .inr (.long, [.long 0])] [] [] :=
    ⟨1, 2, q, r + 1, fun _ => 0, fun _ => 0, rfl, rfl, rfl, Or.inl rfl, Or.inl rfl, by decide, Nat.zero_le _, by simp, by omega, by omega, fun i x h => by simp at h, rfl, fun j e h => by simp at h, leB rfl, leB rfl, by
      show 4 + ((arrF q _).length + ((arrF (r + 1) _).length + ((arrJ 8 _).length + (1 + (1 + 0))))) ≤ 21
      rw [arrF_len, arrF_len, arrJ_len]; omega⟩
  have J0 : JJ [.inl (0, [.ref 1, .ref 2, .int 0, .int 0]), .inr (.int, arrF q (fun _ => 0)), .inr (.int, arrF (r + 1) (fun _ => 0)), .inr (.long, arrJ 8 (fun _ => 0)), .inr (.int, [.int 0]), .inr (.long, [.long 0])] [] [] (fun _ => 0) :=
    ⟨rfl, rfl, rfl, fun j h => by simp at h, fun j h => by simp at h, Nat.le_refl _⟩
  generalize ([.inl (0, [.ref 1, .ref 2, .int 0, .int 0]), .inr (.int, arrF q (fun _ => 0)), .inr (.int, arrF (r + 1) (fun _ => 0)), .inr (.long, arrJ 8 (fun _ => 0)), .inr (.int, [.int 0]), .inr (.long, [.long 0])] : List Ob) = H0 at *
  have t0 : ([] : List Int32).length + ([] : List Nat).length = 0 := rfl
  generalize ([] : List Int32) = v0 at *
  generalize ([] : List Nat) = d0 at *
  obtain ⟨H1, v1, d1, g1, M1, R1, J1, t1⟩ := step_m (l := l) (n0 := n0) hw p0 0 p1 R0 J0 t0 (by omega)
  refine lift (fun _ kk => r_aload i0_33 rfl rfl kk) ?_
  refine lift (fun _ kk => r_aload i0_35 rfl rfl kk) ?_
  refine lift (fun _ kk => r_aload i0_37 rfl rfl kk) ?_
  refine lift (fun _ kk => r_aload i0_39 rfl rfl kk) ?_
  refine lift (fun _ kk => r_iloadN i0_41 rfl kk) ?_
  refine lift (fun _ kk => r_iconst i0_42 kk) ?_
  refine lift (fun _ kk => r_lloadN i0_43 rfl kk) ?_
  refine lift (fun _ kk => s0_44 hw M1 rfl (leB rfl) kk) ?_
  obtain ⟨H2, v2, d2, g2, M2, R2, J2, t2⟩ := step_m (l := l) (n0 := n0) hw p0 1 p1 R1 J1 t1 (by omega)
  refine lift (fun _ kk => r_aload i0_47 rfl rfl kk) ?_
  refine lift (fun _ kk => r_aload i0_49 rfl rfl kk) ?_
  refine lift (fun _ kk => r_aload i0_51 rfl rfl kk) ?_
  refine lift (fun _ kk => r_aload i0_53 rfl rfl kk) ?_
  refine lift (fun _ kk => r_iloadN i0_55 rfl kk) ?_
  refine lift (fun _ kk => r_iconst i0_56 kk) ?_
  refine lift (fun _ kk => r_lloadN i0_57 rfl kk) ?_
  refine lift (fun _ kk => s0_58 hw M2 rfl (leB rfl) kk) ?_
  obtain ⟨H3, v3, d3, g3, M3, R3, J3, t3⟩ := step_m (l := l) (n0 := n0) hw p0 2 p1 R2 J2 t2 (by omega)
  refine lift (fun _ kk => r_aload i0_61 rfl rfl kk) ?_
  refine lift (fun _ kk => r_aload i0_63 rfl rfl kk) ?_
  refine lift (fun _ kk => r_aload i0_65 rfl rfl kk) ?_
  refine lift (fun _ kk => r_aload i0_67 rfl rfl kk) ?_
  refine lift (fun _ kk => r_iloadN i0_69 rfl kk) ?_
  refine lift (fun _ kk => r_iconst i0_70 kk) ?_
  refine lift (fun _ kk => r_lloadN i0_71 rfl kk) ?_
  refine lift (fun _ kk => s0_72 hw M3 rfl (leB rfl) kk) ?_
  obtain ⟨H4, v4, d4, g4, M4, R4, J4, t4⟩ := step_m (l := l) (n0 := n0) hw p0 3 p1 R3 J3 t3 (by omega)
  refine lift (fun _ kk => r_aload i0_75 rfl rfl kk) ?_
  refine lift (fun _ kk => r_aload i0_77 rfl rfl kk) ?_
  refine lift (fun _ kk => r_aload i0_79 rfl rfl kk) ?_
  refine lift (fun _ kk => r_aload i0_81 rfl rfl kk) ?_
  refine lift (fun _ kk => r_iloadN i0_83 rfl kk) ?_
  refine lift (fun _ kk => r_iconst i0_84 kk) ?_
  refine lift (fun _ kk => r_lloadN i0_85 rfl kk) ?_
  refine lift (fun _ kk => s0_86 hw M4 rfl (leB rfl) kk) ?_
  obtain ⟨H5, v5, d5, g5, M5, R5, J5, t5⟩ := step_m (l := l) (n0 := n0) hw p0 4 p1 R4 J4 t4 (by omega)
  refine lift (fun _ kk => r_aload i0_89 rfl rfl kk) ?_
  refine lift (fun _ kk => r_aload i0_91 rfl rfl kk) ?_
  refine lift (fun _ kk => r_aload i0_93 rfl rfl kk) ?_
  refine lift (fun _ kk => r_aload i0_95 rfl rfl kk) ?_
  refine lift (fun _ kk => r_iloadN i0_97 rfl kk) ?_
  refine lift (fun _ kk => r_iconst i0_98 kk) ?_
  refine lift (fun _ kk => r_lloadN i0_99 rfl kk) ?_
  refine lift (fun _ kk => s0_100 hw M5 rfl (leB rfl) kk) ?_
  obtain ⟨H6, v6, d6, g6, M6, R6, J6, t6⟩ := step_m (l := l) (n0 := n0) hw p0 5 p1 R5 J5 t5 (by omega)
  refine lift (fun _ kk => r_aload i0_103 rfl rfl kk) ?_
  refine lift (fun _ kk => r_aload i0_105 rfl rfl kk) ?_
  refine lift (fun _ kk => r_aload i0_107 rfl rfl kk) ?_
  refine lift (fun _ kk => r_aload i0_109 rfl rfl kk) ?_
  refine lift (fun _ kk => r_iloadN i0_111 rfl kk) ?_
  refine lift (fun _ kk => r_iconst i0_112 kk) ?_
  refine lift (fun _ kk => r_lloadN i0_113 rfl kk) ?_
  refine lift (fun _ kk => s0_114 hw M6 rfl (leB rfl) kk) ?_
  obtain ⟨H7, v7, d7, g7, M7, R7, J7, t7⟩ := step_m (l := l) (n0 := n0) hw p0 6 p1 R6 J6 t6 (by omega)
  refine lift (fun _ kk => r_aload i0_117 rfl rfl kk) ?_
  refine lift (fun _ kk => r_aload i0_119 rfl rfl kk) ?_
  refine lift (fun _ kk => r_aload i0_121 rfl rfl kk) ?_
  refine lift (fun _ kk => r_aload i0_123 rfl rfl kk) ?_
  refine lift (fun _ kk => r_iloadN i0_125 rfl kk) ?_
  refine lift (fun _ kk => r_bipush i0_126 kk) ?_
  refine lift (fun _ kk => r_lloadN i0_128 rfl kk) ?_
  refine lift (fun _ kk => s0_129 hw M7 rfl (leB rfl) kk) ?_
  have RR7 := R7
  obtain ⟨vr, sr, Lv, Ls, fv, fs, a1, a2, a3, a4, a5, a6, a7, a8, a9, b1, b2, b3, b4, b5, b6, b7⟩ := R7
  obtain ⟨j1, j2, j3, j4, j5, j6⟩ := J7
  obtain ⟨g, M, hg⟩ := words_m (l := l) (n0 := n0) hw RR7 (by omega) j5
  have l3 := lt_of_at j1
  have l4 := lt_of_at j2
  have w3 : (H7 ++ [.inr (.long, arrJ d7.length g)])[3]? = some (.inr (.long, arrJ 8 g7)) := by rw [List.getElem?_append_left l3]; exact j1
  have w4 : (H7 ++ [.inr (.long, arrJ d7.length g)])[4]? = some (.inr (.int, [.int d7.length.toInt32])) := by rw [List.getElem?_append_left l4]; exact j2
  have ww : (H7 ++ [.inr (.long, arrJ d7.length g)])[H7.length]? = some (.inr (.long, arrJ d7.length g)) := by rw [List.getElem?_append_right (Nat.le_refl _), Nat.sub_self]; rfl
  have hE : ∀ j, j < d7.length → g j = g7 j := fun j hj => (hg j hj).trans (j4 j hj).symm
  refine lift (fun _ kk => r_aload i0_132 rfl rfl kk) ?_
  refine lift (fun _ kk => s0_134 hw a1 M rfl (leB rfl) kk) ?_
  refine lift (fun _ kk => r_astore (ls' := [_, _, _, _, _, _, _, _, _, _]) i0_137 rfl rfl rfl kk) ?_
  refine lift (fun _ kk => r_aload i0_139 rfl rfl kk) ?_
  refine lift (fun _ kk => r_iconst i0_141 kk) ?_
  refine lift (fun _ kk => r_iaload (i := 0) i0_142 w4 ⟨by decide, by decide⟩ rfl kk) ?_
  refine lift (fun _ kk => r_istore (ls' := [_, _, _, _, _, _, _, _, _, _]) i0_143 rfl rfl kk) ?_
  refine lift (fun _ kk => r_aload i0_145 rfl rfl kk) ?_
  refine lift (fun _ kk => r_len (n := d7.length.toInt32) i0_147 ww (by rw [arrJ_len]) kk) ?_
  refine lift (fun _ kk => r_iload i0_148 rfl kk) ?_
  refine lift (fun _ kk => r_icT i0_150 (XT.ii_eq_t rfl) kk) ?_
  refine lift (fun _ kk => r_aload i0_155 rfl rfl kk) ?_
  refine lift (fun _ kk => r_aload i0_157 rfl rfl kk) ?_
  refine lift (fun _ kk => r_iload i0_159 rfl kk) ?_
  refine lift (fun _ kk => r_iconst i0_161 kk) ?_
  refine lift (fun _ kk => s0_162 hw (at_m hw 0 g g7 (by omega) (by decide) ww w3 hE) rfl (leB rfl) kk) ?_
  refine lift (fun _ kk => r_ifF i0_165 (XT.i0_eq_f (by decide)) kk) ?_
  refine lift (fun _ kk => r_aload i0_168 rfl rfl kk) ?_
  refine lift (fun _ kk => r_aload i0_170 rfl rfl kk) ?_
  refine lift (fun _ kk => r_iload i0_172 rfl kk) ?_
  refine lift (fun _ kk => r_iconst i0_174 kk) ?_
  refine lift (fun _ kk => s0_175 hw (at_m hw 1 g g7 (by omega) (by decide) ww w3 hE) rfl (leB rfl) kk) ?_
  refine lift (fun _ kk => r_ifF i0_178 (XT.i0_eq_f (by decide)) kk) ?_
  refine lift (fun _ kk => r_aload i0_181 rfl rfl kk) ?_
  refine lift (fun _ kk => r_aload i0_183 rfl rfl kk) ?_
  refine lift (fun _ kk => r_iload i0_185 rfl kk) ?_
  refine lift (fun _ kk => r_iconst i0_187 kk) ?_
  refine lift (fun _ kk => s0_188 hw (at_m hw 2 g g7 (by omega) (by decide) ww w3 hE) rfl (leB rfl) kk) ?_
  refine lift (fun _ kk => r_ifF i0_191 (XT.i0_eq_f (by decide)) kk) ?_
  refine lift (fun _ kk => r_aload i0_194 rfl rfl kk) ?_
  refine lift (fun _ kk => r_aload i0_196 rfl rfl kk) ?_
  refine lift (fun _ kk => r_iload i0_198 rfl kk) ?_
  refine lift (fun _ kk => r_iconst i0_200 kk) ?_
  refine lift (fun _ kk => s0_201 hw (at_m hw 3 g g7 (by omega) (by decide) ww w3 hE) rfl (leB rfl) kk) ?_
  refine lift (fun _ kk => r_ifF i0_204 (XT.i0_eq_f (by decide)) kk) ?_
  refine lift (fun _ kk => r_aload i0_207 rfl rfl kk) ?_
  refine lift (fun _ kk => r_aload i0_209 rfl rfl kk) ?_
  refine lift (fun _ kk => r_iload i0_211 rfl kk) ?_
  refine lift (fun _ kk => r_iconst i0_213 kk) ?_
  refine lift (fun _ kk => s0_214 hw (at_m hw 4 g g7 (by omega) (by decide) ww w3 hE) rfl (leB rfl) kk) ?_
  refine lift (fun _ kk => r_ifF i0_217 (XT.i0_eq_f (by decide)) kk) ?_
  refine lift (fun _ kk => r_aload i0_220 rfl rfl kk) ?_
  refine lift (fun _ kk => r_aload i0_222 rfl rfl kk) ?_
  refine lift (fun _ kk => r_iload i0_224 rfl kk) ?_
  refine lift (fun _ kk => r_iconst i0_226 kk) ?_
  refine lift (fun _ kk => s0_227 hw (at_m hw 5 g g7 (by omega) (by decide) ww w3 hE) rfl (leB rfl) kk) ?_
  refine lift (fun _ kk => r_ifF i0_230 (XT.i0_eq_f (by decide)) kk) ?_
  refine lift (fun _ kk => r_aload i0_233 rfl rfl kk) ?_
  refine lift (fun _ kk => r_aload i0_235 rfl rfl kk) ?_
  refine lift (fun _ kk => r_iload i0_237 rfl kk) ?_
  refine lift (fun _ kk => r_bipush i0_239 kk) ?_
  refine lift (fun _ kk => s0_241 hw (at_m hw 6 g g7 (by omega) (by decide) ww w3 hE) rfl (leB rfl) kk) ?_
  refine lift (fun _ kk => r_ifF i0_244 (XT.i0_eq_f (by decide)) kk) ?_
  refine lift (fun _ kk => r_iconst i0_247 kk) ?_
  refine lift (fun _ kk => r_goto i0_248 kk) ?_
  exact ⟨_, r_zreturn i0_252 rfl (by first | decide | simp), by rw [List.length_append]; show _ + 1 ≤ _; omega, by rw [szs_push]; show _ + (arrJ _ _).length ≤ _; rw [arrJ_len]; omega⟩
set_option maxRecDepth 65536 in
set_option maxHeartbeats 40000000 in
theorem comes_1 {Post : Tables → Env → Array Value → State → Outcome → State → Prop} (hpost : ∀ tb e args s v u, (limb_1_1.after args s (.returned v) u = true ∧ limb_1_2.after args s (.returned v) u = true ∧ True) → FrameEnd s (.returned v) u (Jvm.fieldLocs frame_1_writes args s ++ Jvm.arrayLocs frame_1_arrays args s ++ Jvm.staticLocs frame_1_statics s) 40 192 → Post tb e args s (.returned v) u) :
    ArmFor flags0 classFile x code maxLocals ret World_1 tables_1 room_1 Calls_1 rest_1 Pre_1 Post := by
  intro l hfl _ _ p e ha hc hk s m args below hf hA hF happ hP
  obtain ⟨hcalls, hrest, hpre⟩ := hP
  obtain ⟨-, -, -, hnamed, -, -, -, hat⟩ := (Spec.applies_iff hf).mp happ
  obtain ⟨hg, hn⟩ := and_e (Cond.before_iff.mp (show (Jvm.Cond.and given_1 narrow_1).before args s = true from hpre))
  obtain ⟨hcount, hk0⟩ := and_e hg
  obtain ⟨w0, w1, w2, rfl⟩ : ∃ w0 w1 w2 : Value, args = #[w0, w1, w2] := by
    have hs : args.size = 3 := by simpa [Cond.value, given_1] using hcount
    obtain ⟨L⟩ := args
    match L, hs with
    | [w0, w1, w2], _ => exact ⟨w0, w1, w2, rfl⟩
  have hw : HW s _ := fun d (hd : d ∈ tables_1) => atoms_spec (ws := Jvm.Cond.code x code maxLocals ret :: tables_1) hat d (List.mem_cons_of_mem _ hd)
  replace hk0 := and_e hk0
  obtain ⟨p0, e0⟩ := is_v hk0.1
  obtain rfl : w0 = (.int p0) := Option.some.inj e0
  have hk1 := hk0.2
  replace hk1 := and_e hk1
  obtain ⟨p1, e1⟩ := isL_v hk1.1
  obtain rfl : w1 = (.long p1) := Option.some.inj e1
  have hk2 := hk1.2
  obtain ⟨p2, e2⟩ := is_v hk2
  obtain rfl : w2 = (.int p2) := Option.some.inj e2
  obtain ⟨H', k, hcl, hsl⟩ := law_runs (l := l) (n0 := s.heap.size) hw p0 p1 p2
  obtain ⟨n, o, h1, h2, h3, _, L, rfl, ⟨rfl, -, N⟩, hq⟩ := met_gen (mi := m0) (as := [.int p0, .long p1, .int p2]) tables_1 room_1 pf0 rfl (fun h => nomatch h) k (by decide) (by decide) (by show H'.length ≤ 40 + 0; omega) (by show szs K H' ≤ 192 + 0; omega) (h := s.heap) ⟨rfl, fun k o h => by simp at h⟩ p e ha hc hk s m _ below hf ((Spec.applies_iff_loose hf).mp happ).1 ⟨rfl, State.Warmed39.refl s, rfl⟩ trivial
  refine ⟨n, _, h1, h2, h3, hpost _ _ _ _ _ _ ⟨Cond.after_iff.mpr rfl, Cond.after_iff.mpr (eq_i res_at (Term.int_eval (1)) rfl), trivial⟩ ⟨hq.1, hq.2.1, (hq.2.2.sift fun y hy => Or.inr (N y hy)).mono (by show H'.length - 0 ≤ _; omega) (by show szs K H' - 0 ≤ _; omega)⟩⟩
theorem main_1_1 : Claimed_1_1 := comes_1 fun _ _ _ _ _ _ h hF => ⟨h.1, hF⟩
theorem main_1_2 : Claimed_1_2 := comes_1 fun _ _ _ _ _ _ h hF => ⟨h.2.1, hF⟩
end Jvm.Pilot.@@N@@
namespace Jvm.Pilot.@@N@@
open Jvm Jvm.ClassFile Sem Op Lib Jvm.Free Jvm.Stand Jvm.Pilot.@@N@@.Jvm.D
/-! MADE BY PROGRAM (witnessworld.py) out of the Statement's table words and the real class files: 15 classes; the members and pool entries that the words name. The judged class is class 1, her method 1. -/
namespace start1
open Jvm.ClassFile
def u (s : String) : CpInfo := .utf8 (stringToUtf16 s)
/-- a pool by its gaps: so many unusable entries, then the entry; so many at the end -/
def gap : Nat → List CpInfo → List CpInfo
  | 0, r => r
  | n + 1, r => .unusable :: gap n r
def poolList (es : List (Nat × CpInfo)) (last : Nat) : List CpInfo := es.foldr (fun e r => gap e.1 (e.2 :: r)) (gap last [])
def pool (es : List (Nat × CpInfo)) (last : Nat) : Array CpInfo := ⟨poolList es last⟩
def fileOf (pool : Array CpInfo) (this : Nat) (attrs : Array Attribute := #[]) (ms : Array MethodInfo := #[]) (fl : Nat := 33) (sup : Nat := 0) (ifs : Array Nat := #[]) (fds : Array FieldInfo := #[]) : ClassFile where
  minorVersion := 0
  majorVersion := 65
  constantPool := pool
  accessFlags := fl
  thisClass := this
  superClass := sup
  interfaces := ifs
  fields := fds
  methods := ms
  attributes := attrs
def plain (name : String) (sup : Option ClassId) : Class where
  name := name
  kind := .ordinary
  loader := none
  accessFlags := 33
  super := sup
  interfaces := #[]
  cf := none
  fields := #[]
  methods := #[]
  instanceTypes := #[]
  staticTypes := #[]
  resolved := #[]
  callSites := []
  init := .initialized
  statics := none
  mirror := none

def pool0 : Array CpInfo := pool [(5, u "<init>"), (0, u "()V"), (1, .class_ 10), (1, u "java/lang/Object")] 113

def k0c0 : Code := { maxStack := 0, maxLocals := 1, code := object_method_1_code, exceptionTable := #[], attributes := #[] }
def k0m0 : Method := { name := "<init>", desc := "()V", sig := { parameters := [], returnType := none }, accessFlags := 1, code := some k0c0 }
/-- java/lang/Object -/
def k0 : Class := { plain "java/lang/Object" none with
  accessFlags := 33
  interfaces := #[]
  cf := some (fileOf pool0 8 #[] #[{ accessFlags := 1, nameIndex := 5, descriptorIndex := 6, attributes := #[] }] 33 0 #[] #[])
  fields := #[]
  methods := #[k0m0]
  instanceTypes := #[]
  staticTypes := #[]
  resolved := Array.replicate 124 none
  statics := none }

def pool1 : Array CpInfo := pool [(2, .class_ 4), (1, u "java/lang/Object"), (0, u "<init>"), (0, u "()V"), (0, .class_ 8), (0, u "com/example/features_at_odds/featuresatodds/search/Rows"), (0, .methodref 7 10), (0, .nameAndType 5 11), (0, u "(II)V"), (0, .methodref 13 14), (0, .class_ 15), (0, .nameAndType 16 17), (0, u "com/example/features_at_odds/featuresatodds/search/RowsAsWordsPinLaw"), (0, u "step"), (0, u "(Lcom/example/features_at_odds/featuresatodds/search/Rows;[J[I[JIIJ)V"), (0, .methodref 7 19), (0, .nameAndType 20 21), (0, u "asWords"), (0, u "()[J"), (0, .methodref 13 23), (0, .nameAndType 24 25), (0, u "at"), (0, u "([J[JII)Z"), (0, .long 63), (1, .methodref 7 29), (0, .nameAndType 30 31), (0, u "add"), (0, u "(I)V"), (0, .methodref 7 33), (0, .nameAndType 34 6), (0, u "endRow"), (2, u "law"), (0, u "(IJI)Z")] 7

def k1m0 : Method := { name := "<init>", desc := "()V", sig := { parameters := [], returnType := none }, accessFlags := 2, code := none }
def k1c1 : Code := { maxStack := 8, maxLocals := 10, code := code, exceptionTable := #[], attributes := #[] }
def k1m1 : Method := { name := "law", desc := "(IJI)Z", sig := { parameters := [.int, .long, .int], returnType := some .boolean }, accessFlags := 9, code := some k1c1 }
def k1c2 : Code := { maxStack := 7, maxLocals := 9, code := method_3_code, exceptionTable := #[], attributes := #[] }
def k1m2 : Method := { name := "step", desc := "(Lcom/example/features_at_odds/featuresatodds/search/Rows;[J[I[JIIJ)V", sig := { parameters := [(.object "com/example/features_at_odds/featuresatodds/search/Rows"), (.array .long), (.array .int), (.array .long), .int, .int, .long], returnType := none }, accessFlags := 10, code := some k1c2 }
def k1c3 : Code := { maxStack := 4, maxLocals := 4, code := method_4_code, exceptionTable := #[], attributes := #[] }
def k1m3 : Method := { name := "at", desc := "([J[JII)Z", sig := { parameters := [(.array .long), (.array .long), .int, .int], returnType := some .boolean }, accessFlags := 10, code := some k1c3 }
/-- com/example/features_at_odds/featuresatodds/search/RowsAsWordsPinLaw -/
def k1 : Class := { plain "com/example/features_at_odds/featuresatodds/search/RowsAsWordsPinLaw" (some 0) with
  accessFlags := 49
  interfaces := #[]
  cf := some (fileOf pool1 13 #[] #[{ accessFlags := 2, nameIndex := 5, descriptorIndex := 6, attributes := #[] }, { accessFlags := 9, nameIndex := 37, descriptorIndex := 38, attributes := #[] }, { accessFlags := 10, nameIndex := 16, descriptorIndex := 17, attributes := #[] }, { accessFlags := 10, nameIndex := 24, descriptorIndex := 25, attributes := #[] }] 49 2 #[] #[])
  fields := #[]
  methods := #[k1m0, k1m1, k1m2, k1m3]
  instanceTypes := #[]
  staticTypes := #[]
  resolved := Array.replicate 46 none
  statics := none }

def pool2 : Array CpInfo := pool [(1, .methodref 2 3), (0, .class_ 4), (0, .nameAndType 5 6), (0, u "java/lang/Object"), (0, u "<init>"), (0, u "()V"), (0, .fieldref 8 9), (0, .class_ 10), (0, .nameAndType 11 12), (0, u "com/example/features_at_odds/featuresatodds/search/Rows"), (0, u "values"), (0, u "[I"), (0, .fieldref 8 14), (0, .nameAndType 15 12), (0, u "start"), (0, .fieldref 8 17), (0, .nameAndType 18 19), (0, u "count"), (0, u "I"), (15, .class_ 37), (1, u "java/util/Arrays"), (2, .fieldref 8 41), (0, .nameAndType 42 19), (0, u "size"), (0, .methodref 44 45), (0, .class_ 46), (0, .nameAndType 47 48), (0, u "com/example/features_at_odds/featuresatodds/search/Capacity"), (0, u "grown"), (0, u "(IJ)I"), (0, .methodref 35 50), (0, .nameAndType 51 52), (0, u "copyOf"), (0, u "([II)[I"), (0, .long 2), (1, u "(II)V"), (14, u "asWords"), (0, u "()[J"), (4, u "add"), (0, u "(I)V"), (0, u "endRow")] 2

def k2c0 : Code := { maxStack := 3, maxLocals := 3, code := prog_39_method_1_code, exceptionTable := #[], attributes := #[] }
def k2m0 : Method := { name := "<init>", desc := "(II)V", sig := { parameters := [.int, .int], returnType := none }, accessFlags := 0, code := some k2c0 }
def k2c1 : Code := { maxStack := 8, maxLocals := 4, code := prog_39_method_10_code, exceptionTable := #[], attributes := #[] }
def k2m1 : Method := { name := "asWords", desc := "()[J", sig := { parameters := [], returnType := some (.array .long) }, accessFlags := 0, code := some k2c1 }
def k2c2 : Code := { maxStack := 7, maxLocals := 2, code := prog_39_method_12_code, exceptionTable := #[], attributes := #[] }
def k2m2 : Method := { name := "add", desc := "(I)V", sig := { parameters := [.int], returnType := none }, accessFlags := 0, code := some k2c2 }
def k2c3 : Code := { maxStack := 7, maxLocals := 1, code := prog_39_method_13_code, exceptionTable := #[], attributes := #[] }
def k2m3 : Method := { name := "endRow", desc := "()V", sig := { parameters := [], returnType := none }, accessFlags := 0, code := some k2c3 }
/-- com/example/features_at_odds/featuresatodds/search/Rows -/
def k2 : Class := { plain "com/example/features_at_odds/featuresatodds/search/Rows" (some 0) with
  accessFlags := 48
  interfaces := #[]
  cf := some (fileOf pool2 8 #[] #[{ accessFlags := 0, nameIndex := 5, descriptorIndex := 55, attributes := #[] }, { accessFlags := 0, nameIndex := 70, descriptorIndex := 71, attributes := #[] }, { accessFlags := 0, nameIndex := 76, descriptorIndex := 77, attributes := #[] }, { accessFlags := 0, nameIndex := 78, descriptorIndex := 6, attributes := #[] }] 48 2 #[] #[{ accessFlags := 2, nameIndex := 11, descriptorIndex := 12, attributes := #[] }, { accessFlags := 2, nameIndex := 15, descriptorIndex := 12, attributes := #[] }, { accessFlags := 2, nameIndex := 18, descriptorIndex := 19, attributes := #[] }, { accessFlags := 2, nameIndex := 42, descriptorIndex := 19, attributes := #[] }])
  fields := #[{ name := "values", type := (.array .int), accessFlags := 2, slot := 0, constantValue := 0 }, { name := "start", type := (.array .int), accessFlags := 2, slot := 1, constantValue := 0 }, { name := "count", type := .int, accessFlags := 2, slot := 2, constantValue := 0 }, { name := "size", type := .int, accessFlags := 2, slot := 3, constantValue := 0 }]
  methods := #[k2m0, k2m1, k2m2, k2m3]
  instanceTypes := #[(.array .int), (.array .int), .int, .int]
  staticTypes := #[]
  resolved := Array.replicate 81 none
  statics := none }

def pool3 : Array CpInfo := pool [(4, .class_ 6), (1, u "java/lang/Object"), (0, u "<init>"), (0, u "()V"), (0, .class_ 10), (0, u "com/example/features_at_odds/featuresatodds/search/Capacity"), (0, .long 2147483639), (10, .long 2), (1, .methodref 25 26), (0, .class_ 27), (0, .nameAndType 28 29), (0, u "java/lang/Math"), (0, u "min"), (0, u "(JJ)J"), (0, .methodref 25 31), (0, .nameAndType 32 29), (0, u "max"), (0, u "MAX_ARRAY"), (0, u "I"), (4, u "grown"), (0, u "(IJ)I")] 18

def k3m0 : Method := { name := "<init>", desc := "()V", sig := { parameters := [], returnType := none }, accessFlags := 2, code := none }
def k3c1 : Code := { maxStack := 8, maxLocals := 3, code := prog_27_method_2_code, exceptionTable := #[], attributes := #[] }
def k3m1 : Method := { name := "grown", desc := "(IJ)I", sig := { parameters := [.int, .long], returnType := some .int }, accessFlags := 8, code := some k3c1 }
/-- com/example/features_at_odds/featuresatodds/search/Capacity -/
def k3 : Class := { plain "com/example/features_at_odds/featuresatodds/search/Capacity" (some 0) with
  accessFlags := 48
  interfaces := #[]
  cf := some (fileOf pool3 9 #[] #[{ accessFlags := 2, nameIndex := 7, descriptorIndex := 8, attributes := #[] }, { accessFlags := 8, nameIndex := 39, descriptorIndex := 40, attributes := #[] }] 48 4 #[] #[{ accessFlags := 24, nameIndex := 33, descriptorIndex := 34, attributes := #[] }])
  fields := #[{ name := "MAX_ARRAY", type := .int, accessFlags := 24, slot := 0, constantValue := 0 }]
  methods := #[k3m0, k3m1]
  instanceTypes := #[]
  staticTypes := #[.int]
  resolved := Array.replicate 59 none
  statics := none }

def pool4 : Array CpInfo := pool [(1, .class_ 2), (0, u "java/lang/Math"), (1, .class_ 6), (1, u "java/lang/Object"), (0, u "<init>"), (0, u "()V"), (89, .class_ 100), (1, u "java/lang/Math$RandomNumberGeneratorHolder"), (20, u "(JJ)J"), (50, u "negativeZeroFloatBits"), (0, u "J"), (2, u "negativeZeroDoubleBits"), (21, u "max"), (2, u "min"), (43, u "$assertionsDisabled"), (0, u "Z"), (88, u "(II)I"), (2, u "twoToTheDoubleScaleDown"), (0, u "D"), (4, u "twoToTheDoubleScaleUp"), (9, u "E"), (3, u "PI"), (2, u "TAU"), (2, u "DEGREES_TO_RADIANS"), (0, u "RADIANS_TO_DEGREES")] 94

def k4m0 : Method := { name := "<init>", desc := "()V", sig := { parameters := [], returnType := none }, accessFlags := 2, code := none }
def k4c1 : Code := { maxStack := 4, maxLocals := 4, code := jdk_29_method_66_code, exceptionTable := #[], attributes := #[] }
def k4m1 : Method := { name := "max", desc := "(JJ)J", sig := { parameters := [.long, .long], returnType := some .long }, accessFlags := 9, code := some k4c1 }
def k4c2 : Code := { maxStack := 2, maxLocals := 2, code := jdk_29_method_69_code, exceptionTable := #[], attributes := #[] }
def k4m2 : Method := { name := "min", desc := "(II)I", sig := { parameters := [.int, .int], returnType := some .int }, accessFlags := 9, code := some k4c2 }
def k4c3 : Code := { maxStack := 4, maxLocals := 4, code := jdk_29_method_70_code, exceptionTable := #[], attributes := #[] }
def k4m3 : Method := { name := "min", desc := "(JJ)J", sig := { parameters := [.long, .long], returnType := some .long }, accessFlags := 9, code := some k4c3 }
/-- java/lang/Math -/
def k4 : Class := { plain "java/lang/Math" (some 0) with
  accessFlags := 49
  interfaces := #[]
  cf := some (fileOf pool4 1 #[.nestMembers #[98]] #[{ accessFlags := 2, nameIndex := 7, descriptorIndex := 8, attributes := #[] }, { accessFlags := 9, nameIndex := 198, descriptorIndex := 121, attributes := #[] }, { accessFlags := 9, nameIndex := 201, descriptorIndex := 335, attributes := #[] }, { accessFlags := 9, nameIndex := 201, descriptorIndex := 121, attributes := #[] }] 49 4 #[] #[{ accessFlags := 25, nameIndex := 354, descriptorIndex := 339, attributes := #[] }, { accessFlags := 25, nameIndex := 358, descriptorIndex := 339, attributes := #[] }, { accessFlags := 25, nameIndex := 361, descriptorIndex := 339, attributes := #[] }, { accessFlags := 26, nameIndex := 364, descriptorIndex := 339, attributes := #[] }, { accessFlags := 26, nameIndex := 365, descriptorIndex := 339, attributes := #[] }, { accessFlags := 26, nameIndex := 172, descriptorIndex := 173, attributes := #[] }, { accessFlags := 26, nameIndex := 176, descriptorIndex := 173, attributes := #[] }, { accessFlags := 8, nameIndex := 344, descriptorIndex := 339, attributes := #[] }, { accessFlags := 8, nameIndex := 338, descriptorIndex := 339, attributes := #[] }, { accessFlags := 4120, nameIndex := 245, descriptorIndex := 246, attributes := #[] }])
  fields := #[{ name := "E", type := .double, accessFlags := 25, slot := 0, constantValue := 0 }, { name := "PI", type := .double, accessFlags := 25, slot := 1, constantValue := 0 }, { name := "TAU", type := .double, accessFlags := 25, slot := 2, constantValue := 0 }, { name := "DEGREES_TO_RADIANS", type := .double, accessFlags := 26, slot := 3, constantValue := 0 }, { name := "RADIANS_TO_DEGREES", type := .double, accessFlags := 26, slot := 4, constantValue := 0 }, { name := "negativeZeroFloatBits", type := .long, accessFlags := 26, slot := 5, constantValue := 0 }, { name := "negativeZeroDoubleBits", type := .long, accessFlags := 26, slot := 6, constantValue := 0 }, { name := "twoToTheDoubleScaleUp", type := .double, accessFlags := 8, slot := 7, constantValue := 0 }, { name := "twoToTheDoubleScaleDown", type := .double, accessFlags := 8, slot := 8, constantValue := 0 }, { name := "$assertionsDisabled", type := .boolean, accessFlags := 4120, slot := 9, constantValue := 0 }]
  methods := #[k4m0, k4m1, k4m2, k4m3]
  instanceTypes := #[]
  staticTypes := #[.double, .double, .double, .double, .double, .long, .long, .double, .double, .boolean]
  resolved := Array.replicate 460 none
  statics := none }

def pool5 : Array CpInfo := pool [(2, .class_ 4), (1, u "java/lang/Object"), (0, u "<init>"), (0, u "()V"), (7, .class_ 16), (1, u "java/util/Arrays"), (57, .class_ 76), (1, u "java/util/Arrays$NaturalOrder"), (36, .class_ 115), (1, u "java/util/Arrays$LegacyMergeSort"), (1, u "Z"), (32, .methodref 151 152), (0, .class_ 153), (0, .nameAndType 154 155), (0, u "java/lang/System"), (0, u "arraycopy"), (0, u "(Ljava/lang/Object;ILjava/lang/Object;II)V"), (146, u "copyOf"), (1, .methodref 305 306), (0, .class_ 307), (0, .nameAndType 308 309), (0, u "java/lang/Math"), (0, u "min"), (0, u "(II)I"), (65, .class_ 376), (0, u "java/util/Arrays$ArrayList"), (68, u "$assertionsDisabled"), (269, u "MIN_ARRAY_SORT_GRAN"), (0, u "I"), (2, u "INSERTIONSORT_THRESHOLD"), (151, u "([II)[I"), (103, .class_ 976), (0, u "java/util/Arrays$ArrayItr")] 52

def k5m0 : Method := { name := "<init>", desc := "()V", sig := { parameters := [], returnType := none }, accessFlags := 2, code := none }
def k5c1 : Code := { maxStack := 6, maxLocals := 3, code := jdk_65_method_123_code, exceptionTable := #[], attributes := #[] }
def k5m1 : Method := { name := "copyOf", desc := "([II)[I", sig := { parameters := [(.array .int), .int], returnType := some (.array .int) }, accessFlags := 9, code := some k5c1 }
/-- java/util/Arrays -/
def k5 : Class := { plain "java/util/Arrays" (some 0) with
  accessFlags := 49
  interfaces := #[]
  cf := some (fileOf pool5 14 #[.nestMembers #[975, 375, 113, 74]] #[{ accessFlags := 2, nameIndex := 5, descriptorIndex := 6, attributes := #[] }, { accessFlags := 9, nameIndex := 302, descriptorIndex := 871, attributes := #[] }] 49 2 #[] #[{ accessFlags := 26, nameIndex := 715, descriptorIndex := 716, attributes := #[] }, { accessFlags := 26, nameIndex := 719, descriptorIndex := 716, attributes := #[] }, { accessFlags := 4120, nameIndex := 445, descriptorIndex := 117, attributes := #[] }])
  fields := #[{ name := "MIN_ARRAY_SORT_GRAN", type := .int, accessFlags := 26, slot := 0, constantValue := 0 }, { name := "INSERTIONSORT_THRESHOLD", type := .int, accessFlags := 26, slot := 1, constantValue := 0 }, { name := "$assertionsDisabled", type := .boolean, accessFlags := 4120, slot := 2, constantValue := 0 }]
  methods := #[k5m0, k5m1]
  instanceTypes := #[]
  staticTypes := #[.int, .int, .boolean]
  resolved := Array.replicate 1029 none
  statics := none }

def pool6 : Array CpInfo := pool [(2, .class_ 4), (1, u "java/lang/Object"), (0, u "<init>"), (0, u "()V"), (1, .class_ 10), (1, u "java/lang/System"), (0, u "allowSecurityManager"), (0, u "I"), (16, u "cons"), (0, u "Ljava/io/Console;"), (77, .class_ 110), (1, u "java/lang/System$CallersHolder"), (43, u "initialErrStream"), (0, u "Ljava/io/PrintStream;"), (19, u "security"), (0, u "Ljava/lang/SecurityManager;"), (31, .class_ 209), (0, u "java/lang/System$1"), (7, u "props"), (0, u "Ljava/util/Properties;"), (2, u "lineSeparator"), (0, u "Ljava/lang/String;"), (96, .class_ 321), (1, u "java/lang/System$LoggerFinder"), (5, .class_ 328), (0, u "java/lang/System$Logger"), (67, u "err"), (2, u "out"), (91, u "notSupportedJnuEncoding"), (15, u "in"), (17, u "initialIn"), (0, u "Ljava/io/InputStream;"), (35, u "bootLayer"), (0, u "Ljava/lang/ModuleLayer;"), (99, .class_ 664), (0, u "java/lang/System$2"), (9, u "NEVER"), (2, u "MAYBE"), (49, u "arraycopy"), (0, u "(Ljava/lang/Object;ILjava/lang/Object;II)V"), (72, .class_ 802), (0, u "java/lang/System$Logger$Level")] 31

def k6m0 : Method := { name := "<init>", desc := "()V", sig := { parameters := [], returnType := none }, accessFlags := 2, code := none }
def k6m1 : Method := { name := "arraycopy", desc := "(Ljava/lang/Object;ILjava/lang/Object;II)V", sig := { parameters := [(.object "java/lang/Object"), .int, (.object "java/lang/Object"), .int, .int], returnType := none }, accessFlags := 265, code := none }
/-- java/lang/System -/
def k6 : Class := { plain "java/lang/System" (some 0) with
  accessFlags := 49
  interfaces := #[]
  cf := some (fileOf pool6 8 #[.nestMembers #[319, 327, 801, 108, 663, 208]] #[{ accessFlags := 2, nameIndex := 5, descriptorIndex := 6, attributes := #[] }, { accessFlags := 265, nameIndex := 727, descriptorIndex := 728, attributes := #[] }] 49 2 #[] #[{ accessFlags := 25, nameIndex := 507, descriptorIndex := 526, attributes := #[] }, { accessFlags := 25, nameIndex := 399, descriptorIndex := 155, attributes := #[] }, { accessFlags := 25, nameIndex := 396, descriptorIndex := 155, attributes := #[] }, { accessFlags := 10, nameIndex := 525, descriptorIndex := 526, attributes := #[] }, { accessFlags := 26, nameIndex := 674, descriptorIndex := 12, attributes := #[] }, { accessFlags := 26, nameIndex := 677, descriptorIndex := 12, attributes := #[] }, { accessFlags := 10, nameIndex := 11, descriptorIndex := 12, attributes := #[] }, { accessFlags := 74, nameIndex := 175, descriptorIndex := 176, attributes := #[] }, { accessFlags := 10, nameIndex := 491, descriptorIndex := 222, attributes := #[] }, { accessFlags := 74, nameIndex := 29, descriptorIndex := 30, attributes := #[] }, { accessFlags := 74, nameIndex := 154, descriptorIndex := 155, attributes := #[] }, { accessFlags := 10, nameIndex := 217, descriptorIndex := 218, attributes := #[] }, { accessFlags := 10, nameIndex := 221, descriptorIndex := 222, attributes := #[] }, { accessFlags := 8, nameIndex := 562, descriptorIndex := 563, attributes := #[] }])
  fields := #[{ name := "in", type := (.object "java/io/InputStream"), accessFlags := 25, slot := 0, constantValue := 0 }, { name := "out", type := (.object "java/io/PrintStream"), accessFlags := 25, slot := 1, constantValue := 0 }, { name := "err", type := (.object "java/io/PrintStream"), accessFlags := 25, slot := 2, constantValue := 0 }, { name := "initialIn", type := (.object "java/io/InputStream"), accessFlags := 10, slot := 3, constantValue := 0 }, { name := "NEVER", type := .int, accessFlags := 26, slot := 4, constantValue := 0 }, { name := "MAYBE", type := .int, accessFlags := 26, slot := 5, constantValue := 0 }, { name := "allowSecurityManager", type := .int, accessFlags := 10, slot := 6, constantValue := 0 }, { name := "security", type := (.object "java/lang/SecurityManager"), accessFlags := 74, slot := 7, constantValue := 0 }, { name := "notSupportedJnuEncoding", type := (.object "java/lang/String"), accessFlags := 10, slot := 8, constantValue := 0 }, { name := "cons", type := (.object "java/io/Console"), accessFlags := 74, slot := 9, constantValue := 0 }, { name := "initialErrStream", type := (.object "java/io/PrintStream"), accessFlags := 74, slot := 10, constantValue := 0 }, { name := "props", type := (.object "java/util/Properties"), accessFlags := 10, slot := 11, constantValue := 0 }, { name := "lineSeparator", type := (.object "java/lang/String"), accessFlags := 10, slot := 12, constantValue := 0 }, { name := "bootLayer", type := (.object "java/lang/ModuleLayer"), accessFlags := 8, slot := 13, constantValue := 0 }]
  methods := #[k6m0, k6m1]
  instanceTypes := #[]
  staticTypes := #[(.object "java/io/InputStream"), (.object "java/io/PrintStream"), (.object "java/io/PrintStream"), (.object "java/io/InputStream"), .int, .int, .int, (.object "java/lang/SecurityManager"), (.object "java/lang/String"), (.object "java/io/Console"), (.object "java/io/PrintStream"), (.object "java/util/Properties"), (.object "java/lang/String"), (.object "java/lang/ModuleLayer")]
  resolved := Array.replicate 834 none
  statics := none }

def pool7 : Array CpInfo := pool [(1, u "java/lang/Cloneable"), (0, .class_ 1), (0, u "java/lang/Object"), (0, .class_ 3)] 3

/-- java/lang/Cloneable -/
def k7 : Class := { plain "java/lang/Cloneable" (some 0) with
  accessFlags := 1537
  interfaces := #[]
  cf := some (fileOf pool7 2 #[] #[] 1537 4 #[] #[])
  fields := #[]
  methods := #[]
  instanceTypes := #[]
  staticTypes := #[]
  resolved := Array.replicate 8 none
  statics := none }

def pool8 : Array CpInfo := pool [(1, u "java/io/Serializable"), (0, .class_ 1), (0, u "java/lang/Object"), (0, .class_ 3)] 3

/-- java/io/Serializable -/
def k8 : Class := { plain "java/io/Serializable" (some 0) with
  accessFlags := 1537
  interfaces := #[]
  cf := some (fileOf pool8 2 #[] #[] 1537 4 #[] #[])
  fields := #[]
  methods := #[]
  instanceTypes := #[]
  staticTypes := #[]
  resolved := Array.replicate 8 none
  statics := none }

/-- the primitive byte -/
def k9 : Class := { plain "byte" none with kind := .primitive 'B', accessFlags := 0x411 }
/-- [B -/
def k10 : Class := { plain "[B" (some 0) with kind := .array 9 .byte, interfaces := #[7, 8], accessFlags := 1041 }

/-- the primitive int -/
def k11 : Class := { plain "int" none with kind := .primitive 'I', accessFlags := 0x411 }
/-- [I -/
def k12 : Class := { plain "[I" (some 0) with kind := .array 11 .int, interfaces := #[7, 8], accessFlags := 1041 }

/-- the primitive long -/
def k13 : Class := { plain "long" none with kind := .primitive 'J', accessFlags := 0x411 }
/-- [J -/
def k14 : Class := { plain "[J" (some 0) with kind := .array 13 .long, interfaces := #[7, 8], accessFlags := 1041 }

def heap : Heap := #[]
def classes : Array Class := #[k0, k1, k2, k3, k4, k5, k6, k7, k8, k9, k10, k11, k12, k13, k14]
def interned : List (Array UInt16 × Addr) := []
def slotsUsed : Nat := 0
def theMethod : MethodId := ⟨1, 1⟩
def args0 : Array Value := #[.int 5, .long 300, .int 7]
def aboutOver (below : List Frame) : State where
  vm := { classes := classes, interned := interned.toArray }
  heap := heap
  slotsUsed := slotsUsed
  threads := #[{ frames := .invoking theMethod args0 :: below }]
def below0 : List Frame := [.native { method := ⟨0, 0⟩, args := #[] }]
def about1 : State := aboutOver below0
def p0 : Program := .bare "" "" ""
def e0 : Env := launch0.env 0 0 0
theorem w_frames : about1.frames = Frame.invoking theMethod args0 :: below0 := rfl
set_option maxRecDepth 65536 in
theorem w_args : argsFit about1.vm theMethod args0 = true := by decide +kernel
set_option maxRecDepth 65536 in
theorem w_heap : heapFits about1 = true := by decide +kernel
set_option maxRecDepth 65536 in
theorem w_runnable : about1.curStatus? = some .runnable := by decide +kernel
set_option maxRecDepth 65536 in
theorem w_alone : about1.alone = true := by decide +kernel
set_option maxRecDepth 65536 in
theorem w_named : about1.methodNamed? x = some theMethod := by decide +kernel
set_option maxRecDepth 65536 in
theorem w_hears : about1.hears theMethod below0 = true := by decide +kernel
set_option maxRecDepth 65536 in
theorem w_ripe : about1.ripe theMethod args0 below0 = true := by decide +kernel
theorem w_running : about1.status = .running := rfl
set_option maxRecDepth 65536 in
theorem w_room : about1.hasRoom e0.platform room_1 = true :=
  launch0.hasRoom_least _ room_1 (by decide +kernel) (by decide +kernel) (by decide +kernel) (by decide +kernel) (by decide +kernel) (by decide +kernel)
theorem allAtoms_all (ts : List Jvm.Cond) (a : Array Jvm.Value) (st : Jvm.State) : (allAtoms ts).before a st = ts.all (fun c => c.before a st) := by
  induction ts with
  | nil => rfl
  | cons c t ih =>
    show (Jvm.Cond.and c (allAtoms t)).before a st = _
    rw [Jvm.Cond.before_and, ih, List.all_cons]
def words1 : List Jvm.Cond := Jvm.Cond.code x code maxLocals ret :: tables_1
/-- a 'code' word, met by the world's own term for the bytes: nothing is compared byte by byte -/
theorem code_word {y : MethodName} {bytes : ByteArray} {mx : Nat} {rt : Option FieldType} {a : Array Value} {s : State} {m : MethodId} {meth : Method} {c : Code} (h1 : s.methodNamed? y = some m) (h2 : s.vm.method? m = some meth) (h3 : meth.code = some c) (h4 : c.code = bytes)
    (h5 : (c.maxLocals == mx && c.exceptionTable.isEmpty && decide (c.maxStack ≤ mostOperands) && decide (meth.sig.returnType = rt) && !meth.locks && decide (parseMethodDescriptor y.desc = some meth.sig)) = true) : (Jvm.Cond.code y bytes mx rt).before a s = true := by
  simp only [Bool.and_eq_true, beq_iff_eq, Bool.not_eq_true', decide_eq_true_eq] at h5
  obtain ⟨⟨⟨⟨⟨g1, g2⟩, g3⟩, g4⟩, g5⟩, g6⟩ := h5
  simp [Cond.before, Cond.holds, Cond.value, h1, h2, h3, h4, g1, g2, g3, g4, g5, g6]
def isCode : Jvm.Cond → Bool
  | .code _ _ _ _ => true
  | _ => false
theorem all_split {L : List Jvm.Cond} {P : Jvm.Cond → Bool} (h1 : L.all (fun c => isCode c || P c) = true) (h2 : ∀ c ∈ L.filter isCode, P c = true) : L.all P = true := by
  refine List.all_eq_true.mpr fun c hc => ?_
  have h := List.all_eq_true.mp h1 c hc
  rcases Bool.eq_false_or_eq_true (isCode c) with hi | hi
  · exact h2 c (List.mem_filter.mpr ⟨hc, hi⟩)
  · simpa [hi] using h
set_option maxRecDepth 65536 in
theorem w_c0 : (Jvm.Cond.code x code maxLocals ret).before args0 about1 = true := code_word (m := ⟨1, 1⟩) (meth := k1m1) (c := k1c1) (by decide +kernel) rfl rfl rfl (by decide +kernel)
set_option maxRecDepth 65536 in
theorem w_c1 : (Jvm.Cond.code ({ cls := "com/example/features_at_odds/featuresatodds/search/Rows", name := "<init>", desc := "(II)V" } : Jvm.MethodName) prog_39_method_1_code (3 : Nat) (Option.none : Option Jvm.ClassFile.FieldType)).before args0 about1 = true := code_word (m := ⟨2, 0⟩) (meth := k2m0) (c := k2c0) (by decide +kernel) rfl rfl rfl (by decide +kernel)
set_option maxRecDepth 65536 in
theorem w_c2 : (Jvm.Cond.code ({ cls := "java/lang/Object", name := "<init>", desc := "()V" } : Jvm.MethodName) object_method_1_code (1 : Nat) (Option.none : Option Jvm.ClassFile.FieldType)).before args0 about1 = true := code_word (m := ⟨0, 0⟩) (meth := k0m0) (c := k0c0) (by decide +kernel) rfl rfl rfl (by decide +kernel)
set_option maxRecDepth 65536 in
theorem w_c3 : (Jvm.Cond.code ({ cls := "com/example/features_at_odds/featuresatodds/search/RowsAsWordsPinLaw", name := "step", desc := "(Lcom/example/features_at_odds/featuresatodds/search/Rows;[J[I[JIIJ)V" } : Jvm.MethodName) method_3_code (9 : Nat) (Option.none : Option Jvm.ClassFile.FieldType)).before args0 about1 = true := code_word (m := ⟨1, 2⟩) (meth := k1m2) (c := k1c2) (by decide +kernel) rfl rfl rfl (by decide +kernel)
set_option maxRecDepth 65536 in
theorem w_c4 : (Jvm.Cond.code ({ cls := "com/example/features_at_odds/featuresatodds/search/Rows", name := "endRow", desc := "()V" } : Jvm.MethodName) prog_39_method_13_code (1 : Nat) (Option.none : Option Jvm.ClassFile.FieldType)).before args0 about1 = true := code_word (m := ⟨2, 3⟩) (meth := k2m3) (c := k2c3) (by decide +kernel) rfl rfl rfl (by decide +kernel)
set_option maxRecDepth 65536 in
theorem w_c5 : (Jvm.Cond.code ({ cls := "com/example/features_at_odds/featuresatodds/search/Capacity", name := "grown", desc := "(IJ)I" } : Jvm.MethodName) prog_27_method_2_code (3 : Nat) (Option.some Jvm.ClassFile.FieldType.int)).before args0 about1 = true := code_word (m := ⟨3, 1⟩) (meth := k3m1) (c := k3c1) (by decide +kernel) rfl rfl rfl (by decide +kernel)
set_option maxRecDepth 65536 in
theorem w_c6 : (Jvm.Cond.code ({ cls := "java/lang/Math", name := "min", desc := "(JJ)J" } : Jvm.MethodName) jdk_29_method_70_code (4 : Nat) (Option.some Jvm.ClassFile.FieldType.long)).before args0 about1 = true := code_word (m := ⟨4, 3⟩) (meth := k4m3) (c := k4c3) (by decide +kernel) rfl rfl rfl (by decide +kernel)
set_option maxRecDepth 65536 in
theorem w_c7 : (Jvm.Cond.code ({ cls := "java/lang/Math", name := "max", desc := "(JJ)J" } : Jvm.MethodName) jdk_29_method_66_code (4 : Nat) (Option.some Jvm.ClassFile.FieldType.long)).before args0 about1 = true := code_word (m := ⟨4, 1⟩) (meth := k4m1) (c := k4c1) (by decide +kernel) rfl rfl rfl (by decide +kernel)
set_option maxRecDepth 65536 in
theorem w_c8 : (Jvm.Cond.code ({ cls := "java/util/Arrays", name := "copyOf", desc := "([II)[I" } : Jvm.MethodName) jdk_65_method_123_code (3 : Nat) (Option.some (Jvm.ClassFile.FieldType.array Jvm.ClassFile.FieldType.int))).before args0 about1 = true := code_word (m := ⟨5, 1⟩) (meth := k5m1) (c := k5c1) (by decide +kernel) rfl rfl rfl (by decide +kernel)
set_option maxRecDepth 65536 in
theorem w_c9 : (Jvm.Cond.code ({ cls := "java/lang/Math", name := "min", desc := "(II)I" } : Jvm.MethodName) jdk_29_method_69_code (2 : Nat) (Option.some Jvm.ClassFile.FieldType.int)).before args0 about1 = true := code_word (m := ⟨4, 2⟩) (meth := k4m2) (c := k4c2) (by decide +kernel) rfl rfl rfl (by decide +kernel)
set_option maxRecDepth 65536 in
theorem w_c10 : (Jvm.Cond.code ({ cls := "com/example/features_at_odds/featuresatodds/search/Rows", name := "asWords", desc := "()[J" } : Jvm.MethodName) prog_39_method_10_code (4 : Nat) (Option.some (Jvm.ClassFile.FieldType.array Jvm.ClassFile.FieldType.long))).before args0 about1 = true := code_word (m := ⟨2, 1⟩) (meth := k2m1) (c := k2c1) (by decide +kernel) rfl rfl rfl (by decide +kernel)
set_option maxRecDepth 65536 in
theorem w_c11 : (Jvm.Cond.code ({ cls := "com/example/features_at_odds/featuresatodds/search/RowsAsWordsPinLaw", name := "at", desc := "([J[JII)Z" } : Jvm.MethodName) method_4_code (4 : Nat) (Option.some Jvm.ClassFile.FieldType.boolean)).before args0 about1 = true := code_word (m := ⟨1, 3⟩) (meth := k1m3) (c := k1c3) (by decide +kernel) rfl rfl rfl (by decide +kernel)
set_option maxRecDepth 65536 in
theorem w_c12 : (Jvm.Cond.code ({ cls := "com/example/features_at_odds/featuresatodds/search/Rows", name := "add", desc := "(I)V" } : Jvm.MethodName) prog_39_method_12_code (2 : Nat) (Option.none : Option Jvm.ClassFile.FieldType)).before args0 about1 = true := code_word (m := ⟨2, 2⟩) (meth := k2m2) (c := k2c2) (by decide +kernel) rfl rfl rfl (by decide +kernel)
def codes1 : List Jvm.Cond := [Jvm.Cond.code x code maxLocals ret, Jvm.Cond.code ({ cls := "com/example/features_at_odds/featuresatodds/search/Rows", name := "<init>", desc := "(II)V" } : Jvm.MethodName) prog_39_method_1_code (3 : Nat) (Option.none : Option Jvm.ClassFile.FieldType), Jvm.Cond.code ({ cls := "java/lang/Object", name := "<init>", desc := "()V" } : Jvm.MethodName) object_method_1_code (1 : Nat) (Option.none : Option Jvm.ClassFile.FieldType), Jvm.Cond.code ({ cls := "com/example/features_at_odds/featuresatodds/search/RowsAsWordsPinLaw", name := "step", desc := "(Lcom/example/features_at_odds/featuresatodds/search/Rows;[J[I[JIIJ)V" } : Jvm.MethodName) method_3_code (9 : Nat) (Option.none : Option Jvm.ClassFile.FieldType), Jvm.Cond.code ({ cls := "com/example/features_at_odds/featuresatodds/search/Rows", name := "endRow", desc := "()V" } : Jvm.MethodName) prog_39_method_13_code (1 : Nat) (Option.none : Option Jvm.ClassFile.FieldType), Jvm.Cond.code ({ cls := "com/example/features_at_odds/featuresatodds/search/Capacity", name := "grown", desc := "(IJ)I" } : Jvm.MethodName) prog_27_method_2_code (3 : Nat) (Option.some Jvm.ClassFile.FieldType.int), Jvm.Cond.code ({ cls := "java/lang/Math", name := "min", desc := "(JJ)J" } : Jvm.MethodName) jdk_29_method_70_code (4 : Nat) (Option.some Jvm.ClassFile.FieldType.long), Jvm.Cond.code ({ cls := "java/lang/Math", name := "max", desc := "(JJ)J" } : Jvm.MethodName) jdk_29_method_66_code (4 : Nat) (Option.some Jvm.ClassFile.FieldType.long), Jvm.Cond.code ({ cls := "java/util/Arrays", name := "copyOf", desc := "([II)[I" } : Jvm.MethodName) jdk_65_method_123_code (3 : Nat) (Option.some (Jvm.ClassFile.FieldType.array Jvm.ClassFile.FieldType.int)), Jvm.Cond.code ({ cls := "java/lang/Math", name := "min", desc := "(II)I" } : Jvm.MethodName) jdk_29_method_69_code (2 : Nat) (Option.some Jvm.ClassFile.FieldType.int), Jvm.Cond.code ({ cls := "com/example/features_at_odds/featuresatodds/search/Rows", name := "asWords", desc := "()[J" } : Jvm.MethodName) prog_39_method_10_code (4 : Nat) (Option.some (Jvm.ClassFile.FieldType.array Jvm.ClassFile.FieldType.long)), Jvm.Cond.code ({ cls := "com/example/features_at_odds/featuresatodds/search/RowsAsWordsPinLaw", name := "at", desc := "([J[JII)Z" } : Jvm.MethodName) method_4_code (4 : Nat) (Option.some Jvm.ClassFile.FieldType.boolean), Jvm.Cond.code ({ cls := "com/example/features_at_odds/featuresatodds/search/Rows", name := "add", desc := "(I)V" } : Jvm.MethodName) prog_39_method_12_code (2 : Nat) (Option.none : Option Jvm.ClassFile.FieldType)]
set_option maxRecDepth 65536 in
theorem codes_eq : words1.filter isCode = codes1 := rfl
theorem w_codes : ∀ c ∈ words1.filter isCode, c.before args0 about1 = true := by
  rw [codes_eq]
  intro c hc
  simp only [codes1, List.mem_cons, List.not_mem_nil, or_false] at hc
  rcases hc with rfl | rfl | rfl | rfl | rfl | rfl | rfl | rfl | rfl | rfl | rfl | rfl | rfl
  · exact w_c0
  · exact w_c1
  · exact w_c2
  · exact w_c3
  · exact w_c4
  · exact w_c5
  · exact w_c6
  · exact w_c7
  · exact w_c8
  · exact w_c9
  · exact w_c10
  · exact w_c11
  · exact w_c12
set_option maxRecDepth 65536 in
theorem w_t1 : (words1.take 24).all (fun c => isCode c || c.before args0 about1) = true := by decide +kernel
set_option maxRecDepth 65536 in
theorem w_t2 : ((words1.drop 24).take 24).all (fun c => isCode c || c.before args0 about1) = true := by decide +kernel
set_option maxRecDepth 65536 in
theorem w_t3 : ((words1.drop 24).drop 24).all (fun c => isCode c || c.before args0 about1) = true := by decide +kernel
theorem w_tables : (allAtoms (Jvm.Cond.code x code maxLocals ret :: tables_1)).before args0 about1 = true := by
  rw [allAtoms_all]
  show words1.all (fun c => c.before args0 about1) = true
  refine all_split ?_ w_codes
  rw [← List.take_append_drop 24 words1, List.all_append, w_t1, ← List.take_append_drop 24 (words1.drop 24), List.all_append, w_t2, w_t3]
  rfl
set_option maxRecDepth 65536 in
theorem w_case : (Jvm.Cond.and given_1 narrow_1).before args0 about1 = true := by decide +kernel
theorem w_applies : (headSpec (Jvm.Cond.code x code maxLocals ret :: tables_1) room_1).applies x e0.platform about1 = true :=
  (Spec.applies_iff w_frames).mpr ⟨w_running, w_runnable, w_alone, w_named, w_hears, w_ripe, w_room, w_tables⟩
theorem atStart : AtStart classFile x code maxLocals ret World_1 tables_1 room_1 Calls_1 rest_1 Pre_1 launch0 p0 e0 about1 theMethod args0 below0 :=
  ⟨lists_1, trivial, launch0.admits_env _ _ _, launch0.least_env, fairChoices_fair.cas, fairChoices_fair.clock, w_frames, w_args, w_heap, w_applies, trivial, trivial, w_case⟩
end start1
theorem witness_1 : WitnessClaimed_1 := ⟨start1.p0, start1.e0, start1.about1, start1.theMethod, start1.args0, start1.below0, start1.atStart⟩
end Jvm.Pilot.@@N@@
