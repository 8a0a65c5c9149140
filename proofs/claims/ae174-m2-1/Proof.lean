import JvmDerived
import JvmDerived.Pilot.@@N@@Statement
import JvmDerived.Pilot.@@N@@Code
set_option linter.unusedVariables false
set_option linter.unusedSimpArgs false
namespace Jvm.Pilot.@@N@@
open Jvm Jvm.ClassFile Sem Op Lib Jvm.Free Jvm.Stand Jvm.LawKit Jvm.RoadKit Bundle Jvm.Pilot.@@N@@.Jvm.D
/-! ## A small logic of runs over a virtual heap (own work, the same text in every proof of this seat)
References count from the first cell that the law makes (n0): `shV n0`. `Ob`: an object by its class (a place in K) and its laid fields, or an array by its component type and values.
`Runs K l Z n0 mi pc ls st H v H'`: whoever stands in the method mi at pc with locals ls, stack st and virtual heap H comes out returning v with heap H'. -/
def shV (n0 : Nat) : Value → Value
  | .ref a => .ref (n0 + a)
  | v => v
def shS (n0 : Nat) : Slot → Slot
  | .val v => .val (shV n0 v)
  | s => s
abbrev Ob : Type := (Nat × List Value) ⊕ (FieldType × List Value)
/-- a field: who declares it, its name, its descriptor, its type -/
abbrev FI : Type := String × String × String × FieldType
/-- a class: its name, the number of its slots, its fields -/
abbrev CI : Type := String × Nat × List FI
/-- a method: name, bytes, max_locals, return type; frames and words that its callees need -/
abbrev MI : Type := MethodName × ByteArray × Nat × Option FieldType × Nat × Nat
def osz (K : List CI) : Ob → Nat
  | .inl (c, _) => ((K[c]?).map (fun ci => ci.2.1)).getD 0
  | .inr (_, vs) => vs.length
def szs (K : List CI) (H : List Ob) : Nat := (H.map (osz K)).sum
def OOk (K : List CI) (Z : State) (n0 : Nat) (h : Heap) (a : Addr) : Ob → Prop
  | .inl (c, vs) => ∃ ci, K[c]? = some ci ∧ Exa Z h a ci.1 ∧ ∀ (i : Nat) (f : FI) (v : Value), ci.2.2[i]? = some f → vs[i]? = some v → Fld Z h a f.1 f.2.1 f.2.2.1 (shV n0 v)
  | .inr (ty, vs) => ∃ cl, Arr Z h a cl ty ∧ cl.slots.size = vs.length ∧ vs.length < 2 ^ 31 ∧ ∀ (i : Nat) (v : Value), vs[i]? = some v → cl.slots[i]? = some (shV n0 v) ∧ fits ty v = true
def Rel (K : List CI) (Z : State) (n0 : Nat) (H : List Ob) (h : Heap) : Prop := h.size = n0 + H.length ∧ ∀ (k : Nat) (o : Ob), H[k]? = some o → OOk K Z n0 h (n0 + k) o
def KOk (K : List CI) (Z : State) (a0 : Array Value) : Prop := ∀ (k : Nat) (ci : CI), K[k]? = some ci → (Jvm.Cond.instantiable ci.1 ci.2.1).before a0 Z = true ∧ (∀ f ∈ ci.2.2, Laid Z a0 ci.1 f.1 f.2.1 f.2.2.1 ∧ parseFieldDescriptor f.2.2.1 = some f.2.2.2) ∧ ci.2.2.Pairwise (fun f g => f.2.1 ≠ g.2.1)
theorem cat_sh (n0 : Nat) (v : Value) : (shV n0 v).category = v.category := by cases v <;> rfl
theorem cats_sh (n0 : Nat) (st : List Value) : ((st.map (shV n0)).map fun v => v.category).sum = (st.map fun v => v.category).sum := by
  rw [List.map_map]; congr 1; exact List.map_congr_left fun v _ => cat_sh n0 v
theorem laid_map (n0 : Nat) : ∀ as : List Value, Jvm.Sym.laidSlots (as.map (shV n0)) = (Jvm.Sym.laidSlots as).map (shS n0)
  | [] => rfl
  | v :: vs => by
    simp only [List.map_cons, Jvm.Sym.laidSlots, cat_sh, laid_map n0 vs]
    split <;> rfl
theorem entry_eq (n0 : Nat) (m : MethodId) (as : List Value) (n : Nat) {ls : List Slot} (h : Jvm.Sym.laidSlots as ++ List.replicate (n - (Jvm.Sym.laidSlots as).length) .unset = ls) :
    entryFrame m (as.map (shV n0)).toArray n = mkF m 0 (ls.map (shS n0)).toArray [] := by
  have e : argsToLocals (as.map (shV n0)).toArray n = (ls.map (shS n0)).toArray := Array.toList_inj.mp (by
    rw [Jvm.Sym.argsToLocals_toList]
    simp only [laid_map, List.length_map, ← h, List.map_append, List.map_replicate]
    rfl)
  show ({ method := m, pc := 0, locals := argsToLocals (as.map (shV n0)).toArray n, stack := [], locked := none } : JFrame) = _
  rw [e]
theorem loc_at {n0 : Nat} {ls : List Slot} {k : Nat} {s : Slot} (h : ls[k]? = some s) : ((ls.map (shS n0)).toArray)[k]? = some (shS n0 s) := by
  simp [h]
/-- the place k may take a value of one word -/
def P1 (ls : List Slot) (k : Nat) : Bool := match ls[k]? with | some .unset => true | some (.val w) => w.category == 1 | _ => false
/-- the places k and k + 1 may take a value of two words -/
def P2 (ls : List Slot) (k : Nat) : Bool := match ls[k]?, ls[k + 1]? with | some (.val w), some .second => w.category == 2 | _, _ => P1 ls k && P1 ls (k + 1)
theorem P1_slot {ls : List Slot} {k : Nat} (h : P1 ls k = true) : ∃ s, ls[k]? = some s ∧ (match s with | .second => False | .val old => old.category = 1 | .unset => True) := by
  unfold P1 at h
  split at h
  · rename_i e; exact ⟨_, e, trivial⟩
  · rename_i w e; exact ⟨_, e, by simpa using h⟩
  · cases h
theorem st1 {n0 : Nat} {ls ls' : List Slot} {k : Nat} {v : Value} (hp : P1 ls k = true) (hv : v.category = 1) (hs : ls.set k (.val v) = ls') : storeLocals (ls.map (shS n0)).toArray k (shV n0 v) = some (ls'.map (shS n0)).toArray := by
  obtain ⟨s, e, q⟩ := P1_slot hp
  rw [storeLocals_cat1 (loc_at (n0 := n0) e) (by rw [cat_sh]; exact hv) (by cases s <;> simp_all [shS, cat_sh]), ← hs]
  simp [List.map_set, shS]
theorem st2 {n0 : Nat} {ls ls' : List Slot} {k : Nat} {v : Value} (hp : P2 ls k = true) (hv : v.category = 2) (hs : (ls.set k (.val v)).set (k + 1) .second = ls') : storeLocals (ls.map (shS n0)).toArray k (shV n0 v) = some (ls'.map (shS n0)).toArray := by
  have key : ∃ x y, ls[k]? = some x ∧ ls[k + 1]? = some y ∧ ((Jvm.Free.Fl.Plain1 (shS n0 x) ∧ Jvm.Free.Fl.Plain1 (shS n0 y)) ∨ ((∃ old, shS n0 x = .val old ∧ old.category = 2) ∧ shS n0 y = .second)) := by
    unfold P2 at hp
    split at hp
    · rename_i w e1 e2
      exact ⟨_, _, e1, e2, Or.inr ⟨⟨_, rfl, by rw [cat_sh]; simpa using hp⟩, rfl⟩⟩
    · rw [Bool.and_eq_true] at hp
      obtain ⟨s, e, q⟩ := P1_slot hp.1
      obtain ⟨s', e', q'⟩ := P1_slot hp.2
      exact ⟨s, s', e, e', Or.inl ⟨by cases s <;> simp_all [shS, cat_sh, Jvm.Free.Fl.Plain1], by cases s' <;> simp_all [shS, cat_sh, Jvm.Free.Fl.Plain1]⟩⟩
  obtain ⟨x, y, e1, e2, q⟩ := key
  rw [Jvm.Free.Fl.storeLocals_cat2 (loc_at (n0 := n0) e1) (loc_at (n0 := n0) e2) (by rw [cat_sh]; exact hv) q, ← hs]
  simp [List.map_set, shS]
def Runs (K : List CI) (l : Launch) (Z : State) (n0 : Nat) (mi : MI) (pc : Nat) (ls : List Slot) (st : List Value) (H : List Ob) (v : Option Value) (H' : List Ob) : Prop :=
  H.length ≤ H'.length ∧ szs K H ≤ szs K H' ∧
  ∀ (p : Program) (e : Env) (R : Room) (s : State) (m : MethodId) (args : Array Value) (below : List Frame) (meth : Method) (c : Code) (T : State) (locs : List Loc) (cells slots : Nat),
    Stand p l e R s m args below meth c T locs cells slots → p.tables.exec = Jvm.exec → Z.Warmed39 s.vm → c.code = mi.2.1 → c.maxLocals = mi.2.2.1 → meth.sig.returnType = mi.2.2.2.1 → s.vm.findClass mi.1.cls = some m.cls → meth.name = mi.1.name →
    Rel K Z n0 H T.heap → Fr n0 locs → mi.2.2.2.2.1 ≤ R.frames → mi.2.2.2.2.2 ≤ R.locals → s.heap.size + cells = n0 + H.length → cells + H'.length ≤ R.cells + H.length → slots + szs K H' ≤ R.slots + szs K H →
    ∃ (T' : State) (locs' : List Loc) (cells' slots' : Nat), Stand p l e R s m args below meth c T' locs' cells' slots' ∧ Rel K Z n0 H' T'.heap ∧ Fr n0 locs' ∧ s.heap.size + cells' = n0 + H'.length ∧ slots' + szs K H ≤ slots + szs K H' ∧
      ∀ fs, (∀ (f : JFrame) (acts : List Action), f.method = m → f.locked = none → f.entered = [] → (doReturn e (T'.setTop f) acts (v.map (shV n0))).1 = T'.setFrames fs) →
        Steps p.tables e below (T.setTop (mkF m pc (ls.map (shS n0)).toArray (st.map (shV n0)))) (T'.setFrames fs)
def rmOf (K : List CI) (mi : MI) (H H' : List Ob) : Room := { frames := mi.2.2.2.2.1, cells := H'.length - H.length, slots := szs K H' - szs K H, locals := mi.2.2.2.2.2 }
def Meets (K : List CI) (l : Launch) (Z : State) (n0 : Nat) (mi : MI) (as : List Value) (H : List Ob) (v : Option Value) (H' : List Ob) : Prop :=
  H.length ≤ H'.length ∧ szs K H ≤ szs K H' ∧ ∀ h, Rel K Z n0 H h →
    MetFree l mi.1 (head1 [Jvm.Cond.code mi.1 mi.2.1 mi.2.2.1 mi.2.2.2.1] (rmOf K mi H H')) (fun a U => a = (as.map (shV n0)).toArray ∧ Z.Warmed39 U.vm ∧ U.heap = h) (fun _ _ _ _ _ => True)
      (fun _ U o U' => ∃ w L, o = .returned w ∧ (w = v.map (shV n0) ∧ Rel K Z n0 H' U'.heap ∧ Fr n0 L) ∧ FrameEnd U o U' L (rmOf K mi H H').cells (rmOf K mi H H').slots)
theorem leB {a b : Nat} (h : Nat.ble a b = true) : a ≤ b := Nat.le_of_ble_eq_true h
theorem ltB {a b : Nat} (h : Nat.ble (a + 1) b = true) : a < b := Nat.le_of_ble_eq_true h
section Logic
variable {K : List CI} {l : Launch} {Z : State} {a0 : Array Value} {n0 : Nat} {mi : MI} {pc np tp : Nat} {ls ls' : List Slot} {st rest : List Value} {H H' H1 : List Ob} {v : Option Value}
/-- from a run of the body to the method's contract, in any room that holds it -/
theorem met_gen {as : List Value} (ws : List Jvm.Cond) (R0 : Room) (hp : plainFor mi.1 = true) (hls : Jvm.Sym.laidSlots as ++ List.replicate (mi.2.2.1 - (Jvm.Sym.laidSlots as).length) .unset = ls) (hv : mi.2.2.2.1 = none → v = none)
    (k : Runs K l Z n0 mi 0 ls [] H v H') (hfr : mi.2.2.2.2.1 ≤ R0.frames) (hlo : mi.2.2.2.2.2 ≤ R0.locals) (hcl : H'.length ≤ R0.cells + H.length) (hsl : szs K H' ≤ R0.slots + szs K H) {h : Heap} (hrel : Rel K Z n0 H h) :
    MetFree l mi.1 (head1 (Jvm.Cond.code mi.1 mi.2.1 mi.2.2.1 mi.2.2.2.1 :: ws) R0) (fun a U => a = (as.map (shV n0)).toArray ∧ Z.Warmed39 U.vm ∧ U.heap = h) (fun _ _ _ _ _ => True)
      (fun _ U o U' => ∃ w L, o = .returned w ∧ (w = v.map (shV n0) ∧ Rel K Z n0 H' U'.heap ∧ Fr n0 L) ∧ FrameEnd U o U' L (H'.length - H.length) (szs K H' - szs K H)) := by
  refine MetFree.of_bodySF hp hisR ?_
  intro p e s m args below meth c s₁ Bd hml0 hP hK
  obtain ⟨rfl, hZ, hh⟩ := hP
  have hx := Bd.exec
  have hby := Bd.bytes
  have hown : s.vm.findClass mi.1.cls = some m.cls := findClass_of_methodNamed Bd.named
  have hnm := (name_of_methodNamed Bd.named Bd.method).1
  have X0 : Stand p l e R0 s m (as.map (shV n0)).toArray below meth c s₁ [] 0 0 := Stand.of_body Bd
  have e0 : s₁.heap = h := by rw [← hh, Bd.state]; rfl
  obtain ⟨T', locs', cells', slots', X', rel', fr', hc', hs', stp⟩ := k.2.2 p e R0 s m _ below meth c s₁ [] 0 0 X0 hx hZ hby hml0 Bd.returns hown hnm (e0 ▸ hrel) (Fr.nil n0) hfr hlo (by rw [hh, hrel.1]; rfl) (by omega) (by omega)
  have hsz : s.heap.size = n0 + H.length := by rw [hh, hrel.1]
  obtain ⟨fs, hr, hrun, hended, hW, hsame⟩ := X'.leave (v := v.map (shV n0)) (fun q => by rw [Bd.returns] at q; rw [hv q]; rfl)
  exact ⟨_, _, castTop (entry_eq n0 m as mi.2.2.1 hls) (stp fs hr), hrun, hended, _, _, rfl, ⟨rfl, rel', fr'⟩, ⟨_, rfl⟩, hW, hsame.mono (by omega) (by omega)⟩
theorem meets {as : List Value} (hp : plainFor mi.1 = true) (hls : Jvm.Sym.laidSlots as ++ List.replicate (mi.2.2.1 - (Jvm.Sym.laidSlots as).length) .unset = ls) (hv : mi.2.2.2.1 = none → v = none) (k : Runs K l Z n0 mi 0 ls [] H v H') : Meets K l Z n0 mi as H v H' :=
  ⟨k.1, k.2.1, fun h hrel => met_gen [] (rmOf K mi H H') hp hls hv k (Nat.le_refl _) (Nat.le_refl _) (by have := k.1; show _ ≤ (H'.length - H.length) + _; omega) (by have := k.2.1; show _ ≤ (szs K H' - szs K H) + _; omega) hrel⟩
/-- a run that ends in some heap of at most c cells and n slots -/
def RunsB (K : List CI) (l : Launch) (Z : State) (n0 : Nat) (mi : MI) (pc : Nat) (ls : List Slot) (st : List Value) (H : List Ob) (v : Option Value) (c n : Nat) : Prop := ∃ H' : List Ob, Runs K l Z n0 mi pc ls st H v H' ∧ H'.length ≤ c ∧ szs K H' ≤ n
theorem lift {st2 : List Value} {c n : Nat} (f : ∀ H' : List Ob, Runs K l Z n0 mi np ls' st2 H1 v H' → Runs K l Z n0 mi pc ls st H v H') (k : RunsB K l Z n0 mi np ls' st2 H1 v c n) : RunsB K l Z n0 mi pc ls st H v c n := by
  obtain ⟨H', k1, k2⟩ := k
  exact ⟨H', f H' k1, k2⟩
/-- a run that ends in a value and a heap of which Q holds -/
def RunsP (K : List CI) (l : Launch) (Z : State) (n0 : Nat) (mi : MI) (pc : Nat) (ls : List Slot) (st : List Value) (H : List Ob) (Q : Option Value → List Ob → Prop) : Prop := ∃ v H', Runs K l Z n0 mi pc ls st H v H' ∧ Q v H'
theorem liftP {st2 : List Value} {Q : Option Value → List Ob → Prop} (f : ∀ (v : Option Value) (H' : List Ob), Runs K l Z n0 mi np ls' st2 H1 v H' → Runs K l Z n0 mi pc ls st H v H') (k : RunsP K l Z n0 mi np ls' st2 H1 Q) : RunsP K l Z n0 mi pc ls st H Q := by
  obtain ⟨v, H', k1, k2⟩ := k
  exact ⟨v, H', f v H' k1, k2⟩
/-- a step that reads no heap -/
theorem Runs.pure {st2 : List Value} (hstep : ∀ (p : Program) (e : Env) (R : Room) (s : State) (m : MethodId) (args : Array Value) (below : List Frame) (meth : Method) (c : Code) (T : State) (locs : List Loc) (cells slots : Nat),
      Stand p l e R s m args below meth c T locs cells slots → p.tables.exec = Jvm.exec → Z.Warmed39 s.vm → c.code = mi.2.1 → s.vm.findClass mi.1.cls = some m.cls → ∀ target,
      Steps p.tables e below (T.setTop (mkF m np (ls'.map (shS n0)).toArray (st2.map (shV n0)))) target → Steps p.tables e below (T.setTop (mkF m pc (ls.map (shS n0)).toArray (st.map (shV n0)))) target)
    (k : Runs K l Z n0 mi np ls' st2 H v H') : Runs K l Z n0 mi pc ls st H v H' := by
  refine ⟨k.1, k.2.1, fun p e R s m args below meth c T locs cells slots X hx hZ hc hml hret hown hnm hrel hfr hf hlo hsz hcl hsl => ?_⟩
  obtain ⟨T', locs', cells', slots', X', rel', fr', hc', hs', stp⟩ := k.2.2 p e R s m args below meth c T locs cells slots X hx hZ hc hml hret hown hnm hrel hfr hf hlo hsz hcl hsl
  exact ⟨T', locs', cells', slots', X', rel', fr', hc', hs', fun fs hr => hstep p e R s m args below meth c T locs cells slots X hx hZ hc hown _ (stp fs hr)⟩
theorem isRef_sh {n0 : Nat} {x : Value} (h : x.isRef = true) : (shV n0 x).isRef = true := by cases x <;> first | rfl | cases h
theorem P1_int {ls : List Slot} {k : Nat} {x : Int32} (h : ls[k]? = some (.val (.int x))) : P1 ls k = true := by unfold P1; rw [h]; rfl
theorem r_iloadN {k : Fin 4} {x : Int32} (hd : decode mi.2.1 pc = .ok (.iload_n k, 1) ∧ pc + 1 = np) (hl : ls[k.val]? = some (.val (.int x))) (kk : Runs K l Z n0 mi np ls (.int x :: st) H v H') : Runs K l Z n0 mi pc ls st H v H' := by
  obtain ⟨hd, rfl⟩ := hd
  exact Runs.pure (fun _ _ _ _ _ _ _ _ _ _ _ _ _ X hx hZ hc hown t h => XS.iloadN X.here hx rfl (hb hc hd) (loc_at hl) h) kk
theorem r_iload {k : Nat} {x : Int32} (hd : decode mi.2.1 pc = .ok (.iload k, 2) ∧ pc + 2 = np) (hl : ls[k]? = some (.val (.int x))) (kk : Runs K l Z n0 mi np ls (.int x :: st) H v H') : Runs K l Z n0 mi pc ls st H v H' := by
  obtain ⟨hd, rfl⟩ := hd
  exact Runs.pure (fun _ _ _ _ _ _ _ _ _ _ _ _ _ X hx hZ hc hown t h => XS.iload X.here hx rfl (hb hc hd) (loc_at hl) h) kk
theorem r_lloadN {k : Fin 4} {x : Int64} (hd : decode mi.2.1 pc = .ok (.lload_n k, 1) ∧ pc + 1 = np) (hl : ls[k.val]? = some (.val (.long x))) (kk : Runs K l Z n0 mi np ls (.long x :: st) H v H') : Runs K l Z n0 mi pc ls st H v H' := by
  obtain ⟨hd, rfl⟩ := hd
  exact Runs.pure (fun _ _ _ _ _ _ _ _ _ _ _ _ _ X hx hZ hc hown t h => XT.lloadN X.here hx rfl (hb hc hd) (loc_at hl) h) kk
theorem r_lload {k : Nat} {x : Int64} (hd : decode mi.2.1 pc = .ok (.lload k, 2) ∧ pc + 2 = np) (hl : ls[k]? = some (.val (.long x))) (kk : Runs K l Z n0 mi np ls (.long x :: st) H v H') : Runs K l Z n0 mi pc ls st H v H' := by
  obtain ⟨hd, rfl⟩ := hd
  exact Runs.pure (fun _ _ _ _ _ _ _ _ _ _ _ _ _ X hx hZ hc hown t h => XT.lload X.here hx rfl (hb hc hd) (loc_at hl) h) kk
theorem r_aloadN {k : Fin 4} {x : Value} (hd : decode mi.2.1 pc = .ok (.aload_n k, 1) ∧ pc + 1 = np) (hl : ls[k.val]? = some (.val x)) (hv : x.isRef = true) (kk : Runs K l Z n0 mi np ls (x :: st) H v H') : Runs K l Z n0 mi pc ls st H v H' := by
  obtain ⟨hd, rfl⟩ := hd
  exact Runs.pure (fun _ _ _ _ _ _ _ _ _ _ _ _ _ X hx hZ hc hown t h => XS.aloadN X.here hx rfl (hb hc hd) (loc_at hl) (isRef_sh hv) h) kk
theorem r_aload {k : Nat} {x : Value} (hd : decode mi.2.1 pc = .ok (.aload k, 2) ∧ pc + 2 = np) (hl : ls[k]? = some (.val x)) (hv : x.isRef = true) (kk : Runs K l Z n0 mi np ls (x :: st) H v H') : Runs K l Z n0 mi pc ls st H v H' := by
  obtain ⟨hd, rfl⟩ := hd
  exact Runs.pure (fun _ _ _ _ _ _ _ _ _ _ _ _ _ X hx hZ hc hown t h => XS.aload X.here hx rfl (hb hc hd) (loc_at hl) (isRef_sh hv) h) kk
theorem r_istoreN {k : Fin 4} {x : Int32} (hd : decode mi.2.1 pc = .ok (.istore_n k, 1) ∧ pc + 1 = np) (hp : P1 ls k.val = true) (hs : ls.set k.val (.val (.int x)) = ls') (kk : Runs K l Z n0 mi np ls' st H v H') : Runs K l Z n0 mi pc ls (.int x :: st) H v H' := by
  obtain ⟨hd, rfl⟩ := hd
  exact Runs.pure (fun _ _ _ _ _ _ _ _ _ _ _ _ _ X hx hZ hc hown t h => XS.istoreN X.here hx rfl (hb hc hd) rfl (st1 hp rfl hs) h) kk
theorem r_istore {k : Nat} {x : Int32} (hd : decode mi.2.1 pc = .ok (.istore k, 2) ∧ pc + 2 = np) (hp : P1 ls k = true) (hs : ls.set k (.val (.int x)) = ls') (kk : Runs K l Z n0 mi np ls' st H v H') : Runs K l Z n0 mi pc ls (.int x :: st) H v H' := by
  obtain ⟨hd, rfl⟩ := hd
  exact Runs.pure (fun _ _ _ _ _ _ _ _ _ _ _ _ _ X hx hZ hc hown t h => XS.istore X.here hx rfl (hb hc hd) rfl (st1 hp rfl hs) h) kk
theorem r_lstoreN {k : Fin 4} {x : Int64} (hd : decode mi.2.1 pc = .ok (.lstore_n k, 1) ∧ pc + 1 = np) (hp : P2 ls k.val = true) (hs : (ls.set k.val (.val (.long x))).set (k.val + 1) .second = ls') (kk : Runs K l Z n0 mi np ls' st H v H') : Runs K l Z n0 mi pc ls (.long x :: st) H v H' := by
  obtain ⟨hd, rfl⟩ := hd
  exact Runs.pure (fun _ _ _ _ _ _ _ _ _ _ _ _ _ X hx hZ hc hown t h => XT.lstoreN X.here hx rfl (hb hc hd) rfl (st2 hp rfl hs) h) kk
theorem r_lstore {k : Nat} {x : Int64} (hd : decode mi.2.1 pc = .ok (.lstore k, 2) ∧ pc + 2 = np) (hp : P2 ls k = true) (hs : (ls.set k (.val (.long x))).set (k + 1) .second = ls') (kk : Runs K l Z n0 mi np ls' st H v H') : Runs K l Z n0 mi pc ls (.long x :: st) H v H' := by
  obtain ⟨hd, rfl⟩ := hd
  exact Runs.pure (fun _ _ _ _ _ _ _ _ _ _ _ _ _ X hx hZ hc hown t h => XT.lstore X.here hx rfl (hb hc hd) rfl (st2 hp rfl hs) h) kk
theorem r_astoreN {k : Fin 4} {x : Value} (hd : decode mi.2.1 pc = .ok (.astore_n k, 1) ∧ pc + 1 = np) (hp : P1 ls k.val = true) (hv : x.isRef = true) (hs : ls.set k.val (.val x) = ls') (kk : Runs K l Z n0 mi np ls' st H v H') : Runs K l Z n0 mi pc ls (x :: st) H v H' := by
  obtain ⟨hd, rfl⟩ := hd
  exact Runs.pure (fun _ _ _ _ _ _ _ _ _ _ _ _ _ X hx hZ hc hown t h => XS.astoreN X.here hx rfl (hb hc hd) rfl (isRef_sh hv) (st1 hp (XT.cat1 hv) hs) h) kk
theorem r_astore {k : Nat} {x : Value} (hd : decode mi.2.1 pc = .ok (.astore k, 2) ∧ pc + 2 = np) (hp : P1 ls k = true) (hv : x.isRef = true) (hs : ls.set k (.val x) = ls') (kk : Runs K l Z n0 mi np ls' st H v H') : Runs K l Z n0 mi pc ls (x :: st) H v H' := by
  obtain ⟨hd, rfl⟩ := hd
  exact Runs.pure (fun _ _ _ _ _ _ _ _ _ _ _ _ _ X hx hZ hc hown t h => XS.astore X.here hx rfl (hb hc hd) rfl (isRef_sh hv) (st1 hp (XT.cat1 hv) hs) h) kk
theorem r_iadd {x y : Int32} (hd : decode mi.2.1 pc = .ok (.iadd, 1) ∧ pc + 1 = np) (kk : Runs K l Z n0 mi np ls (.int (x + y) :: st) H v H') : Runs K l Z n0 mi pc ls (.int y :: .int x :: st) H v H' := by
  obtain ⟨hd, rfl⟩ := hd
  exact Runs.pure (fun _ _ _ _ _ _ _ _ _ _ _ _ _ X hx hZ hc hown t h => XS.iadd X.here hx rfl (hb hc hd) rfl h) kk
theorem r_isub {x y : Int32} (hd : decode mi.2.1 pc = .ok (.isub, 1) ∧ pc + 1 = np) (kk : Runs K l Z n0 mi np ls (.int (x - y) :: st) H v H') : Runs K l Z n0 mi pc ls (.int y :: .int x :: st) H v H' := by
  obtain ⟨hd, rfl⟩ := hd
  exact Runs.pure (fun _ _ _ _ _ _ _ _ _ _ _ _ _ X hx hZ hc hown t h => XS.isub X.here hx rfl (hb hc hd) rfl h) kk
theorem r_imul {x y : Int32} (hd : decode mi.2.1 pc = .ok (.imul, 1) ∧ pc + 1 = np) (kk : Runs K l Z n0 mi np ls (.int (x * y) :: st) H v H') : Runs K l Z n0 mi pc ls (.int y :: .int x :: st) H v H' := by
  obtain ⟨hd, rfl⟩ := hd
  exact Runs.pure (fun _ _ _ _ _ _ _ _ _ _ _ _ _ X hx hZ hc hown t h => XS.imul X.here hx rfl (hb hc hd) rfl h) kk
theorem r_iand {x y : Int32} (hd : decode mi.2.1 pc = .ok (.iand, 1) ∧ pc + 1 = np) (kk : Runs K l Z n0 mi np ls (.int (x &&& y) :: st) H v H') : Runs K l Z n0 mi pc ls (.int y :: .int x :: st) H v H' := by
  obtain ⟨hd, rfl⟩ := hd
  exact Runs.pure (fun _ _ _ _ _ _ _ _ _ _ _ _ _ X hx hZ hc hown t h => XS.iand X.here hx rfl (hb hc hd) rfl h) kk
theorem r_ior {x y : Int32} (hd : decode mi.2.1 pc = .ok (.ior, 1) ∧ pc + 1 = np) (kk : Runs K l Z n0 mi np ls (.int (x ||| y) :: st) H v H') : Runs K l Z n0 mi pc ls (.int y :: .int x :: st) H v H' := by
  obtain ⟨hd, rfl⟩ := hd
  exact Runs.pure (fun _ _ _ _ _ _ _ _ _ _ _ _ _ X hx hZ hc hown t h => XT.ior X.here hx rfl (hb hc hd) rfl h) kk
theorem r_ixor {x y : Int32} (hd : decode mi.2.1 pc = .ok (.ixor, 1) ∧ pc + 1 = np) (kk : Runs K l Z n0 mi np ls (.int (x ^^^ y) :: st) H v H') : Runs K l Z n0 mi pc ls (.int y :: .int x :: st) H v H' := by
  obtain ⟨hd, rfl⟩ := hd
  exact Runs.pure (fun _ _ _ _ _ _ _ _ _ _ _ _ _ X hx hZ hc hown t h => XT.ixor X.here hx rfl (hb hc hd) rfl h) kk
theorem r_ishl {x y : Int32} (hd : decode mi.2.1 pc = .ok (.ishl, 1) ∧ pc + 1 = np) (kk : Runs K l Z n0 mi np ls (.int (x <<< (y &&& 31)) :: st) H v H') : Runs K l Z n0 mi pc ls (.int y :: .int x :: st) H v H' := by
  obtain ⟨hd, rfl⟩ := hd
  exact Runs.pure (fun _ _ _ _ _ _ _ _ _ _ _ _ _ X hx hZ hc hown t h => XT.ishl X.here hx rfl (hb hc hd) rfl h) kk
theorem r_ishr {x y : Int32} (hd : decode mi.2.1 pc = .ok (.ishr, 1) ∧ pc + 1 = np) (kk : Runs K l Z n0 mi np ls (.int (x >>> (y &&& 31)) :: st) H v H') : Runs K l Z n0 mi pc ls (.int y :: .int x :: st) H v H' := by
  obtain ⟨hd, rfl⟩ := hd
  exact Runs.pure (fun _ _ _ _ _ _ _ _ _ _ _ _ _ X hx hZ hc hown t h => XT.ishr X.here hx rfl (hb hc hd) rfl h) kk
theorem r_iushr {x y : Int32} (hd : decode mi.2.1 pc = .ok (.iushr, 1) ∧ pc + 1 = np) (kk : Runs K l Z n0 mi np ls (.int (XT.ushr x y) :: st) H v H') : Runs K l Z n0 mi pc ls (.int y :: .int x :: st) H v H' := by
  obtain ⟨hd, rfl⟩ := hd
  exact Runs.pure (fun _ _ _ _ _ _ _ _ _ _ _ _ _ X hx hZ hc hown t h => XT.iushr X.here hx rfl (hb hc hd) rfl h) kk
theorem r_idiv {x y : Int32} (hd : decode mi.2.1 pc = .ok (.idiv, 1) ∧ pc + 1 = np) (hy : y ≠ 0) (kk : Runs K l Z n0 mi np ls (.int (x / y) :: st) H v H') : Runs K l Z n0 mi pc ls (.int y :: .int x :: st) H v H' := by
  obtain ⟨hd, rfl⟩ := hd
  exact Runs.pure (fun _ _ _ _ _ _ _ _ _ _ _ _ _ X hx hZ hc hown t h => XS.idiv X.here hx rfl (hb hc hd) rfl hy h) kk
theorem r_irem {x y : Int32} (hd : decode mi.2.1 pc = .ok (.irem, 1) ∧ pc + 1 = np) (hy : y ≠ 0) (kk : Runs K l Z n0 mi np ls (.int (x % y) :: st) H v H') : Runs K l Z n0 mi pc ls (.int y :: .int x :: st) H v H' := by
  obtain ⟨hd, rfl⟩ := hd
  exact Runs.pure (fun _ _ _ _ _ _ _ _ _ _ _ _ _ X hx hZ hc hown t h => iremM X hx rfl (hb hc hd) rfl hy h) kk
theorem r_ladd {x y : Int64} (hd : decode mi.2.1 pc = .ok (.ladd, 1) ∧ pc + 1 = np) (kk : Runs K l Z n0 mi np ls (.long (x + y) :: st) H v H') : Runs K l Z n0 mi pc ls (.long y :: .long x :: st) H v H' := by
  obtain ⟨hd, rfl⟩ := hd
  exact Runs.pure (fun _ _ _ _ _ _ _ _ _ _ _ _ _ X hx hZ hc hown t h => XT.ladd X.here hx rfl (hb hc hd) rfl h) kk
theorem r_lsub {x y : Int64} (hd : decode mi.2.1 pc = .ok (.lsub, 1) ∧ pc + 1 = np) (kk : Runs K l Z n0 mi np ls (.long (x - y) :: st) H v H') : Runs K l Z n0 mi pc ls (.long y :: .long x :: st) H v H' := by
  obtain ⟨hd, rfl⟩ := hd
  exact Runs.pure (fun _ _ _ _ _ _ _ _ _ _ _ _ _ X hx hZ hc hown t h => XT.lsub X.here hx rfl (hb hc hd) rfl h) kk
theorem r_lmul {x y : Int64} (hd : decode mi.2.1 pc = .ok (.lmul, 1) ∧ pc + 1 = np) (kk : Runs K l Z n0 mi np ls (.long (x * y) :: st) H v H') : Runs K l Z n0 mi pc ls (.long y :: .long x :: st) H v H' := by
  obtain ⟨hd, rfl⟩ := hd
  exact Runs.pure (fun _ _ _ _ _ _ _ _ _ _ _ _ _ X hx hZ hc hown t h => XT.lmul X.here hx rfl (hb hc hd) rfl h) kk
theorem r_land {x y : Int64} (hd : decode mi.2.1 pc = .ok (.land, 1) ∧ pc + 1 = np) (kk : Runs K l Z n0 mi np ls (.long (x &&& y) :: st) H v H') : Runs K l Z n0 mi pc ls (.long y :: .long x :: st) H v H' := by
  obtain ⟨hd, rfl⟩ := hd
  exact Runs.pure (fun _ _ _ _ _ _ _ _ _ _ _ _ _ X hx hZ hc hown t h => XT.land X.here hx rfl (hb hc hd) rfl h) kk
theorem r_lor {x y : Int64} (hd : decode mi.2.1 pc = .ok (.lor, 1) ∧ pc + 1 = np) (kk : Runs K l Z n0 mi np ls (.long (x ||| y) :: st) H v H') : Runs K l Z n0 mi pc ls (.long y :: .long x :: st) H v H' := by
  obtain ⟨hd, rfl⟩ := hd
  exact Runs.pure (fun _ _ _ _ _ _ _ _ _ _ _ _ _ X hx hZ hc hown t h => XT.lor X.here hx rfl (hb hc hd) rfl h) kk
theorem r_lxor {x y : Int64} (hd : decode mi.2.1 pc = .ok (.lxor, 1) ∧ pc + 1 = np) (kk : Runs K l Z n0 mi np ls (.long (x ^^^ y) :: st) H v H') : Runs K l Z n0 mi pc ls (.long y :: .long x :: st) H v H' := by
  obtain ⟨hd, rfl⟩ := hd
  exact Runs.pure (fun _ _ _ _ _ _ _ _ _ _ _ _ _ X hx hZ hc hown t h => XT.lxor X.here hx rfl (hb hc hd) rfl h) kk
theorem r_lshl {x : Int64} {y : Int32} (hd : decode mi.2.1 pc = .ok (.lshl, 1) ∧ pc + 1 = np) (kk : Runs K l Z n0 mi np ls (.long (x <<< (y.toInt64 &&& 63)) :: st) H v H') : Runs K l Z n0 mi pc ls (.int y :: .long x :: st) H v H' := by
  obtain ⟨hd, rfl⟩ := hd
  exact Runs.pure (fun _ _ _ _ _ _ _ _ _ _ _ _ _ X hx hZ hc hown t h => XT.lshl X.here hx rfl (hb hc hd) rfl h) kk
theorem r_lshr {x : Int64} {y : Int32} (hd : decode mi.2.1 pc = .ok (.lshr, 1) ∧ pc + 1 = np) (kk : Runs K l Z n0 mi np ls (.long (x >>> (y.toInt64 &&& 63)) :: st) H v H') : Runs K l Z n0 mi pc ls (.int y :: .long x :: st) H v H' := by
  obtain ⟨hd, rfl⟩ := hd
  exact Runs.pure (fun _ _ _ _ _ _ _ _ _ _ _ _ _ X hx hZ hc hown t h => XT.lshr X.here hx rfl (hb hc hd) rfl h) kk
theorem r_lushr {x : Int64} {y : Int32} (hd : decode mi.2.1 pc = .ok (.lushr, 1) ∧ pc + 1 = np) (kk : Runs K l Z n0 mi np ls (.long (XT.ushrL x y) :: st) H v H') : Runs K l Z n0 mi pc ls (.int y :: .long x :: st) H v H' := by
  obtain ⟨hd, rfl⟩ := hd
  exact Runs.pure (fun _ _ _ _ _ _ _ _ _ _ _ _ _ X hx hZ hc hown t h => XT.lushr X.here hx rfl (hb hc hd) rfl h) kk
theorem r_ldiv {x y : Int64} (hd : decode mi.2.1 pc = .ok (.ldiv, 1) ∧ pc + 1 = np) (hy : y ≠ 0) (kk : Runs K l Z n0 mi np ls (.long (x / y) :: st) H v H') : Runs K l Z n0 mi pc ls (.long y :: .long x :: st) H v H' := by
  obtain ⟨hd, rfl⟩ := hd
  exact Runs.pure (fun _ _ _ _ _ _ _ _ _ _ _ _ _ X hx hZ hc hown t h => XT.ldiv X.here hx rfl (hb hc hd) rfl hy h) kk
theorem r_lrem {x y : Int64} (hd : decode mi.2.1 pc = .ok (.lrem, 1) ∧ pc + 1 = np) (hy : y ≠ 0) (kk : Runs K l Z n0 mi np ls (.long (x % y) :: st) H v H') : Runs K l Z n0 mi pc ls (.long y :: .long x :: st) H v H' := by
  obtain ⟨hd, rfl⟩ := hd
  exact Runs.pure (fun _ _ _ _ _ _ _ _ _ _ _ _ _ X hx hZ hc hown t h => XT.lrem X.here hx rfl (hb hc hd) rfl hy (by rw [lrem_mod]; exact h)) kk
theorem r_lcmp {x y : Int64} (hd : decode mi.2.1 pc = .ok (.lcmp, 1) ∧ pc + 1 = np) (kk : Runs K l Z n0 mi np ls (.int (XT.cmpL x y) :: st) H v H') : Runs K l Z n0 mi pc ls (.long y :: .long x :: st) H v H' := by
  obtain ⟨hd, rfl⟩ := hd
  exact Runs.pure (fun _ _ _ _ _ _ _ _ _ _ _ _ _ X hx hZ hc hown t h => XT.lcmp X.here hx rfl (hb hc hd) rfl h) kk
theorem r_ineg {x : Int32} (hd : decode mi.2.1 pc = .ok (.ineg, 1) ∧ pc + 1 = np) (kk : Runs K l Z n0 mi np ls (.int (-x) :: st) H v H') : Runs K l Z n0 mi pc ls (.int x :: st) H v H' := by
  obtain ⟨hd, rfl⟩ := hd
  exact Runs.pure (fun _ _ _ _ _ _ _ _ _ _ _ _ _ X hx hZ hc hown t h => XS.ineg X.here hx rfl (hb hc hd) rfl h) kk
theorem r_lneg {x : Int64} (hd : decode mi.2.1 pc = .ok (.lneg, 1) ∧ pc + 1 = np) (kk : Runs K l Z n0 mi np ls (.long (-x) :: st) H v H') : Runs K l Z n0 mi pc ls (.long x :: st) H v H' := by
  obtain ⟨hd, rfl⟩ := hd
  exact Runs.pure (fun _ _ _ _ _ _ _ _ _ _ _ _ _ X hx hZ hc hown t h => XT.lneg X.here hx rfl (hb hc hd) rfl h) kk
theorem r_i2l {x : Int32} (hd : decode mi.2.1 pc = .ok (.i2l, 1) ∧ pc + 1 = np) (kk : Runs K l Z n0 mi np ls (.long x.toInt64 :: st) H v H') : Runs K l Z n0 mi pc ls (.int x :: st) H v H' := by
  obtain ⟨hd, rfl⟩ := hd
  exact Runs.pure (fun _ _ _ _ _ _ _ _ _ _ _ _ _ X hx hZ hc hown t h => XT.i2l X.here hx rfl (hb hc hd) rfl h) kk
theorem r_l2i {x : Int64} (hd : decode mi.2.1 pc = .ok (.l2i, 1) ∧ pc + 1 = np) (kk : Runs K l Z n0 mi np ls (.int x.toInt32 :: st) H v H') : Runs K l Z n0 mi pc ls (.long x :: st) H v H' := by
  obtain ⟨hd, rfl⟩ := hd
  exact Runs.pure (fun _ _ _ _ _ _ _ _ _ _ _ _ _ X hx hZ hc hown t h => XT.l2i X.here hx rfl (hb hc hd) rfl h) kk
theorem r_i2b {x : Int32} (hd : decode mi.2.1 pc = .ok (.i2b, 1) ∧ pc + 1 = np) (kk : Runs K l Z n0 mi np ls (.int x.toInt8.toInt32 :: st) H v H') : Runs K l Z n0 mi pc ls (.int x :: st) H v H' := by
  obtain ⟨hd, rfl⟩ := hd
  exact Runs.pure (fun _ _ _ _ _ _ _ _ _ _ _ _ _ X hx hZ hc hown t h => XT.i2b X.here hx rfl (hb hc hd) rfl h) kk
theorem r_i2s {x : Int32} (hd : decode mi.2.1 pc = .ok (.i2s, 1) ∧ pc + 1 = np) (kk : Runs K l Z n0 mi np ls (.int x.toInt16.toInt32 :: st) H v H') : Runs K l Z n0 mi pc ls (.int x :: st) H v H' := by
  obtain ⟨hd, rfl⟩ := hd
  exact Runs.pure (fun _ _ _ _ _ _ _ _ _ _ _ _ _ X hx hZ hc hown t h => XT.i2s X.here hx rfl (hb hc hd) rfl h) kk
theorem r_i2c {x : Int32} (hd : decode mi.2.1 pc = .ok (.i2c, 1) ∧ pc + 1 = np) (kk : Runs K l Z n0 mi np ls (.int x.toUInt32.toUInt16.toUInt32.toInt32 :: st) H v H') : Runs K l Z n0 mi pc ls (.int x :: st) H v H' := by
  obtain ⟨hd, rfl⟩ := hd
  exact Runs.pure (fun _ _ _ _ _ _ _ _ _ _ _ _ _ X hx hZ hc hown t h => XT.i2c X.here hx rfl (hb hc hd) rfl h) kk
theorem r_dup {x : Value} (hd : decode mi.2.1 pc = .ok (.dup, 1) ∧ pc + 1 = np) (hx1 : x.category = 1) (kk : Runs K l Z n0 mi np ls (x :: x :: st) H v H') : Runs K l Z n0 mi pc ls (x :: st) H v H' := by
  obtain ⟨hd, rfl⟩ := hd
  exact Runs.pure (fun _ _ _ _ _ _ _ _ _ _ _ _ _ X hx hZ hc hown t h => XS.dup X.here hx rfl (hb hc hd) rfl ((cat_sh _ _).trans hx1) h) kk
theorem r_pop {x : Value} (hd : decode mi.2.1 pc = .ok (.pop, 1) ∧ pc + 1 = np) (hx1 : x.category = 1) (kk : Runs K l Z n0 mi np ls st H v H') : Runs K l Z n0 mi pc ls (x :: st) H v H' := by
  obtain ⟨hd, rfl⟩ := hd
  exact Runs.pure (fun _ _ _ _ _ _ _ _ _ _ _ _ _ X hx hZ hc hown t h => XT.pop X.here hx rfl (hb hc hd) rfl ((cat_sh _ _).trans hx1) h) kk
theorem r_dupX1 {x y : Value} (hd : decode mi.2.1 pc = .ok (.dup_x1, 1) ∧ pc + 1 = np) (hx1 : x.category = 1) (hy1 : y.category = 1) (kk : Runs K l Z n0 mi np ls (x :: y :: x :: st) H v H') : Runs K l Z n0 mi pc ls (x :: y :: st) H v H' := by
  obtain ⟨hd, rfl⟩ := hd
  exact Runs.pure (fun _ _ _ _ _ _ _ _ _ _ _ _ _ X hx hZ hc hown t h => XT.dupX1 X.here hx rfl (hb hc hd) rfl ((cat_sh _ _).trans hx1) ((cat_sh _ _).trans hy1) h) kk
theorem r_dup2 {x y : Value} (hd : decode mi.2.1 pc = .ok (.dup2, 1) ∧ pc + 1 = np) (hx1 : x.category = 1) (hy1 : y.category = 1) (kk : Runs K l Z n0 mi np ls (x :: y :: x :: y :: st) H v H') : Runs K l Z n0 mi pc ls (x :: y :: st) H v H' := by
  obtain ⟨hd, rfl⟩ := hd
  exact Runs.pure (fun _ _ _ _ _ _ _ _ _ _ _ _ _ X hx hZ hc hown t h => XT.dup2 X.here hx rfl (hb hc hd) rfl ((cat_sh _ _).trans hx1) ((cat_sh _ _).trans hy1) h) kk
theorem r_dup2L {x : Int64} (hd : decode mi.2.1 pc = .ok (.dup2, 1) ∧ pc + 1 = np) (kk : Runs K l Z n0 mi np ls (.long x :: .long x :: st) H v H') : Runs K l Z n0 mi pc ls (.long x :: st) H v H' := by
  obtain ⟨hd, rfl⟩ := hd
  exact Runs.pure (fun _ _ _ _ _ _ _ _ _ _ _ _ _ X hx hZ hc hown t h => XT.dup2L X.here hx rfl (hb hc hd) rfl h) kk
theorem r_aconstNull  (hd : decode mi.2.1 pc = .ok (.aconst_null, 1) ∧ pc + 1 = np) (kk : Runs K l Z n0 mi np ls (.null :: st) H v H') : Runs K l Z n0 mi pc ls st H v H' := by
  obtain ⟨hd, rfl⟩ := hd
  exact Runs.pure (fun _ _ _ _ _ _ _ _ _ _ _ _ _ X hx hZ hc hown t h => XS.aconstNull X.here hx rfl (hb hc hd) h) kk
theorem r_iconst {i : Int} {x : Int32} (hd : decode mi.2.1 pc = .ok (.iconst i, 1) ∧ pc + 1 = np ∧ Int32.ofInt i = x) (kk : Runs K l Z n0 mi np ls (.int x :: st) H v H') : Runs K l Z n0 mi pc ls st H v H' := by
  obtain ⟨hd, rfl, hx0⟩ := hd
  exact Runs.pure (fun _ _ _ _ _ _ _ _ _ _ _ _ _ X hx hZ hc hown t h => XT.iconstV X.here hx rfl x (hb hc hd) hx0 h) kk
theorem r_bipush {i : Int} {x : Int32} (hd : decode mi.2.1 pc = .ok (.bipush i, 2) ∧ pc + 2 = np ∧ (Int8.ofInt i).toInt32 = x) (kk : Runs K l Z n0 mi np ls (.int x :: st) H v H') : Runs K l Z n0 mi pc ls st H v H' := by
  obtain ⟨hd, rfl, hx0⟩ := hd
  exact Runs.pure (fun _ _ _ _ _ _ _ _ _ _ _ _ _ X hx hZ hc hown t h => XT.bipushV X.here hx rfl x (hb hc hd) hx0 h) kk
theorem r_sipush {i : Int} {x : Int32} (hd : decode mi.2.1 pc = .ok (.sipush i, 3) ∧ pc + 3 = np ∧ (Int16.ofInt i).toInt32 = x) (kk : Runs K l Z n0 mi np ls (.int x :: st) H v H') : Runs K l Z n0 mi pc ls st H v H' := by
  obtain ⟨hd, rfl, hx0⟩ := hd
  exact Runs.pure (fun _ _ _ _ _ _ _ _ _ _ _ _ _ X hx hZ hc hown t h => XT.sipushV X.here hx rfl x (hb hc hd) hx0 h) kk
theorem r_lconst {i : Fin 2} {x : Int64} (hd : decode mi.2.1 pc = .ok (.lconst i, 1) ∧ pc + 1 = np ∧ Int64.ofNat i = x) (kk : Runs K l Z n0 mi np ls (.long x :: st) H v H') : Runs K l Z n0 mi pc ls st H v H' := by
  obtain ⟨hd, rfl, hx0⟩ := hd
  exact Runs.pure (fun _ _ _ _ _ _ _ _ _ _ _ _ _ X hx hZ hc hown t h => XT.lconstV X.here hx rfl x (hb hc hd) hx0 h) kk
theorem r_ldc {i : Nat} {x : Int32} (hd : decode mi.2.1 pc = .ok (.ldc i, 2) ∧ pc + 2 = np) (w : (Jvm.Cond.constant mi.1.cls i x).before a0 Z = true) (kk : Runs K l Z n0 mi np ls (.int x :: st) H v H') : Runs K l Z n0 mi pc ls st H v H' := by
  obtain ⟨hd, rfl⟩ := hd
  exact Runs.pure (fun _ _ _ _ _ _ _ _ _ _ _ _ _ X hx hZ hc hown t h => X.ldcI hx hown (mv hZ w) rfl (hb hc hd) h) kk
theorem r_ldcW {i : Nat} {x : Int32} (hd : decode mi.2.1 pc = .ok (.ldc_w i, 3) ∧ pc + 3 = np) (w : (Jvm.Cond.constant mi.1.cls i x).before a0 Z = true) (kk : Runs K l Z n0 mi np ls (.int x :: st) H v H') : Runs K l Z n0 mi pc ls st H v H' := by
  obtain ⟨hd, rfl⟩ := hd
  exact Runs.pure (fun _ _ _ _ _ _ _ _ _ _ _ _ _ X hx hZ hc hown t h => X.ldcWI hx hown (mv hZ w) rfl (hb hc hd) h) kk
theorem r_ldc2 {i : Nat} {x : Int64} (hd : decode mi.2.1 pc = .ok (.ldc2_w i, 3) ∧ pc + 3 = np) (w : (Jvm.Cond.constantLong mi.1.cls i x).before a0 Z = true) (kk : Runs K l Z n0 mi np ls (.long x :: st) H v H') : Runs K l Z n0 mi pc ls st H v H' := by
  obtain ⟨hd, rfl⟩ := hd
  exact Runs.pure (fun _ _ _ _ _ _ _ _ _ _ _ _ _ X hx hZ hc hown t h => X.ldc2J hx hown (mv hZ w) rfl (hb hc hd) h) kk
theorem r_iinc {k : Nat} {i : Int} {x y : Int32} (hd : decode mi.2.1 pc = .ok (.iinc k i, 3) ∧ pc + 3 = np ∧ Int32.ofInt i = y) (hl : ls[k]? = some (.val (.int x))) (hs : ls.set k (.val (.int (x + y))) = ls') (kk : Runs K l Z n0 mi np ls' st H v H') : Runs K l Z n0 mi pc ls st H v H' := by
  obtain ⟨hd, rfl, hx0⟩ := hd
  exact Runs.pure (fun _ _ _ _ _ _ _ _ _ _ _ _ _ X hx hZ hc hown t h => XT.iincV X.here hx rfl y (hb hc hd) hx0 (loc_at hl) (st1 (P1_int hl) rfl hs) h) kk
theorem r_goto  {o : Int} (hd : decode mi.2.1 pc = .ok (.goto o, 3) ∧ pc + 3 = np ∧ 0 ≤ (pc : Int) + o ∧ ((pc : Int) + o).toNat = tp) (kk : Runs K l Z n0 mi tp ls st H v H') : Runs K l Z n0 mi pc ls st H v H' := by
  obtain ⟨hd, hn, h1, h2⟩ := hd
  exact Runs.pure (fun _ _ _ _ _ _ _ _ _ _ _ _ _ X hx hZ hc hown t h => XS.goto X.here hx rfl rfl (hb hc hd) h1 h2 h) kk
theorem r_ifT {cd : ClassFile.Cond} {x : Int32} {o : Int} (hd : decode mi.2.1 pc = .ok (.ifCond cd o, 3) ∧ pc + 3 = np ∧ 0 ≤ (pc : Int) + o ∧ ((pc : Int) + o).toNat = tp) (hq : ifCond.holds cd x = true) (kk : Runs K l Z n0 mi tp ls st H v H') : Runs K l Z n0 mi pc ls (.int x :: st) H v H' := by
  obtain ⟨hd, hn, h1, h2⟩ := hd
  exact Runs.pure (fun _ _ _ _ _ _ _ _ _ _ _ _ _ X hx hZ hc hown t h => XS.ifYes X.here hx rfl rfl (hb hc hd) rfl hq h1 h2 h) kk
theorem r_ifF {cd : ClassFile.Cond} {x : Int32} {o : Int} (hd : decode mi.2.1 pc = .ok (.ifCond cd o, 3) ∧ pc + 3 = np ∧ 0 ≤ (pc : Int) + o ∧ ((pc : Int) + o).toNat = tp) (hq : ifCond.holds cd x = false) (kk : Runs K l Z n0 mi np ls st H v H') : Runs K l Z n0 mi pc ls (.int x :: st) H v H' := by
  obtain ⟨hd, rfl, h1, h2⟩ := hd
  exact Runs.pure (fun _ _ _ _ _ _ _ _ _ _ _ _ _ X hx hZ hc hown t h => XS.ifNo X.here hx rfl (hb hc hd) rfl hq h) kk
theorem r_icT {cd : ClassFile.Cond} {x y : Int32} {o : Int} (hd : decode mi.2.1 pc = .ok (.if_icmp cd o, 3) ∧ pc + 3 = np ∧ 0 ≤ (pc : Int) + o ∧ ((pc : Int) + o).toNat = tp) (hq : if_icmp.holds cd x y = true) (kk : Runs K l Z n0 mi tp ls st H v H') : Runs K l Z n0 mi pc ls (.int y :: .int x :: st) H v H' := by
  obtain ⟨hd, hn, h1, h2⟩ := hd
  exact Runs.pure (fun _ _ _ _ _ _ _ _ _ _ _ _ _ X hx hZ hc hown t h => XS.icmpYes X.here hx rfl rfl (hb hc hd) rfl hq h1 h2 h) kk
theorem r_icF {cd : ClassFile.Cond} {x y : Int32} {o : Int} (hd : decode mi.2.1 pc = .ok (.if_icmp cd o, 3) ∧ pc + 3 = np ∧ 0 ≤ (pc : Int) + o ∧ ((pc : Int) + o).toNat = tp) (hq : if_icmp.holds cd x y = false) (kk : Runs K l Z n0 mi np ls st H v H') : Runs K l Z n0 mi pc ls (.int y :: .int x :: st) H v H' := by
  obtain ⟨hd, rfl, h1, h2⟩ := hd
  exact Runs.pure (fun _ _ _ _ _ _ _ _ _ _ _ _ _ X hx hZ hc hown t h => XS.icmpNo X.here hx rfl (hb hc hd) rfl hq h) kk
theorem r_nullT  {o : Int} (hd : decode mi.2.1 pc = .ok (.ifnull o, 3) ∧ pc + 3 = np ∧ 0 ≤ (pc : Int) + o ∧ ((pc : Int) + o).toNat = tp) (kk : Runs K l Z n0 mi tp ls st H v H') : Runs K l Z n0 mi pc ls (.null :: st) H v H' := by
  obtain ⟨hd, hn, h1, h2⟩ := hd
  exact Runs.pure (fun _ _ _ _ _ _ _ _ _ _ _ _ _ X hx hZ hc hown t h => XS.ifnullYes X.here hx rfl rfl (hb hc hd) rfl h1 h2 h) kk
theorem r_nullF {a : Addr} {o : Int} (hd : decode mi.2.1 pc = .ok (.ifnull o, 3) ∧ pc + 3 = np ∧ 0 ≤ (pc : Int) + o ∧ ((pc : Int) + o).toNat = tp) (kk : Runs K l Z n0 mi np ls st H v H') : Runs K l Z n0 mi pc ls (.ref a :: st) H v H' := by
  obtain ⟨hd, rfl, h1, h2⟩ := hd
  exact Runs.pure (fun _ _ _ _ _ _ _ _ _ _ _ _ _ X hx hZ hc hown t h => XS.ifnullNo X.here hx rfl (hb hc hd) rfl h) kk
theorem r_nonnullT {a : Addr} {o : Int} (hd : decode mi.2.1 pc = .ok (.ifnonnull o, 3) ∧ pc + 3 = np ∧ 0 ≤ (pc : Int) + o ∧ ((pc : Int) + o).toNat = tp) (kk : Runs K l Z n0 mi tp ls st H v H') : Runs K l Z n0 mi pc ls (.ref a :: st) H v H' := by
  obtain ⟨hd, hn, h1, h2⟩ := hd
  exact Runs.pure (fun _ _ _ _ _ _ _ _ _ _ _ _ _ X hx hZ hc hown t h => XT.ifnonnullYes X.here hx rfl rfl (hb hc hd) rfl h1 h2 h) kk
theorem r_nonnullF  {o : Int} (hd : decode mi.2.1 pc = .ok (.ifnonnull o, 3) ∧ pc + 3 = np ∧ 0 ≤ (pc : Int) + o ∧ ((pc : Int) + o).toNat = tp) (kk : Runs K l Z n0 mi np ls st H v H') : Runs K l Z n0 mi pc ls (.null :: st) H v H' := by
  obtain ⟨hd, rfl, h1, h2⟩ := hd
  exact Runs.pure (fun _ _ _ _ _ _ _ _ _ _ _ _ _ X hx hZ hc hown t h => XT.ifnonnullNo X.here hx rfl (hb hc hd) rfl h) kk
/-- a step that may turn the heap -/
theorem Runs.heap {st2 : List Value} (m1 : H.length ≤ H1.length) (m2 : szs K H ≤ szs K H1) (hstep : ∀ (p : Program) (e : Env) (R : Room) (s : State) (m : MethodId) (args : Array Value) (below : List Frame) (meth : Method) (c : Code) (T : State) (locs : List Loc) (cells slots : Nat),
      Stand p l e R s m args below meth c T locs cells slots → p.tables.exec = Jvm.exec → Z.Warmed39 s.vm → c.code = mi.2.1 → c.maxLocals = mi.2.2.1 → s.vm.findClass mi.1.cls = some m.cls → meth.name = mi.1.name → Rel K Z n0 H T.heap → Fr n0 locs → mi.2.2.2.2.1 ≤ R.frames → mi.2.2.2.2.2 ≤ R.locals →
      s.heap.size + cells = n0 + H.length → cells + H1.length ≤ R.cells + H.length → slots + szs K H1 ≤ R.slots + szs K H →
      ∃ (T1 : State) (locs1 : List Loc) (cells1 slots1 : Nat), Stand p l e R s m args below meth c T1 locs1 cells1 slots1 ∧ Rel K Z n0 H1 T1.heap ∧ Fr n0 locs1 ∧ s.heap.size + cells1 = n0 + H1.length ∧ slots1 + szs K H ≤ slots + szs K H1 ∧
        ∀ target, Steps p.tables e below (T1.setTop (mkF m np (ls'.map (shS n0)).toArray (st2.map (shV n0)))) target → Steps p.tables e below (T.setTop (mkF m pc (ls.map (shS n0)).toArray (st.map (shV n0)))) target)
    (k : Runs K l Z n0 mi np ls' st2 H1 v H') : Runs K l Z n0 mi pc ls st H v H' := by
  have k1 := k.1
  have k2 := k.2.1
  refine ⟨Nat.le_trans m1 k1, Nat.le_trans m2 k2, fun p e R s m args below meth c T locs cells slots X hx hZ hc hml hret hown hnm hrel hfr hf hlo hsz hcl hsl => ?_⟩
  obtain ⟨T1, locs1, cells1, slots1, X1, rel1, fr1, hc1, hs1, st1⟩ := hstep p e R s m args below meth c T locs cells slots X hx hZ hc hml hown hnm hrel hfr hf hlo hsz (by omega) (by omega)
  obtain ⟨T', locs', cells', slots', X', rel', fr', hc', hs', stp⟩ := k.2.2 p e R s m args below meth c T1 locs1 cells1 slots1 X1 hx hZ hc hml hret hown hnm rel1 fr1 hf hlo hc1 (by omega) (by omega)
  exact ⟨T', locs', cells', slots', X', rel', fr', hc', by omega, fun fs hr => st1 _ (stp fs hr)⟩
theorem r_ret {x : Value} {t : FieldType} {i : Instr} (hd : decode mi.2.1 pc = .ok (i, 1)) (hret : mi.2.2.2.1 = some t) (hn : narrow t x = x)
    (hi : (i = .ireturn ∧ (t = .int ∨ t = .boolean ∨ t = .byte ∨ t = .char ∨ t = .short) ∧ ∃ z, x = .int z) ∨ (i = .lreturn ∧ t = .long ∧ ∃ z, x = .long z) ∨ (i = .areturn ∧ t.isReference = true ∧ x.isRef = true)) : Runs K l Z n0 mi pc ls (x :: st) H (some x) H := by
  refine ⟨Nat.le_refl _, Nat.le_refl _, fun p e R s m args below meth c T locs cells slots X hx hZ hc hml hret' hown hnm hrel hfr hf hlo hsz hcl hsl => ⟨T, locs, cells, slots, X, hrel, hfr, hsz, Nat.le_refl _, fun fs hr => ?_⟩⟩
  have hn' : narrow t (shV n0 x) = shV n0 x := by
    rcases hi with ⟨-, -, z, rfl⟩ | ⟨-, -, z, rfl⟩ | ⟨-, -, q⟩
    · exact hn
    · exact hn
    · cases x <;> first | (cases q; done) | (cases t <;> rfl)
  refine retOut X hx (hret'.trans hret) hn' ?_ (hb hc hd) hr
  rcases hi with ⟨h1, h2, z, rfl⟩ | ⟨h1, h2, z, rfl⟩ | ⟨h1, h2, q⟩
  · exact Or.inl ⟨h1, h2, z, rfl⟩
  · exact Or.inr (Or.inl ⟨h1, h2, z, rfl⟩)
  · exact Or.inr (Or.inr (Or.inr (Or.inr ⟨h1, h2, isRef_sh q⟩)))
theorem r_ireturn {z : Int32} (hd : decode mi.2.1 pc = .ok (.ireturn, 1)) (hret : mi.2.2.2.1 = some .int) : Runs K l Z n0 mi pc ls (.int z :: st) H (some (.int z)) H := r_ret hd hret rfl (Or.inl ⟨rfl, Or.inl rfl, z, rfl⟩)
theorem r_ireturnE {z z' : Int32} (hd : decode mi.2.1 pc = .ok (.ireturn, 1)) (hret : mi.2.2.2.1 = some .int) (h : z = z') : Runs K l Z n0 mi pc ls (.int z :: st) H (some (.int z')) H := h ▸ r_ireturn hd hret
theorem r_zreturn {z : Int32} (hd : decode mi.2.1 pc = .ok (.ireturn, 1)) (hret : mi.2.2.2.1 = some .boolean) (hz : z = 0 ∨ z = 1) : Runs K l Z n0 mi pc ls (.int z :: st) H (some (.int z)) H := r_ret hd hret (by rcases hz with rfl | rfl <;> rfl) (Or.inl ⟨rfl, Or.inr (Or.inl rfl), z, rfl⟩)
theorem r_lreturn {z : Int64} (hd : decode mi.2.1 pc = .ok (.lreturn, 1)) (hret : mi.2.2.2.1 = some .long) : Runs K l Z n0 mi pc ls (.long z :: st) H (some (.long z)) H := r_ret hd hret rfl (Or.inr (Or.inl ⟨rfl, rfl, z, rfl⟩))
theorem r_areturn {x : Value} {t : FieldType} (hd : decode mi.2.1 pc = .ok (.areturn, 1)) (hret : mi.2.2.2.1 = some t) (ht : t.isReference = true) (hx : x.isRef = true) : Runs K l Z n0 mi pc ls (x :: st) H (some x) H := r_ret hd hret (by cases x <;> first | (cases hx; done) | (cases t <;> rfl)) (Or.inr (Or.inr ⟨rfl, ht, hx⟩))
theorem r_return (hd : decode mi.2.1 pc = .ok (.return_, 1)) (hret : mi.2.2.2.1 = none) : Runs K l Z n0 mi pc ls [] H none H := by
  refine ⟨Nat.le_refl _, Nat.le_refl _, fun p e R s m args below meth c T locs cells slots X hx hZ hc hml hret' hown hnm hrel hfr hf hlo hsz hcl hsl => ⟨T, locs, cells, slots, X, hrel, hfr, hsz, Nat.le_refl _, fun fs hr => ?_⟩⟩
  exact X.returnOut hx (hret'.trans hret) (hb hc hd) hr
theorem r_tswIn {dflt low high o : Int} {offs : Array Int} {len : Nat} {i : Int32} (hd : decode mi.2.1 pc = .ok (.tableswitch dflt low high offs, len)) (hin : ¬ (i.toInt < low ∨ i.toInt > high)) (hoff : offs[(i.toInt - low).toNat]? = some o) (ho : 0 ≤ (pc : Int) + o) (hp : ((pc : Int) + o).toNat = tp)
    (kk : Runs K l Z n0 mi tp ls st H v H') : Runs K l Z n0 mi pc ls (.int i :: st) H v H' :=
  Runs.pure (fun _ _ _ _ _ _ _ _ _ _ _ _ _ X hx hZ hc hown t h => XS.tswIn X.here hx rfl rfl (hb hc hd) rfl hin hoff ho hp h) kk
theorem r_tswOut {dflt low high : Int} {offs : Array Int} {len : Nat} {i : Int32} (hd : decode mi.2.1 pc = .ok (.tableswitch dflt low high offs, len)) (hout : i.toInt < low ∨ i.toInt > high) (ho : 0 ≤ (pc : Int) + dflt) (hp : ((pc : Int) + dflt).toNat = tp)
    (kk : Runs K l Z n0 mi tp ls st H v H') : Runs K l Z n0 mi pc ls (.int i :: st) H v H' :=
  Runs.pure (fun _ _ _ _ _ _ _ _ _ _ _ _ _ X hx hZ hc hown t h => XS.tswOut X.here hx rfl rfl (hb hc hd) rfl hout ho hp h) kk
/-! ### the heap -/
theorem OOk.ext {h h' : Heap} {a : Addr} {o : Ob} (E : Ext h h') (q : OOk K Z n0 h a o) : OOk K Z n0 h' a o := by
  cases o with
  | inl o => obtain ⟨ci, h1, h2, h3⟩ := q; exact ⟨ci, h1, h2.ext E, fun i f v a b => (h3 i f v a b).ext E⟩
  | inr o => obtain ⟨cl, h1, h2⟩ := q; exact ⟨cl, h1.ext E, h2⟩
theorem OOk.other {h h' : Heap} {a b : Addr} {sl : Nat} {x : Value} {o : Ob} (W : Wr h h' b sl x) (ne : a ≠ b) (q : OOk K Z n0 h a o) : OOk K Z n0 h' a o := by
  cases o with
  | inl o => obtain ⟨ci, h1, h2, h3⟩ := q; exact ⟨ci, h1, h2.wr W, fun i f v a b => (h3 i f v a b).other W (Or.inl ne)⟩
  | inr o => obtain ⟨cl, h1, h2⟩ := q; exact ⟨cl, h1.other W ne, h2⟩
theorem Rel.push {h h' : Heap} {o : Ob} (r : Rel K Z n0 H h) (E : Ext h h') (hs : h'.size = h.size + 1) (ho : OOk K Z n0 h' h.size o) : Rel K Z n0 (H ++ [o]) h' := by
  refine ⟨by rw [hs, r.1, List.length_append]; rfl, fun k q hk => ?_⟩
  by_cases hl : k < H.length
  · rw [List.getElem?_append_left hl] at hk; exact (r.2 k q hk).ext E
  · rw [List.getElem?_append_right (Nat.le_of_not_lt hl)] at hk
    have e : k - H.length = 0 := by
      cases hq : k - H.length with
      | zero => rfl
      | succ j => rw [hq] at hk; simp at hk
    rw [e] at hk
    simp at hk
    subst hk
    have : k = H.length := by omega
    subst this
    rw [← r.1]; exact ho
theorem Rel.put {h h' : Heap} {o : Ob} {a sl : Nat} {x : Value} (r : Rel K Z n0 H h) (W : Wr h h' (n0 + a) sl x) (ha : a < H.length) (ho : OOk K Z n0 h' (n0 + a) o) : Rel K Z n0 (H.set a o) h' := by
  refine ⟨by rw [W.size, r.1, List.length_set], fun k q hk => ?_⟩
  by_cases e : a = k
  · subst e
    rw [List.getElem?_set_self ha] at hk
    cases hk; exact ho
  · rw [List.getElem?_set_ne e] at hk
    exact (r.2 k q hk).other W (fun z => e (Nat.add_left_cancel z).symm)
theorem map_set_same {α β : Type} (f : α → β) : ∀ (H : List α) (a : Nat) (o o' : α), H[a]? = some o' → f o = f o' → (H.set a o).map f = H.map f
  | [], _, _, _, h, _ => by simp at h
  | x :: r, 0, o, o', h, e => by simp at h; subst h; simp [e]
  | x :: r, a + 1, o, o', h, e => by simp at h; simp [map_set_same f r a o o' h e]
theorem szs_set {a : Nat} {o o' : Ob} (h : H[a]? = some o') (e : osz K o = osz K o') : szs K (H.set a o) = szs K H := by unfold szs; rw [map_set_same (osz K) H a o o' h e]
theorem szs_push {o : Ob} : szs K (H ++ [o]) = szs K H + osz K o := by simp [szs]
theorem lt_of_at {α : Type} {L : List α} {a : Nat} {o : α} (h : L[a]? = some o) : a < L.length := (List.getElem?_eq_some_iff.mp h).1
theorem nar_sh {t : FieldType} {x : Value} (h : narrow t x = x) : narrow t (shV n0 x) = shV n0 x := by cases x <;> first | exact h | (cases t <;> rfl)
theorem fits_sh {t : FieldType} {x : Value} (h : fits t x = true) : fits t (shV n0 x) = true := by cases x <;> first | exact h | (cases t <;> first | rfl | cases h)
theorem sh_dflt (ty : FieldType) : shV n0 (defaultValue ty) = defaultValue ty := by cases ty <;> rfl
theorem r_getF {a cid i idx : Nat} {vs : List Value} {ci : CI} {f : FI} {x : Value} {R0 : String} (hd : decode mi.2.1 pc = .ok (.getfield idx, 3) ∧ pc + 3 = np) (w : (Jvm.Cond.fieldLink mi.1.cls idx R0 f.2.1 f.2.2.1).before a0 Z = true) (via : Via Z R0 f.1 f.2.1 f.2.2.1) (hci : K[cid]? = some ci) (hf : ci.2.2[i]? = some f)
    (ho : H[a]? = some (.inl (cid, vs))) (hv : vs[i]? = some x) (kk : Runs K l Z n0 mi np ls (x :: st) H v H') : Runs K l Z n0 mi pc ls (.ref a :: st) H v H' := by
  obtain ⟨hd, rfl⟩ := hd
  refine Runs.heap (Nat.le_refl _) (Nat.le_refl _) (fun p e R s m args below meth c T locs cells slots X hx hZ hc hml hown hnm hrel hfr hf' hlo hsz hcl hsl => ?_) kk
  obtain ⟨ci', q1, E, F⟩ := hrel.2 a _ ho
  cases hci.symm.trans q1
  obtain ⟨T1, X1, e1, st1⟩ := getF X hx hZ hown (host := "") (Or.inl w) via rfl (F i f x hf hv) (g := mkF m pc (ls.map (shS n0)).toArray (.ref (n0 + a) :: st.map (shV n0))) rfl rfl (hb hc hd)
  exact ⟨T1, _, _, _, X1, by rw [e1]; exact hrel, hfr, hsz, Nat.le_refl _, st1⟩
theorem r_putF {a cid i idx : Nat} {vs vs' : List Value} {ci : CI} {f : FI} {x : Value} {R0 : String} (hK : KOk K Z a0) (hd : decode mi.2.1 pc = .ok (.putfield idx, 3) ∧ pc + 3 = np) (w : (Jvm.Cond.fieldLink mi.1.cls idx R0 f.2.1 f.2.2.1).before a0 Z = true) (via : Via Z R0 f.1 f.2.1 f.2.2.1) (hci : K[cid]? = some ci) (hf : ci.2.2[i]? = some f)
    (L : (Jvm.Cond.lays ci.1 f.1 f.2.1 f.2.2.1).before a0 Z = true ∨ ((Jvm.Cond.laysFinal ci.1 f.1 f.2.1 f.2.2.1).before a0 Z = true ∧ mi.1.cls = f.1 ∧ mi.1.name = "<init>"))
    (ho : H[a]? = some (.inl (cid, vs))) (hi : i < vs.length) (hn : narrow f.2.2.2 x = x) (hft : fits f.2.2.2 x = true) (hvs : vs.set i x = vs') (hH : H.set a (.inl (cid, vs')) = H1) (kk : Runs K l Z n0 mi np ls st H1 v H') : Runs K l Z n0 mi pc ls (x :: .ref a :: st) H v H' := by
  obtain ⟨hd, rfl⟩ := hd
  subst hvs hH
  have ha := lt_of_at ho
  have es : szs K (H.set a (.inl (cid, vs.set i x))) = szs K H := szs_set ho rfl
  refine Runs.heap (by rw [List.length_set]; exact Nat.le_refl _) (by rw [es]; exact Nat.le_refl _) (fun p e R s m args below meth c T locs cells slots X hx hZ hc hml hown hnm hrel hfr hf' hlo hsz hcl hsl => ?_) kk
  obtain ⟨ci', q1, E, F⟩ := hrel.2 a _ ho
  cases hci.symm.trans q1
  obtain ⟨kk1, kk2, kk3⟩ := hK cid ci hci
  have hfm : f ∈ ci.2.2 := List.mem_of_getElem? hf
  obtain ⟨T1, h1, X1, e1, W1, st1⟩ := putF X hx hZ hown (host := "") (Or.inl w) via rfl (F i f _ hf (List.getElem?_eq_getElem hi)) E (L.imp id fun q => ⟨q.1, q.2.1, hnm.trans q.2.2⟩) kk1 (kk2 f hfm).2 (nar_sh hn) (fits_sh hft)
    (g := mkF m pc (ls.map (shS n0)).toArray (shV n0 x :: .ref (n0 + a) :: st.map (shV n0))) rfl rfl (hb hc hd)
  refine ⟨T1, _, _, _, X1, ?_, Fr.snoc X1 hfr (Nat.le_add_right _ _), by rw [List.length_set]; exact hsz, by rw [es]; exact Nat.le_refl _, st1⟩
  rw [e1]
  refine hrel.put W1 ha ⟨ci, hci, E.wr W1, fun j g y hg hy => ?_⟩
  by_cases ji : i = j
  · subst ji
    cases hf.symm.trans hg
    rw [List.getElem?_set_self hi] at hy
    cases hy
    exact (F i f _ hf (List.getElem?_eq_getElem hi)).same W1
  · rw [List.getElem?_set_ne ji] at hy
    have hgm : g ∈ ci.2.2 := List.mem_of_getElem? hg
    refine (F j g y hg hy).other W1 (Or.inr (slot_ne (kk2 g hgm).1 (kk2 f hfm).1 ?_ (kk2 g hgm).2 (kk2 f hfm).2))
    obtain ⟨li, ei⟩ := List.getElem?_eq_some_iff.mp hf
    obtain ⟨lj, ej⟩ := List.getElem?_eq_some_iff.mp hg
    have pw := List.pairwise_iff_getElem.mp kk3
    rcases Nat.lt_or_gt_of_ne ji with q | q
    · have := pw i j li lj q; rw [ei, ej] at this; exact fun z => this z.symm
    · have := pw j i lj li q; rw [ei, ej] at this; exact this
theorem r_new {a cid idx : Nat} {ci : CI} {o : List Value} (hK : KOk K Z a0) (hd : decode mi.2.1 pc = .ok (.new idx, 3) ∧ pc + 3 = np) (w : (Jvm.Cond.classLink mi.1.cls idx ci.1).before a0 Z = true) (wz : (Jvm.Cond.initialized ci.1).before a0 Z = true) (hci : K[cid]? = some ci)
    (ho : ci.2.2.map (fun f => defaultValue f.2.2.2) = o) (ha : H.length = a) (hH : H ++ [.inl (cid, o)] = H1) (kk : Runs K l Z n0 mi np ls (.ref a :: st) H1 v H') : Runs K l Z n0 mi pc ls st H v H' := by
  obtain ⟨hd, rfl⟩ := hd
  subst ho ha hH
  obtain ⟨kk1, kk2, kk3⟩ := hK cid ci hci
  have es : osz K (.inl (cid, ci.2.2.map (fun f => defaultValue f.2.2.2))) = ci.2.1 := by show ((K[cid]?).map (fun ci => ci.2.1)).getD 0 = _; rw [hci]; rfl
  refine Runs.heap (by simp) (by rw [szs_push]; exact Nat.le_add_right _ _) (fun p e R s m args below meth c T locs cells slots X hx hZ hc hml hown hnm hrel hfr hf' hlo hsz hcl hsl => ?_) kk
  rw [szs_push, es] at hsl
  simp only [List.length_append, List.length_cons, List.length_nil] at hcl
  obtain ⟨T1, h1, X1, e1, E1, A1, D1, -, st1⟩ := newO X hx hZ hown w kk1 wz rfl (g := mkF m pc (ls.map (shS n0)).toArray (st.map (shV n0))) rfl (hb hc hd) (by omega) (by omega)
  have hs1 := X1.heapSize
  have hlt : T.heap.size < h1.size := A1.lt
  have hh := hrel.1
  rw [e1] at hs1
  refine ⟨T1, _, _, _, X1, ?_, hfr, by simp only [List.length_append, List.length_cons, List.length_nil]; omega, by rw [szs_push, es]; omega, fun t q => st1 t ?_⟩
  · rw [e1]
    refine hrel.push E1 (by omega) ⟨ci, hci, A1, fun i f x hf hx => ?_⟩
    have hfm : f ∈ ci.2.2 := List.mem_of_getElem? hf
    rw [List.getElem?_map, hf] at hx
    cases hx
    show Fld Z h1 T.heap.size f.1 f.2.1 f.2.2.1 (shV n0 (defaultValue f.2.2.2))
    rw [sh_dflt]
    exact D1 (kk2 f hfm).1 (kk2 f hfm).2
  · show Steps _ _ _ (T1.setTop (mkF m (pc + 3) _ (.ref T.heap.size :: _))) t
    rw [hh]; exact q
theorem toNat_of {n : Int32} (h : ¬ n < 0) : n.toNatClampNeg < 2 ^ 31 := (back32 h).2
theorem r_newA {a : Nat} {n : Int32} {aty : ArrayType} {o : List Value} (hd : decode mi.2.1 pc = .ok (.newarray aty, 2) ∧ pc + 2 = np) (w : (Jvm.Cond.arrayClass (newarray.typeOf aty)).before a0 Z = true) (hn : ¬ n < 0) (hb8 : n.toNatClampNeg * 8 ≤ 536870912)
    (ho : List.replicate n.toNatClampNeg (defaultValue (newarray.typeOf aty)) = o) (ha : H.length = a) (hH : H ++ [.inr (newarray.typeOf aty, o)] = H1) (kk : Runs K l Z n0 mi np ls (.ref a :: st) H1 v H') : Runs K l Z n0 mi pc ls (.int n :: st) H v H' := by
  obtain ⟨hd, rfl⟩ := hd
  subst ho ha hH
  have es : osz K (.inr (newarray.typeOf aty, List.replicate n.toNatClampNeg (defaultValue (newarray.typeOf aty)))) = n.toNatClampNeg := by show (List.replicate _ _).length = _; simp
  refine Runs.heap (by simp) (by rw [szs_push]; exact Nat.le_add_right _ _) (fun p e R s m args below meth c T locs cells slots X hx hZ hc hml hown hnm hrel hfr hf' hlo hsz hcl hsl => ?_) kk
  rw [szs_push, es] at hsl
  simp only [List.length_append, List.length_cons, List.length_nil] at hcl
  obtain ⟨T1, h1, cA, X1, e1, E1, A1, st1⟩ := newP X hx hZ w rfl (g := mkF m pc (ls.map (shS n0)).toArray (.int n :: st.map (shV n0))) rfl (hb hc hd) rfl hn (cap := n.toNatClampNeg) (Nat.le_refl _) hb8 (by omega) (by omega)
  have hs1 := X1.heapSize
  have hlt : T.heap.size < h1.size := A1.lt
  have hh := hrel.1
  rw [e1] at hs1
  refine ⟨T1, _, _, _, X1, ?_, hfr, by simp only [List.length_append, List.length_cons, List.length_nil]; omega, by rw [szs_push, es]; omega, fun t q => st1 t ?_⟩
  · rw [e1]
    refine hrel.push E1 (by omega) ⟨_, A1, by rw [sz_new]; simp, by simpa using toNat_of hn, fun i x hx => ?_⟩
    rw [List.getElem?_replicate] at hx
    split at hx
    · rename_i hi
      cases hx
      have q1 : (newA cA (newarray.typeOf aty) n).slots[i]? = some (defaultValue (newarray.typeOf aty)) := by simp [newA, hi]
      exact ⟨by rw [q1]; cases newarray.typeOf aty <;> rfl, by cases newarray.typeOf aty <;> rfl⟩
    · cases hx
  · show Steps _ _ _ (T1.setTop (mkF m (pc + 2) _ (.ref T.heap.size :: _))) t
    rw [hh]; exact q
theorem fits_byte (x : Int32) : fits .byte (.int x.toInt8.toInt32) = true := by
  have h1 : (x.toInt8.toInt32).toInt = x.toInt8.toInt := Int8.toInt_toInt32 _
  have h2 := x.toInt8.toInt_lt
  have h3 := x.toInt8.le_toInt
  have e1 : (-128 : Int32).toInt = -128 := by decide
  have e2 : (127 : Int32).toInt = 127 := by decide
  simp only [fits, Bool.and_eq_true, decide_eq_true_eq]
  rw [Int32.le_iff_toInt_le, Int32.le_iff_toInt_le, h1, e1, e2]
  omega
/-- the int j names the place i -/
def Ix (j : Int32) (i : Nat) : Prop := ¬ j < 0 ∧ j.toNatClampNeg = i
theorem r_len {a : Nat} {ty : FieldType} {vs : List Value} {n : Int32} (hd : decode mi.2.1 pc = .ok (.arraylength, 1) ∧ pc + 1 = np) (ho : H[a]? = some (.inr (ty, vs))) (hn : vs.length.toInt32 = n) (kk : Runs K l Z n0 mi np ls (.int n :: st) H v H') : Runs K l Z n0 mi pc ls (.ref a :: st) H v H' := by
  obtain ⟨hd, rfl⟩ := hd
  subst hn
  refine Runs.heap (Nat.le_refl _) (Nat.le_refl _) (fun p e R s m args below meth c T locs cells slots X hx hZ hc hml hown hnm hrel hfr hf' hlo hsz hcl hsl => ?_) kk
  obtain ⟨cl, A, hs, hl, hv⟩ := hrel.2 a _ ho
  refine ⟨T, _, _, _, X, hrel, hfr, hsz, Nat.le_refl _, fun t q => ?_⟩
  refine X.arraylength hx A.1 (State.isArrayOf_alike hZ.alike A.2.1) (g := mkF m pc (ls.map (shS n0)).toArray (.ref (n0 + a) :: st.map (shV n0))) rfl rfl (hb hc hd) _ ?_
  rw [hs]; exact q
theorem r_iaload {a i : Nat} {vs : List Value} {j : Int32} {x : Value} (hd : decode mi.2.1 pc = .ok (.iaload, 1) ∧ pc + 1 = np) (ho : H[a]? = some (.inr (.int, vs))) (hj : Ix j i) (hv : vs[i]? = some x) (kk : Runs K l Z n0 mi np ls (x :: st) H v H') : Runs K l Z n0 mi pc ls (.int j :: .ref a :: st) H v H' := by
  obtain ⟨hd, rfl⟩ := hd
  obtain ⟨hj0, rfl⟩ := hj
  refine Runs.heap (Nat.le_refl _) (Nat.le_refl _) (fun p e R s m args below meth c T locs cells slots X hx hZ hc hml hown hnm hrel hfr hf' hlo hsz hcl hsl => ?_) kk
  obtain ⟨cl, A, hs, hl, hvs⟩ := hrel.2 a _ ho
  have hi := lt_of_at hv
  refine ⟨T, _, _, _, X, hrel, hfr, hsz, Nat.le_refl _, fun t q => ?_⟩
  exact X.iaload hx (j := j) (v := shV n0 x) A.1 (State.isArrayOf_alike hZ.alike A.2.1) A.2.2 (fun z => z.elim hj0 (fun q => by rw [hs] at q; omega)) (hvs _ _ hv).1 (g := mkF m pc (ls.map (shS n0)).toArray (.int j :: .ref (n0 + a) :: st.map (shV n0))) rfl rfl (hb hc hd) _ q
theorem r_laload {a i : Nat} {vs : List Value} {j : Int32} {x : Value} (hd : decode mi.2.1 pc = .ok (.laload, 1) ∧ pc + 1 = np) (ho : H[a]? = some (.inr (.long, vs))) (hj : Ix j i) (hv : vs[i]? = some x) (kk : Runs K l Z n0 mi np ls (x :: st) H v H') : Runs K l Z n0 mi pc ls (.int j :: .ref a :: st) H v H' := by
  obtain ⟨hd, rfl⟩ := hd
  obtain ⟨hj0, rfl⟩ := hj
  refine Runs.heap (Nat.le_refl _) (Nat.le_refl _) (fun p e R s m args below meth c T locs cells slots X hx hZ hc hml hown hnm hrel hfr hf' hlo hsz hcl hsl => ?_) kk
  obtain ⟨cl, A, hs, hl, hvs⟩ := hrel.2 a _ ho
  have hi := lt_of_at hv
  refine ⟨T, _, _, _, X, hrel, hfr, hsz, Nat.le_refl _, fun t q => ?_⟩
  exact X.laload hx (j := j) (v := shV n0 x) A.1 (State.isArrayOf_alike hZ.alike A.2.1) A.2.2 (fun z => z.elim hj0 (fun q => by rw [hs] at q; omega)) (hvs _ _ hv).1 (g := mkF m pc (ls.map (shS n0)).toArray (.int j :: .ref (n0 + a) :: st.map (shV n0))) rfl rfl (hb hc hd) _ q
theorem r_baload {a i : Nat} {vs : List Value} {j : Int32} {x : Value} (hd : decode mi.2.1 pc = .ok (.baload, 1) ∧ pc + 1 = np) (ho : H[a]? = some (.inr (.byte, vs))) (hj : Ix j i) (hv : vs[i]? = some x) (kk : Runs K l Z n0 mi np ls (x :: st) H v H') : Runs K l Z n0 mi pc ls (.int j :: .ref a :: st) H v H' := by
  obtain ⟨hd, rfl⟩ := hd
  obtain ⟨hj0, rfl⟩ := hj
  refine Runs.heap (Nat.le_refl _) (Nat.le_refl _) (fun p e R s m args below meth c T locs cells slots X hx hZ hc hml hown hnm hrel hfr hf' hlo hsz hcl hsl => ?_) kk
  obtain ⟨cl, A, hs, hl, hvs⟩ := hrel.2 a _ ho
  have hi := lt_of_at hv
  refine ⟨T, _, _, _, X, hrel, hfr, hsz, Nat.le_refl _, fun t q => ?_⟩
  exact X.baloadBytes hx (j := j) (v := shV n0 x) A.1 (State.isArrayOf_alike hZ.alike A.2.1) A.2.2 (fun z => z.elim hj0 (fun q => by rw [hs] at q; omega)) (hvs _ _ hv).1 (g := mkF m pc (ls.map (shS n0)).toArray (.int j :: .ref (n0 + a) :: st.map (shV n0))) rfl rfl (hb hc hd) _ q
theorem r_caload {a i : Nat} {vs : List Value} {j : Int32} {x : Value} (hd : decode mi.2.1 pc = .ok (.caload, 1) ∧ pc + 1 = np) (ho : H[a]? = some (.inr (.char, vs))) (hj : Ix j i) (hv : vs[i]? = some x) (kk : Runs K l Z n0 mi np ls (x :: st) H v H') : Runs K l Z n0 mi pc ls (.int j :: .ref a :: st) H v H' := by
  obtain ⟨hd, rfl⟩ := hd
  obtain ⟨hj0, rfl⟩ := hj
  refine Runs.heap (Nat.le_refl _) (Nat.le_refl _) (fun p e R s m args below meth c T locs cells slots X hx hZ hc hml hown hnm hrel hfr hf' hlo hsz hcl hsl => ?_) kk
  obtain ⟨cl, A, hs, hl, hvs⟩ := hrel.2 a _ ho
  have hi := lt_of_at hv
  refine ⟨T, _, _, _, X, hrel, hfr, hsz, Nat.le_refl _, fun t q => ?_⟩
  exact X.caload hx (j := j) (v := shV n0 x) A.1 (State.isArrayOf_alike hZ.alike A.2.1) A.2.2 (fun z => z.elim hj0 (fun q => by rw [hs] at q; omega)) (hvs _ _ hv).1 (g := mkF m pc (ls.map (shS n0)).toArray (.int j :: .ref (n0 + a) :: st.map (shV n0))) rfl rfl (hb hc hd) _ q
theorem r_iastore {a i : Nat} {vs vs' : List Value} {j : Int32} {x : Int32} (hd : decode mi.2.1 pc = .ok (.iastore, 1) ∧ pc + 1 = np) (ho : H[a]? = some (.inr (.int, vs))) (hj : Ix j i) (hi : i < vs.length) (hvs : vs.set i (.int x) = vs') (hH : H.set a (.inr (.int, vs')) = H1) (kk : Runs K l Z n0 mi np ls st H1 v H') : Runs K l Z n0 mi pc ls (.int x :: .int j :: .ref a :: st) H v H' := by
  obtain ⟨hd, rfl⟩ := hd
  obtain ⟨hj0, rfl⟩ := hj
  subst hvs hH
  have ha := lt_of_at ho
  have es : szs K (H.set a (.inr (.int, vs.set j.toNatClampNeg (.int x)))) = szs K H := szs_set ho (by show (List.set _ _ _).length = _; simp [osz])
  refine Runs.heap (by rw [List.length_set]; exact Nat.le_refl _) (by rw [es]; exact Nat.le_refl _) (fun p e R s m args below meth c T locs cells slots X hx hZ hc hml hown hnm hrel hfr hf' hlo hsz hcl hsl => ?_) kk
  obtain ⟨cl, A, hs, hl, hvs⟩ := hrel.2 a _ ho
  have hin : ¬ (j < 0 ∨ cl.slots.size ≤ j.toNatClampNeg) := fun z => z.elim hj0 (fun q => by rw [hs] at q; omega)
  obtain ⟨T1, h1, X1, e1, W1, st1⟩ := stI X hx hZ rfl A hin (g := mkF m pc (ls.map (shS n0)).toArray (.int x :: .int j :: .ref (n0 + a) :: st.map (shV n0))) rfl rfl (hb hc hd)
  refine ⟨T1, _, _, _, X1, ?_, Fr.snoc X1 hfr (Nat.le_add_right _ _), by rw [List.length_set]; exact hsz, by rw [es]; exact Nat.le_refl _, st1⟩
  rw [e1]
  refine hrel.put W1 ha ⟨_, A.same W1, by rw [sz_set, hs, List.length_set], by rw [List.length_set]; exact hl, fun k y hy => ?_⟩
  by_cases e : j.toNatClampNeg = k
  · subst e
    rw [List.getElem?_set_self hi] at hy
    cases hy
    exact ⟨by simp [Cell.setSlot, hs, hi, shV, nar], rfl⟩
  · rw [List.getElem?_set_ne e] at hy
    refine ⟨?_, (hvs k y hy).2⟩
    exact (Array.getElem?_setIfInBounds_ne e).trans (hvs k y hy).1
theorem r_lastore {a i : Nat} {vs vs' : List Value} {j : Int32} {x : Int64} (hd : decode mi.2.1 pc = .ok (.lastore, 1) ∧ pc + 1 = np) (ho : H[a]? = some (.inr (.long, vs))) (hj : Ix j i) (hi : i < vs.length) (hvs : vs.set i (.long x) = vs') (hH : H.set a (.inr (.long, vs')) = H1) (kk : Runs K l Z n0 mi np ls st H1 v H') : Runs K l Z n0 mi pc ls (.long x :: .int j :: .ref a :: st) H v H' := by
  obtain ⟨hd, rfl⟩ := hd
  obtain ⟨hj0, rfl⟩ := hj
  subst hvs hH
  have ha := lt_of_at ho
  have es : szs K (H.set a (.inr (.long, vs.set j.toNatClampNeg (.long x)))) = szs K H := szs_set ho (by show (List.set _ _ _).length = _; simp [osz])
  refine Runs.heap (by rw [List.length_set]; exact Nat.le_refl _) (by rw [es]; exact Nat.le_refl _) (fun p e R s m args below meth c T locs cells slots X hx hZ hc hml hown hnm hrel hfr hf' hlo hsz hcl hsl => ?_) kk
  obtain ⟨cl, A, hs, hl, hvs⟩ := hrel.2 a _ ho
  have hin : ¬ (j < 0 ∨ cl.slots.size ≤ j.toNatClampNeg) := fun z => z.elim hj0 (fun q => by rw [hs] at q; omega)
  obtain ⟨T1, h1, X1, e1, W1, st1⟩ := stJ X hx hZ rfl A hin (g := mkF m pc (ls.map (shS n0)).toArray (.long x :: .int j :: .ref (n0 + a) :: st.map (shV n0))) rfl rfl (hb hc hd)
  refine ⟨T1, _, _, _, X1, ?_, Fr.snoc X1 hfr (Nat.le_add_right _ _), by rw [List.length_set]; exact hsz, by rw [es]; exact Nat.le_refl _, st1⟩
  rw [e1]
  refine hrel.put W1 ha ⟨_, A.same W1, by rw [sz_set, hs, List.length_set], by rw [List.length_set]; exact hl, fun k y hy => ?_⟩
  by_cases e : j.toNatClampNeg = k
  · subst e
    rw [List.getElem?_set_self hi] at hy
    cases hy
    exact ⟨by simp [Cell.setSlot, hs, hi, shV, nar], rfl⟩
  · rw [List.getElem?_set_ne e] at hy
    refine ⟨?_, (hvs k y hy).2⟩
    exact (Array.getElem?_setIfInBounds_ne e).trans (hvs k y hy).1
theorem r_bastore {a i : Nat} {vs vs' : List Value} {j : Int32} {x : Int32} (hd : decode mi.2.1 pc = .ok (.bastore, 1) ∧ pc + 1 = np) (ho : H[a]? = some (.inr (.byte, vs))) (hj : Ix j i) (hi : i < vs.length) (hvs : vs.set i (.int x.toInt8.toInt32) = vs') (hH : H.set a (.inr (.byte, vs')) = H1) (kk : Runs K l Z n0 mi np ls st H1 v H') : Runs K l Z n0 mi pc ls (.int x :: .int j :: .ref a :: st) H v H' := by
  obtain ⟨hd, rfl⟩ := hd
  obtain ⟨hj0, rfl⟩ := hj
  subst hvs hH
  have ha := lt_of_at ho
  have es : szs K (H.set a (.inr (.byte, vs.set j.toNatClampNeg (.int x.toInt8.toInt32)))) = szs K H := szs_set ho (by show (List.set _ _ _).length = _; simp [osz])
  refine Runs.heap (by rw [List.length_set]; exact Nat.le_refl _) (by rw [es]; exact Nat.le_refl _) (fun p e R s m args below meth c T locs cells slots X hx hZ hc hml hown hnm hrel hfr hf' hlo hsz hcl hsl => ?_) kk
  obtain ⟨cl, A, hs, hl, hvs⟩ := hrel.2 a _ ho
  have hin : ¬ (j < 0 ∨ cl.slots.size ≤ j.toNatClampNeg) := fun z => z.elim hj0 (fun q => by rw [hs] at q; omega)
  obtain ⟨T1, h1, X1, e1, W1, st1⟩ := stB X hx hZ rfl A hin (g := mkF m pc (ls.map (shS n0)).toArray (.int x :: .int j :: .ref (n0 + a) :: st.map (shV n0))) rfl rfl (hb hc hd)
  refine ⟨T1, _, _, _, X1, ?_, Fr.snoc X1 hfr (Nat.le_add_right _ _), by rw [List.length_set]; exact hsz, by rw [es]; exact Nat.le_refl _, st1⟩
  rw [e1]
  refine hrel.put W1 ha ⟨_, A.same W1, by rw [sz_set, hs, List.length_set], by rw [List.length_set]; exact hl, fun k y hy => ?_⟩
  by_cases e : j.toNatClampNeg = k
  · subst e
    rw [List.getElem?_set_self hi] at hy
    cases hy
    exact ⟨by simp [Cell.setSlot, hs, hi, shV, nar], fits_byte x⟩
  · rw [List.getElem?_set_ne e] at hy
    refine ⟨?_, (hvs k y hy).2⟩
    exact (Array.getElem?_setIfInBounds_ne e).trans (hvs k y hy).1
/-! ### calls -/
theorem map_toList (w : Option Value) (rest : List Value) : ((w.toList ++ rest).map (shV n0)) = (w.map (shV n0)).toList ++ rest.map (shV n0) := by cases w <;> simp
theorem r_initO {a idx : Nat} (hd : decode mi.2.1 pc = .ok (.invokespecial idx, 3) ∧ pc + 3 = np) (w1 : (Jvm.Cond.methodLink mi.1.cls idx Lib.objectInit).before a0 Z = true) (w2 : (Jvm.Cond.instanceMethod Lib.objectInit).before a0 Z = true) (w3 : (Jvm.Cond.code Lib.objectInit ⟨#[0xb1]⟩ 1 none).before a0 Z = true)
    (hls : ls.length = mi.2.2.1) (hf : 1 ≤ mi.2.2.2.2.1) (hlo : (st.map fun v => v.category).sum + 12 ≤ mi.2.2.2.2.2) (kk : Runs K l Z n0 mi np ls st H v H') : Runs K l Z n0 mi pc ls (.ref a :: st) H v H' := by
  obtain ⟨hd, rfl⟩ := hd
  refine Runs.heap (Nat.le_refl _) (Nat.le_refl _) (fun p e R s m args below meth c T locs cells slots X hx hZ hc hml hown hnm hrel hfr hf' hlo' hsz hcl hsl => ?_) kk
  obtain ⟨T1, X1, e1, st1⟩ := initO X hx hZ hown w1 w2 w3 rfl (g := mkF m pc (ls.map (shS n0)).toArray (.ref (n0 + a) :: st.map (shV n0))) rfl (by rw [hml, ← hls]; simp) rfl (hb hc hd) (by omega) (W := (st.map fun v => v.category).sum) (by rw [cats_sh]; show 2 * 0 + _ ≤ _; omega) (by omega)
  exact ⟨T1, _, _, _, X1, by rw [e1]; exact hrel, hfr, hsz, Nat.le_refl _, st1⟩
theorem backM {mj : MI} {as : List Value} {w : Option Value} {h : Heap} {p : Program} {e : Env} {R : Room} {s : State} {args : Array Value} {below : List Frame} {len W : Nat} (M : Meets K l Z n0 mj as H w H1) (hrel : Rel K Z n0 H h) (hZ : Z.Warmed39 s.vm) (w4 : (Jvm.Cond.code mj.1 mj.2.1 mj.2.2.1 mj.2.2.2.1).before a0 Z = true) (w3 : (Jvm.Cond.initialized mj.1.cls).before a0 Z = true)
    (hf : mj.2.2.2.2.1 + 1 ≤ R.frames) (hl : W + (mj.2.2.1 + 11) + mj.2.2.2.2.2 ≤ R.locals) :
    Back l R p e below s args mj.1 len W (fun A a => a = (as.map (shV n0)).toArray ∧ A.U.heap = h ∧ A.cells + (H1.length - H.length) ≤ R.cells ∧ A.slots + (szs K H1 - szs K H) ≤ R.slots)
      (fun A _ v B => ∃ L, (v = w.map (shV n0) ∧ Rel K Z n0 H1 B.U.heap ∧ Fr n0 L) ∧ B.locs = A.locs ++ L ∧ B.cells = A.cells + (H1.length - H.length) ∧ B.slots = A.slots + (szs K H1 - szs K H)) :=
  backOf (rm := rmOf K mj H H1) (Q := fun v h L => v = w.map (shV n0) ∧ Rel K Z n0 H1 h ∧ Fr n0 L) (M.2.2 h hrel) hZ w4 w3 hf hl
theorem r_static {mj : MI} {as : List Value} {w : Option Value} {idx : Nat} (hd : decode mi.2.1 pc = .ok (.invokestatic idx, 3) ∧ pc + 3 = np) (w1 : (Jvm.Cond.methodLink mi.1.cls idx mj.1).before a0 Z = true) (w2 : (Jvm.Cond.static mj.1).before a0 Z = true) (w3 : (Jvm.Cond.initialized mj.1.cls).before a0 Z = true) (w4 : (Jvm.Cond.code mj.1 mj.2.1 mj.2.2.1 mj.2.2.2.1).before a0 Z = true)
    (hy : mj.1.cls ≠ "java/lang/invoke/MethodHandle" ∧ mj.1.cls ≠ "java/lang/invoke/VarHandle") (hlen : ∀ sig, parseMethodDescriptor mj.1.desc = some sig → as.length = sig.parameters.length) (hfr : mj.2.2.2.2.1 + 1 ≤ mi.2.2.2.2.1)
    (hst : as.reverse ++ rest = st) (hls : ls.length = mi.2.2.1) (hlo : (rest.map fun v => v.category).sum + (mj.2.2.1 + 11) + mj.2.2.2.2.2 ≤ mi.2.2.2.2.2)
    (M : Meets K l Z n0 mj as H w H1) (kk : Runs K l Z n0 mi np ls (w.toList ++ rest) H1 v H') : Runs K l Z n0 mi pc ls st H v H' := by
  obtain ⟨hd, rfl⟩ := hd
  subst hst
  have m1 := M.1
  have m2 := M.2.1
  refine Runs.heap m1 m2 (fun p e R s m args below meth c T locs cells slots X hx hZ hc hml hown hnm hrel hfr' hf' hlo' hsz hcl hsl => ?_) kk
  obtain ⟨_, _, ⟨T1, L1, k1, n1⟩, -, X1, ⟨Lc, hQ, l1, y1, z1⟩, st1⟩ := Jvm.LawKit.callS X hx (y := mj.1) hown (mvT hZ w1) (mvT hZ w2) (mvT hZ w3) (mvT hZ w4) hy
    (backM (W := (rest.map fun v => v.category).sum) M hrel hZ w4 w3 (by omega) (by omega))
    (g := mkF m pc (ls.map (shS n0)).toArray ((as.reverse ++ rest).map (shV n0))) rfl (by rw [hml, ← hls]; simp) (argsL := as.map (shV n0)) (rest := rest.map (shV n0)) (fun sig q => by rw [List.length_map]; exact hlen sig q) (by simp) (by rw [cats_sh]; show 2 * 0 + _ ≤ _; omega) (hb hc hd)
    (fun _ _ => ⟨rfl, rfl, (by show cells + (H1.length - H.length) ≤ _; omega), (by show slots + (szs K H1 - szs K H) ≤ _; omega)⟩)
  dsimp only [Pt.U, Pt.locs, Pt.cells, Pt.slots] at X1 l1 y1 z1 st1 hQ
  subst l1 y1 z1
  obtain ⟨rfl, R1, F1⟩ := hQ
  refine ⟨T1, _, _, _, X1, R1, Fr.app hfr' F1, by show s.heap.size + (cells + (H1.length - H.length)) = _; omega, by show slots + (szs K H1 - szs K H) + _ ≤ _; omega, fun t q => st1 t ?_⟩
  rw [map_toList] at q; exact q
theorem r_special {mj : MI} {as : List Value} {a idx : Nat} (hd : decode mi.2.1 pc = .ok (.invokespecial idx, 3) ∧ pc + 3 = np) (hy1 : mj.1.name = "<init>") (hr : mj.2.2.2.1 = none) (w1 : (Jvm.Cond.methodLink mi.1.cls idx mj.1).before a0 Z = true) (w2 : (Jvm.Cond.instanceMethod mj.1).before a0 Z = true) (w3 : (Jvm.Cond.initialized mj.1.cls).before a0 Z = true) (w4 : (Jvm.Cond.code mj.1 mj.2.1 mj.2.2.1 mj.2.2.2.1).before a0 Z = true)
    (hy : mj.1.cls ≠ "java/lang/invoke/MethodHandle" ∧ mj.1.cls ≠ "java/lang/invoke/VarHandle") (hlen : ∀ sig, parseMethodDescriptor mj.1.desc = some sig → as.length = sig.parameters.length) (hfr : mj.2.2.2.2.1 + 1 ≤ mi.2.2.2.2.1)
    (hst : as.reverse ++ .ref a :: rest = st) (hls : ls.length = mi.2.2.1) (hlo : (rest.map fun v => v.category).sum + (mj.2.2.1 + 11) + mj.2.2.2.2.2 ≤ mi.2.2.2.2.2)
    (M : Meets K l Z n0 mj (.ref a :: as) H none H1) (kk : Runs K l Z n0 mi np ls rest H1 v H') : Runs K l Z n0 mi pc ls st H v H' := by
  obtain ⟨hd, rfl⟩ := hd
  subst hst
  have m1 := M.1
  have m2 := M.2.1
  refine Runs.heap m1 m2 (fun p e R s m args below meth c T locs cells slots X hx hZ hc hml hown hnm hrel hfr' hf' hlo' hsz hcl hsl => ?_) kk
  have w4' := w4
  rw [hr] at w4'
  obtain ⟨_, _, ⟨T1, L1, k1, n1⟩, -, X1, ⟨Lc, hQ, l1, y1, z1⟩, st1⟩ := X.specialBack hx (y := mj.1) hy1 hown (mvT hZ w1) (mvT hZ w2) (mvT hZ w4') hy
    (backM (W := (rest.map fun v => v.category).sum) M hrel hZ w4 w3 (by omega) (by omega))
    (g := mkF m pc (ls.map (shS n0)).toArray ((as.reverse ++ .ref a :: rest).map (shV n0))) rfl (by rw [hml, ← hls]; simp) (Steps.refl _) (a := n0 + a) (argsL := as.map (shV n0)) (rest := rest.map (shV n0)) (fun sig q => by rw [List.length_map]; exact hlen sig q) (by simp [shV]) (by rw [cats_sh]; show 2 * 0 + _ ≤ _; omega) (hb hc hd)
    (fun _ _ => ⟨rfl, rfl, (by show cells + (H1.length - H.length) ≤ _; omega), (by show slots + (szs K H1 - szs K H) ≤ _; omega)⟩)
  dsimp only [Pt.U, Pt.locs, Pt.cells, Pt.slots] at X1 l1 y1 z1 st1 hQ
  subst l1 y1 z1
  obtain ⟨rfl, R1, F1⟩ := hQ
  exact ⟨T1, _, _, _, X1, R1, Fr.app hfr' F1, by show s.heap.size + (cells + (H1.length - H.length)) = _; omega, by show slots + (szs K H1 - szs K H) + _ ≤ _; omega, fun t q => st1.trans q⟩
theorem r_virtual {mj : MI} {as : List Value} {w : Option Value} {a cid idx : Nat} {ci : CI} {vs : List Value} (hd : decode mi.2.1 pc = .ok (.invokevirtual idx, 3) ∧ pc + 3 = np) (w1 : (Jvm.Cond.methodLink mi.1.cls idx mj.1).before a0 Z = true) (w2 : (Jvm.Cond.declares mj.1).before a0 Z = true) (w5 : (Jvm.Cond.selects ci.1 mj.1 mj.1).before a0 Z = true) (w6 : (Jvm.Cond.instanceMethod mj.1).before a0 Z = true) (w3 : (Jvm.Cond.initialized mj.1.cls).before a0 Z = true) (w4 : (Jvm.Cond.code mj.1 mj.2.1 mj.2.2.1 mj.2.2.2.1).before a0 Z = true)
    (hy : mj.1.cls ≠ "java/lang/invoke/MethodHandle" ∧ mj.1.cls ≠ "java/lang/invoke/VarHandle") (hlen : ∀ sig, parseMethodDescriptor mj.1.desc = some sig → as.length = sig.parameters.length) (hfr : mj.2.2.2.2.1 + 1 ≤ mi.2.2.2.2.1) (hci : K[cid]? = some ci)
    (hst : as.reverse ++ .ref a :: rest = st) (ho : H[a]? = some (.inl (cid, vs))) (hls : ls.length = mi.2.2.1) (hlo : (rest.map fun v => v.category).sum + (mj.2.2.1 + 11) + mj.2.2.2.2.2 ≤ mi.2.2.2.2.2)
    (M : Meets K l Z n0 mj (.ref a :: as) H w H1) (kk : Runs K l Z n0 mi np ls (w.toList ++ rest) H1 v H') : Runs K l Z n0 mi pc ls st H v H' := by
  obtain ⟨hd, rfl⟩ := hd
  subst hst
  have m1 := M.1
  have m2 := M.2.1
  refine Runs.heap m1 m2 (fun p e R s m args below meth c T locs cells slots X hx hZ hc hml hown hnm hrel hfr' hf' hlo' hsz hcl hsl => ?_) kk
  obtain ⟨ci', q1, E, F⟩ := hrel.2 a _ ho
  cases hci.symm.trans q1
  obtain ⟨cq, kq, qa, qb, qc⟩ := isOf hZ rfl E
  obtain ⟨_, _, ⟨T1, L1, k1, n1⟩, -, X1, ⟨Lc, hQ, l1, y1, z1⟩, st1⟩ := X.virtualBack hx (y := mj.1) (z := mj.1) hown (mvT hZ w1) (mvT hZ w2) (notFace_of_selects (args := #[]) (mvT hZ w5)) (mvT hZ w5) (mvT hZ w6) hy
    (backM (W := (rest.map fun v => v.category).sum) M hrel hZ w4 w3 (by omega) (by omega)) qa qc
    (g := mkF m pc (ls.map (shS n0)).toArray ((as.reverse ++ .ref a :: rest).map (shV n0))) rfl (by rw [hml, ← hls]; simp) (Steps.refl _) (argsL := as.map (shV n0)) (rest := rest.map (shV n0)) (fun sig q => by rw [List.length_map]; exact hlen sig q) (by simp [shV]) (by rw [cats_sh]; show 2 * 0 + _ ≤ _; omega) (hb hc hd)
    (fun _ _ => ⟨rfl, rfl, (by show cells + (H1.length - H.length) ≤ _; omega), (by show slots + (szs K H1 - szs K H) ≤ _; omega)⟩)
  dsimp only [Pt.U, Pt.locs, Pt.cells, Pt.slots] at X1 l1 y1 z1 st1 hQ
  subst l1 y1 z1
  obtain ⟨rfl, R1, F1⟩ := hQ
  refine ⟨T1, _, _, _, X1, R1, Fr.app hfr' F1, by show s.heap.size + (cells + (H1.length - H.length)) = _; omega, by show slots + (szs K H1 - szs K H) + _ ≤ _; omega, fun t q => st1.trans ?_⟩
  rw [map_toList] at q; exact q
theorem r_private {mj : MI} {as : List Value} {w : Option Value} {a cid idx : Nat} {ci : CI} {vs : List Value} (hd : decode mi.2.1 pc = .ok (.invokevirtual idx, 3) ∧ pc + 3 = np) (w1 : (Jvm.Cond.methodLink mi.1.cls idx mj.1).before a0 Z = true) (w5 : (Jvm.Cond.selects mj.1.cls mj.1 mj.1).before a0 Z = true) (w7 : (Jvm.Cond.privateMethod mj.1).before a0 Z = true) (w6 : (Jvm.Cond.instanceMethod mj.1).before a0 Z = true) (w3 : (Jvm.Cond.initialized mj.1.cls).before a0 Z = true) (w4 : (Jvm.Cond.code mj.1 mj.2.1 mj.2.2.1 mj.2.2.2.1).before a0 Z = true)
    (hy : mj.1.cls ≠ "java/lang/invoke/MethodHandle" ∧ mj.1.cls ≠ "java/lang/invoke/VarHandle") (hlen : ∀ sig, parseMethodDescriptor mj.1.desc = some sig → as.length = sig.parameters.length) (hfr : mj.2.2.2.2.1 + 1 ≤ mi.2.2.2.2.1) (hci : K[cid]? = some ci)
    (hst : as.reverse ++ .ref a :: rest = st) (ho : H[a]? = some (.inl (cid, vs))) (hls : ls.length = mi.2.2.1) (hlo : (rest.map fun v => v.category).sum + (mj.2.2.1 + 11) + mj.2.2.2.2.2 ≤ mi.2.2.2.2.2)
    (M : Meets K l Z n0 mj (.ref a :: as) H w H1) (kk : Runs K l Z n0 mi np ls (w.toList ++ rest) H1 v H') : Runs K l Z n0 mi pc ls st H v H' := by
  obtain ⟨hd, rfl⟩ := hd
  subst hst
  have m1 := M.1
  have m2 := M.2.1
  refine Runs.heap m1 m2 (fun p e R s m args below meth c T locs cells slots X hx hZ hc hml hown hnm hrel hfr' hf' hlo' hsz hcl hsl => ?_) kk
  obtain ⟨ci', q1, E, F⟩ := hrel.2 a _ ho
  cases hci.symm.trans q1
  obtain ⟨cq, qa, qc⟩ := E.cell
  obtain ⟨_, _, ⟨T1, L1, k1, n1⟩, -, X1, ⟨Lc, hQ, l1, y1, z1⟩, st1⟩ := X.privateBack hx (y := mj.1) hown (mvT hZ w1) (mvT hZ w6) (mvT hZ w5) (Cond.privateMethod_at (mvP hZ w7 (args := #[]))) (mvT hZ w4) hy
    (backM (W := (rest.map fun v => v.category).sum) M hrel hZ w4 w3 (by omega) (by omega))
    (g := mkF m pc (ls.map (shS n0)).toArray ((as.reverse ++ .ref a :: rest).map (shV n0))) rfl (by rw [hml, ← hls]; simp) (Steps.refl _) (a := n0 + a) qa qc (argsL := as.map (shV n0)) (rest := rest.map (shV n0)) (fun sig q => by rw [List.length_map]; exact hlen sig q) (by simp [shV]) (by rw [cats_sh]; show 2 * 0 + _ ≤ _; omega) (hb hc hd)
    (fun _ _ => ⟨rfl, rfl, (by show cells + (H1.length - H.length) ≤ _; omega), (by show slots + (szs K H1 - szs K H) ≤ _; omega)⟩)
  dsimp only [Pt.U, Pt.locs, Pt.cells, Pt.slots] at X1 l1 y1 z1 st1 hQ
  subst l1 y1 z1
  obtain ⟨rfl, R1, F1⟩ := hQ
  refine ⟨T1, _, _, _, X1, R1, Fr.app hfr' F1, by show s.heap.size + (cells + (H1.length - H.length)) = _; omega, by show slots + (szs K H1 - szs K H) + _ ≤ _; omega, fun t q => st1.trans ?_⟩
  rw [map_toList] at q; exact q
end Logic
/-! ### arrays by a function of the place; small naturals as ints -/
def arrF (m : Nat) (f : Nat → Int32) : List Value := (List.range m).map (fun j => Value.int (f j))
def arrJ (m : Nat) (f : Nat → Int64) : List Value := (List.range m).map (fun j => Value.long (f j))
theorem arrF_len {m : Nat} {f : Nat → Int32} : (arrF m f).length = m := by simp [arrF]
theorem arrJ_len {m : Nat} {f : Nat → Int64} : (arrJ m f).length = m := by simp [arrJ]
theorem arrF_at {m i : Nat} {f : Nat → Int32} (h : i < m) : (arrF m f)[i]? = some (.int (f i)) := by simp [arrF, h]
theorem arrJ_at {m i : Nat} {f : Nat → Int64} (h : i < m) : (arrJ m f)[i]? = some (.long (f i)) := by simp [arrJ, h]
theorem arrF_set {m i : Nat} {f : Nat → Int32} {x : Int32} : (arrF m f).set i (.int x) = arrF m (fun j => if j = i then x else f j) := by
  apply List.ext_getElem?
  intro j
  by_cases hj : j < m
  · rw [arrF_at hj]
    by_cases e : i = j
    · subst e; rw [List.getElem?_set_self (by rw [arrF_len]; exact hj), if_pos rfl]
    · rw [List.getElem?_set_ne e, arrF_at hj, if_neg (fun q => e q.symm)]
  · rw [List.getElem?_eq_none (by rw [List.length_set, arrF_len]; omega), List.getElem?_eq_none (by rw [arrF_len]; omega)]
theorem arrJ_set {m i : Nat} {f : Nat → Int64} {x : Int64} : (arrJ m f).set i (.long x) = arrJ m (fun j => if j = i then x else f j) := by
  apply List.ext_getElem?
  intro j
  by_cases hj : j < m
  · rw [arrJ_at hj]
    by_cases e : i = j
    · subst e; rw [List.getElem?_set_self (by rw [arrJ_len]; exact hj), if_pos rfl]
    · rw [List.getElem?_set_ne e, arrJ_at hj, if_neg (fun q => e q.symm)]
  · rw [List.getElem?_eq_none (by rw [List.length_set, arrJ_len]; omega), List.getElem?_eq_none (by rw [arrJ_len]; omega)]
theorem arrF_congr {m : Nat} {f g : Nat → Int32} (h : ∀ j, j < m → f j = g j) : arrF m f = arrF m g := List.map_congr_left fun j hj => by rw [h j (List.mem_range.mp hj)]
theorem arrJ_congr {m : Nat} {f g : Nat → Int64} (h : ∀ j, j < m → f j = g j) : arrJ m f = arrJ m g := List.map_congr_left fun j hj => by rw [h j (List.mem_range.mp hj)]
theorem arrF_zero {m : Nat} : List.replicate m (Value.int 0) = arrF m (fun _ => 0) := by
  apply List.ext_getElem?
  intro j
  by_cases hj : j < m
  · rw [arrF_at hj, List.getElem?_replicate, if_pos hj]
  · rw [List.getElem?_eq_none (by simp; omega), List.getElem?_eq_none (by rw [arrF_len]; omega)]
theorem arrJ_zero {m : Nat} : List.replicate m (Value.long 0) = arrJ m (fun _ => 0) := by
  apply List.ext_getElem?
  intro j
  by_cases hj : j < m
  · rw [arrJ_at hj, List.getElem?_replicate, if_pos hj]
  · rw [List.getElem?_eq_none (by simp; omega), List.getElem?_eq_none (by rw [arrJ_len]; omega)]
theorem ti_int {n : Nat} (h : n < 2 ^ 31) : n.toInt32.toInt = n := len_toInt h
theorem ti_ix {n : Nat} (h : n < 2 ^ 31) : Ix n.toInt32 n := by
  have q := ti_int h
  have e0 : (0 : Int32).toInt = 0 := by decide
  refine ⟨?_, ?_⟩
  · rw [Int32.lt_iff_toInt_lt]; omega
  · simp only [Int32.toNatClampNeg]; omega
theorem ti_lt {a b : Nat} (ha : a < 2 ^ 31) (hb : b < 2 ^ 31) : a.toInt32 < b.toInt32 ↔ a < b := by
  rw [Int32.lt_iff_toInt_lt, ti_int ha, ti_int hb]; omega
theorem ti_eq {a b : Nat} (ha : a < 2 ^ 31) (hb : b < 2 ^ 31) : a.toInt32 = b.toInt32 ↔ a = b := by
  rw [← Int32.toInt_inj, ti_int ha, ti_int hb]; omega
theorem ti_add {a b : Nat} (h : a + b < 2 ^ 31) : a.toInt32 + b.toInt32 = (a + b).toInt32 := by
  apply Int32.toInt_inj.mp
  have q := c_iadd a.toInt32 b.toInt32
  have l1 := Int32.le_toInt (a.toInt32 + b.toInt32)
  have l2 := Int32.toInt_lt (a.toInt32 + b.toInt32)
  have e1 := ti_int (show a < 2 ^ 31 by omega)
  have e2 := ti_int (show b < 2 ^ 31 by omega)
  have e3 := ti_int h
  omega
theorem ti_succ {a : Nat} (h : a + 1 < 2 ^ 31) : a.toInt32 + 1 = (a + 1).toInt32 := ti_add (b := 1) h
theorem ti_of {x : Int32} (h : 0 ≤ x.toInt) : x = x.toNatClampNeg.toInt32 := by
  have b := Int32.toInt_lt x
  apply Int32.toInt_inj.mp
  rw [ti_int (by simp only [Int32.toNatClampNeg]; omega)]
  simp only [Int32.toNatClampNeg]; omega
theorem ix_of {x : Int32} (h : 0 ≤ x.toInt) : Ix x x.toNatClampNeg := by
  refine ⟨?_, rfl⟩
  have e0 : (0 : Int32).toInt = 0 := by decide
  rw [Int32.lt_iff_toInt_lt]; omega
abbrev HW (Z : State) (a0 : Array Value) : Prop := ∀ d ∈ tables_1, d.before a0 Z = true
def K : List CI := [("com/example/features_at_odds/featuresatodds/search/Rows", 4, [("com/example/features_at_odds/featuresatodds/search/Rows", "values", "[I", (.array .int)), ("com/example/features_at_odds/featuresatodds/search/Rows", "start", "[I", (.array .int)), ("com/example/features_at_odds/featuresatodds/search/Rows", "size", "I", .int), ("com/example/features_at_odds/featuresatodds/search/Rows", "count", "I", .int)])]
theorem allL0 {α : Type} {P : α → Prop} : ∀ x ∈ ([] : List α), P x := fun _ q => nomatch q
theorem allLS {α : Type} {P : α → Prop} {y : α} {L : List α} (q : P y) (r : ∀ x ∈ L, P x) : ∀ x ∈ y :: L, P x := fun x z => (List.mem_cons.mp z).elim (fun u => u ▸ q) (r x)
theorem kok {Z : State} {a0 : Array Value} (hw : HW Z a0) : KOk K Z a0 := by
  intro k ci h
  match k, h with
  | 0, h => cases h; exact ⟨(hw _ (List.mem_of_getElem? (i := 1) rfl)), (allLS ⟨Or.inl (hw _ (List.mem_of_getElem? (i := 11) rfl)), by decide⟩ (allLS ⟨Or.inl (hw _ (List.mem_of_getElem? (i := 13) rfl)), by decide⟩ (allLS ⟨Or.inl (hw _ (List.mem_of_getElem? (i := 20) rfl)), by decide⟩ (allLS ⟨Or.inl (hw _ (List.mem_of_getElem? (i := 27) rfl)), by decide⟩ (allL0))))), by decide⟩
  | (k + 1), h => simp [K] at h
def m0 : MI := (x, code, 19, some .boolean, 2, 27)
def m1 : MI := (⟨"com/example/features_at_odds/featuresatodds/search/Rows", "<init>", "(II)V"⟩, prog_39_method_1_code, 3, none, 1, 12)
def m3 : MI := (⟨"com/example/features_at_odds/featuresatodds/search/Rows", "add", "(I)V"⟩, prog_39_method_12_code, 2, none, 0, 0)
def m4 : MI := (⟨"com/example/features_at_odds/featuresatodds/search/Rows", "endRow", "()V"⟩, prog_39_method_13_code, 1, none, 0, 0)
def m5 : MI := (⟨"com/example/features_at_odds/featuresatodds/search/Rows", "removeFrom", "(I[J)V"⟩, prog_39_method_9_code, 5, none, 0, 0)
def m6 : MI := (⟨"com/example/features_at_odds/featuresatodds/search/Rows", "count", "()I"⟩, prog_39_method_2_code, 1, some .int, 0, 0)
def m7 : MI := (⟨"com/example/features_at_odds/featuresatodds/search/RowsRemoveFromPinLaw", "clear", "(JII)J"⟩, method_3_code, 4, some .long, 0, 0)
theorem pd0 : parseMethodDescriptor "(JJII)Z" = some ⟨[.long, .long, .int, .int], some .boolean⟩ := by decide +kernel
theorem pf0 : plainFor m0.1 = true := by first | exact plainFor_of_name (by first | (simp [m0, x, plainName, overriddenIn]; done) | decide +kernel) | decide +kernel
theorem pd1 : parseMethodDescriptor "(II)V" = some ⟨[.int, .int], none⟩ := by decide +kernel
theorem pf1 : plainFor m1.1 = true := by first | exact plainFor_of_name (by first | (simp [m1, x, plainName, overriddenIn]; done) | decide +kernel) | decide +kernel
theorem pd3 : parseMethodDescriptor "(I)V" = some ⟨[.int], none⟩ := by decide +kernel
theorem pf3 : plainFor m3.1 = true := by first | exact plainFor_of_name (by first | (simp [m3, x, plainName, overriddenIn]; done) | decide +kernel) | decide +kernel
theorem pd4 : parseMethodDescriptor "()V" = some ⟨[], none⟩ := by decide +kernel
theorem pf4 : plainFor m4.1 = true := by first | exact plainFor_of_name (by first | (simp [m4, x, plainName, overriddenIn]; done) | decide +kernel) | decide +kernel
theorem pd5 : parseMethodDescriptor "(I[J)V" = some ⟨[.int, (.array .long)], none⟩ := by decide +kernel
theorem pf5 : plainFor m5.1 = true := by first | exact plainFor_of_name (by first | (simp [m5, x, plainName, overriddenIn]; done) | decide +kernel) | decide +kernel
theorem pd6 : parseMethodDescriptor "()I" = some ⟨[], some .int⟩ := by decide +kernel
theorem pf6 : plainFor m6.1 = true := by first | exact plainFor_of_name (by first | (simp [m6, x, plainName, overriddenIn]; done) | decide +kernel) | decide +kernel
theorem pd7 : parseMethodDescriptor "(JII)J" = some ⟨[.long, .int, .int], some .long⟩ := by decide +kernel
theorem pf7 : plainFor m7.1 = true := by first | exact plainFor_of_name (by first | (simp [m7, x, plainName, overriddenIn]; done) | decide +kernel) | decide +kernel
theorem i0_0 : decode m0.2.1 0 = .ok (.iload 4, 2) ∧ 0 + 2 = 2 := ⟨by decide +kernel, rfl⟩
theorem i0_2 : decode m0.2.1 2 = .ok (.bipush 127, 2) ∧ 2 + 2 = 4 ∧ (Int8.ofInt 127).toInt32 = 127 := ⟨by decide +kernel, rfl, by decide⟩
theorem i0_4 : decode m0.2.1 4 = .ok (.iand, 1) ∧ 4 + 1 = 5 := ⟨by decide +kernel, rfl⟩
theorem i0_5 : decode m0.2.1 5 = .ok (.istore 6, 2) ∧ 5 + 2 = 7 := ⟨by decide +kernel, rfl⟩
theorem i0_7 : decode m0.2.1 7 = .ok (.iload 4, 2) ∧ 7 + 2 = 9 := ⟨by decide +kernel, rfl⟩
theorem i0_9 : decode m0.2.1 9 = .ok (.bipush 7, 2) ∧ 9 + 2 = 11 ∧ (Int8.ofInt 7).toInt32 = 7 := ⟨by decide +kernel, rfl, by decide⟩
theorem i0_11 : decode m0.2.1 11 = .ok (.iushr, 1) ∧ 11 + 1 = 12 := ⟨by decide +kernel, rfl⟩
theorem i0_12 : decode m0.2.1 12 = .ok (.bipush 127, 2) ∧ 12 + 2 = 14 ∧ (Int8.ofInt 127).toInt32 = 127 := ⟨by decide +kernel, rfl, by decide⟩
theorem i0_14 : decode m0.2.1 14 = .ok (.iand, 1) ∧ 14 + 1 = 15 := ⟨by decide +kernel, rfl⟩
theorem i0_15 : decode m0.2.1 15 = .ok (.istore 7, 2) ∧ 15 + 2 = 17 := ⟨by decide +kernel, rfl⟩
theorem i0_17 : decode m0.2.1 17 = .ok (.iload 4, 2) ∧ 17 + 2 = 19 := ⟨by decide +kernel, rfl⟩
theorem i0_19 : decode m0.2.1 19 = .ok (.bipush 14, 2) ∧ 19 + 2 = 21 ∧ (Int8.ofInt 14).toInt32 = 14 := ⟨by decide +kernel, rfl, by decide⟩
theorem i0_21 : decode m0.2.1 21 = .ok (.iushr, 1) ∧ 21 + 1 = 22 := ⟨by decide +kernel, rfl⟩
theorem i0_22 : decode m0.2.1 22 = .ok (.bipush 127, 2) ∧ 22 + 2 = 24 ∧ (Int8.ofInt 127).toInt32 = 127 := ⟨by decide +kernel, rfl, by decide⟩
theorem i0_24 : decode m0.2.1 24 = .ok (.iand, 1) ∧ 24 + 1 = 25 := ⟨by decide +kernel, rfl⟩
theorem i0_25 : decode m0.2.1 25 = .ok (.istore 8, 2) ∧ 25 + 2 = 27 := ⟨by decide +kernel, rfl⟩
theorem i0_27 : decode m0.2.1 27 = .ok (.iload 4, 2) ∧ 27 + 2 = 29 := ⟨by decide +kernel, rfl⟩
theorem i0_29 : decode m0.2.1 29 = .ok (.bipush 21, 2) ∧ 29 + 2 = 31 ∧ (Int8.ofInt 21).toInt32 = 21 := ⟨by decide +kernel, rfl, by decide⟩
theorem i0_31 : decode m0.2.1 31 = .ok (.iushr, 1) ∧ 31 + 1 = 32 := ⟨by decide +kernel, rfl⟩
theorem i0_32 : decode m0.2.1 32 = .ok (.bipush 127, 2) ∧ 32 + 2 = 34 ∧ (Int8.ofInt 127).toInt32 = 127 := ⟨by decide +kernel, rfl, by decide⟩
theorem i0_34 : decode m0.2.1 34 = .ok (.iand, 1) ∧ 34 + 1 = 35 := ⟨by decide +kernel, rfl⟩
theorem i0_35 : decode m0.2.1 35 = .ok (.istore 9, 2) ∧ 35 + 2 = 37 := ⟨by decide +kernel, rfl⟩
theorem i0_37 : decode m0.2.1 37 = .ok (.iload 4, 2) ∧ 37 + 2 = 39 := ⟨by decide +kernel, rfl⟩
theorem i0_39 : decode m0.2.1 39 = .ok (.bipush 28, 2) ∧ 39 + 2 = 41 ∧ (Int8.ofInt 28).toInt32 = 28 := ⟨by decide +kernel, rfl, by decide⟩
theorem i0_41 : decode m0.2.1 41 = .ok (.iushr, 1) ∧ 41 + 1 = 42 := ⟨by decide +kernel, rfl⟩
theorem i0_42 : decode m0.2.1 42 = .ok (.iconst 3, 1) ∧ 42 + 1 = 43 ∧ Int32.ofInt 3 = 3 := ⟨by decide +kernel, rfl, by decide⟩
theorem i0_43 : decode m0.2.1 43 = .ok (.iand, 1) ∧ 43 + 1 = 44 := ⟨by decide +kernel, rfl⟩
theorem i0_44 : decode m0.2.1 44 = .ok (.istore 10, 2) ∧ 44 + 2 = 46 := ⟨by decide +kernel, rfl⟩
theorem i0_46 : decode m0.2.1 46 = .ok (.iload 5, 2) ∧ 46 + 2 = 48 := ⟨by decide +kernel, rfl⟩
theorem i0_48 : decode m0.2.1 48 = .ok (.iconst 1, 1) ∧ 48 + 1 = 49 ∧ Int32.ofInt 1 = 1 := ⟨by decide +kernel, rfl, by decide⟩
theorem i0_49 : decode m0.2.1 49 = .ok (.iand, 1) ∧ 49 + 1 = 50 := ⟨by decide +kernel, rfl⟩
theorem i0_50 : decode m0.2.1 50 = .ok (.ifCond .eq 7, 3) ∧ 50 + 3 = 53 ∧ 0 ≤ ((50 : Nat) : Int) + 7 ∧ (((50 : Nat) : Int) + 7).toNat = 57 := ⟨by decide +kernel, rfl, by decide, by decide⟩
theorem i0_53 : decode m0.2.1 53 = .ok (.iconst 1, 1) ∧ 53 + 1 = 54 ∧ Int32.ofInt 1 = 1 := ⟨by decide +kernel, rfl, by decide⟩
theorem i0_54 : decode m0.2.1 54 = .ok (.goto 4, 3) ∧ 54 + 3 = 57 ∧ 0 ≤ ((54 : Nat) : Int) + 4 ∧ (((54 : Nat) : Int) + 4).toNat = 58 := ⟨by decide +kernel, rfl, by decide, by decide⟩
theorem i0_57 : decode m0.2.1 57 = .ok (.iconst 0, 1) ∧ 57 + 1 = 58 ∧ Int32.ofInt 0 = 0 := ⟨by decide +kernel, rfl, by decide⟩
theorem i0_58 : decode m0.2.1 58 = .ok (.istore 11, 2) ∧ 58 + 2 = 60 := ⟨by decide +kernel, rfl⟩
theorem i0_60 : decode m0.2.1 60 = .ok (.iload 5, 2) ∧ 60 + 2 = 62 := ⟨by decide +kernel, rfl⟩
theorem i0_62 : decode m0.2.1 62 = .ok (.iconst 1, 1) ∧ 62 + 1 = 63 ∧ Int32.ofInt 1 = 1 := ⟨by decide +kernel, rfl, by decide⟩
theorem i0_63 : decode m0.2.1 63 = .ok (.iushr, 1) ∧ 63 + 1 = 64 := ⟨by decide +kernel, rfl⟩
theorem i0_64 : decode m0.2.1 64 = .ok (.iconst 1, 1) ∧ 64 + 1 = 65 ∧ Int32.ofInt 1 = 1 := ⟨by decide +kernel, rfl, by decide⟩
theorem i0_65 : decode m0.2.1 65 = .ok (.iand, 1) ∧ 65 + 1 = 66 := ⟨by decide +kernel, rfl⟩
theorem i0_66 : decode m0.2.1 66 = .ok (.istore 12, 2) ∧ 66 + 2 = 68 := ⟨by decide +kernel, rfl⟩
theorem i0_68 : decode m0.2.1 68 = .ok (.new 7, 3) ∧ 68 + 3 = 71 := ⟨by decide +kernel, rfl⟩
theorem i0_71 : decode m0.2.1 71 = .ok (.dup, 1) ∧ 71 + 1 = 72 := ⟨by decide +kernel, rfl⟩
theorem i0_72 : decode m0.2.1 72 = .ok (.iconst 2, 1) ∧ 72 + 1 = 73 ∧ Int32.ofInt 2 = 2 := ⟨by decide +kernel, rfl, by decide⟩
theorem i0_73 : decode m0.2.1 73 = .ok (.iconst 4, 1) ∧ 73 + 1 = 74 ∧ Int32.ofInt 4 = 4 := ⟨by decide +kernel, rfl, by decide⟩
theorem i0_74 : decode m0.2.1 74 = .ok (.invokespecial 9, 3) ∧ 74 + 3 = 77 := ⟨by decide +kernel, rfl⟩
theorem i0_77 : decode m0.2.1 77 = .ok (.astore 13, 2) ∧ 77 + 2 = 79 := ⟨by decide +kernel, rfl⟩
theorem i0_79 : decode m0.2.1 79 = .ok (.iload 11, 2) ∧ 79 + 2 = 81 := ⟨by decide +kernel, rfl⟩
theorem i0_81 : decode m0.2.1 81 = .ok (.ifCond .eq 10, 3) ∧ 81 + 3 = 84 ∧ 0 ≤ ((81 : Nat) : Int) + 10 ∧ (((81 : Nat) : Int) + 10).toNat = 91 := ⟨by decide +kernel, rfl, by decide, by decide⟩
theorem i0_84 : decode m0.2.1 84 = .ok (.aload 13, 2) ∧ 84 + 2 = 86 := ⟨by decide +kernel, rfl⟩
theorem i0_86 : decode m0.2.1 86 = .ok (.iload 6, 2) ∧ 86 + 2 = 88 := ⟨by decide +kernel, rfl⟩
theorem i0_88 : decode m0.2.1 88 = .ok (.invokevirtual 12, 3) ∧ 88 + 3 = 91 := ⟨by decide +kernel, rfl⟩
theorem i0_91 : decode m0.2.1 91 = .ok (.aload 13, 2) ∧ 91 + 2 = 93 := ⟨by decide +kernel, rfl⟩
theorem i0_93 : decode m0.2.1 93 = .ok (.invokevirtual 16, 3) ∧ 93 + 3 = 96 := ⟨by decide +kernel, rfl⟩
theorem i0_96 : decode m0.2.1 96 = .ok (.iload 10, 2) ∧ 96 + 2 = 98 := ⟨by decide +kernel, rfl⟩
theorem i0_98 : decode m0.2.1 98 = .ok (.iconst 1, 1) ∧ 98 + 1 = 99 ∧ Int32.ofInt 1 = 1 := ⟨by decide +kernel, rfl, by decide⟩
theorem i0_99 : decode m0.2.1 99 = .ok (.if_icmp .lt 10, 3) ∧ 99 + 3 = 102 ∧ 0 ≤ ((99 : Nat) : Int) + 10 ∧ (((99 : Nat) : Int) + 10).toNat = 109 := ⟨by decide +kernel, rfl, by decide, by decide⟩
theorem i0_102 : decode m0.2.1 102 = .ok (.aload 13, 2) ∧ 102 + 2 = 104 := ⟨by decide +kernel, rfl⟩
theorem i0_104 : decode m0.2.1 104 = .ok (.iload 7, 2) ∧ 104 + 2 = 106 := ⟨by decide +kernel, rfl⟩
theorem i0_106 : decode m0.2.1 106 = .ok (.invokevirtual 12, 3) ∧ 106 + 3 = 109 := ⟨by decide +kernel, rfl⟩
theorem i0_109 : decode m0.2.1 109 = .ok (.iload 10, 2) ∧ 109 + 2 = 111 := ⟨by decide +kernel, rfl⟩
theorem i0_111 : decode m0.2.1 111 = .ok (.iconst 2, 1) ∧ 111 + 1 = 112 ∧ Int32.ofInt 2 = 2 := ⟨by decide +kernel, rfl, by decide⟩
theorem i0_112 : decode m0.2.1 112 = .ok (.if_icmp .lt 10, 3) ∧ 112 + 3 = 115 ∧ 0 ≤ ((112 : Nat) : Int) + 10 ∧ (((112 : Nat) : Int) + 10).toNat = 122 := ⟨by decide +kernel, rfl, by decide, by decide⟩
theorem i0_115 : decode m0.2.1 115 = .ok (.aload 13, 2) ∧ 115 + 2 = 117 := ⟨by decide +kernel, rfl⟩
theorem i0_117 : decode m0.2.1 117 = .ok (.iload 8, 2) ∧ 117 + 2 = 119 := ⟨by decide +kernel, rfl⟩
theorem i0_119 : decode m0.2.1 119 = .ok (.invokevirtual 12, 3) ∧ 119 + 3 = 122 := ⟨by decide +kernel, rfl⟩
theorem i0_122 : decode m0.2.1 122 = .ok (.iload 10, 2) ∧ 122 + 2 = 124 := ⟨by decide +kernel, rfl⟩
theorem i0_124 : decode m0.2.1 124 = .ok (.iconst 3, 1) ∧ 124 + 1 = 125 ∧ Int32.ofInt 3 = 3 := ⟨by decide +kernel, rfl, by decide⟩
theorem i0_125 : decode m0.2.1 125 = .ok (.if_icmp .lt 10, 3) ∧ 125 + 3 = 128 ∧ 0 ≤ ((125 : Nat) : Int) + 10 ∧ (((125 : Nat) : Int) + 10).toNat = 135 := ⟨by decide +kernel, rfl, by decide, by decide⟩
theorem i0_128 : decode m0.2.1 128 = .ok (.aload 13, 2) ∧ 128 + 2 = 130 := ⟨by decide +kernel, rfl⟩
theorem i0_130 : decode m0.2.1 130 = .ok (.iload 9, 2) ∧ 130 + 2 = 132 := ⟨by decide +kernel, rfl⟩
theorem i0_132 : decode m0.2.1 132 = .ok (.invokevirtual 12, 3) ∧ 132 + 3 = 135 := ⟨by decide +kernel, rfl⟩
theorem i0_135 : decode m0.2.1 135 = .ok (.aload 13, 2) ∧ 135 + 2 = 137 := ⟨by decide +kernel, rfl⟩
theorem i0_137 : decode m0.2.1 137 = .ok (.invokevirtual 16, 3) ∧ 137 + 3 = 140 := ⟨by decide +kernel, rfl⟩
theorem i0_140 : decode m0.2.1 140 = .ok (.iconst 2, 1) ∧ 140 + 1 = 141 ∧ Int32.ofInt 2 = 2 := ⟨by decide +kernel, rfl, by decide⟩
theorem i0_141 : decode m0.2.1 141 = .ok (.newarray .long, 2) ∧ 141 + 2 = 143 := ⟨by decide +kernel, rfl⟩
theorem i0_143 : decode m0.2.1 143 = .ok (.astore 14, 2) ∧ 143 + 2 = 145 := ⟨by decide +kernel, rfl⟩
theorem i0_145 : decode m0.2.1 145 = .ok (.aload 14, 2) ∧ 145 + 2 = 147 := ⟨by decide +kernel, rfl⟩
theorem i0_147 : decode m0.2.1 147 = .ok (.iconst 0, 1) ∧ 147 + 1 = 148 ∧ Int32.ofInt 0 = 0 := ⟨by decide +kernel, rfl, by decide⟩
theorem i0_148 : decode m0.2.1 148 = .ok (.lload_n 0, 1) ∧ 148 + 1 = 149 := ⟨by decide +kernel, rfl⟩
theorem i0_149 : decode m0.2.1 149 = .ok (.lastore, 1) ∧ 149 + 1 = 150 := ⟨by decide +kernel, rfl⟩
theorem i0_150 : decode m0.2.1 150 = .ok (.aload 14, 2) ∧ 150 + 2 = 152 := ⟨by decide +kernel, rfl⟩
theorem i0_152 : decode m0.2.1 152 = .ok (.iconst 1, 1) ∧ 152 + 1 = 153 ∧ Int32.ofInt 1 = 1 := ⟨by decide +kernel, rfl, by decide⟩
theorem i0_153 : decode m0.2.1 153 = .ok (.lload_n 2, 1) ∧ 153 + 1 = 154 := ⟨by decide +kernel, rfl⟩
theorem i0_154 : decode m0.2.1 154 = .ok (.lastore, 1) ∧ 154 + 1 = 155 := ⟨by decide +kernel, rfl⟩
theorem i0_155 : decode m0.2.1 155 = .ok (.aload 13, 2) ∧ 155 + 2 = 157 := ⟨by decide +kernel, rfl⟩
theorem i0_157 : decode m0.2.1 157 = .ok (.iload 12, 2) ∧ 157 + 2 = 159 := ⟨by decide +kernel, rfl⟩
theorem i0_159 : decode m0.2.1 159 = .ok (.aload 14, 2) ∧ 159 + 2 = 161 := ⟨by decide +kernel, rfl⟩
theorem i0_161 : decode m0.2.1 161 = .ok (.invokevirtual 19, 3) ∧ 161 + 3 = 164 := ⟨by decide +kernel, rfl⟩
theorem i0_164 : decode m0.2.1 164 = .ok (.lload_n 0, 1) ∧ 164 + 1 = 165 := ⟨by decide +kernel, rfl⟩
theorem i0_165 : decode m0.2.1 165 = .ok (.lstore 15, 2) ∧ 165 + 2 = 167 := ⟨by decide +kernel, rfl⟩
theorem i0_167 : decode m0.2.1 167 = .ok (.lload_n 2, 1) ∧ 167 + 1 = 168 := ⟨by decide +kernel, rfl⟩
theorem i0_168 : decode m0.2.1 168 = .ok (.lstore 17, 2) ∧ 168 + 2 = 170 := ⟨by decide +kernel, rfl⟩
theorem i0_170 : decode m0.2.1 170 = .ok (.iload 12, 2) ∧ 170 + 2 = 172 := ⟨by decide +kernel, rfl⟩
theorem i0_172 : decode m0.2.1 172 = .ok (.ifCond .ne 31, 3) ∧ 172 + 3 = 175 ∧ 0 ≤ ((172 : Nat) : Int) + 31 ∧ (((172 : Nat) : Int) + 31).toNat = 203 := ⟨by decide +kernel, rfl, by decide, by decide⟩
theorem i0_175 : decode m0.2.1 175 = .ok (.iload 11, 2) ∧ 175 + 2 = 177 := ⟨by decide +kernel, rfl⟩
theorem i0_177 : decode m0.2.1 177 = .ok (.ifCond .eq 104, 3) ∧ 177 + 3 = 180 ∧ 0 ≤ ((177 : Nat) : Int) + 104 ∧ (((177 : Nat) : Int) + 104).toNat = 281 := ⟨by decide +kernel, rfl, by decide, by decide⟩
theorem i0_180 : decode m0.2.1 180 = .ok (.lload 15, 2) ∧ 180 + 2 = 182 := ⟨by decide +kernel, rfl⟩
theorem i0_182 : decode m0.2.1 182 = .ok (.iconst 0, 1) ∧ 182 + 1 = 183 ∧ Int32.ofInt 0 = 0 := ⟨by decide +kernel, rfl, by decide⟩
theorem i0_183 : decode m0.2.1 183 = .ok (.iload 6, 2) ∧ 183 + 2 = 185 := ⟨by decide +kernel, rfl⟩
theorem i0_185 : decode m0.2.1 185 = .ok (.invokestatic 23, 3) ∧ 185 + 3 = 188 := ⟨by decide +kernel, rfl⟩
theorem i0_188 : decode m0.2.1 188 = .ok (.lstore 15, 2) ∧ 188 + 2 = 190 := ⟨by decide +kernel, rfl⟩
theorem i0_190 : decode m0.2.1 190 = .ok (.lload 17, 2) ∧ 190 + 2 = 192 := ⟨by decide +kernel, rfl⟩
theorem i0_192 : decode m0.2.1 192 = .ok (.iconst 1, 1) ∧ 192 + 1 = 193 ∧ Int32.ofInt 1 = 1 := ⟨by decide +kernel, rfl, by decide⟩
theorem i0_193 : decode m0.2.1 193 = .ok (.iload 6, 2) ∧ 193 + 2 = 195 := ⟨by decide +kernel, rfl⟩
theorem i0_195 : decode m0.2.1 195 = .ok (.invokestatic 23, 3) ∧ 195 + 3 = 198 := ⟨by decide +kernel, rfl⟩
theorem i0_198 : decode m0.2.1 198 = .ok (.lstore 17, 2) ∧ 198 + 2 = 200 := ⟨by decide +kernel, rfl⟩
theorem i0_200 : decode m0.2.1 200 = .ok (.goto 81, 3) ∧ 200 + 3 = 203 ∧ 0 ≤ ((200 : Nat) : Int) + 81 ∧ (((200 : Nat) : Int) + 81).toNat = 281 := ⟨by decide +kernel, rfl, by decide, by decide⟩
theorem i0_203 : decode m0.2.1 203 = .ok (.iload 10, 2) ∧ 203 + 2 = 205 := ⟨by decide +kernel, rfl⟩
theorem i0_205 : decode m0.2.1 205 = .ok (.iconst 1, 1) ∧ 205 + 1 = 206 ∧ Int32.ofInt 1 = 1 := ⟨by decide +kernel, rfl, by decide⟩
theorem i0_206 : decode m0.2.1 206 = .ok (.if_icmp .lt 23, 3) ∧ 206 + 3 = 209 ∧ 0 ≤ ((206 : Nat) : Int) + 23 ∧ (((206 : Nat) : Int) + 23).toNat = 229 := ⟨by decide +kernel, rfl, by decide, by decide⟩
theorem i0_209 : decode m0.2.1 209 = .ok (.lload 15, 2) ∧ 209 + 2 = 211 := ⟨by decide +kernel, rfl⟩
theorem i0_211 : decode m0.2.1 211 = .ok (.iconst 0, 1) ∧ 211 + 1 = 212 ∧ Int32.ofInt 0 = 0 := ⟨by decide +kernel, rfl, by decide⟩
theorem i0_212 : decode m0.2.1 212 = .ok (.iload 7, 2) ∧ 212 + 2 = 214 := ⟨by decide +kernel, rfl⟩
theorem i0_214 : decode m0.2.1 214 = .ok (.invokestatic 23, 3) ∧ 214 + 3 = 217 := ⟨by decide +kernel, rfl⟩
theorem i0_217 : decode m0.2.1 217 = .ok (.lstore 15, 2) ∧ 217 + 2 = 219 := ⟨by decide +kernel, rfl⟩
theorem i0_219 : decode m0.2.1 219 = .ok (.lload 17, 2) ∧ 219 + 2 = 221 := ⟨by decide +kernel, rfl⟩
theorem i0_221 : decode m0.2.1 221 = .ok (.iconst 1, 1) ∧ 221 + 1 = 222 ∧ Int32.ofInt 1 = 1 := ⟨by decide +kernel, rfl, by decide⟩
theorem i0_222 : decode m0.2.1 222 = .ok (.iload 7, 2) ∧ 222 + 2 = 224 := ⟨by decide +kernel, rfl⟩
theorem i0_224 : decode m0.2.1 224 = .ok (.invokestatic 23, 3) ∧ 224 + 3 = 227 := ⟨by decide +kernel, rfl⟩
theorem i0_227 : decode m0.2.1 227 = .ok (.lstore 17, 2) ∧ 227 + 2 = 229 := ⟨by decide +kernel, rfl⟩
theorem i0_229 : decode m0.2.1 229 = .ok (.iload 10, 2) ∧ 229 + 2 = 231 := ⟨by decide +kernel, rfl⟩
theorem i0_231 : decode m0.2.1 231 = .ok (.iconst 2, 1) ∧ 231 + 1 = 232 ∧ Int32.ofInt 2 = 2 := ⟨by decide +kernel, rfl, by decide⟩
theorem i0_232 : decode m0.2.1 232 = .ok (.if_icmp .lt 23, 3) ∧ 232 + 3 = 235 ∧ 0 ≤ ((232 : Nat) : Int) + 23 ∧ (((232 : Nat) : Int) + 23).toNat = 255 := ⟨by decide +kernel, rfl, by decide, by decide⟩
theorem i0_235 : decode m0.2.1 235 = .ok (.lload 15, 2) ∧ 235 + 2 = 237 := ⟨by decide +kernel, rfl⟩
theorem i0_237 : decode m0.2.1 237 = .ok (.iconst 0, 1) ∧ 237 + 1 = 238 ∧ Int32.ofInt 0 = 0 := ⟨by decide +kernel, rfl, by decide⟩
theorem i0_238 : decode m0.2.1 238 = .ok (.iload 8, 2) ∧ 238 + 2 = 240 := ⟨by decide +kernel, rfl⟩
theorem i0_240 : decode m0.2.1 240 = .ok (.invokestatic 23, 3) ∧ 240 + 3 = 243 := ⟨by decide +kernel, rfl⟩
theorem i0_243 : decode m0.2.1 243 = .ok (.lstore 15, 2) ∧ 243 + 2 = 245 := ⟨by decide +kernel, rfl⟩
theorem i0_245 : decode m0.2.1 245 = .ok (.lload 17, 2) ∧ 245 + 2 = 247 := ⟨by decide +kernel, rfl⟩
theorem i0_247 : decode m0.2.1 247 = .ok (.iconst 1, 1) ∧ 247 + 1 = 248 ∧ Int32.ofInt 1 = 1 := ⟨by decide +kernel, rfl, by decide⟩
theorem i0_248 : decode m0.2.1 248 = .ok (.iload 8, 2) ∧ 248 + 2 = 250 := ⟨by decide +kernel, rfl⟩
theorem i0_250 : decode m0.2.1 250 = .ok (.invokestatic 23, 3) ∧ 250 + 3 = 253 := ⟨by decide +kernel, rfl⟩
theorem i0_253 : decode m0.2.1 253 = .ok (.lstore 17, 2) ∧ 253 + 2 = 255 := ⟨by decide +kernel, rfl⟩
theorem i0_255 : decode m0.2.1 255 = .ok (.iload 10, 2) ∧ 255 + 2 = 257 := ⟨by decide +kernel, rfl⟩
theorem i0_257 : decode m0.2.1 257 = .ok (.iconst 3, 1) ∧ 257 + 1 = 258 ∧ Int32.ofInt 3 = 3 := ⟨by decide +kernel, rfl, by decide⟩
theorem i0_258 : decode m0.2.1 258 = .ok (.if_icmp .lt 23, 3) ∧ 258 + 3 = 261 ∧ 0 ≤ ((258 : Nat) : Int) + 23 ∧ (((258 : Nat) : Int) + 23).toNat = 281 := ⟨by decide +kernel, rfl, by decide, by decide⟩
theorem i0_261 : decode m0.2.1 261 = .ok (.lload 15, 2) ∧ 261 + 2 = 263 := ⟨by decide +kernel, rfl⟩
theorem i0_263 : decode m0.2.1 263 = .ok (.iconst 0, 1) ∧ 263 + 1 = 264 ∧ Int32.ofInt 0 = 0 := ⟨by decide +kernel, rfl, by decide⟩
theorem i0_264 : decode m0.2.1 264 = .ok (.iload 9, 2) ∧ 264 + 2 = 266 := ⟨by decide +kernel, rfl⟩
theorem i0_266 : decode m0.2.1 266 = .ok (.invokestatic 23, 3) ∧ 266 + 3 = 269 := ⟨by decide +kernel, rfl⟩
theorem i0_269 : decode m0.2.1 269 = .ok (.lstore 15, 2) ∧ 269 + 2 = 271 := ⟨by decide +kernel, rfl⟩
theorem i0_271 : decode m0.2.1 271 = .ok (.lload 17, 2) ∧ 271 + 2 = 273 := ⟨by decide +kernel, rfl⟩
theorem i0_273 : decode m0.2.1 273 = .ok (.iconst 1, 1) ∧ 273 + 1 = 274 ∧ Int32.ofInt 1 = 1 := ⟨by decide +kernel, rfl, by decide⟩
theorem i0_274 : decode m0.2.1 274 = .ok (.iload 9, 2) ∧ 274 + 2 = 276 := ⟨by decide +kernel, rfl⟩
theorem i0_276 : decode m0.2.1 276 = .ok (.invokestatic 23, 3) ∧ 276 + 3 = 279 := ⟨by decide +kernel, rfl⟩
theorem i0_279 : decode m0.2.1 279 = .ok (.lstore 17, 2) ∧ 279 + 2 = 281 := ⟨by decide +kernel, rfl⟩
theorem i0_281 : decode m0.2.1 281 = .ok (.aload 14, 2) ∧ 281 + 2 = 283 := ⟨by decide +kernel, rfl⟩
theorem i0_283 : decode m0.2.1 283 = .ok (.arraylength, 1) ∧ 283 + 1 = 284 := ⟨by decide +kernel, rfl⟩
theorem i0_284 : decode m0.2.1 284 = .ok (.iconst 2, 1) ∧ 284 + 1 = 285 ∧ Int32.ofInt 2 = 2 := ⟨by decide +kernel, rfl, by decide⟩
theorem i0_285 : decode m0.2.1 285 = .ok (.if_icmp .ne 36, 3) ∧ 285 + 3 = 288 ∧ 0 ≤ ((285 : Nat) : Int) + 36 ∧ (((285 : Nat) : Int) + 36).toNat = 321 := ⟨by decide +kernel, rfl, by decide, by decide⟩
theorem i0_288 : decode m0.2.1 288 = .ok (.aload 14, 2) ∧ 288 + 2 = 290 := ⟨by decide +kernel, rfl⟩
theorem i0_290 : decode m0.2.1 290 = .ok (.iconst 0, 1) ∧ 290 + 1 = 291 ∧ Int32.ofInt 0 = 0 := ⟨by decide +kernel, rfl, by decide⟩
theorem i0_291 : decode m0.2.1 291 = .ok (.laload, 1) ∧ 291 + 1 = 292 := ⟨by decide +kernel, rfl⟩
theorem i0_292 : decode m0.2.1 292 = .ok (.lload 15, 2) ∧ 292 + 2 = 294 := ⟨by decide +kernel, rfl⟩
theorem i0_294 : decode m0.2.1 294 = .ok (.lcmp, 1) ∧ 294 + 1 = 295 := ⟨by decide +kernel, rfl⟩
theorem i0_295 : decode m0.2.1 295 = .ok (.ifCond .ne 26, 3) ∧ 295 + 3 = 298 ∧ 0 ≤ ((295 : Nat) : Int) + 26 ∧ (((295 : Nat) : Int) + 26).toNat = 321 := ⟨by decide +kernel, rfl, by decide, by decide⟩
theorem i0_298 : decode m0.2.1 298 = .ok (.aload 14, 2) ∧ 298 + 2 = 300 := ⟨by decide +kernel, rfl⟩
theorem i0_300 : decode m0.2.1 300 = .ok (.iconst 1, 1) ∧ 300 + 1 = 301 ∧ Int32.ofInt 1 = 1 := ⟨by decide +kernel, rfl, by decide⟩
theorem i0_301 : decode m0.2.1 301 = .ok (.laload, 1) ∧ 301 + 1 = 302 := ⟨by decide +kernel, rfl⟩
theorem i0_302 : decode m0.2.1 302 = .ok (.lload 17, 2) ∧ 302 + 2 = 304 := ⟨by decide +kernel, rfl⟩
theorem i0_304 : decode m0.2.1 304 = .ok (.lcmp, 1) ∧ 304 + 1 = 305 := ⟨by decide +kernel, rfl⟩
theorem i0_305 : decode m0.2.1 305 = .ok (.ifCond .ne 16, 3) ∧ 305 + 3 = 308 ∧ 0 ≤ ((305 : Nat) : Int) + 16 ∧ (((305 : Nat) : Int) + 16).toNat = 321 := ⟨by decide +kernel, rfl, by decide, by decide⟩
theorem i0_308 : decode m0.2.1 308 = .ok (.aload 13, 2) ∧ 308 + 2 = 310 := ⟨by decide +kernel, rfl⟩
theorem i0_310 : decode m0.2.1 310 = .ok (.invokevirtual 29, 3) ∧ 310 + 3 = 313 := ⟨by decide +kernel, rfl⟩
theorem i0_313 : decode m0.2.1 313 = .ok (.iconst 2, 1) ∧ 313 + 1 = 314 ∧ Int32.ofInt 2 = 2 := ⟨by decide +kernel, rfl, by decide⟩
theorem i0_314 : decode m0.2.1 314 = .ok (.if_icmp .ne 7, 3) ∧ 314 + 3 = 317 ∧ 0 ≤ ((314 : Nat) : Int) + 7 ∧ (((314 : Nat) : Int) + 7).toNat = 321 := ⟨by decide +kernel, rfl, by decide, by decide⟩
theorem i0_317 : decode m0.2.1 317 = .ok (.iconst 1, 1) ∧ 317 + 1 = 318 ∧ Int32.ofInt 1 = 1 := ⟨by decide +kernel, rfl, by decide⟩
theorem i0_318 : decode m0.2.1 318 = .ok (.goto 4, 3) ∧ 318 + 3 = 321 ∧ 0 ≤ ((318 : Nat) : Int) + 4 ∧ (((318 : Nat) : Int) + 4).toNat = 322 := ⟨by decide +kernel, rfl, by decide, by decide⟩
theorem i0_321 : decode m0.2.1 321 = .ok (.iconst 0, 1) ∧ 321 + 1 = 322 ∧ Int32.ofInt 0 = 0 := ⟨by decide +kernel, rfl, by decide⟩
theorem i0_322 : decode m0.2.1 322 = .ok (.ireturn, 1) := by decide +kernel
theorem i1_0 : decode m1.2.1 0 = .ok (.aload_n 0, 1) ∧ 0 + 1 = 1 := ⟨by decide +kernel, rfl⟩
theorem i1_1 : decode m1.2.1 1 = .ok (.invokespecial 1, 3) ∧ 1 + 3 = 4 := ⟨by decide +kernel, rfl⟩
theorem i1_4 : decode m1.2.1 4 = .ok (.aload_n 0, 1) ∧ 4 + 1 = 5 := ⟨by decide +kernel, rfl⟩
theorem i1_5 : decode m1.2.1 5 = .ok (.iload_n 2, 1) ∧ 5 + 1 = 6 := ⟨by decide +kernel, rfl⟩
theorem i1_6 : decode m1.2.1 6 = .ok (.newarray .int, 2) ∧ 6 + 2 = 8 := ⟨by decide +kernel, rfl⟩
theorem i1_8 : decode m1.2.1 8 = .ok (.putfield 7, 3) ∧ 8 + 3 = 11 := ⟨by decide +kernel, rfl⟩
theorem i1_11 : decode m1.2.1 11 = .ok (.aload_n 0, 1) ∧ 11 + 1 = 12 := ⟨by decide +kernel, rfl⟩
theorem i1_12 : decode m1.2.1 12 = .ok (.iload_n 1, 1) ∧ 12 + 1 = 13 := ⟨by decide +kernel, rfl⟩
theorem i1_13 : decode m1.2.1 13 = .ok (.iconst 1, 1) ∧ 13 + 1 = 14 ∧ Int32.ofInt 1 = 1 := ⟨by decide +kernel, rfl, by decide⟩
theorem i1_14 : decode m1.2.1 14 = .ok (.iadd, 1) ∧ 14 + 1 = 15 := ⟨by decide +kernel, rfl⟩
theorem i1_15 : decode m1.2.1 15 = .ok (.newarray .int, 2) ∧ 15 + 2 = 17 := ⟨by decide +kernel, rfl⟩
theorem i1_17 : decode m1.2.1 17 = .ok (.putfield 13, 3) ∧ 17 + 3 = 20 := ⟨by decide +kernel, rfl⟩
theorem i1_20 : decode m1.2.1 20 = .ok (.return_, 1) := by decide +kernel
theorem i3_0 : decode m3.2.1 0 = .ok (.aload_n 0, 1) ∧ 0 + 1 = 1 := ⟨by decide +kernel, rfl⟩
theorem i3_1 : decode m3.2.1 1 = .ok (.getfield 40, 3) ∧ 1 + 3 = 4 := ⟨by decide +kernel, rfl⟩
theorem i3_4 : decode m3.2.1 4 = .ok (.aload_n 0, 1) ∧ 4 + 1 = 5 := ⟨by decide +kernel, rfl⟩
theorem i3_5 : decode m3.2.1 5 = .ok (.getfield 7, 3) ∧ 5 + 3 = 8 := ⟨by decide +kernel, rfl⟩
theorem i3_8 : decode m3.2.1 8 = .ok (.arraylength, 1) ∧ 8 + 1 = 9 := ⟨by decide +kernel, rfl⟩
theorem i3_9 : decode m3.2.1 9 = .ok (.if_icmp .ne 29, 3) ∧ 9 + 3 = 12 ∧ 0 ≤ ((9 : Nat) : Int) + 29 ∧ (((9 : Nat) : Int) + 29).toNat = 38 := ⟨by decide +kernel, rfl, by decide, by decide⟩
theorem i3_12 : decode m3.2.1 12 = .ok (.aload_n 0, 1) ∧ 12 + 1 = 13 := ⟨by decide +kernel, rfl⟩
theorem i3_13 : decode m3.2.1 13 = .ok (.aload_n 0, 1) ∧ 13 + 1 = 14 := ⟨by decide +kernel, rfl⟩
theorem i3_14 : decode m3.2.1 14 = .ok (.getfield 7, 3) ∧ 14 + 3 = 17 := ⟨by decide +kernel, rfl⟩
theorem i3_17 : decode m3.2.1 17 = .ok (.aload_n 0, 1) ∧ 17 + 1 = 18 := ⟨by decide +kernel, rfl⟩
theorem i3_18 : decode m3.2.1 18 = .ok (.getfield 7, 3) ∧ 18 + 3 = 21 := ⟨by decide +kernel, rfl⟩
theorem i3_21 : decode m3.2.1 21 = .ok (.arraylength, 1) ∧ 21 + 1 = 22 := ⟨by decide +kernel, rfl⟩
theorem i3_22 : decode m3.2.1 22 = .ok (.aload_n 0, 1) ∧ 22 + 1 = 23 := ⟨by decide +kernel, rfl⟩
theorem i3_23 : decode m3.2.1 23 = .ok (.getfield 40, 3) ∧ 23 + 3 = 26 := ⟨by decide +kernel, rfl⟩
theorem i3_26 : decode m3.2.1 26 = .ok (.i2l, 1) ∧ 26 + 1 = 27 := ⟨by decide +kernel, rfl⟩
theorem i3_27 : decode m3.2.1 27 = .ok (.lconst 1, 1) ∧ 27 + 1 = 28 ∧ Int64.ofNat ((1 : Fin 2) : Nat) = 1 := ⟨by decide +kernel, rfl, by decide⟩
theorem i3_28 : decode m3.2.1 28 = .ok (.ladd, 1) ∧ 28 + 1 = 29 := ⟨by decide +kernel, rfl⟩
theorem i3_29 : decode m3.2.1 29 = .ok (.invokestatic 43, 3) ∧ 29 + 3 = 32 := ⟨by decide +kernel, rfl⟩
theorem i3_32 : decode m3.2.1 32 = .ok (.invokestatic 49, 3) ∧ 32 + 3 = 35 := ⟨by decide +kernel, rfl⟩
theorem i3_35 : decode m3.2.1 35 = .ok (.putfield 7, 3) ∧ 35 + 3 = 38 := ⟨by decide +kernel, rfl⟩
theorem i3_38 : decode m3.2.1 38 = .ok (.aload_n 0, 1) ∧ 38 + 1 = 39 := ⟨by decide +kernel, rfl⟩
theorem i3_39 : decode m3.2.1 39 = .ok (.getfield 7, 3) ∧ 39 + 3 = 42 := ⟨by decide +kernel, rfl⟩
theorem i3_42 : decode m3.2.1 42 = .ok (.aload_n 0, 1) ∧ 42 + 1 = 43 := ⟨by decide +kernel, rfl⟩
theorem i3_43 : decode m3.2.1 43 = .ok (.dup, 1) ∧ 43 + 1 = 44 := ⟨by decide +kernel, rfl⟩
theorem i3_44 : decode m3.2.1 44 = .ok (.getfield 40, 3) ∧ 44 + 3 = 47 := ⟨by decide +kernel, rfl⟩
theorem i3_47 : decode m3.2.1 47 = .ok (.dup_x1, 1) ∧ 47 + 1 = 48 := ⟨by decide +kernel, rfl⟩
theorem i3_48 : decode m3.2.1 48 = .ok (.iconst 1, 1) ∧ 48 + 1 = 49 ∧ Int32.ofInt 1 = 1 := ⟨by decide +kernel, rfl, by decide⟩
theorem i3_49 : decode m3.2.1 49 = .ok (.iadd, 1) ∧ 49 + 1 = 50 := ⟨by decide +kernel, rfl⟩
theorem i3_50 : decode m3.2.1 50 = .ok (.putfield 40, 3) ∧ 50 + 3 = 53 := ⟨by decide +kernel, rfl⟩
theorem i3_53 : decode m3.2.1 53 = .ok (.iload_n 1, 1) ∧ 53 + 1 = 54 := ⟨by decide +kernel, rfl⟩
theorem i3_54 : decode m3.2.1 54 = .ok (.iastore, 1) ∧ 54 + 1 = 55 := ⟨by decide +kernel, rfl⟩
theorem i3_55 : decode m3.2.1 55 = .ok (.return_, 1) := by decide +kernel
theorem i4_0 : decode m4.2.1 0 = .ok (.aload_n 0, 1) ∧ 0 + 1 = 1 := ⟨by decide +kernel, rfl⟩
theorem i4_1 : decode m4.2.1 1 = .ok (.getfield 16, 3) ∧ 1 + 3 = 4 := ⟨by decide +kernel, rfl⟩
theorem i4_4 : decode m4.2.1 4 = .ok (.iconst 2, 1) ∧ 4 + 1 = 5 ∧ Int32.ofInt 2 = 2 := ⟨by decide +kernel, rfl, by decide⟩
theorem i4_5 : decode m4.2.1 5 = .ok (.iadd, 1) ∧ 5 + 1 = 6 := ⟨by decide +kernel, rfl⟩
theorem i4_6 : decode m4.2.1 6 = .ok (.aload_n 0, 1) ∧ 6 + 1 = 7 := ⟨by decide +kernel, rfl⟩
theorem i4_7 : decode m4.2.1 7 = .ok (.getfield 13, 3) ∧ 7 + 3 = 10 := ⟨by decide +kernel, rfl⟩
theorem i4_10 : decode m4.2.1 10 = .ok (.arraylength, 1) ∧ 10 + 1 = 11 := ⟨by decide +kernel, rfl⟩
theorem i4_11 : decode m4.2.1 11 = .ok (.if_icmp .le 31, 3) ∧ 11 + 3 = 14 ∧ 0 ≤ ((11 : Nat) : Int) + 31 ∧ (((11 : Nat) : Int) + 31).toNat = 42 := ⟨by decide +kernel, rfl, by decide, by decide⟩
theorem i4_14 : decode m4.2.1 14 = .ok (.aload_n 0, 1) ∧ 14 + 1 = 15 := ⟨by decide +kernel, rfl⟩
theorem i4_15 : decode m4.2.1 15 = .ok (.aload_n 0, 1) ∧ 15 + 1 = 16 := ⟨by decide +kernel, rfl⟩
theorem i4_16 : decode m4.2.1 16 = .ok (.getfield 13, 3) ∧ 16 + 3 = 19 := ⟨by decide +kernel, rfl⟩
theorem i4_19 : decode m4.2.1 19 = .ok (.aload_n 0, 1) ∧ 19 + 1 = 20 := ⟨by decide +kernel, rfl⟩
theorem i4_20 : decode m4.2.1 20 = .ok (.getfield 13, 3) ∧ 20 + 3 = 23 := ⟨by decide +kernel, rfl⟩
theorem i4_23 : decode m4.2.1 23 = .ok (.arraylength, 1) ∧ 23 + 1 = 24 := ⟨by decide +kernel, rfl⟩
theorem i4_24 : decode m4.2.1 24 = .ok (.aload_n 0, 1) ∧ 24 + 1 = 25 := ⟨by decide +kernel, rfl⟩
theorem i4_25 : decode m4.2.1 25 = .ok (.getfield 16, 3) ∧ 25 + 3 = 28 := ⟨by decide +kernel, rfl⟩
theorem i4_28 : decode m4.2.1 28 = .ok (.i2l, 1) ∧ 28 + 1 = 29 := ⟨by decide +kernel, rfl⟩
theorem i4_29 : decode m4.2.1 29 = .ok (.ldc2_w 53, 3) ∧ 29 + 3 = 32 := ⟨by decide +kernel, rfl⟩
theorem i4_32 : decode m4.2.1 32 = .ok (.ladd, 1) ∧ 32 + 1 = 33 := ⟨by decide +kernel, rfl⟩
theorem i4_33 : decode m4.2.1 33 = .ok (.invokestatic 43, 3) ∧ 33 + 3 = 36 := ⟨by decide +kernel, rfl⟩
theorem i4_36 : decode m4.2.1 36 = .ok (.invokestatic 49, 3) ∧ 36 + 3 = 39 := ⟨by decide +kernel, rfl⟩
theorem i4_39 : decode m4.2.1 39 = .ok (.putfield 13, 3) ∧ 39 + 3 = 42 := ⟨by decide +kernel, rfl⟩
theorem i4_42 : decode m4.2.1 42 = .ok (.aload_n 0, 1) ∧ 42 + 1 = 43 := ⟨by decide +kernel, rfl⟩
theorem i4_43 : decode m4.2.1 43 = .ok (.getfield 13, 3) ∧ 43 + 3 = 46 := ⟨by decide +kernel, rfl⟩
theorem i4_46 : decode m4.2.1 46 = .ok (.aload_n 0, 1) ∧ 46 + 1 = 47 := ⟨by decide +kernel, rfl⟩
theorem i4_47 : decode m4.2.1 47 = .ok (.dup, 1) ∧ 47 + 1 = 48 := ⟨by decide +kernel, rfl⟩
theorem i4_48 : decode m4.2.1 48 = .ok (.getfield 16, 3) ∧ 48 + 3 = 51 := ⟨by decide +kernel, rfl⟩
theorem i4_51 : decode m4.2.1 51 = .ok (.iconst 1, 1) ∧ 51 + 1 = 52 ∧ Int32.ofInt 1 = 1 := ⟨by decide +kernel, rfl, by decide⟩
theorem i4_52 : decode m4.2.1 52 = .ok (.iadd, 1) ∧ 52 + 1 = 53 := ⟨by decide +kernel, rfl⟩
theorem i4_53 : decode m4.2.1 53 = .ok (.dup_x1, 1) ∧ 53 + 1 = 54 := ⟨by decide +kernel, rfl⟩
theorem i4_54 : decode m4.2.1 54 = .ok (.putfield 16, 3) ∧ 54 + 3 = 57 := ⟨by decide +kernel, rfl⟩
theorem i4_57 : decode m4.2.1 57 = .ok (.aload_n 0, 1) ∧ 57 + 1 = 58 := ⟨by decide +kernel, rfl⟩
theorem i4_58 : decode m4.2.1 58 = .ok (.getfield 40, 3) ∧ 58 + 3 = 61 := ⟨by decide +kernel, rfl⟩
theorem i4_61 : decode m4.2.1 61 = .ok (.iastore, 1) ∧ 61 + 1 = 62 := ⟨by decide +kernel, rfl⟩
theorem i4_62 : decode m4.2.1 62 = .ok (.return_, 1) := by decide +kernel
theorem i5_0 : decode m5.2.1 0 = .ok (.aload_n 0, 1) ∧ 0 + 1 = 1 := ⟨by decide +kernel, rfl⟩
theorem i5_1 : decode m5.2.1 1 = .ok (.getfield 13, 3) ∧ 1 + 3 = 4 := ⟨by decide +kernel, rfl⟩
theorem i5_4 : decode m5.2.1 4 = .ok (.iload_n 1, 1) ∧ 4 + 1 = 5 := ⟨by decide +kernel, rfl⟩
theorem i5_5 : decode m5.2.1 5 = .ok (.iconst 1, 1) ∧ 5 + 1 = 6 ∧ Int32.ofInt 1 = 1 := ⟨by decide +kernel, rfl, by decide⟩
theorem i5_6 : decode m5.2.1 6 = .ok (.iadd, 1) ∧ 6 + 1 = 7 := ⟨by decide +kernel, rfl⟩
theorem i5_7 : decode m5.2.1 7 = .ok (.iaload, 1) ∧ 7 + 1 = 8 := ⟨by decide +kernel, rfl⟩
theorem i5_8 : decode m5.2.1 8 = .ok (.istore_n 3, 1) ∧ 8 + 1 = 9 := ⟨by decide +kernel, rfl⟩
theorem i5_9 : decode m5.2.1 9 = .ok (.aload_n 0, 1) ∧ 9 + 1 = 10 := ⟨by decide +kernel, rfl⟩
theorem i5_10 : decode m5.2.1 10 = .ok (.getfield 13, 3) ∧ 10 + 3 = 13 := ⟨by decide +kernel, rfl⟩
theorem i5_13 : decode m5.2.1 13 = .ok (.iload_n 1, 1) ∧ 13 + 1 = 14 := ⟨by decide +kernel, rfl⟩
theorem i5_14 : decode m5.2.1 14 = .ok (.iaload, 1) ∧ 14 + 1 = 15 := ⟨by decide +kernel, rfl⟩
theorem i5_15 : decode m5.2.1 15 = .ok (.istore 4, 2) ∧ 15 + 2 = 17 := ⟨by decide +kernel, rfl⟩
theorem i5_17 : decode m5.2.1 17 = .ok (.iload 4, 2) ∧ 17 + 2 = 19 := ⟨by decide +kernel, rfl⟩
theorem i5_19 : decode m5.2.1 19 = .ok (.iload_n 3, 1) ∧ 19 + 1 = 20 := ⟨by decide +kernel, rfl⟩
theorem i5_20 : decode m5.2.1 20 = .ok (.if_icmp .ge 37, 3) ∧ 20 + 3 = 23 ∧ 0 ≤ ((20 : Nat) : Int) + 37 ∧ (((20 : Nat) : Int) + 37).toNat = 57 := ⟨by decide +kernel, rfl, by decide, by decide⟩
theorem i5_23 : decode m5.2.1 23 = .ok (.aload_n 2, 1) ∧ 23 + 1 = 24 := ⟨by decide +kernel, rfl⟩
theorem i5_24 : decode m5.2.1 24 = .ok (.aload_n 0, 1) ∧ 24 + 1 = 25 := ⟨by decide +kernel, rfl⟩
theorem i5_25 : decode m5.2.1 25 = .ok (.getfield 7, 3) ∧ 25 + 3 = 28 := ⟨by decide +kernel, rfl⟩
theorem i5_28 : decode m5.2.1 28 = .ok (.iload 4, 2) ∧ 28 + 2 = 30 := ⟨by decide +kernel, rfl⟩
theorem i5_30 : decode m5.2.1 30 = .ok (.iaload, 1) ∧ 30 + 1 = 31 := ⟨by decide +kernel, rfl⟩
theorem i5_31 : decode m5.2.1 31 = .ok (.bipush 64, 2) ∧ 31 + 2 = 33 ∧ (Int8.ofInt 64).toInt32 = 64 := ⟨by decide +kernel, rfl, by decide⟩
theorem i5_33 : decode m5.2.1 33 = .ok (.idiv, 1) ∧ 33 + 1 = 34 := ⟨by decide +kernel, rfl⟩
theorem i5_34 : decode m5.2.1 34 = .ok (.dup2, 1) ∧ 34 + 1 = 35 := ⟨by decide +kernel, rfl⟩
theorem i5_35 : decode m5.2.1 35 = .ok (.laload, 1) ∧ 35 + 1 = 36 := ⟨by decide +kernel, rfl⟩
theorem i5_36 : decode m5.2.1 36 = .ok (.lconst 1, 1) ∧ 36 + 1 = 37 ∧ Int64.ofNat ((1 : Fin 2) : Nat) = 1 := ⟨by decide +kernel, rfl, by decide⟩
theorem i5_37 : decode m5.2.1 37 = .ok (.aload_n 0, 1) ∧ 37 + 1 = 38 := ⟨by decide +kernel, rfl⟩
theorem i5_38 : decode m5.2.1 38 = .ok (.getfield 7, 3) ∧ 38 + 3 = 41 := ⟨by decide +kernel, rfl⟩
theorem i5_41 : decode m5.2.1 41 = .ok (.iload 4, 2) ∧ 41 + 2 = 43 := ⟨by decide +kernel, rfl⟩
theorem i5_43 : decode m5.2.1 43 = .ok (.iaload, 1) ∧ 43 + 1 = 44 := ⟨by decide +kernel, rfl⟩
theorem i5_44 : decode m5.2.1 44 = .ok (.lshl, 1) ∧ 44 + 1 = 45 := ⟨by decide +kernel, rfl⟩
theorem i5_45 : decode m5.2.1 45 = .ok (.ldc2_w 32, 3) ∧ 45 + 3 = 48 := ⟨by decide +kernel, rfl⟩
theorem i5_48 : decode m5.2.1 48 = .ok (.lxor, 1) ∧ 48 + 1 = 49 := ⟨by decide +kernel, rfl⟩
theorem i5_49 : decode m5.2.1 49 = .ok (.land, 1) ∧ 49 + 1 = 50 := ⟨by decide +kernel, rfl⟩
theorem i5_50 : decode m5.2.1 50 = .ok (.lastore, 1) ∧ 50 + 1 = 51 := ⟨by decide +kernel, rfl⟩
theorem i5_51 : decode m5.2.1 51 = .ok (.iinc 4 1, 3) ∧ 51 + 3 = 54 ∧ Int32.ofInt 1 = 1 := ⟨by decide +kernel, rfl, by decide⟩
theorem i5_54 : decode m5.2.1 54 = .ok (.goto (-37), 3) ∧ 54 + 3 = 57 ∧ 0 ≤ ((54 : Nat) : Int) + (-37) ∧ (((54 : Nat) : Int) + (-37)).toNat = 17 := ⟨by decide +kernel, rfl, by decide, by decide⟩
theorem i5_57 : decode m5.2.1 57 = .ok (.return_, 1) := by decide +kernel
theorem i6_0 : decode m6.2.1 0 = .ok (.aload_n 0, 1) ∧ 0 + 1 = 1 := ⟨by decide +kernel, rfl⟩
theorem i6_1 : decode m6.2.1 1 = .ok (.getfield 16, 3) ∧ 1 + 3 = 4 := ⟨by decide +kernel, rfl⟩
theorem i6_4 : decode m6.2.1 4 = .ok (.ireturn, 1) := by decide +kernel
theorem i7_0 : decode m7.2.1 0 = .ok (.iload_n 3, 1) ∧ 0 + 1 = 1 := ⟨by decide +kernel, rfl⟩
theorem i7_1 : decode m7.2.1 1 = .ok (.bipush 64, 2) ∧ 1 + 2 = 3 ∧ (Int8.ofInt 64).toInt32 = 64 := ⟨by decide +kernel, rfl, by decide⟩
theorem i7_3 : decode m7.2.1 3 = .ok (.idiv, 1) ∧ 3 + 1 = 4 := ⟨by decide +kernel, rfl⟩
theorem i7_4 : decode m7.2.1 4 = .ok (.iload_n 2, 1) ∧ 4 + 1 = 5 := ⟨by decide +kernel, rfl⟩
theorem i7_5 : decode m7.2.1 5 = .ok (.if_icmp .eq 5, 3) ∧ 5 + 3 = 8 ∧ 0 ≤ ((5 : Nat) : Int) + 5 ∧ (((5 : Nat) : Int) + 5).toNat = 10 := ⟨by decide +kernel, rfl, by decide, by decide⟩
theorem i7_8 : decode m7.2.1 8 = .ok (.lload_n 0, 1) ∧ 8 + 1 = 9 := ⟨by decide +kernel, rfl⟩
theorem i7_9 : decode m7.2.1 9 = .ok (.lreturn, 1) := by decide +kernel
theorem i7_10 : decode m7.2.1 10 = .ok (.lload_n 0, 1) ∧ 10 + 1 = 11 := ⟨by decide +kernel, rfl⟩
theorem i7_11 : decode m7.2.1 11 = .ok (.lconst 1, 1) ∧ 11 + 1 = 12 ∧ Int64.ofNat ((1 : Fin 2) : Nat) = 1 := ⟨by decide +kernel, rfl, by decide⟩
theorem i7_12 : decode m7.2.1 12 = .ok (.iload_n 3, 1) ∧ 12 + 1 = 13 := ⟨by decide +kernel, rfl⟩
theorem i7_13 : decode m7.2.1 13 = .ok (.bipush 64, 2) ∧ 13 + 2 = 15 ∧ (Int8.ofInt 64).toInt32 = 64 := ⟨by decide +kernel, rfl, by decide⟩
theorem i7_15 : decode m7.2.1 15 = .ok (.iload_n 2, 1) ∧ 15 + 1 = 16 := ⟨by decide +kernel, rfl⟩
theorem i7_16 : decode m7.2.1 16 = .ok (.imul, 1) ∧ 16 + 1 = 17 := ⟨by decide +kernel, rfl⟩
theorem i7_17 : decode m7.2.1 17 = .ok (.isub, 1) ∧ 17 + 1 = 18 := ⟨by decide +kernel, rfl⟩
theorem i7_18 : decode m7.2.1 18 = .ok (.lshl, 1) ∧ 18 + 1 = 19 := ⟨by decide +kernel, rfl⟩
theorem i7_19 : decode m7.2.1 19 = .ok (.ldc2_w 33, 3) ∧ 19 + 3 = 22 := ⟨by decide +kernel, rfl⟩
theorem i7_22 : decode m7.2.1 22 = .ok (.lxor, 1) ∧ 22 + 1 = 23 := ⟨by decide +kernel, rfl⟩
theorem i7_23 : decode m7.2.1 23 = .ok (.land, 1) ∧ 23 + 1 = 24 := ⟨by decide +kernel, rfl⟩
theorem i7_24 : decode m7.2.1 24 = .ok (.lreturn, 1) := by decide +kernel
theorem s0_68 {l : Launch} {Z : State} {a0 : Array Value} {n0 : Nat} {ls : List Slot} {st : List Value} {H H' H1 : List Ob} {v : Option Value} (hw : HW Z a0) {a : Nat} (ha : H.length = a) (hH : H ++ [.inl (0, [.null, .null, .int 0, .int 0])] = H1) (kk : Runs K l Z n0 m0 71 ls (.ref a :: st) H1 v H') : Runs K l Z n0 m0 68 ls st H v H' := r_new (cid := 0) (kok hw) i0_68 (hw _ (List.mem_of_getElem? (i := 0) rfl)) (hw _ (List.mem_of_getElem? (i := 2) rfl)) rfl rfl ha hH kk
theorem s0_74 {l : Launch} {Z : State} {a0 : Array Value} {n0 : Nat} {ls : List Slot} {st : List Value} {H H' H1 : List Ob} {v : Option Value} (hw : HW Z a0) {a : Nat} {x0 x1 : Value} (M : Meets K l Z n0 m1 [.ref a, x0, x1] H none H1) (hls : ls.length = 19) (hlo : (st.map fun v => v.category).sum ≤ 1) (kk : Runs K l Z n0 m0 77 ls st H1 v H') : Runs K l Z n0 m0 74 ls (x1 :: x0 :: .ref a :: st) H v H' := r_special (mj := m1) (as := [x0, x1]) (rest := st) i0_74 rfl rfl (hw _ (List.mem_of_getElem? (i := 3) rfl)) (hw _ (List.mem_of_getElem? (i := 4) rfl)) (hw _ (List.mem_of_getElem? (i := 2) rfl)) (hw _ (List.mem_of_getElem? (i := 5) rfl)) (by decide) (lenOf pd1 rfl) (by decide) rfl hls (by show _ + (3 + 11) + 12 ≤ 27; omega) M kk
theorem s0_88 {l : Launch} {Z : State} {a0 : Array Value} {n0 : Nat} {ls : List Slot} {st : List Value} {H H' H1 : List Ob} {v : Option Value} (hw : HW Z a0) {a : Nat} {vs : List Value} {x0 : Value} (ho : H[a]? = some (.inl (0, vs))) (M : Meets K l Z n0 m3 [.ref a, x0] H none H1) (hls : ls.length = 19) (hlo : (st.map fun v => v.category).sum ≤ 14) (kk : Runs K l Z n0 m0 91 ls st H1 v H') : Runs K l Z n0 m0 88 ls (x0 :: .ref a :: st) H v H' := r_virtual (mj := m3) (cid := 0) (as := [x0]) (rest := st) i0_88 (hw _ (List.mem_of_getElem? (i := 14) rfl)) (hw _ (List.mem_of_getElem? (i := 15) rfl)) (hw _ (List.mem_of_getElem? (i := 17) rfl)) (hw _ (List.mem_of_getElem? (i := 16) rfl)) (hw _ (List.mem_of_getElem? (i := 2) rfl)) (hw _ (List.mem_of_getElem? (i := 18) rfl)) (by decide) (lenOf pd3 rfl) (by decide) rfl rfl ho hls (by show _ + (2 + 11) + 0 ≤ 27; omega) M kk
theorem s0_93 {l : Launch} {Z : State} {a0 : Array Value} {n0 : Nat} {ls : List Slot} {st : List Value} {H H' H1 : List Ob} {v : Option Value} (hw : HW Z a0) {a : Nat} {vs : List Value} (ho : H[a]? = some (.inl (0, vs))) (M : Meets K l Z n0 m4 [.ref a] H none H1) (hls : ls.length = 19) (hlo : (st.map fun v => v.category).sum ≤ 15) (kk : Runs K l Z n0 m0 96 ls st H1 v H') : Runs K l Z n0 m0 93 ls (.ref a :: st) H v H' := r_virtual (mj := m4) (cid := 0) (as := []) (rest := st) i0_93 (hw _ (List.mem_of_getElem? (i := 21) rfl)) (hw _ (List.mem_of_getElem? (i := 22) rfl)) (hw _ (List.mem_of_getElem? (i := 24) rfl)) (hw _ (List.mem_of_getElem? (i := 23) rfl)) (hw _ (List.mem_of_getElem? (i := 2) rfl)) (hw _ (List.mem_of_getElem? (i := 25) rfl)) (by decide) (lenOf pd4 rfl) (by decide) rfl rfl ho hls (by show _ + (1 + 11) + 0 ≤ 27; omega) M kk
theorem s0_106 {l : Launch} {Z : State} {a0 : Array Value} {n0 : Nat} {ls : List Slot} {st : List Value} {H H' H1 : List Ob} {v : Option Value} (hw : HW Z a0) {a : Nat} {vs : List Value} {x0 : Value} (ho : H[a]? = some (.inl (0, vs))) (M : Meets K l Z n0 m3 [.ref a, x0] H none H1) (hls : ls.length = 19) (hlo : (st.map fun v => v.category).sum ≤ 14) (kk : Runs K l Z n0 m0 109 ls st H1 v H') : Runs K l Z n0 m0 106 ls (x0 :: .ref a :: st) H v H' := r_virtual (mj := m3) (cid := 0) (as := [x0]) (rest := st) i0_106 (hw _ (List.mem_of_getElem? (i := 14) rfl)) (hw _ (List.mem_of_getElem? (i := 15) rfl)) (hw _ (List.mem_of_getElem? (i := 17) rfl)) (hw _ (List.mem_of_getElem? (i := 16) rfl)) (hw _ (List.mem_of_getElem? (i := 2) rfl)) (hw _ (List.mem_of_getElem? (i := 18) rfl)) (by decide) (lenOf pd3 rfl) (by decide) rfl rfl ho hls (by show _ + (2 + 11) + 0 ≤ 27; omega) M kk
theorem s0_119 {l : Launch} {Z : State} {a0 : Array Value} {n0 : Nat} {ls : List Slot} {st : List Value} {H H' H1 : List Ob} {v : Option Value} (hw : HW Z a0) {a : Nat} {vs : List Value} {x0 : Value} (ho : H[a]? = some (.inl (0, vs))) (M : Meets K l Z n0 m3 [.ref a, x0] H none H1) (hls : ls.length = 19) (hlo : (st.map fun v => v.category).sum ≤ 14) (kk : Runs K l Z n0 m0 122 ls st H1 v H') : Runs K l Z n0 m0 119 ls (x0 :: .ref a :: st) H v H' := r_virtual (mj := m3) (cid := 0) (as := [x0]) (rest := st) i0_119 (hw _ (List.mem_of_getElem? (i := 14) rfl)) (hw _ (List.mem_of_getElem? (i := 15) rfl)) (hw _ (List.mem_of_getElem? (i := 17) rfl)) (hw _ (List.mem_of_getElem? (i := 16) rfl)) (hw _ (List.mem_of_getElem? (i := 2) rfl)) (hw _ (List.mem_of_getElem? (i := 18) rfl)) (by decide) (lenOf pd3 rfl) (by decide) rfl rfl ho hls (by show _ + (2 + 11) + 0 ≤ 27; omega) M kk
theorem s0_132 {l : Launch} {Z : State} {a0 : Array Value} {n0 : Nat} {ls : List Slot} {st : List Value} {H H' H1 : List Ob} {v : Option Value} (hw : HW Z a0) {a : Nat} {vs : List Value} {x0 : Value} (ho : H[a]? = some (.inl (0, vs))) (M : Meets K l Z n0 m3 [.ref a, x0] H none H1) (hls : ls.length = 19) (hlo : (st.map fun v => v.category).sum ≤ 14) (kk : Runs K l Z n0 m0 135 ls st H1 v H') : Runs K l Z n0 m0 132 ls (x0 :: .ref a :: st) H v H' := r_virtual (mj := m3) (cid := 0) (as := [x0]) (rest := st) i0_132 (hw _ (List.mem_of_getElem? (i := 14) rfl)) (hw _ (List.mem_of_getElem? (i := 15) rfl)) (hw _ (List.mem_of_getElem? (i := 17) rfl)) (hw _ (List.mem_of_getElem? (i := 16) rfl)) (hw _ (List.mem_of_getElem? (i := 2) rfl)) (hw _ (List.mem_of_getElem? (i := 18) rfl)) (by decide) (lenOf pd3 rfl) (by decide) rfl rfl ho hls (by show _ + (2 + 11) + 0 ≤ 27; omega) M kk
theorem s0_137 {l : Launch} {Z : State} {a0 : Array Value} {n0 : Nat} {ls : List Slot} {st : List Value} {H H' H1 : List Ob} {v : Option Value} (hw : HW Z a0) {a : Nat} {vs : List Value} (ho : H[a]? = some (.inl (0, vs))) (M : Meets K l Z n0 m4 [.ref a] H none H1) (hls : ls.length = 19) (hlo : (st.map fun v => v.category).sum ≤ 15) (kk : Runs K l Z n0 m0 140 ls st H1 v H') : Runs K l Z n0 m0 137 ls (.ref a :: st) H v H' := r_virtual (mj := m4) (cid := 0) (as := []) (rest := st) i0_137 (hw _ (List.mem_of_getElem? (i := 21) rfl)) (hw _ (List.mem_of_getElem? (i := 22) rfl)) (hw _ (List.mem_of_getElem? (i := 24) rfl)) (hw _ (List.mem_of_getElem? (i := 23) rfl)) (hw _ (List.mem_of_getElem? (i := 2) rfl)) (hw _ (List.mem_of_getElem? (i := 25) rfl)) (by decide) (lenOf pd4 rfl) (by decide) rfl rfl ho hls (by show _ + (1 + 11) + 0 ≤ 27; omega) M kk
theorem s0_141 {l : Launch} {Z : State} {a0 : Array Value} {n0 : Nat} {ls : List Slot} {st : List Value} {H H' H1 : List Ob} {v : Option Value} (hw : HW Z a0) {a : Nat} {n : Int32} {o : List Value} (hn : ¬ n < 0) (h8 : n.toNatClampNeg * 8 ≤ 536870912) (ho : List.replicate n.toNatClampNeg (.long 0) = o) (ha : H.length = a) (hH : H ++ [.inr (.long, o)] = H1) (kk : Runs K l Z n0 m0 143 ls (.ref a :: st) H1 v H') : Runs K l Z n0 m0 141 ls (.int n :: st) H v H' := r_newA i0_141 (hw _ (List.mem_of_getElem? (i := 28) rfl)) hn h8 ho ha hH kk
theorem s0_161 {l : Launch} {Z : State} {a0 : Array Value} {n0 : Nat} {ls : List Slot} {st : List Value} {H H' H1 : List Ob} {v : Option Value} (hw : HW Z a0) {a : Nat} {vs : List Value} {x0 x1 : Value} (ho : H[a]? = some (.inl (0, vs))) (M : Meets K l Z n0 m5 [.ref a, x0, x1] H none H1) (hls : ls.length = 19) (hlo : (st.map fun v => v.category).sum ≤ 11) (kk : Runs K l Z n0 m0 164 ls st H1 v H') : Runs K l Z n0 m0 161 ls (x1 :: x0 :: .ref a :: st) H v H' := r_virtual (mj := m5) (cid := 0) (as := [x0, x1]) (rest := st) i0_161 (hw _ (List.mem_of_getElem? (i := 29) rfl)) (hw _ (List.mem_of_getElem? (i := 30) rfl)) (hw _ (List.mem_of_getElem? (i := 32) rfl)) (hw _ (List.mem_of_getElem? (i := 31) rfl)) (hw _ (List.mem_of_getElem? (i := 2) rfl)) (hw _ (List.mem_of_getElem? (i := 33) rfl)) (by decide) (lenOf pd5 rfl) (by decide) rfl rfl ho hls (by show _ + (5 + 11) + 0 ≤ 27; omega) M kk
theorem s0_185 {l : Launch} {Z : State} {a0 : Array Value} {n0 : Nat} {ls : List Slot} {st : List Value} {H H' H1 : List Ob} {v : Option Value} (hw : HW Z a0) {x0 x1 x2 : Value} {w : Value} (M : Meets K l Z n0 m7 [x0, x1, x2] H (some w) H1) (hls : ls.length = 19) (hlo : (st.map fun v => v.category).sum ≤ 12) (kk : Runs K l Z n0 m0 188 ls (w :: st) H1 v H') : Runs K l Z n0 m0 185 ls (x2 :: x1 :: x0 :: st) H v H' := r_static (mj := m7) (as := [x0, x1, x2]) (rest := st) i0_185 (hw _ (List.mem_of_getElem? (i := 40) rfl)) (hw _ (List.mem_of_getElem? (i := 41) rfl)) (hw _ (List.mem_of_getElem? (i := 42) rfl)) (hw _ (List.mem_of_getElem? (i := 43) rfl)) (by decide) (lenOf pd7 rfl) (by decide) rfl hls (by show _ + (4 + 11) + 0 ≤ 27; omega) M kk
theorem s0_195 {l : Launch} {Z : State} {a0 : Array Value} {n0 : Nat} {ls : List Slot} {st : List Value} {H H' H1 : List Ob} {v : Option Value} (hw : HW Z a0) {x0 x1 x2 : Value} {w : Value} (M : Meets K l Z n0 m7 [x0, x1, x2] H (some w) H1) (hls : ls.length = 19) (hlo : (st.map fun v => v.category).sum ≤ 12) (kk : Runs K l Z n0 m0 198 ls (w :: st) H1 v H') : Runs K l Z n0 m0 195 ls (x2 :: x1 :: x0 :: st) H v H' := r_static (mj := m7) (as := [x0, x1, x2]) (rest := st) i0_195 (hw _ (List.mem_of_getElem? (i := 40) rfl)) (hw _ (List.mem_of_getElem? (i := 41) rfl)) (hw _ (List.mem_of_getElem? (i := 42) rfl)) (hw _ (List.mem_of_getElem? (i := 43) rfl)) (by decide) (lenOf pd7 rfl) (by decide) rfl hls (by show _ + (4 + 11) + 0 ≤ 27; omega) M kk
theorem s0_214 {l : Launch} {Z : State} {a0 : Array Value} {n0 : Nat} {ls : List Slot} {st : List Value} {H H' H1 : List Ob} {v : Option Value} (hw : HW Z a0) {x0 x1 x2 : Value} {w : Value} (M : Meets K l Z n0 m7 [x0, x1, x2] H (some w) H1) (hls : ls.length = 19) (hlo : (st.map fun v => v.category).sum ≤ 12) (kk : Runs K l Z n0 m0 217 ls (w :: st) H1 v H') : Runs K l Z n0 m0 214 ls (x2 :: x1 :: x0 :: st) H v H' := r_static (mj := m7) (as := [x0, x1, x2]) (rest := st) i0_214 (hw _ (List.mem_of_getElem? (i := 40) rfl)) (hw _ (List.mem_of_getElem? (i := 41) rfl)) (hw _ (List.mem_of_getElem? (i := 42) rfl)) (hw _ (List.mem_of_getElem? (i := 43) rfl)) (by decide) (lenOf pd7 rfl) (by decide) rfl hls (by show _ + (4 + 11) + 0 ≤ 27; omega) M kk
theorem s0_224 {l : Launch} {Z : State} {a0 : Array Value} {n0 : Nat} {ls : List Slot} {st : List Value} {H H' H1 : List Ob} {v : Option Value} (hw : HW Z a0) {x0 x1 x2 : Value} {w : Value} (M : Meets K l Z n0 m7 [x0, x1, x2] H (some w) H1) (hls : ls.length = 19) (hlo : (st.map fun v => v.category).sum ≤ 12) (kk : Runs K l Z n0 m0 227 ls (w :: st) H1 v H') : Runs K l Z n0 m0 224 ls (x2 :: x1 :: x0 :: st) H v H' := r_static (mj := m7) (as := [x0, x1, x2]) (rest := st) i0_224 (hw _ (List.mem_of_getElem? (i := 40) rfl)) (hw _ (List.mem_of_getElem? (i := 41) rfl)) (hw _ (List.mem_of_getElem? (i := 42) rfl)) (hw _ (List.mem_of_getElem? (i := 43) rfl)) (by decide) (lenOf pd7 rfl) (by decide) rfl hls (by show _ + (4 + 11) + 0 ≤ 27; omega) M kk
theorem s0_240 {l : Launch} {Z : State} {a0 : Array Value} {n0 : Nat} {ls : List Slot} {st : List Value} {H H' H1 : List Ob} {v : Option Value} (hw : HW Z a0) {x0 x1 x2 : Value} {w : Value} (M : Meets K l Z n0 m7 [x0, x1, x2] H (some w) H1) (hls : ls.length = 19) (hlo : (st.map fun v => v.category).sum ≤ 12) (kk : Runs K l Z n0 m0 243 ls (w :: st) H1 v H') : Runs K l Z n0 m0 240 ls (x2 :: x1 :: x0 :: st) H v H' := r_static (mj := m7) (as := [x0, x1, x2]) (rest := st) i0_240 (hw _ (List.mem_of_getElem? (i := 40) rfl)) (hw _ (List.mem_of_getElem? (i := 41) rfl)) (hw _ (List.mem_of_getElem? (i := 42) rfl)) (hw _ (List.mem_of_getElem? (i := 43) rfl)) (by decide) (lenOf pd7 rfl) (by decide) rfl hls (by show _ + (4 + 11) + 0 ≤ 27; omega) M kk
theorem s0_250 {l : Launch} {Z : State} {a0 : Array Value} {n0 : Nat} {ls : List Slot} {st : List Value} {H H' H1 : List Ob} {v : Option Value} (hw : HW Z a0) {x0 x1 x2 : Value} {w : Value} (M : Meets K l Z n0 m7 [x0, x1, x2] H (some w) H1) (hls : ls.length = 19) (hlo : (st.map fun v => v.category).sum ≤ 12) (kk : Runs K l Z n0 m0 253 ls (w :: st) H1 v H') : Runs K l Z n0 m0 250 ls (x2 :: x1 :: x0 :: st) H v H' := r_static (mj := m7) (as := [x0, x1, x2]) (rest := st) i0_250 (hw _ (List.mem_of_getElem? (i := 40) rfl)) (hw _ (List.mem_of_getElem? (i := 41) rfl)) (hw _ (List.mem_of_getElem? (i := 42) rfl)) (hw _ (List.mem_of_getElem? (i := 43) rfl)) (by decide) (lenOf pd7 rfl) (by decide) rfl hls (by show _ + (4 + 11) + 0 ≤ 27; omega) M kk
theorem s0_266 {l : Launch} {Z : State} {a0 : Array Value} {n0 : Nat} {ls : List Slot} {st : List Value} {H H' H1 : List Ob} {v : Option Value} (hw : HW Z a0) {x0 x1 x2 : Value} {w : Value} (M : Meets K l Z n0 m7 [x0, x1, x2] H (some w) H1) (hls : ls.length = 19) (hlo : (st.map fun v => v.category).sum ≤ 12) (kk : Runs K l Z n0 m0 269 ls (w :: st) H1 v H') : Runs K l Z n0 m0 266 ls (x2 :: x1 :: x0 :: st) H v H' := r_static (mj := m7) (as := [x0, x1, x2]) (rest := st) i0_266 (hw _ (List.mem_of_getElem? (i := 40) rfl)) (hw _ (List.mem_of_getElem? (i := 41) rfl)) (hw _ (List.mem_of_getElem? (i := 42) rfl)) (hw _ (List.mem_of_getElem? (i := 43) rfl)) (by decide) (lenOf pd7 rfl) (by decide) rfl hls (by show _ + (4 + 11) + 0 ≤ 27; omega) M kk
theorem s0_276 {l : Launch} {Z : State} {a0 : Array Value} {n0 : Nat} {ls : List Slot} {st : List Value} {H H' H1 : List Ob} {v : Option Value} (hw : HW Z a0) {x0 x1 x2 : Value} {w : Value} (M : Meets K l Z n0 m7 [x0, x1, x2] H (some w) H1) (hls : ls.length = 19) (hlo : (st.map fun v => v.category).sum ≤ 12) (kk : Runs K l Z n0 m0 279 ls (w :: st) H1 v H') : Runs K l Z n0 m0 276 ls (x2 :: x1 :: x0 :: st) H v H' := r_static (mj := m7) (as := [x0, x1, x2]) (rest := st) i0_276 (hw _ (List.mem_of_getElem? (i := 40) rfl)) (hw _ (List.mem_of_getElem? (i := 41) rfl)) (hw _ (List.mem_of_getElem? (i := 42) rfl)) (hw _ (List.mem_of_getElem? (i := 43) rfl)) (by decide) (lenOf pd7 rfl) (by decide) rfl hls (by show _ + (4 + 11) + 0 ≤ 27; omega) M kk
theorem s0_310 {l : Launch} {Z : State} {a0 : Array Value} {n0 : Nat} {ls : List Slot} {st : List Value} {H H' H1 : List Ob} {v : Option Value} (hw : HW Z a0) {a : Nat} {vs : List Value} {w : Value} (ho : H[a]? = some (.inl (0, vs))) (M : Meets K l Z n0 m6 [.ref a] H (some w) H1) (hls : ls.length = 19) (hlo : (st.map fun v => v.category).sum ≤ 15) (kk : Runs K l Z n0 m0 313 ls (w :: st) H1 v H') : Runs K l Z n0 m0 310 ls (.ref a :: st) H v H' := r_virtual (mj := m6) (cid := 0) (as := []) (rest := st) i0_310 (hw _ (List.mem_of_getElem? (i := 34) rfl)) (hw _ (List.mem_of_getElem? (i := 35) rfl)) (hw _ (List.mem_of_getElem? (i := 37) rfl)) (hw _ (List.mem_of_getElem? (i := 36) rfl)) (hw _ (List.mem_of_getElem? (i := 2) rfl)) (hw _ (List.mem_of_getElem? (i := 38) rfl)) (by decide) (lenOf pd6 rfl) (by decide) rfl rfl ho hls (by show _ + (1 + 11) + 0 ≤ 27; omega) M kk
theorem s1_1 {l : Launch} {Z : State} {a0 : Array Value} {n0 : Nat} {ls : List Slot} {st : List Value} {H H' : List Ob} {v : Option Value} (hw : HW Z a0) {a : Nat} (hls : ls.length = 3) (hlo : (st.map fun v => v.category).sum ≤ 0) (kk : Runs K l Z n0 m1 4 ls st H v H') : Runs K l Z n0 m1 1 ls (.ref a :: st) H v H' := r_initO i1_1 (hw _ (List.mem_of_getElem? (i := 6) rfl)) (hw _ (List.mem_of_getElem? (i := 7) rfl)) (hw _ (List.mem_of_getElem? (i := 8) rfl)) hls (by decide) (Nat.add_le_add_right hlo 12) kk
theorem s1_6 {l : Launch} {Z : State} {a0 : Array Value} {n0 : Nat} {ls : List Slot} {st : List Value} {H H' H1 : List Ob} {v : Option Value} (hw : HW Z a0) {a : Nat} {n : Int32} {o : List Value} (hn : ¬ n < 0) (h8 : n.toNatClampNeg * 8 ≤ 536870912) (ho : List.replicate n.toNatClampNeg (.int 0) = o) (ha : H.length = a) (hH : H ++ [.inr (.int, o)] = H1) (kk : Runs K l Z n0 m1 8 ls (.ref a :: st) H1 v H') : Runs K l Z n0 m1 6 ls (.int n :: st) H v H' := r_newA i1_6 (hw _ (List.mem_of_getElem? (i := 9) rfl)) hn h8 ho ha hH kk
theorem s1_8 {l : Launch} {Z : State} {a0 : Array Value} {n0 : Nat} {ls : List Slot} {st : List Value} {H H' H1 : List Ob} {v : Option Value} (hw : HW Z a0) {a : Nat} {f0 f1 f2 f3 x : Value} (ho : H[a]? = some (.inl (0, [f0, f1, f2, f3]))) (hn : narrow (.array .int) x = x) (hf : fits (.array .int) x = true) (hH : H.set a (.inl (0, [x, f1, f2, f3])) = H1) (kk : Runs K l Z n0 m1 11 ls st H1 v H') : Runs K l Z n0 m1 8 ls (x :: .ref a :: st) H v H' := r_putF (cid := 0) (i := 0) (kok hw) i1_8 (hw _ (List.mem_of_getElem? (i := 10) rfl)) Via.refl rfl rfl (Or.inl (hw _ (List.mem_of_getElem? (i := 11) rfl))) ho (ltB rfl) hn hf rfl hH kk
theorem s1_15 {l : Launch} {Z : State} {a0 : Array Value} {n0 : Nat} {ls : List Slot} {st : List Value} {H H' H1 : List Ob} {v : Option Value} (hw : HW Z a0) {a : Nat} {n : Int32} {o : List Value} (hn : ¬ n < 0) (h8 : n.toNatClampNeg * 8 ≤ 536870912) (ho : List.replicate n.toNatClampNeg (.int 0) = o) (ha : H.length = a) (hH : H ++ [.inr (.int, o)] = H1) (kk : Runs K l Z n0 m1 17 ls (.ref a :: st) H1 v H') : Runs K l Z n0 m1 15 ls (.int n :: st) H v H' := r_newA i1_15 (hw _ (List.mem_of_getElem? (i := 9) rfl)) hn h8 ho ha hH kk
theorem s1_17 {l : Launch} {Z : State} {a0 : Array Value} {n0 : Nat} {ls : List Slot} {st : List Value} {H H' H1 : List Ob} {v : Option Value} (hw : HW Z a0) {a : Nat} {f0 f1 f2 f3 x : Value} (ho : H[a]? = some (.inl (0, [f0, f1, f2, f3]))) (hn : narrow (.array .int) x = x) (hf : fits (.array .int) x = true) (hH : H.set a (.inl (0, [f0, x, f2, f3])) = H1) (kk : Runs K l Z n0 m1 20 ls st H1 v H') : Runs K l Z n0 m1 17 ls (x :: .ref a :: st) H v H' := r_putF (cid := 0) (i := 1) (kok hw) i1_17 (hw _ (List.mem_of_getElem? (i := 12) rfl)) Via.refl rfl rfl (Or.inl (hw _ (List.mem_of_getElem? (i := 13) rfl))) ho (ltB rfl) hn hf rfl hH kk
theorem s3_1 {l : Launch} {Z : State} {a0 : Array Value} {n0 : Nat} {ls : List Slot} {st : List Value} {H H' : List Ob} {v : Option Value} (hw : HW Z a0) {a : Nat} {f0 f1 f2 f3 : Value} (ho : H[a]? = some (.inl (0, [f0, f1, f2, f3]))) (kk : Runs K l Z n0 m3 4 ls (f2 :: st) H v H') : Runs K l Z n0 m3 1 ls (.ref a :: st) H v H' := r_getF (cid := 0) (i := 2) i3_1 (hw _ (List.mem_of_getElem? (i := 19) rfl)) Via.refl rfl rfl ho rfl kk
theorem s3_5 {l : Launch} {Z : State} {a0 : Array Value} {n0 : Nat} {ls : List Slot} {st : List Value} {H H' : List Ob} {v : Option Value} (hw : HW Z a0) {a : Nat} {f0 f1 f2 f3 : Value} (ho : H[a]? = some (.inl (0, [f0, f1, f2, f3]))) (kk : Runs K l Z n0 m3 8 ls (f0 :: st) H v H') : Runs K l Z n0 m3 5 ls (.ref a :: st) H v H' := r_getF (cid := 0) (i := 0) i3_5 (hw _ (List.mem_of_getElem? (i := 10) rfl)) Via.refl rfl rfl ho rfl kk
theorem s3_14 {l : Launch} {Z : State} {a0 : Array Value} {n0 : Nat} {ls : List Slot} {st : List Value} {H H' : List Ob} {v : Option Value} (hw : HW Z a0) {a : Nat} {f0 f1 f2 f3 : Value} (ho : H[a]? = some (.inl (0, [f0, f1, f2, f3]))) (kk : Runs K l Z n0 m3 17 ls (f0 :: st) H v H') : Runs K l Z n0 m3 14 ls (.ref a :: st) H v H' := r_getF (cid := 0) (i := 0) i3_14 (hw _ (List.mem_of_getElem? (i := 10) rfl)) Via.refl rfl rfl ho rfl kk
theorem s3_18 {l : Launch} {Z : State} {a0 : Array Value} {n0 : Nat} {ls : List Slot} {st : List Value} {H H' : List Ob} {v : Option Value} (hw : HW Z a0) {a : Nat} {f0 f1 f2 f3 : Value} (ho : H[a]? = some (.inl (0, [f0, f1, f2, f3]))) (kk : Runs K l Z n0 m3 21 ls (f0 :: st) H v H') : Runs K l Z n0 m3 18 ls (.ref a :: st) H v H' := r_getF (cid := 0) (i := 0) i3_18 (hw _ (List.mem_of_getElem? (i := 10) rfl)) Via.refl rfl rfl ho rfl kk
theorem s3_23 {l : Launch} {Z : State} {a0 : Array Value} {n0 : Nat} {ls : List Slot} {st : List Value} {H H' : List Ob} {v : Option Value} (hw : HW Z a0) {a : Nat} {f0 f1 f2 f3 : Value} (ho : H[a]? = some (.inl (0, [f0, f1, f2, f3]))) (kk : Runs K l Z n0 m3 26 ls (f2 :: st) H v H') : Runs K l Z n0 m3 23 ls (.ref a :: st) H v H' := r_getF (cid := 0) (i := 2) i3_23 (hw _ (List.mem_of_getElem? (i := 19) rfl)) Via.refl rfl rfl ho rfl kk
-- 3_29 .invokestatic 43: no link word
-- 3_32 .invokestatic 49: no link word
theorem s3_35 {l : Launch} {Z : State} {a0 : Array Value} {n0 : Nat} {ls : List Slot} {st : List Value} {H H' H1 : List Ob} {v : Option Value} (hw : HW Z a0) {a : Nat} {f0 f1 f2 f3 x : Value} (ho : H[a]? = some (.inl (0, [f0, f1, f2, f3]))) (hn : narrow (.array .int) x = x) (hf : fits (.array .int) x = true) (hH : H.set a (.inl (0, [x, f1, f2, f3])) = H1) (kk : Runs K l Z n0 m3 38 ls st H1 v H') : Runs K l Z n0 m3 35 ls (x :: .ref a :: st) H v H' := r_putF (cid := 0) (i := 0) (kok hw) i3_35 (hw _ (List.mem_of_getElem? (i := 10) rfl)) Via.refl rfl rfl (Or.inl (hw _ (List.mem_of_getElem? (i := 11) rfl))) ho (ltB rfl) hn hf rfl hH kk
theorem s3_39 {l : Launch} {Z : State} {a0 : Array Value} {n0 : Nat} {ls : List Slot} {st : List Value} {H H' : List Ob} {v : Option Value} (hw : HW Z a0) {a : Nat} {f0 f1 f2 f3 : Value} (ho : H[a]? = some (.inl (0, [f0, f1, f2, f3]))) (kk : Runs K l Z n0 m3 42 ls (f0 :: st) H v H') : Runs K l Z n0 m3 39 ls (.ref a :: st) H v H' := r_getF (cid := 0) (i := 0) i3_39 (hw _ (List.mem_of_getElem? (i := 10) rfl)) Via.refl rfl rfl ho rfl kk
theorem s3_44 {l : Launch} {Z : State} {a0 : Array Value} {n0 : Nat} {ls : List Slot} {st : List Value} {H H' : List Ob} {v : Option Value} (hw : HW Z a0) {a : Nat} {f0 f1 f2 f3 : Value} (ho : H[a]? = some (.inl (0, [f0, f1, f2, f3]))) (kk : Runs K l Z n0 m3 47 ls (f2 :: st) H v H') : Runs K l Z n0 m3 44 ls (.ref a :: st) H v H' := r_getF (cid := 0) (i := 2) i3_44 (hw _ (List.mem_of_getElem? (i := 19) rfl)) Via.refl rfl rfl ho rfl kk
theorem s3_50 {l : Launch} {Z : State} {a0 : Array Value} {n0 : Nat} {ls : List Slot} {st : List Value} {H H' H1 : List Ob} {v : Option Value} (hw : HW Z a0) {a : Nat} {f0 f1 f2 f3 x : Value} (ho : H[a]? = some (.inl (0, [f0, f1, f2, f3]))) (hn : narrow .int x = x) (hf : fits .int x = true) (hH : H.set a (.inl (0, [f0, f1, x, f3])) = H1) (kk : Runs K l Z n0 m3 53 ls st H1 v H') : Runs K l Z n0 m3 50 ls (x :: .ref a :: st) H v H' := r_putF (cid := 0) (i := 2) (kok hw) i3_50 (hw _ (List.mem_of_getElem? (i := 19) rfl)) Via.refl rfl rfl (Or.inl (hw _ (List.mem_of_getElem? (i := 20) rfl))) ho (ltB rfl) hn hf rfl hH kk
theorem s4_1 {l : Launch} {Z : State} {a0 : Array Value} {n0 : Nat} {ls : List Slot} {st : List Value} {H H' : List Ob} {v : Option Value} (hw : HW Z a0) {a : Nat} {f0 f1 f2 f3 : Value} (ho : H[a]? = some (.inl (0, [f0, f1, f2, f3]))) (kk : Runs K l Z n0 m4 4 ls (f3 :: st) H v H') : Runs K l Z n0 m4 1 ls (.ref a :: st) H v H' := r_getF (cid := 0) (i := 3) i4_1 (hw _ (List.mem_of_getElem? (i := 26) rfl)) Via.refl rfl rfl ho rfl kk
theorem s4_7 {l : Launch} {Z : State} {a0 : Array Value} {n0 : Nat} {ls : List Slot} {st : List Value} {H H' : List Ob} {v : Option Value} (hw : HW Z a0) {a : Nat} {f0 f1 f2 f3 : Value} (ho : H[a]? = some (.inl (0, [f0, f1, f2, f3]))) (kk : Runs K l Z n0 m4 10 ls (f1 :: st) H v H') : Runs K l Z n0 m4 7 ls (.ref a :: st) H v H' := r_getF (cid := 0) (i := 1) i4_7 (hw _ (List.mem_of_getElem? (i := 12) rfl)) Via.refl rfl rfl ho rfl kk
theorem s4_16 {l : Launch} {Z : State} {a0 : Array Value} {n0 : Nat} {ls : List Slot} {st : List Value} {H H' : List Ob} {v : Option Value} (hw : HW Z a0) {a : Nat} {f0 f1 f2 f3 : Value} (ho : H[a]? = some (.inl (0, [f0, f1, f2, f3]))) (kk : Runs K l Z n0 m4 19 ls (f1 :: st) H v H') : Runs K l Z n0 m4 16 ls (.ref a :: st) H v H' := r_getF (cid := 0) (i := 1) i4_16 (hw _ (List.mem_of_getElem? (i := 12) rfl)) Via.refl rfl rfl ho rfl kk
theorem s4_20 {l : Launch} {Z : State} {a0 : Array Value} {n0 : Nat} {ls : List Slot} {st : List Value} {H H' : List Ob} {v : Option Value} (hw : HW Z a0) {a : Nat} {f0 f1 f2 f3 : Value} (ho : H[a]? = some (.inl (0, [f0, f1, f2, f3]))) (kk : Runs K l Z n0 m4 23 ls (f1 :: st) H v H') : Runs K l Z n0 m4 20 ls (.ref a :: st) H v H' := r_getF (cid := 0) (i := 1) i4_20 (hw _ (List.mem_of_getElem? (i := 12) rfl)) Via.refl rfl rfl ho rfl kk
theorem s4_25 {l : Launch} {Z : State} {a0 : Array Value} {n0 : Nat} {ls : List Slot} {st : List Value} {H H' : List Ob} {v : Option Value} (hw : HW Z a0) {a : Nat} {f0 f1 f2 f3 : Value} (ho : H[a]? = some (.inl (0, [f0, f1, f2, f3]))) (kk : Runs K l Z n0 m4 28 ls (f3 :: st) H v H') : Runs K l Z n0 m4 25 ls (.ref a :: st) H v H' := r_getF (cid := 0) (i := 3) i4_25 (hw _ (List.mem_of_getElem? (i := 26) rfl)) Via.refl rfl rfl ho rfl kk
theorem s4_29 {l : Launch} {Z : State} {a0 : Array Value} {n0 : Nat} {ls : List Slot} {st : List Value} {H H' : List Ob} {v : Option Value} (hw : HW Z a0) (kk : Runs K l Z n0 m4 32 ls (.long 2 :: st) H v H') : Runs K l Z n0 m4 29 ls st H v H' := r_ldc2 i4_29 (hw _ (List.mem_of_getElem? (i := 45) rfl)) kk
-- 4_33 .invokestatic 43: no link word
-- 4_36 .invokestatic 49: no link word
theorem s4_39 {l : Launch} {Z : State} {a0 : Array Value} {n0 : Nat} {ls : List Slot} {st : List Value} {H H' H1 : List Ob} {v : Option Value} (hw : HW Z a0) {a : Nat} {f0 f1 f2 f3 x : Value} (ho : H[a]? = some (.inl (0, [f0, f1, f2, f3]))) (hn : narrow (.array .int) x = x) (hf : fits (.array .int) x = true) (hH : H.set a (.inl (0, [f0, x, f2, f3])) = H1) (kk : Runs K l Z n0 m4 42 ls st H1 v H') : Runs K l Z n0 m4 39 ls (x :: .ref a :: st) H v H' := r_putF (cid := 0) (i := 1) (kok hw) i4_39 (hw _ (List.mem_of_getElem? (i := 12) rfl)) Via.refl rfl rfl (Or.inl (hw _ (List.mem_of_getElem? (i := 13) rfl))) ho (ltB rfl) hn hf rfl hH kk
theorem s4_43 {l : Launch} {Z : State} {a0 : Array Value} {n0 : Nat} {ls : List Slot} {st : List Value} {H H' : List Ob} {v : Option Value} (hw : HW Z a0) {a : Nat} {f0 f1 f2 f3 : Value} (ho : H[a]? = some (.inl (0, [f0, f1, f2, f3]))) (kk : Runs K l Z n0 m4 46 ls (f1 :: st) H v H') : Runs K l Z n0 m4 43 ls (.ref a :: st) H v H' := r_getF (cid := 0) (i := 1) i4_43 (hw _ (List.mem_of_getElem? (i := 12) rfl)) Via.refl rfl rfl ho rfl kk
theorem s4_48 {l : Launch} {Z : State} {a0 : Array Value} {n0 : Nat} {ls : List Slot} {st : List Value} {H H' : List Ob} {v : Option Value} (hw : HW Z a0) {a : Nat} {f0 f1 f2 f3 : Value} (ho : H[a]? = some (.inl (0, [f0, f1, f2, f3]))) (kk : Runs K l Z n0 m4 51 ls (f3 :: st) H v H') : Runs K l Z n0 m4 48 ls (.ref a :: st) H v H' := r_getF (cid := 0) (i := 3) i4_48 (hw _ (List.mem_of_getElem? (i := 26) rfl)) Via.refl rfl rfl ho rfl kk
theorem s4_54 {l : Launch} {Z : State} {a0 : Array Value} {n0 : Nat} {ls : List Slot} {st : List Value} {H H' H1 : List Ob} {v : Option Value} (hw : HW Z a0) {a : Nat} {f0 f1 f2 f3 x : Value} (ho : H[a]? = some (.inl (0, [f0, f1, f2, f3]))) (hn : narrow .int x = x) (hf : fits .int x = true) (hH : H.set a (.inl (0, [f0, f1, f2, x])) = H1) (kk : Runs K l Z n0 m4 57 ls st H1 v H') : Runs K l Z n0 m4 54 ls (x :: .ref a :: st) H v H' := r_putF (cid := 0) (i := 3) (kok hw) i4_54 (hw _ (List.mem_of_getElem? (i := 26) rfl)) Via.refl rfl rfl (Or.inl (hw _ (List.mem_of_getElem? (i := 27) rfl))) ho (ltB rfl) hn hf rfl hH kk
theorem s4_58 {l : Launch} {Z : State} {a0 : Array Value} {n0 : Nat} {ls : List Slot} {st : List Value} {H H' : List Ob} {v : Option Value} (hw : HW Z a0) {a : Nat} {f0 f1 f2 f3 : Value} (ho : H[a]? = some (.inl (0, [f0, f1, f2, f3]))) (kk : Runs K l Z n0 m4 61 ls (f2 :: st) H v H') : Runs K l Z n0 m4 58 ls (.ref a :: st) H v H' := r_getF (cid := 0) (i := 2) i4_58 (hw _ (List.mem_of_getElem? (i := 19) rfl)) Via.refl rfl rfl ho rfl kk
theorem s5_1 {l : Launch} {Z : State} {a0 : Array Value} {n0 : Nat} {ls : List Slot} {st : List Value} {H H' : List Ob} {v : Option Value} (hw : HW Z a0) {a : Nat} {f0 f1 f2 f3 : Value} (ho : H[a]? = some (.inl (0, [f0, f1, f2, f3]))) (kk : Runs K l Z n0 m5 4 ls (f1 :: st) H v H') : Runs K l Z n0 m5 1 ls (.ref a :: st) H v H' := r_getF (cid := 0) (i := 1) i5_1 (hw _ (List.mem_of_getElem? (i := 12) rfl)) Via.refl rfl rfl ho rfl kk
theorem s5_10 {l : Launch} {Z : State} {a0 : Array Value} {n0 : Nat} {ls : List Slot} {st : List Value} {H H' : List Ob} {v : Option Value} (hw : HW Z a0) {a : Nat} {f0 f1 f2 f3 : Value} (ho : H[a]? = some (.inl (0, [f0, f1, f2, f3]))) (kk : Runs K l Z n0 m5 13 ls (f1 :: st) H v H') : Runs K l Z n0 m5 10 ls (.ref a :: st) H v H' := r_getF (cid := 0) (i := 1) i5_10 (hw _ (List.mem_of_getElem? (i := 12) rfl)) Via.refl rfl rfl ho rfl kk
theorem s5_25 {l : Launch} {Z : State} {a0 : Array Value} {n0 : Nat} {ls : List Slot} {st : List Value} {H H' : List Ob} {v : Option Value} (hw : HW Z a0) {a : Nat} {f0 f1 f2 f3 : Value} (ho : H[a]? = some (.inl (0, [f0, f1, f2, f3]))) (kk : Runs K l Z n0 m5 28 ls (f0 :: st) H v H') : Runs K l Z n0 m5 25 ls (.ref a :: st) H v H' := r_getF (cid := 0) (i := 0) i5_25 (hw _ (List.mem_of_getElem? (i := 10) rfl)) Via.refl rfl rfl ho rfl kk
theorem s5_38 {l : Launch} {Z : State} {a0 : Array Value} {n0 : Nat} {ls : List Slot} {st : List Value} {H H' : List Ob} {v : Option Value} (hw : HW Z a0) {a : Nat} {f0 f1 f2 f3 : Value} (ho : H[a]? = some (.inl (0, [f0, f1, f2, f3]))) (kk : Runs K l Z n0 m5 41 ls (f0 :: st) H v H') : Runs K l Z n0 m5 38 ls (.ref a :: st) H v H' := r_getF (cid := 0) (i := 0) i5_38 (hw _ (List.mem_of_getElem? (i := 10) rfl)) Via.refl rfl rfl ho rfl kk
theorem s5_45 {l : Launch} {Z : State} {a0 : Array Value} {n0 : Nat} {ls : List Slot} {st : List Value} {H H' : List Ob} {v : Option Value} (hw : HW Z a0) (kk : Runs K l Z n0 m5 48 ls (.long (-1) :: st) H v H') : Runs K l Z n0 m5 45 ls st H v H' := r_ldc2 i5_45 (hw _ (List.mem_of_getElem? (i := 39) rfl)) kk
theorem s6_1 {l : Launch} {Z : State} {a0 : Array Value} {n0 : Nat} {ls : List Slot} {st : List Value} {H H' : List Ob} {v : Option Value} (hw : HW Z a0) {a : Nat} {f0 f1 f2 f3 : Value} (ho : H[a]? = some (.inl (0, [f0, f1, f2, f3]))) (kk : Runs K l Z n0 m6 4 ls (f3 :: st) H v H') : Runs K l Z n0 m6 1 ls (.ref a :: st) H v H' := r_getF (cid := 0) (i := 3) i6_1 (hw _ (List.mem_of_getElem? (i := 26) rfl)) Via.refl rfl rfl ho rfl kk
theorem s7_19 {l : Launch} {Z : State} {a0 : Array Value} {n0 : Nat} {ls : List Slot} {st : List Value} {H H' : List Ob} {v : Option Value} (hw : HW Z a0) (kk : Runs K l Z n0 m7 22 ls (.long (-1) :: st) H v H') : Runs K l Z n0 m7 19 ls st H v H' := r_ldc2 i7_19 (hw _ (List.mem_of_getElem? (i := 44) rfl)) kk
def f7_0 (x0 : Int64) (x2 : Int32) (x3 : Int32) : Int64 := (if (x3 / 64) = x2 then x0 &&& ((1 <<< (((x3 - (64 * x2)) : Int32).toInt64 &&& 63)) ^^^ ((-1))) else x0)
set_option maxRecDepth 4000 in
theorem g7_0 {l : Launch} {Z : State} {a0 : Array Value} {n0 : Nat} (hw : HW Z a0) {H : List Ob} (x0 : Int64) (x2 : Int32) (x3 : Int32) : Runs K l Z n0 m7 0 [.val (.long x0), .second, .val (.int x2), .val (.int x3)] [] H (some (.long (f7_0 x0 x2 x3))) H := by
  unfold f7_0
  refine r_iloadN i7_0 rfl ?_
  refine r_bipush i7_1 ?_
  refine r_idiv i7_3 (by decide) ?_
  refine r_iloadN i7_4 rfl ?_
  by_cases h1 : (x3 / 64) = x2
  · rw [if_pos h1]
    refine r_icT i7_5 (XT.ii_eq_t h1) ?_
    refine r_lloadN i7_10 rfl ?_
    refine r_lconst i7_11 ?_
    refine r_iloadN i7_12 rfl ?_
    refine r_bipush i7_13 ?_
    refine r_iloadN i7_15 rfl ?_
    refine r_imul i7_16 ?_
    refine r_isub i7_17 ?_
    refine r_lshl i7_18 ?_
    refine s7_19 hw ?_
    refine r_lxor i7_22 ?_
    refine r_land i7_23 ?_
    exact r_lreturn i7_24 rfl
  · rw [if_neg h1]
    refine r_icF i7_5 (XT.ii_eq_f h1) ?_
    refine r_lloadN i7_8 rfl ?_
    exact r_lreturn i7_9 rfl
theorem c7 {l : Launch} {Z : State} {a0 : Array Value} {n0 : Nat} (hw : HW Z a0) {H : List Ob} (x0 : Int64) (x1 : Int32) (x2 : Int32) : Meets K l Z n0 m7 [.long x0, .int x1, .int x2] H (some (.long (f7_0 x0 x1 x2))) H := meets pf7 rfl (fun h => nomatch h) (g7_0 hw x0 x1 x2)
theorem own_127 (x : Int32) : 0 ≤ (x &&& 127).toInt ∧ (x &&& 127).toInt ≤ 127 := by
  have h := c_mask x 127 7 (by decide) (by decide)
  omega
theorem own_3 (x : Int32) : x &&& 3 = 0 ∨ x &&& 3 = 1 ∨ x &&& 3 = 2 ∨ x &&& 3 = 3 := by
  have h := c_mask x 3 2 (by decide) (by decide)
  generalize x &&& 3 = r at *
  have e0 : (0 : Int32).toInt = 0 := by decide
  have e1 : (1 : Int32).toInt = 1 := by decide
  have e2 : (2 : Int32).toInt = 2 := by decide
  have e3 : (3 : Int32).toInt = 3 := by decide
  simp only [← Int32.toInt_inj]
  omega
theorem own_1 (x : Int32) : x &&& 1 = 0 ∨ x &&& 1 = 1 := by
  have h := c_mask x 1 1 (by decide) (by decide)
  generalize x &&& 1 = r at *
  have e0 : (0 : Int32).toInt = 0 := by decide
  have e1 : (1 : Int32).toInt = 1 := by decide
  simp only [← Int32.toInt_inj]
  omega
theorem own_div {v : Int32} (h : 0 ≤ v.toInt ∧ v.toInt ≤ 127) : (v.toInt < 64 ∧ v / 64 = 0) ∨ (64 ≤ v.toInt ∧ v / 64 = 1) := by
  have q := (c_idiv v 64 64 (by decide) (by decide)).1 h.1
  have e0 : (0 : Int32).toInt = 0 := by decide
  have e1 : (1 : Int32).toInt = 1 := by decide
  simp only [← Int32.toInt_inj]
  omega
theorem own_sh (x y : Int32) (h : x.toInt % 64 = y.toInt % 64) : x.toInt64 &&& 63 = y.toInt64 &&& 63 := by
  have a := c_maskL x.toInt64 63 6 (by decide) (by decide)
  have b := c_maskL y.toInt64 63 6 (by decide) (by decide)
  rw [c_i2l] at a b
  apply Int64.toInt_inj.mp
  omega
theorem own_turn {v : Int32} (w0 w1 : Int64) (h : 0 ≤ v.toInt ∧ v.toInt ≤ 127) : ∃ (j : Nat) (w : Int64), Ix (v / 64) j ∧ j < 2 ∧ ([.long w0, .long w1] : List Value)[j]? = some (.long w) ∧ ([.long w0, .long w1] : List Value).set j (.long (w &&& (1 <<< (v.toInt64 &&& 63) ^^^ (-1)))) = [.long (f7_0 w0 0 v), .long (f7_0 w1 1 v)] := by
  rcases own_div h with ⟨q, e⟩ | ⟨q, e⟩
  · refine ⟨0, w0, by rw [e]; exact ⟨by decide, by decide⟩, by decide, rfl, ?_⟩
    unfold f7_0
    rw [e, if_pos rfl, if_neg (by decide), own_sh (v - 64 * 0) v (by rw [show v - 64 * 0 = v by simp])]
    rfl
  · refine ⟨1, w1, by rw [e]; exact ⟨by decide, by decide⟩, by decide, rfl, ?_⟩
    unfold f7_0
    have s : (v - 64 * 1).toInt = v.toInt - 64 := by
      have a := c_isub v (64 * 1)
      have e64 : ((64 : Int32) * 1).toInt = 64 := by decide
      have l1 := Int32.le_toInt (v - 64 * 1)
      have l2 := Int32.toInt_lt (v - 64 * 1)
      omega
    rw [e, if_neg (by decide), if_pos rfl, own_sh (v - 64 * 1) v (by omega)]
    rfl
theorem init_m {l : Launch} {Z : State} {a0 : Array Value} {n0 : Nat} (hw : HW Z a0) {f2 f3 : Value} : Meets K l Z n0 m1 [.ref 0, .int 2, .int 4] [.inl (0, [.null, .null, f2, f3])] none [.inl (0, [.ref 1, .ref 2, f2, f3]), .inr (.int, [.int 0, .int 0, .int 0, .int 0]), .inr (.int, [.int 0, .int 0, .int 0])] := by
  refine meets (ls := [_, _, _]) pf1 rfl (fun _ => rfl) ?_
  refine r_aloadN i1_0 rfl rfl ?_
  refine s1_1 hw rfl (leB rfl) ?_
  refine r_aloadN i1_4 rfl rfl ?_
  refine r_iloadN i1_5 rfl ?_
  refine s1_6 hw (a := 1) (o := [.int 0, .int 0, .int 0, .int 0]) (H1 := [_, _]) (by decide) (by decide) rfl rfl rfl ?_
  refine s1_8 hw (H1 := [_, _]) rfl rfl rfl rfl ?_
  refine r_aloadN i1_11 rfl rfl ?_
  refine r_iloadN i1_12 rfl ?_
  refine r_iconst i1_13 ?_
  refine r_iadd i1_14 ?_
  refine s1_15 hw (a := 2) (o := [.int 0, .int 0, .int 0]) (H1 := [_, _, _]) (by decide) (by decide) rfl rfl rfl ?_
  refine s1_17 hw (H1 := [_, _, _]) rfl rfl rfl rfl ?_
  exact r_return i1_20 rfl
theorem add_m {l : Launch} {Z : State} {a0 : Array Value} {n0 : Nat} (hw : HW Z a0) {s s' c x : Int32} {vs vs' ss : List Value} {i : Nat} (hs : s + 1 = s') (h4 : ¬ s = 4) (hl : vs.length = 4) (hi : Ix s i) (hlt : i < vs.length) (hv : vs.set i (.int x) = vs') : Meets K l Z n0 m3 [.ref 0, .int x] [.inl (0, [.ref 1, .ref 2, .int s, .int c]), .inr (.int, vs), .inr (.int, ss)] none [.inl (0, [.ref 1, .ref 2, .int s', .int c]), .inr (.int, vs'), .inr (.int, ss)] := by
  refine meets (ls := [_, _]) pf3 rfl (fun _ => rfl) ?_
  subst hs
  refine r_aloadN i3_0 rfl rfl ?_
  refine s3_1 hw rfl ?_
  refine r_aloadN i3_4 rfl rfl ?_
  refine s3_5 hw rfl ?_
  refine r_len (n := 4) i3_8 rfl (by rw [hl]; rfl) ?_
  refine r_icT i3_9 (XT.ii_ne_t h4) ?_
  refine r_aloadN i3_38 rfl rfl ?_
  refine s3_39 hw rfl ?_
  refine r_aloadN i3_42 rfl rfl ?_
  refine r_dup i3_43 rfl ?_
  refine s3_44 hw rfl ?_
  refine r_dupX1 i3_47 rfl rfl ?_
  refine r_iconst i3_48 ?_
  refine r_iadd i3_49 ?_
  refine s3_50 hw (H1 := [_, _, _]) rfl rfl rfl rfl ?_
  refine r_iloadN i3_53 rfl ?_
  refine r_iastore (H1 := [_, _, _]) i3_54 rfl hi hlt hv rfl ?_
  exact r_return i3_55 rfl
theorem end_m {l : Launch} {Z : State} {a0 : Array Value} {n0 : Nat} (hw : HW Z a0) {s c c' : Int32} {vs ss ss' : List Value} {i : Nat} (hc : c + 1 = c') (h4 : ¬ 3 < c + 2) (hl : ss.length = 3) (hi : Ix c' i) (hlt : i < ss.length) (hv : ss.set i (.int s) = ss') : Meets K l Z n0 m4 [.ref 0] [.inl (0, [.ref 1, .ref 2, .int s, .int c]), .inr (.int, vs), .inr (.int, ss)] none [.inl (0, [.ref 1, .ref 2, .int s, .int c']), .inr (.int, vs), .inr (.int, ss')] := by
  refine meets (ls := [_]) pf4 rfl (fun _ => rfl) ?_
  subst hc
  refine r_aloadN i4_0 rfl rfl ?_
  refine s4_1 hw rfl ?_
  refine r_iconst i4_4 ?_
  refine r_iadd i4_5 ?_
  refine r_aloadN i4_6 rfl rfl ?_
  refine s4_7 hw rfl ?_
  refine r_len (n := 3) i4_10 rfl (by rw [hl]; rfl) ?_
  refine r_icT i4_11 (XT.ii_le_t h4) ?_
  refine r_aloadN i4_42 rfl rfl ?_
  refine s4_43 hw rfl ?_
  refine r_aloadN i4_46 rfl rfl ?_
  refine r_dup i4_47 rfl ?_
  refine s4_48 hw rfl ?_
  refine r_iconst i4_51 ?_
  refine r_iadd i4_52 ?_
  refine r_dupX1 i4_53 rfl rfl ?_
  refine s4_54 hw (H1 := [_, _, _]) rfl rfl rfl rfl ?_
  refine r_aloadN i4_57 rfl rfl ?_
  refine s4_58 hw rfl ?_
  refine r_iastore (H1 := [_, _, _]) i4_61 rfl hi hlt hv rfl ?_
  exact r_return i4_62 rfl
theorem rem000 {l : Launch} {Z : State} {a0 : Array Value} {n0 : Nat} (hw : HW Z a0) {s c : Int32} {w0 w1 : Int64} {vs ss : List Value} (hs0 : ss[0]? = some (.int 0)) (hs1 : ss[1]? = some (.int 0))  : Meets K l Z n0 m5 [.ref 0, .int 0, .ref 3] [.inl (0, [.ref 1, .ref 2, .int s, .int c]), .inr (.int, vs), .inr (.int, ss), .inr (.long, [.long w0, .long w1])] none [.inl (0, [.ref 1, .ref 2, .int s, .int c]), .inr (.int, vs), .inr (.int, ss), .inr (.long, [.long w0, .long w1])] := by
  refine meets (ls := [_, _, _, _, _]) pf5 rfl (fun _ => rfl) ?_
  refine r_aloadN i5_0 rfl rfl ?_
  refine s5_1 hw rfl ?_
  refine r_iloadN i5_4 rfl ?_
  refine r_iconst i5_5 ?_
  refine r_iadd i5_6 ?_
  refine r_iaload (i := 1) i5_7 rfl ⟨by decide, by decide⟩ hs1 ?_
  refine r_istoreN (ls' := [_, _, _, _, _]) i5_8 rfl rfl ?_
  refine r_aloadN i5_9 rfl rfl ?_
  refine s5_10 hw rfl ?_
  refine r_iloadN i5_13 rfl ?_
  refine r_iaload (i := 0) i5_14 rfl ⟨by decide, by decide⟩ hs0 ?_
  refine r_istore (ls' := [_, _, _, _, _]) i5_15 rfl rfl ?_
  refine r_iload i5_17 rfl ?_
  refine r_iloadN i5_19 rfl ?_
  refine r_icT i5_20 (XT.ii_ge_t (by decide)) ?_
  exact r_return i5_57 rfl
theorem rem001 {l : Launch} {Z : State} {a0 : Array Value} {n0 : Nat} (hw : HW Z a0) {s c : Int32} {w0 w1 : Int64} {x0 : Int32} {vs ss : List Value} (hs0 : ss[0]? = some (.int 0)) (hs1 : ss[1]? = some (.int 1)) (hv0 : vs[0]? = some (.int x0)) (hb0 : 0 ≤ x0.toInt ∧ x0.toInt ≤ 127) : Meets K l Z n0 m5 [.ref 0, .int 0, .ref 3] [.inl (0, [.ref 1, .ref 2, .int s, .int c]), .inr (.int, vs), .inr (.int, ss), .inr (.long, [.long w0, .long w1])] none [.inl (0, [.ref 1, .ref 2, .int s, .int c]), .inr (.int, vs), .inr (.int, ss), .inr (.long, [.long (f7_0 w0 0 x0), .long (f7_0 w1 1 x0)])] := by
  obtain ⟨j0, u0, a0, b0, c0, d0⟩ := own_turn w0 w1 hb0
  refine meets (ls := [_, _, _, _, _]) pf5 rfl (fun _ => rfl) ?_
  refine r_aloadN i5_0 rfl rfl ?_
  refine s5_1 hw rfl ?_
  refine r_iloadN i5_4 rfl ?_
  refine r_iconst i5_5 ?_
  refine r_iadd i5_6 ?_
  refine r_iaload (i := 1) i5_7 rfl ⟨by decide, by decide⟩ hs1 ?_
  refine r_istoreN (ls' := [_, _, _, _, _]) i5_8 rfl rfl ?_
  refine r_aloadN i5_9 rfl rfl ?_
  refine s5_10 hw rfl ?_
  refine r_iloadN i5_13 rfl ?_
  refine r_iaload (i := 0) i5_14 rfl ⟨by decide, by decide⟩ hs0 ?_
  refine r_istore (ls' := [_, _, _, _, _]) i5_15 rfl rfl ?_
  refine r_iload i5_17 rfl ?_
  refine r_iloadN i5_19 rfl ?_
  refine r_icF i5_20 (XT.ii_ge_f (by decide)) ?_
  refine r_aloadN i5_23 rfl rfl ?_
  refine r_aloadN i5_24 rfl rfl ?_
  refine s5_25 hw rfl ?_
  refine r_iload i5_28 rfl ?_
  refine r_iaload (i := 0) i5_30 rfl ⟨by decide, by decide⟩ hv0 ?_
  refine r_bipush i5_31 ?_
  refine r_idiv i5_33 (by decide) ?_
  refine r_dup2 i5_34 rfl rfl ?_
  refine r_laload i5_35 rfl a0 c0 ?_
  refine r_lconst i5_36 ?_
  refine r_aloadN i5_37 rfl rfl ?_
  refine s5_38 hw rfl ?_
  refine r_iload i5_41 rfl ?_
  refine r_iaload (i := 0) i5_43 rfl ⟨by decide, by decide⟩ hv0 ?_
  refine r_lshl i5_44 ?_
  refine s5_45 hw ?_
  refine r_lxor i5_48 ?_
  refine r_land i5_49 ?_
  refine r_lastore (H1 := [_, _, _, _]) i5_50 rfl a0 b0 d0 rfl ?_
  refine r_iinc (ls' := [_, _, _, _, _]) i5_51 rfl rfl ?_
  refine r_goto i5_54 ?_
  refine r_iload i5_17 rfl ?_
  refine r_iloadN i5_19 rfl ?_
  refine r_icT i5_20 (XT.ii_ge_t (by decide)) ?_
  exact r_return i5_57 rfl
theorem rem100 {l : Launch} {Z : State} {a0 : Array Value} {n0 : Nat} (hw : HW Z a0) {s c : Int32} {w0 w1 : Int64} {vs ss : List Value} (hs0 : ss[1]? = some (.int 0)) (hs1 : ss[2]? = some (.int 0))  : Meets K l Z n0 m5 [.ref 0, .int 1, .ref 3] [.inl (0, [.ref 1, .ref 2, .int s, .int c]), .inr (.int, vs), .inr (.int, ss), .inr (.long, [.long w0, .long w1])] none [.inl (0, [.ref 1, .ref 2, .int s, .int c]), .inr (.int, vs), .inr (.int, ss), .inr (.long, [.long w0, .long w1])] := by
  refine meets (ls := [_, _, _, _, _]) pf5 rfl (fun _ => rfl) ?_
  refine r_aloadN i5_0 rfl rfl ?_
  refine s5_1 hw rfl ?_
  refine r_iloadN i5_4 rfl ?_
  refine r_iconst i5_5 ?_
  refine r_iadd i5_6 ?_
  refine r_iaload (i := 2) i5_7 rfl ⟨by decide, by decide⟩ hs1 ?_
  refine r_istoreN (ls' := [_, _, _, _, _]) i5_8 rfl rfl ?_
  refine r_aloadN i5_9 rfl rfl ?_
  refine s5_10 hw rfl ?_
  refine r_iloadN i5_13 rfl ?_
  refine r_iaload (i := 1) i5_14 rfl ⟨by decide, by decide⟩ hs0 ?_
  refine r_istore (ls' := [_, _, _, _, _]) i5_15 rfl rfl ?_
  refine r_iload i5_17 rfl ?_
  refine r_iloadN i5_19 rfl ?_
  refine r_icT i5_20 (XT.ii_ge_t (by decide)) ?_
  exact r_return i5_57 rfl
theorem rem101 {l : Launch} {Z : State} {a0 : Array Value} {n0 : Nat} (hw : HW Z a0) {s c : Int32} {w0 w1 : Int64} {x0 : Int32} {vs ss : List Value} (hs0 : ss[1]? = some (.int 0)) (hs1 : ss[2]? = some (.int 1)) (hv0 : vs[0]? = some (.int x0)) (hb0 : 0 ≤ x0.toInt ∧ x0.toInt ≤ 127) : Meets K l Z n0 m5 [.ref 0, .int 1, .ref 3] [.inl (0, [.ref 1, .ref 2, .int s, .int c]), .inr (.int, vs), .inr (.int, ss), .inr (.long, [.long w0, .long w1])] none [.inl (0, [.ref 1, .ref 2, .int s, .int c]), .inr (.int, vs), .inr (.int, ss), .inr (.long, [.long (f7_0 w0 0 x0), .long (f7_0 w1 1 x0)])] := by
  obtain ⟨j0, u0, a0, b0, c0, d0⟩ := own_turn w0 w1 hb0
  refine meets (ls := [_, _, _, _, _]) pf5 rfl (fun _ => rfl) ?_
  refine r_aloadN i5_0 rfl rfl ?_
  refine s5_1 hw rfl ?_
  refine r_iloadN i5_4 rfl ?_
  refine r_iconst i5_5 ?_
  refine r_iadd i5_6 ?_
  refine r_iaload (i := 2) i5_7 rfl ⟨by decide, by decide⟩ hs1 ?_
  refine r_istoreN (ls' := [_, _, _, _, _]) i5_8 rfl rfl ?_
  refine r_aloadN i5_9 rfl rfl ?_
  refine s5_10 hw rfl ?_
  refine r_iloadN i5_13 rfl ?_
  refine r_iaload (i := 1) i5_14 rfl ⟨by decide, by decide⟩ hs0 ?_
  refine r_istore (ls' := [_, _, _, _, _]) i5_15 rfl rfl ?_
  refine r_iload i5_17 rfl ?_
  refine r_iloadN i5_19 rfl ?_
  refine r_icF i5_20 (XT.ii_ge_f (by decide)) ?_
  refine r_aloadN i5_23 rfl rfl ?_
  refine r_aloadN i5_24 rfl rfl ?_
  refine s5_25 hw rfl ?_
  refine r_iload i5_28 rfl ?_
  refine r_iaload (i := 0) i5_30 rfl ⟨by decide, by decide⟩ hv0 ?_
  refine r_bipush i5_31 ?_
  refine r_idiv i5_33 (by decide) ?_
  refine r_dup2 i5_34 rfl rfl ?_
  refine r_laload i5_35 rfl a0 c0 ?_
  refine r_lconst i5_36 ?_
  refine r_aloadN i5_37 rfl rfl ?_
  refine s5_38 hw rfl ?_
  refine r_iload i5_41 rfl ?_
  refine r_iaload (i := 0) i5_43 rfl ⟨by decide, by decide⟩ hv0 ?_
  refine r_lshl i5_44 ?_
  refine s5_45 hw ?_
  refine r_lxor i5_48 ?_
  refine r_land i5_49 ?_
  refine r_lastore (H1 := [_, _, _, _]) i5_50 rfl a0 b0 d0 rfl ?_
  refine r_iinc (ls' := [_, _, _, _, _]) i5_51 rfl rfl ?_
  refine r_goto i5_54 ?_
  refine r_iload i5_17 rfl ?_
  refine r_iloadN i5_19 rfl ?_
  refine r_icT i5_20 (XT.ii_ge_t (by decide)) ?_
  exact r_return i5_57 rfl
theorem rem102 {l : Launch} {Z : State} {a0 : Array Value} {n0 : Nat} (hw : HW Z a0) {s c : Int32} {w0 w1 : Int64} {x0 x1 : Int32} {vs ss : List Value} (hs0 : ss[1]? = some (.int 0)) (hs1 : ss[2]? = some (.int 2)) (hv0 : vs[0]? = some (.int x0)) (hb0 : 0 ≤ x0.toInt ∧ x0.toInt ≤ 127) (hv1 : vs[1]? = some (.int x1)) (hb1 : 0 ≤ x1.toInt ∧ x1.toInt ≤ 127) : Meets K l Z n0 m5 [.ref 0, .int 1, .ref 3] [.inl (0, [.ref 1, .ref 2, .int s, .int c]), .inr (.int, vs), .inr (.int, ss), .inr (.long, [.long w0, .long w1])] none [.inl (0, [.ref 1, .ref 2, .int s, .int c]), .inr (.int, vs), .inr (.int, ss), .inr (.long, [.long (f7_0 (f7_0 w0 0 x0) 0 x1), .long (f7_0 (f7_0 w1 1 x0) 1 x1)])] := by
  obtain ⟨j0, u0, a0, b0, c0, d0⟩ := own_turn w0 w1 hb0
  obtain ⟨j1, u1, a1, b1, c1, d1⟩ := own_turn (f7_0 w0 0 x0) (f7_0 w1 1 x0) hb1
  refine meets (ls := [_, _, _, _, _]) pf5 rfl (fun _ => rfl) ?_
  refine r_aloadN i5_0 rfl rfl ?_
  refine s5_1 hw rfl ?_
  refine r_iloadN i5_4 rfl ?_
  refine r_iconst i5_5 ?_
  refine r_iadd i5_6 ?_
  refine r_iaload (i := 2) i5_7 rfl ⟨by decide, by decide⟩ hs1 ?_
  refine r_istoreN (ls' := [_, _, _, _, _]) i5_8 rfl rfl ?_
  refine r_aloadN i5_9 rfl rfl ?_
  refine s5_10 hw rfl ?_
  refine r_iloadN i5_13 rfl ?_
  refine r_iaload (i := 1) i5_14 rfl ⟨by decide, by decide⟩ hs0 ?_
  refine r_istore (ls' := [_, _, _, _, _]) i5_15 rfl rfl ?_
  refine r_iload i5_17 rfl ?_
  refine r_iloadN i5_19 rfl ?_
  refine r_icF i5_20 (XT.ii_ge_f (by decide)) ?_
  refine r_aloadN i5_23 rfl rfl ?_
  refine r_aloadN i5_24 rfl rfl ?_
  refine s5_25 hw rfl ?_
  refine r_iload i5_28 rfl ?_
  refine r_iaload (i := 0) i5_30 rfl ⟨by decide, by decide⟩ hv0 ?_
  refine r_bipush i5_31 ?_
  refine r_idiv i5_33 (by decide) ?_
  refine r_dup2 i5_34 rfl rfl ?_
  refine r_laload i5_35 rfl a0 c0 ?_
  refine r_lconst i5_36 ?_
  refine r_aloadN i5_37 rfl rfl ?_
  refine s5_38 hw rfl ?_
  refine r_iload i5_41 rfl ?_
  refine r_iaload (i := 0) i5_43 rfl ⟨by decide, by decide⟩ hv0 ?_
  refine r_lshl i5_44 ?_
  refine s5_45 hw ?_
  refine r_lxor i5_48 ?_
  refine r_land i5_49 ?_
  refine r_lastore (H1 := [_, _, _, _]) i5_50 rfl a0 b0 d0 rfl ?_
  refine r_iinc (ls' := [_, _, _, _, _]) i5_51 rfl rfl ?_
  refine r_goto i5_54 ?_
  refine r_iload i5_17 rfl ?_
  refine r_iloadN i5_19 rfl ?_
  refine r_icF i5_20 (XT.ii_ge_f (by decide)) ?_
  refine r_aloadN i5_23 rfl rfl ?_
  refine r_aloadN i5_24 rfl rfl ?_
  refine s5_25 hw rfl ?_
  refine r_iload i5_28 rfl ?_
  refine r_iaload (i := 1) i5_30 rfl ⟨by decide, by decide⟩ hv1 ?_
  refine r_bipush i5_31 ?_
  refine r_idiv i5_33 (by decide) ?_
  refine r_dup2 i5_34 rfl rfl ?_
  refine r_laload i5_35 rfl a1 c1 ?_
  refine r_lconst i5_36 ?_
  refine r_aloadN i5_37 rfl rfl ?_
  refine s5_38 hw rfl ?_
  refine r_iload i5_41 rfl ?_
  refine r_iaload (i := 1) i5_43 rfl ⟨by decide, by decide⟩ hv1 ?_
  refine r_lshl i5_44 ?_
  refine s5_45 hw ?_
  refine r_lxor i5_48 ?_
  refine r_land i5_49 ?_
  refine r_lastore (H1 := [_, _, _, _]) i5_50 rfl a1 b1 d1 rfl ?_
  refine r_iinc (ls' := [_, _, _, _, _]) i5_51 rfl rfl ?_
  refine r_goto i5_54 ?_
  refine r_iload i5_17 rfl ?_
  refine r_iloadN i5_19 rfl ?_
  refine r_icT i5_20 (XT.ii_ge_t (by decide)) ?_
  exact r_return i5_57 rfl
theorem rem103 {l : Launch} {Z : State} {a0 : Array Value} {n0 : Nat} (hw : HW Z a0) {s c : Int32} {w0 w1 : Int64} {x0 x1 x2 : Int32} {vs ss : List Value} (hs0 : ss[1]? = some (.int 0)) (hs1 : ss[2]? = some (.int 3)) (hv0 : vs[0]? = some (.int x0)) (hb0 : 0 ≤ x0.toInt ∧ x0.toInt ≤ 127) (hv1 : vs[1]? = some (.int x1)) (hb1 : 0 ≤ x1.toInt ∧ x1.toInt ≤ 127) (hv2 : vs[2]? = some (.int x2)) (hb2 : 0 ≤ x2.toInt ∧ x2.toInt ≤ 127) : Meets K l Z n0 m5 [.ref 0, .int 1, .ref 3] [.inl (0, [.ref 1, .ref 2, .int s, .int c]), .inr (.int, vs), .inr (.int, ss), .inr (.long, [.long w0, .long w1])] none [.inl (0, [.ref 1, .ref 2, .int s, .int c]), .inr (.int, vs), .inr (.int, ss), .inr (.long, [.long (f7_0 (f7_0 (f7_0 w0 0 x0) 0 x1) 0 x2), .long (f7_0 (f7_0 (f7_0 w1 1 x0) 1 x1) 1 x2)])] := by
  obtain ⟨j0, u0, a0, b0, c0, d0⟩ := own_turn w0 w1 hb0
  obtain ⟨j1, u1, a1, b1, c1, d1⟩ := own_turn (f7_0 w0 0 x0) (f7_0 w1 1 x0) hb1
  obtain ⟨j2, u2, a2, b2, c2, d2⟩ := own_turn (f7_0 (f7_0 w0 0 x0) 0 x1) (f7_0 (f7_0 w1 1 x0) 1 x1) hb2
  refine meets (ls := [_, _, _, _, _]) pf5 rfl (fun _ => rfl) ?_
  refine r_aloadN i5_0 rfl rfl ?_
  refine s5_1 hw rfl ?_
  refine r_iloadN i5_4 rfl ?_
  refine r_iconst i5_5 ?_
  refine r_iadd i5_6 ?_
  refine r_iaload (i := 2) i5_7 rfl ⟨by decide, by decide⟩ hs1 ?_
  refine r_istoreN (ls' := [_, _, _, _, _]) i5_8 rfl rfl ?_
  refine r_aloadN i5_9 rfl rfl ?_
  refine s5_10 hw rfl ?_
  refine r_iloadN i5_13 rfl ?_
  refine r_iaload (i := 1) i5_14 rfl ⟨by decide, by decide⟩ hs0 ?_
  refine r_istore (ls' := [_, _, _, _, _]) i5_15 rfl rfl ?_
  refine r_iload i5_17 rfl ?_
  refine r_iloadN i5_19 rfl ?_
  refine r_icF i5_20 (XT.ii_ge_f (by decide)) ?_
  refine r_aloadN i5_23 rfl rfl ?_
  refine r_aloadN i5_24 rfl rfl ?_
  refine s5_25 hw rfl ?_
  refine r_iload i5_28 rfl ?_
  refine r_iaload (i := 0) i5_30 rfl ⟨by decide, by decide⟩ hv0 ?_
  refine r_bipush i5_31 ?_
  refine r_idiv i5_33 (by decide) ?_
  refine r_dup2 i5_34 rfl rfl ?_
  refine r_laload i5_35 rfl a0 c0 ?_
  refine r_lconst i5_36 ?_
  refine r_aloadN i5_37 rfl rfl ?_
  refine s5_38 hw rfl ?_
  refine r_iload i5_41 rfl ?_
  refine r_iaload (i := 0) i5_43 rfl ⟨by decide, by decide⟩ hv0 ?_
  refine r_lshl i5_44 ?_
  refine s5_45 hw ?_
  refine r_lxor i5_48 ?_
  refine r_land i5_49 ?_
  refine r_lastore (H1 := [_, _, _, _]) i5_50 rfl a0 b0 d0 rfl ?_
  refine r_iinc (ls' := [_, _, _, _, _]) i5_51 rfl rfl ?_
  refine r_goto i5_54 ?_
  refine r_iload i5_17 rfl ?_
  refine r_iloadN i5_19 rfl ?_
  refine r_icF i5_20 (XT.ii_ge_f (by decide)) ?_
  refine r_aloadN i5_23 rfl rfl ?_
  refine r_aloadN i5_24 rfl rfl ?_
  refine s5_25 hw rfl ?_
  refine r_iload i5_28 rfl ?_
  refine r_iaload (i := 1) i5_30 rfl ⟨by decide, by decide⟩ hv1 ?_
  refine r_bipush i5_31 ?_
  refine r_idiv i5_33 (by decide) ?_
  refine r_dup2 i5_34 rfl rfl ?_
  refine r_laload i5_35 rfl a1 c1 ?_
  refine r_lconst i5_36 ?_
  refine r_aloadN i5_37 rfl rfl ?_
  refine s5_38 hw rfl ?_
  refine r_iload i5_41 rfl ?_
  refine r_iaload (i := 1) i5_43 rfl ⟨by decide, by decide⟩ hv1 ?_
  refine r_lshl i5_44 ?_
  refine s5_45 hw ?_
  refine r_lxor i5_48 ?_
  refine r_land i5_49 ?_
  refine r_lastore (H1 := [_, _, _, _]) i5_50 rfl a1 b1 d1 rfl ?_
  refine r_iinc (ls' := [_, _, _, _, _]) i5_51 rfl rfl ?_
  refine r_goto i5_54 ?_
  refine r_iload i5_17 rfl ?_
  refine r_iloadN i5_19 rfl ?_
  refine r_icF i5_20 (XT.ii_ge_f (by decide)) ?_
  refine r_aloadN i5_23 rfl rfl ?_
  refine r_aloadN i5_24 rfl rfl ?_
  refine s5_25 hw rfl ?_
  refine r_iload i5_28 rfl ?_
  refine r_iaload (i := 2) i5_30 rfl ⟨by decide, by decide⟩ hv2 ?_
  refine r_bipush i5_31 ?_
  refine r_idiv i5_33 (by decide) ?_
  refine r_dup2 i5_34 rfl rfl ?_
  refine r_laload i5_35 rfl a2 c2 ?_
  refine r_lconst i5_36 ?_
  refine r_aloadN i5_37 rfl rfl ?_
  refine s5_38 hw rfl ?_
  refine r_iload i5_41 rfl ?_
  refine r_iaload (i := 2) i5_43 rfl ⟨by decide, by decide⟩ hv2 ?_
  refine r_lshl i5_44 ?_
  refine s5_45 hw ?_
  refine r_lxor i5_48 ?_
  refine r_land i5_49 ?_
  refine r_lastore (H1 := [_, _, _, _]) i5_50 rfl a2 b2 d2 rfl ?_
  refine r_iinc (ls' := [_, _, _, _, _]) i5_51 rfl rfl ?_
  refine r_goto i5_54 ?_
  refine r_iload i5_17 rfl ?_
  refine r_iloadN i5_19 rfl ?_
  refine r_icT i5_20 (XT.ii_ge_t (by decide)) ?_
  exact r_return i5_57 rfl
theorem rem110 {l : Launch} {Z : State} {a0 : Array Value} {n0 : Nat} (hw : HW Z a0) {s c : Int32} {w0 w1 : Int64} {vs ss : List Value} (hs0 : ss[1]? = some (.int 1)) (hs1 : ss[2]? = some (.int 1))  : Meets K l Z n0 m5 [.ref 0, .int 1, .ref 3] [.inl (0, [.ref 1, .ref 2, .int s, .int c]), .inr (.int, vs), .inr (.int, ss), .inr (.long, [.long w0, .long w1])] none [.inl (0, [.ref 1, .ref 2, .int s, .int c]), .inr (.int, vs), .inr (.int, ss), .inr (.long, [.long w0, .long w1])] := by
  refine meets (ls := [_, _, _, _, _]) pf5 rfl (fun _ => rfl) ?_
  refine r_aloadN i5_0 rfl rfl ?_
  refine s5_1 hw rfl ?_
  refine r_iloadN i5_4 rfl ?_
  refine r_iconst i5_5 ?_
  refine r_iadd i5_6 ?_
  refine r_iaload (i := 2) i5_7 rfl ⟨by decide, by decide⟩ hs1 ?_
  refine r_istoreN (ls' := [_, _, _, _, _]) i5_8 rfl rfl ?_
  refine r_aloadN i5_9 rfl rfl ?_
  refine s5_10 hw rfl ?_
  refine r_iloadN i5_13 rfl ?_
  refine r_iaload (i := 1) i5_14 rfl ⟨by decide, by decide⟩ hs0 ?_
  refine r_istore (ls' := [_, _, _, _, _]) i5_15 rfl rfl ?_
  refine r_iload i5_17 rfl ?_
  refine r_iloadN i5_19 rfl ?_
  refine r_icT i5_20 (XT.ii_ge_t (by decide)) ?_
  exact r_return i5_57 rfl
theorem rem111 {l : Launch} {Z : State} {a0 : Array Value} {n0 : Nat} (hw : HW Z a0) {s c : Int32} {w0 w1 : Int64} {x0 : Int32} {vs ss : List Value} (hs0 : ss[1]? = some (.int 1)) (hs1 : ss[2]? = some (.int 2)) (hv0 : vs[1]? = some (.int x0)) (hb0 : 0 ≤ x0.toInt ∧ x0.toInt ≤ 127) : Meets K l Z n0 m5 [.ref 0, .int 1, .ref 3] [.inl (0, [.ref 1, .ref 2, .int s, .int c]), .inr (.int, vs), .inr (.int, ss), .inr (.long, [.long w0, .long w1])] none [.inl (0, [.ref 1, .ref 2, .int s, .int c]), .inr (.int, vs), .inr (.int, ss), .inr (.long, [.long (f7_0 w0 0 x0), .long (f7_0 w1 1 x0)])] := by
  obtain ⟨j0, u0, a0, b0, c0, d0⟩ := own_turn w0 w1 hb0
  refine meets (ls := [_, _, _, _, _]) pf5 rfl (fun _ => rfl) ?_
  refine r_aloadN i5_0 rfl rfl ?_
  refine s5_1 hw rfl ?_
  refine r_iloadN i5_4 rfl ?_
  refine r_iconst i5_5 ?_
  refine r_iadd i5_6 ?_
  refine r_iaload (i := 2) i5_7 rfl ⟨by decide, by decide⟩ hs1 ?_
  refine r_istoreN (ls' := [_, _, _, _, _]) i5_8 rfl rfl ?_
  refine r_aloadN i5_9 rfl rfl ?_
  refine s5_10 hw rfl ?_
  refine r_iloadN i5_13 rfl ?_
  refine r_iaload (i := 1) i5_14 rfl ⟨by decide, by decide⟩ hs0 ?_
  refine r_istore (ls' := [_, _, _, _, _]) i5_15 rfl rfl ?_
  refine r_iload i5_17 rfl ?_
  refine r_iloadN i5_19 rfl ?_
  refine r_icF i5_20 (XT.ii_ge_f (by decide)) ?_
  refine r_aloadN i5_23 rfl rfl ?_
  refine r_aloadN i5_24 rfl rfl ?_
  refine s5_25 hw rfl ?_
  refine r_iload i5_28 rfl ?_
  refine r_iaload (i := 1) i5_30 rfl ⟨by decide, by decide⟩ hv0 ?_
  refine r_bipush i5_31 ?_
  refine r_idiv i5_33 (by decide) ?_
  refine r_dup2 i5_34 rfl rfl ?_
  refine r_laload i5_35 rfl a0 c0 ?_
  refine r_lconst i5_36 ?_
  refine r_aloadN i5_37 rfl rfl ?_
  refine s5_38 hw rfl ?_
  refine r_iload i5_41 rfl ?_
  refine r_iaload (i := 1) i5_43 rfl ⟨by decide, by decide⟩ hv0 ?_
  refine r_lshl i5_44 ?_
  refine s5_45 hw ?_
  refine r_lxor i5_48 ?_
  refine r_land i5_49 ?_
  refine r_lastore (H1 := [_, _, _, _]) i5_50 rfl a0 b0 d0 rfl ?_
  refine r_iinc (ls' := [_, _, _, _, _]) i5_51 rfl rfl ?_
  refine r_goto i5_54 ?_
  refine r_iload i5_17 rfl ?_
  refine r_iloadN i5_19 rfl ?_
  refine r_icT i5_20 (XT.ii_ge_t (by decide)) ?_
  exact r_return i5_57 rfl
theorem rem112 {l : Launch} {Z : State} {a0 : Array Value} {n0 : Nat} (hw : HW Z a0) {s c : Int32} {w0 w1 : Int64} {x0 x1 : Int32} {vs ss : List Value} (hs0 : ss[1]? = some (.int 1)) (hs1 : ss[2]? = some (.int 3)) (hv0 : vs[1]? = some (.int x0)) (hb0 : 0 ≤ x0.toInt ∧ x0.toInt ≤ 127) (hv1 : vs[2]? = some (.int x1)) (hb1 : 0 ≤ x1.toInt ∧ x1.toInt ≤ 127) : Meets K l Z n0 m5 [.ref 0, .int 1, .ref 3] [.inl (0, [.ref 1, .ref 2, .int s, .int c]), .inr (.int, vs), .inr (.int, ss), .inr (.long, [.long w0, .long w1])] none [.inl (0, [.ref 1, .ref 2, .int s, .int c]), .inr (.int, vs), .inr (.int, ss), .inr (.long, [.long (f7_0 (f7_0 w0 0 x0) 0 x1), .long (f7_0 (f7_0 w1 1 x0) 1 x1)])] := by
  obtain ⟨j0, u0, a0, b0, c0, d0⟩ := own_turn w0 w1 hb0
  obtain ⟨j1, u1, a1, b1, c1, d1⟩ := own_turn (f7_0 w0 0 x0) (f7_0 w1 1 x0) hb1
  refine meets (ls := [_, _, _, _, _]) pf5 rfl (fun _ => rfl) ?_
  refine r_aloadN i5_0 rfl rfl ?_
  refine s5_1 hw rfl ?_
  refine r_iloadN i5_4 rfl ?_
  refine r_iconst i5_5 ?_
  refine r_iadd i5_6 ?_
  refine r_iaload (i := 2) i5_7 rfl ⟨by decide, by decide⟩ hs1 ?_
  refine r_istoreN (ls' := [_, _, _, _, _]) i5_8 rfl rfl ?_
  refine r_aloadN i5_9 rfl rfl ?_
  refine s5_10 hw rfl ?_
  refine r_iloadN i5_13 rfl ?_
  refine r_iaload (i := 1) i5_14 rfl ⟨by decide, by decide⟩ hs0 ?_
  refine r_istore (ls' := [_, _, _, _, _]) i5_15 rfl rfl ?_
  refine r_iload i5_17 rfl ?_
  refine r_iloadN i5_19 rfl ?_
  refine r_icF i5_20 (XT.ii_ge_f (by decide)) ?_
  refine r_aloadN i5_23 rfl rfl ?_
  refine r_aloadN i5_24 rfl rfl ?_
  refine s5_25 hw rfl ?_
  refine r_iload i5_28 rfl ?_
  refine r_iaload (i := 1) i5_30 rfl ⟨by decide, by decide⟩ hv0 ?_
  refine r_bipush i5_31 ?_
  refine r_idiv i5_33 (by decide) ?_
  refine r_dup2 i5_34 rfl rfl ?_
  refine r_laload i5_35 rfl a0 c0 ?_
  refine r_lconst i5_36 ?_
  refine r_aloadN i5_37 rfl rfl ?_
  refine s5_38 hw rfl ?_
  refine r_iload i5_41 rfl ?_
  refine r_iaload (i := 1) i5_43 rfl ⟨by decide, by decide⟩ hv0 ?_
  refine r_lshl i5_44 ?_
  refine s5_45 hw ?_
  refine r_lxor i5_48 ?_
  refine r_land i5_49 ?_
  refine r_lastore (H1 := [_, _, _, _]) i5_50 rfl a0 b0 d0 rfl ?_
  refine r_iinc (ls' := [_, _, _, _, _]) i5_51 rfl rfl ?_
  refine r_goto i5_54 ?_
  refine r_iload i5_17 rfl ?_
  refine r_iloadN i5_19 rfl ?_
  refine r_icF i5_20 (XT.ii_ge_f (by decide)) ?_
  refine r_aloadN i5_23 rfl rfl ?_
  refine r_aloadN i5_24 rfl rfl ?_
  refine s5_25 hw rfl ?_
  refine r_iload i5_28 rfl ?_
  refine r_iaload (i := 2) i5_30 rfl ⟨by decide, by decide⟩ hv1 ?_
  refine r_bipush i5_31 ?_
  refine r_idiv i5_33 (by decide) ?_
  refine r_dup2 i5_34 rfl rfl ?_
  refine r_laload i5_35 rfl a1 c1 ?_
  refine r_lconst i5_36 ?_
  refine r_aloadN i5_37 rfl rfl ?_
  refine s5_38 hw rfl ?_
  refine r_iload i5_41 rfl ?_
  refine r_iaload (i := 2) i5_43 rfl ⟨by decide, by decide⟩ hv1 ?_
  refine r_lshl i5_44 ?_
  refine s5_45 hw ?_
  refine r_lxor i5_48 ?_
  refine r_land i5_49 ?_
  refine r_lastore (H1 := [_, _, _, _]) i5_50 rfl a1 b1 d1 rfl ?_
  refine r_iinc (ls' := [_, _, _, _, _]) i5_51 rfl rfl ?_
  refine r_goto i5_54 ?_
  refine r_iload i5_17 rfl ?_
  refine r_iloadN i5_19 rfl ?_
  refine r_icT i5_20 (XT.ii_ge_t (by decide)) ?_
  exact r_return i5_57 rfl
theorem rem113 {l : Launch} {Z : State} {a0 : Array Value} {n0 : Nat} (hw : HW Z a0) {s c : Int32} {w0 w1 : Int64} {x0 x1 x2 : Int32} {vs ss : List Value} (hs0 : ss[1]? = some (.int 1)) (hs1 : ss[2]? = some (.int 4)) (hv0 : vs[1]? = some (.int x0)) (hb0 : 0 ≤ x0.toInt ∧ x0.toInt ≤ 127) (hv1 : vs[2]? = some (.int x1)) (hb1 : 0 ≤ x1.toInt ∧ x1.toInt ≤ 127) (hv2 : vs[3]? = some (.int x2)) (hb2 : 0 ≤ x2.toInt ∧ x2.toInt ≤ 127) : Meets K l Z n0 m5 [.ref 0, .int 1, .ref 3] [.inl (0, [.ref 1, .ref 2, .int s, .int c]), .inr (.int, vs), .inr (.int, ss), .inr (.long, [.long w0, .long w1])] none [.inl (0, [.ref 1, .ref 2, .int s, .int c]), .inr (.int, vs), .inr (.int, ss), .inr (.long, [.long (f7_0 (f7_0 (f7_0 w0 0 x0) 0 x1) 0 x2), .long (f7_0 (f7_0 (f7_0 w1 1 x0) 1 x1) 1 x2)])] := by
  obtain ⟨j0, u0, a0, b0, c0, d0⟩ := own_turn w0 w1 hb0
  obtain ⟨j1, u1, a1, b1, c1, d1⟩ := own_turn (f7_0 w0 0 x0) (f7_0 w1 1 x0) hb1
  obtain ⟨j2, u2, a2, b2, c2, d2⟩ := own_turn (f7_0 (f7_0 w0 0 x0) 0 x1) (f7_0 (f7_0 w1 1 x0) 1 x1) hb2
  refine meets (ls := [_, _, _, _, _]) pf5 rfl (fun _ => rfl) ?_
  refine r_aloadN i5_0 rfl rfl ?_
  refine s5_1 hw rfl ?_
  refine r_iloadN i5_4 rfl ?_
  refine r_iconst i5_5 ?_
  refine r_iadd i5_6 ?_
  refine r_iaload (i := 2) i5_7 rfl ⟨by decide, by decide⟩ hs1 ?_
  refine r_istoreN (ls' := [_, _, _, _, _]) i5_8 rfl rfl ?_
  refine r_aloadN i5_9 rfl rfl ?_
  refine s5_10 hw rfl ?_
  refine r_iloadN i5_13 rfl ?_
  refine r_iaload (i := 1) i5_14 rfl ⟨by decide, by decide⟩ hs0 ?_
  refine r_istore (ls' := [_, _, _, _, _]) i5_15 rfl rfl ?_
  refine r_iload i5_17 rfl ?_
  refine r_iloadN i5_19 rfl ?_
  refine r_icF i5_20 (XT.ii_ge_f (by decide)) ?_
  refine r_aloadN i5_23 rfl rfl ?_
  refine r_aloadN i5_24 rfl rfl ?_
  refine s5_25 hw rfl ?_
  refine r_iload i5_28 rfl ?_
  refine r_iaload (i := 1) i5_30 rfl ⟨by decide, by decide⟩ hv0 ?_
  refine r_bipush i5_31 ?_
  refine r_idiv i5_33 (by decide) ?_
  refine r_dup2 i5_34 rfl rfl ?_
  refine r_laload i5_35 rfl a0 c0 ?_
  refine r_lconst i5_36 ?_
  refine r_aloadN i5_37 rfl rfl ?_
  refine s5_38 hw rfl ?_
  refine r_iload i5_41 rfl ?_
  refine r_iaload (i := 1) i5_43 rfl ⟨by decide, by decide⟩ hv0 ?_
  refine r_lshl i5_44 ?_
  refine s5_45 hw ?_
  refine r_lxor i5_48 ?_
  refine r_land i5_49 ?_
  refine r_lastore (H1 := [_, _, _, _]) i5_50 rfl a0 b0 d0 rfl ?_
  refine r_iinc (ls' := [_, _, _, _, _]) i5_51 rfl rfl ?_
  refine r_goto i5_54 ?_
  refine r_iload i5_17 rfl ?_
  refine r_iloadN i5_19 rfl ?_
  refine r_icF i5_20 (XT.ii_ge_f (by decide)) ?_
  refine r_aloadN i5_23 rfl rfl ?_
  refine r_aloadN i5_24 rfl rfl ?_
  refine s5_25 hw rfl ?_
  refine r_iload i5_28 rfl ?_
  refine r_iaload (i := 2) i5_30 rfl ⟨by decide, by decide⟩ hv1 ?_
  refine r_bipush i5_31 ?_
  refine r_idiv i5_33 (by decide) ?_
  refine r_dup2 i5_34 rfl rfl ?_
  refine r_laload i5_35 rfl a1 c1 ?_
  refine r_lconst i5_36 ?_
  refine r_aloadN i5_37 rfl rfl ?_
  refine s5_38 hw rfl ?_
  refine r_iload i5_41 rfl ?_
  refine r_iaload (i := 2) i5_43 rfl ⟨by decide, by decide⟩ hv1 ?_
  refine r_lshl i5_44 ?_
  refine s5_45 hw ?_
  refine r_lxor i5_48 ?_
  refine r_land i5_49 ?_
  refine r_lastore (H1 := [_, _, _, _]) i5_50 rfl a1 b1 d1 rfl ?_
  refine r_iinc (ls' := [_, _, _, _, _]) i5_51 rfl rfl ?_
  refine r_goto i5_54 ?_
  refine r_iload i5_17 rfl ?_
  refine r_iloadN i5_19 rfl ?_
  refine r_icF i5_20 (XT.ii_ge_f (by decide)) ?_
  refine r_aloadN i5_23 rfl rfl ?_
  refine r_aloadN i5_24 rfl rfl ?_
  refine s5_25 hw rfl ?_
  refine r_iload i5_28 rfl ?_
  refine r_iaload (i := 3) i5_30 rfl ⟨by decide, by decide⟩ hv2 ?_
  refine r_bipush i5_31 ?_
  refine r_idiv i5_33 (by decide) ?_
  refine r_dup2 i5_34 rfl rfl ?_
  refine r_laload i5_35 rfl a2 c2 ?_
  refine r_lconst i5_36 ?_
  refine r_aloadN i5_37 rfl rfl ?_
  refine s5_38 hw rfl ?_
  refine r_iload i5_41 rfl ?_
  refine r_iaload (i := 3) i5_43 rfl ⟨by decide, by decide⟩ hv2 ?_
  refine r_lshl i5_44 ?_
  refine s5_45 hw ?_
  refine r_lxor i5_48 ?_
  refine r_land i5_49 ?_
  refine r_lastore (H1 := [_, _, _, _]) i5_50 rfl a2 b2 d2 rfl ?_
  refine r_iinc (ls' := [_, _, _, _, _]) i5_51 rfl rfl ?_
  refine r_goto i5_54 ?_
  refine r_iload i5_17 rfl ?_
  refine r_iloadN i5_19 rfl ?_
  refine r_icT i5_20 (XT.ii_ge_t (by decide)) ?_
  exact r_return i5_57 rfl
theorem count_m {l : Launch} {Z : State} {a0 : Array Value} {n0 : Nat} (hw : HW Z a0) {s c : Int32} {vs ss : List Value} {q : Ob} : Meets K l Z n0 m6 [.ref 0] [.inl (0, [.ref 1, .ref 2, .int s, .int c]), .inr (.int, vs), .inr (.int, ss), q] (some (.int c)) [.inl (0, [.ref 1, .ref 2, .int s, .int c]), .inr (.int, vs), .inr (.int, ss), q] := by
  refine meets (ls := [_]) pf6 rfl (fun h => nomatch h) ?_
  refine r_aloadN i6_0 rfl rfl ?_
  refine s6_1 hw rfl ?_
  exact r_ireturn i6_4 rfl
set_option maxHeartbeats 4000000 in
theorem fin000 {l : Launch} {Z : State} {a0 : Array Value} {n0 : Nat} (hw : HW Z a0) (p0 p1 : Int64) (p2 p3 a b c d : Int32) (ha : 0 ≤ a.toInt ∧ a.toInt ≤ 127) (hb : 0 ≤ b.toInt ∧ b.toInt ≤ 127) (hc : 0 ≤ c.toInt ∧ c.toInt ≤ 127) (hd : 0 ≤ d.toInt ∧ d.toInt ≤ 127) : RunsB K l Z n0 m0 68 [.val (.long p0), .second, .val (.long p1), .second, .val (.int p2), .val (.int p3), .val (.int a), .val (.int b), .val (.int c), .val (.int d), .val (.int 0), .val (.int 0), .val (.int 0), .unset, .unset, .unset, .unset, .unset, .unset] [] [] (some (.int 1)) 16 128 := by
  refine lift (fun _ kk => s0_68 hw (a := 0) (H1 := [_]) rfl rfl kk) ?_
  refine lift (fun _ kk => r_dup i0_71 rfl kk) ?_
  refine lift (fun _ kk => r_iconst i0_72 kk) ?_
  refine lift (fun _ kk => r_iconst i0_73 kk) ?_
  refine lift (fun _ kk => s0_74 hw (H1 := [_, _, _]) (init_m hw) rfl (leB rfl) kk) ?_
  refine lift (fun _ kk => r_astore (ls' := [_, _, _, _, _, _, _, _, _, _, _, _, _, _, _, _, _, _, _]) i0_77 rfl rfl rfl kk) ?_
  refine lift (fun _ kk => r_iload i0_79 rfl kk) ?_
  refine lift (fun _ kk => r_ifT i0_81 (XT.i0_eq_t (by decide)) kk) ?_
  refine lift (fun _ kk => r_aload i0_91 rfl rfl kk) ?_
  refine lift (fun _ kk => s0_93 hw (H1 := [_, _, _]) rfl (end_m hw (c' := 1) (ss' := [_, _, _]) (i := 1) (by decide) (by decide) rfl ⟨by decide, by decide⟩ (ltB rfl) rfl) rfl (leB rfl) kk) ?_
  refine lift (fun _ kk => r_iload i0_96 rfl kk) ?_
  refine lift (fun _ kk => r_iconst i0_98 kk) ?_
  refine lift (fun _ kk => r_icT i0_99 (XT.ii_lt_t (by decide)) kk) ?_
  refine lift (fun _ kk => r_iload i0_109 rfl kk) ?_
  refine lift (fun _ kk => r_iconst i0_111 kk) ?_
  refine lift (fun _ kk => r_icT i0_112 (XT.ii_lt_t (by decide)) kk) ?_
  refine lift (fun _ kk => r_iload i0_122 rfl kk) ?_
  refine lift (fun _ kk => r_iconst i0_124 kk) ?_
  refine lift (fun _ kk => r_icT i0_125 (XT.ii_lt_t (by decide)) kk) ?_
  refine lift (fun _ kk => r_aload i0_135 rfl rfl kk) ?_
  refine lift (fun _ kk => s0_137 hw (H1 := [_, _, _]) rfl (end_m hw (c' := 2) (ss' := [_, _, _]) (i := 2) (by decide) (by decide) rfl ⟨by decide, by decide⟩ (ltB rfl) rfl) rfl (leB rfl) kk) ?_
  refine lift (fun _ kk => r_iconst i0_140 kk) ?_
  refine lift (fun _ kk => s0_141 hw (a := 3) (o := [.long 0, .long 0]) (H1 := [_, _, _, _]) (by decide) (by decide) rfl rfl rfl kk) ?_
  refine lift (fun _ kk => r_astore (ls' := [_, _, _, _, _, _, _, _, _, _, _, _, _, _, _, _, _, _, _]) i0_143 rfl rfl rfl kk) ?_
  refine lift (fun _ kk => r_aload i0_145 rfl rfl kk) ?_
  refine lift (fun _ kk => r_iconst i0_147 kk) ?_
  refine lift (fun _ kk => r_lloadN i0_148 rfl kk) ?_
  refine lift (fun _ kk => r_lastore (i := 0) (vs' := [_, _]) (H1 := [_, _, _, _]) i0_149 rfl ⟨by decide, by decide⟩ (ltB rfl) rfl rfl kk) ?_
  refine lift (fun _ kk => r_aload i0_150 rfl rfl kk) ?_
  refine lift (fun _ kk => r_iconst i0_152 kk) ?_
  refine lift (fun _ kk => r_lloadN i0_153 rfl kk) ?_
  refine lift (fun _ kk => r_lastore (i := 1) (vs' := [_, _]) (H1 := [_, _, _, _]) i0_154 rfl ⟨by decide, by decide⟩ (ltB rfl) rfl rfl kk) ?_
  refine lift (fun _ kk => r_aload i0_155 rfl rfl kk) ?_
  refine lift (fun _ kk => r_iload i0_157 rfl kk) ?_
  refine lift (fun _ kk => r_aload i0_159 rfl rfl kk) ?_
  refine lift (fun _ kk => s0_161 hw (H1 := [_, _, _, _]) rfl (rem000 hw rfl rfl ) rfl (leB rfl) kk) ?_
  refine lift (fun _ kk => r_lloadN i0_164 rfl kk) ?_
  refine lift (fun _ kk => r_lstore (ls' := [_, _, _, _, _, _, _, _, _, _, _, _, _, _, _, _, _, _, _]) i0_165 rfl rfl kk) ?_
  refine lift (fun _ kk => r_lloadN i0_167 rfl kk) ?_
  refine lift (fun _ kk => r_lstore (ls' := [_, _, _, _, _, _, _, _, _, _, _, _, _, _, _, _, _, _, _]) i0_168 rfl rfl kk) ?_
  refine lift (fun _ kk => r_iload i0_170 rfl kk) ?_
  refine lift (fun _ kk => r_ifF i0_172 (XT.i0_ne_f (by decide)) kk) ?_
  refine lift (fun _ kk => r_iload i0_175 rfl kk) ?_
  refine lift (fun _ kk => r_ifT i0_177 (XT.i0_eq_t (by decide)) kk) ?_
  refine lift (fun _ kk => r_aload i0_281 rfl rfl kk) ?_
  refine lift (fun _ kk => r_len (n := 2) i0_283 rfl rfl kk) ?_
  refine lift (fun _ kk => r_iconst i0_284 kk) ?_
  refine lift (fun _ kk => r_icF i0_285 (XT.ii_ne_f (by decide)) kk) ?_
  refine lift (fun _ kk => r_aload i0_288 rfl rfl kk) ?_
  refine lift (fun _ kk => r_iconst i0_290 kk) ?_
  refine lift (fun _ kk => r_laload (i := 0) i0_291 rfl ⟨by decide, by decide⟩ rfl kk) ?_
  refine lift (fun _ kk => r_lload i0_292 rfl kk) ?_
  refine lift (fun _ kk => r_lcmp i0_294 kk) ?_
  refine lift (fun _ kk => r_ifF i0_295 (XT.ll_ne_f rfl) kk) ?_
  refine lift (fun _ kk => r_aload i0_298 rfl rfl kk) ?_
  refine lift (fun _ kk => r_iconst i0_300 kk) ?_
  refine lift (fun _ kk => r_laload (i := 1) i0_301 rfl ⟨by decide, by decide⟩ rfl kk) ?_
  refine lift (fun _ kk => r_lload i0_302 rfl kk) ?_
  refine lift (fun _ kk => r_lcmp i0_304 kk) ?_
  refine lift (fun _ kk => r_ifF i0_305 (XT.ll_ne_f rfl) kk) ?_
  refine lift (fun _ kk => r_aload i0_308 rfl rfl kk) ?_
  refine lift (fun _ kk => s0_310 hw (H1 := [_, _, _, _]) rfl (count_m hw) rfl (leB rfl) kk) ?_
  refine lift (fun _ kk => r_iconst i0_313 kk) ?_
  refine lift (fun _ kk => r_icF i0_314 (XT.ii_ne_f (by decide)) kk) ?_
  refine lift (fun _ kk => r_iconst i0_317 kk) ?_
  refine lift (fun _ kk => r_goto i0_318 kk) ?_
  exact ⟨_, r_zreturn i0_322 rfl (by first | decide | simp), leB rfl, leB rfl⟩
set_option maxHeartbeats 4000000 in
theorem fin001 {l : Launch} {Z : State} {a0 : Array Value} {n0 : Nat} (hw : HW Z a0) (p0 p1 : Int64) (p2 p3 a b c d : Int32) (ha : 0 ≤ a.toInt ∧ a.toInt ≤ 127) (hb : 0 ≤ b.toInt ∧ b.toInt ≤ 127) (hc : 0 ≤ c.toInt ∧ c.toInt ≤ 127) (hd : 0 ≤ d.toInt ∧ d.toInt ≤ 127) : RunsB K l Z n0 m0 68 [.val (.long p0), .second, .val (.long p1), .second, .val (.int p2), .val (.int p3), .val (.int a), .val (.int b), .val (.int c), .val (.int d), .val (.int 0), .val (.int 0), .val (.int 1), .unset, .unset, .unset, .unset, .unset, .unset] [] [] (some (.int 1)) 16 128 := by
  refine lift (fun _ kk => s0_68 hw (a := 0) (H1 := [_]) rfl rfl kk) ?_
  refine lift (fun _ kk => r_dup i0_71 rfl kk) ?_
  refine lift (fun _ kk => r_iconst i0_72 kk) ?_
  refine lift (fun _ kk => r_iconst i0_73 kk) ?_
  refine lift (fun _ kk => s0_74 hw (H1 := [_, _, _]) (init_m hw) rfl (leB rfl) kk) ?_
  refine lift (fun _ kk => r_astore (ls' := [_, _, _, _, _, _, _, _, _, _, _, _, _, _, _, _, _, _, _]) i0_77 rfl rfl rfl kk) ?_
  refine lift (fun _ kk => r_iload i0_79 rfl kk) ?_
  refine lift (fun _ kk => r_ifT i0_81 (XT.i0_eq_t (by decide)) kk) ?_
  refine lift (fun _ kk => r_aload i0_91 rfl rfl kk) ?_
  refine lift (fun _ kk => s0_93 hw (H1 := [_, _, _]) rfl (end_m hw (c' := 1) (ss' := [_, _, _]) (i := 1) (by decide) (by decide) rfl ⟨by decide, by decide⟩ (ltB rfl) rfl) rfl (leB rfl) kk) ?_
  refine lift (fun _ kk => r_iload i0_96 rfl kk) ?_
  refine lift (fun _ kk => r_iconst i0_98 kk) ?_
  refine lift (fun _ kk => r_icT i0_99 (XT.ii_lt_t (by decide)) kk) ?_
  refine lift (fun _ kk => r_iload i0_109 rfl kk) ?_
  refine lift (fun _ kk => r_iconst i0_111 kk) ?_
  refine lift (fun _ kk => r_icT i0_112 (XT.ii_lt_t (by decide)) kk) ?_
  refine lift (fun _ kk => r_iload i0_122 rfl kk) ?_
  refine lift (fun _ kk => r_iconst i0_124 kk) ?_
  refine lift (fun _ kk => r_icT i0_125 (XT.ii_lt_t (by decide)) kk) ?_
  refine lift (fun _ kk => r_aload i0_135 rfl rfl kk) ?_
  refine lift (fun _ kk => s0_137 hw (H1 := [_, _, _]) rfl (end_m hw (c' := 2) (ss' := [_, _, _]) (i := 2) (by decide) (by decide) rfl ⟨by decide, by decide⟩ (ltB rfl) rfl) rfl (leB rfl) kk) ?_
  refine lift (fun _ kk => r_iconst i0_140 kk) ?_
  refine lift (fun _ kk => s0_141 hw (a := 3) (o := [.long 0, .long 0]) (H1 := [_, _, _, _]) (by decide) (by decide) rfl rfl rfl kk) ?_
  refine lift (fun _ kk => r_astore (ls' := [_, _, _, _, _, _, _, _, _, _, _, _, _, _, _, _, _, _, _]) i0_143 rfl rfl rfl kk) ?_
  refine lift (fun _ kk => r_aload i0_145 rfl rfl kk) ?_
  refine lift (fun _ kk => r_iconst i0_147 kk) ?_
  refine lift (fun _ kk => r_lloadN i0_148 rfl kk) ?_
  refine lift (fun _ kk => r_lastore (i := 0) (vs' := [_, _]) (H1 := [_, _, _, _]) i0_149 rfl ⟨by decide, by decide⟩ (ltB rfl) rfl rfl kk) ?_
  refine lift (fun _ kk => r_aload i0_150 rfl rfl kk) ?_
  refine lift (fun _ kk => r_iconst i0_152 kk) ?_
  refine lift (fun _ kk => r_lloadN i0_153 rfl kk) ?_
  refine lift (fun _ kk => r_lastore (i := 1) (vs' := [_, _]) (H1 := [_, _, _, _]) i0_154 rfl ⟨by decide, by decide⟩ (ltB rfl) rfl rfl kk) ?_
  refine lift (fun _ kk => r_aload i0_155 rfl rfl kk) ?_
  refine lift (fun _ kk => r_iload i0_157 rfl kk) ?_
  refine lift (fun _ kk => r_aload i0_159 rfl rfl kk) ?_
  refine lift (fun _ kk => s0_161 hw (H1 := [_, _, _, _]) rfl (rem100 hw rfl rfl ) rfl (leB rfl) kk) ?_
  refine lift (fun _ kk => r_lloadN i0_164 rfl kk) ?_
  refine lift (fun _ kk => r_lstore (ls' := [_, _, _, _, _, _, _, _, _, _, _, _, _, _, _, _, _, _, _]) i0_165 rfl rfl kk) ?_
  refine lift (fun _ kk => r_lloadN i0_167 rfl kk) ?_
  refine lift (fun _ kk => r_lstore (ls' := [_, _, _, _, _, _, _, _, _, _, _, _, _, _, _, _, _, _, _]) i0_168 rfl rfl kk) ?_
  refine lift (fun _ kk => r_iload i0_170 rfl kk) ?_
  refine lift (fun _ kk => r_ifT i0_172 (XT.i0_ne_t (by decide)) kk) ?_
  refine lift (fun _ kk => r_iload i0_203 rfl kk) ?_
  refine lift (fun _ kk => r_iconst i0_205 kk) ?_
  refine lift (fun _ kk => r_icT i0_206 (XT.ii_lt_t (by decide)) kk) ?_
  refine lift (fun _ kk => r_iload i0_229 rfl kk) ?_
  refine lift (fun _ kk => r_iconst i0_231 kk) ?_
  refine lift (fun _ kk => r_icT i0_232 (XT.ii_lt_t (by decide)) kk) ?_
  refine lift (fun _ kk => r_iload i0_255 rfl kk) ?_
  refine lift (fun _ kk => r_iconst i0_257 kk) ?_
  refine lift (fun _ kk => r_icT i0_258 (XT.ii_lt_t (by decide)) kk) ?_
  refine lift (fun _ kk => r_aload i0_281 rfl rfl kk) ?_
  refine lift (fun _ kk => r_len (n := 2) i0_283 rfl rfl kk) ?_
  refine lift (fun _ kk => r_iconst i0_284 kk) ?_
  refine lift (fun _ kk => r_icF i0_285 (XT.ii_ne_f (by decide)) kk) ?_
  refine lift (fun _ kk => r_aload i0_288 rfl rfl kk) ?_
  refine lift (fun _ kk => r_iconst i0_290 kk) ?_
  refine lift (fun _ kk => r_laload (i := 0) i0_291 rfl ⟨by decide, by decide⟩ rfl kk) ?_
  refine lift (fun _ kk => r_lload i0_292 rfl kk) ?_
  refine lift (fun _ kk => r_lcmp i0_294 kk) ?_
  refine lift (fun _ kk => r_ifF i0_295 (XT.ll_ne_f rfl) kk) ?_
  refine lift (fun _ kk => r_aload i0_298 rfl rfl kk) ?_
  refine lift (fun _ kk => r_iconst i0_300 kk) ?_
  refine lift (fun _ kk => r_laload (i := 1) i0_301 rfl ⟨by decide, by decide⟩ rfl kk) ?_
  refine lift (fun _ kk => r_lload i0_302 rfl kk) ?_
  refine lift (fun _ kk => r_lcmp i0_304 kk) ?_
  refine lift (fun _ kk => r_ifF i0_305 (XT.ll_ne_f rfl) kk) ?_
  refine lift (fun _ kk => r_aload i0_308 rfl rfl kk) ?_
  refine lift (fun _ kk => s0_310 hw (H1 := [_, _, _, _]) rfl (count_m hw) rfl (leB rfl) kk) ?_
  refine lift (fun _ kk => r_iconst i0_313 kk) ?_
  refine lift (fun _ kk => r_icF i0_314 (XT.ii_ne_f (by decide)) kk) ?_
  refine lift (fun _ kk => r_iconst i0_317 kk) ?_
  refine lift (fun _ kk => r_goto i0_318 kk) ?_
  exact ⟨_, r_zreturn i0_322 rfl (by first | decide | simp), leB rfl, leB rfl⟩
set_option maxHeartbeats 4000000 in
theorem fin010 {l : Launch} {Z : State} {a0 : Array Value} {n0 : Nat} (hw : HW Z a0) (p0 p1 : Int64) (p2 p3 a b c d : Int32) (ha : 0 ≤ a.toInt ∧ a.toInt ≤ 127) (hb : 0 ≤ b.toInt ∧ b.toInt ≤ 127) (hc : 0 ≤ c.toInt ∧ c.toInt ≤ 127) (hd : 0 ≤ d.toInt ∧ d.toInt ≤ 127) : RunsB K l Z n0 m0 68 [.val (.long p0), .second, .val (.long p1), .second, .val (.int p2), .val (.int p3), .val (.int a), .val (.int b), .val (.int c), .val (.int d), .val (.int 1), .val (.int 0), .val (.int 0), .unset, .unset, .unset, .unset, .unset, .unset] [] [] (some (.int 1)) 16 128 := by
  refine lift (fun _ kk => s0_68 hw (a := 0) (H1 := [_]) rfl rfl kk) ?_
  refine lift (fun _ kk => r_dup i0_71 rfl kk) ?_
  refine lift (fun _ kk => r_iconst i0_72 kk) ?_
  refine lift (fun _ kk => r_iconst i0_73 kk) ?_
  refine lift (fun _ kk => s0_74 hw (H1 := [_, _, _]) (init_m hw) rfl (leB rfl) kk) ?_
  refine lift (fun _ kk => r_astore (ls' := [_, _, _, _, _, _, _, _, _, _, _, _, _, _, _, _, _, _, _]) i0_77 rfl rfl rfl kk) ?_
  refine lift (fun _ kk => r_iload i0_79 rfl kk) ?_
  refine lift (fun _ kk => r_ifT i0_81 (XT.i0_eq_t (by decide)) kk) ?_
  refine lift (fun _ kk => r_aload i0_91 rfl rfl kk) ?_
  refine lift (fun _ kk => s0_93 hw (H1 := [_, _, _]) rfl (end_m hw (c' := 1) (ss' := [_, _, _]) (i := 1) (by decide) (by decide) rfl ⟨by decide, by decide⟩ (ltB rfl) rfl) rfl (leB rfl) kk) ?_
  refine lift (fun _ kk => r_iload i0_96 rfl kk) ?_
  refine lift (fun _ kk => r_iconst i0_98 kk) ?_
  refine lift (fun _ kk => r_icF i0_99 (XT.ii_lt_f (by decide)) kk) ?_
  refine lift (fun _ kk => r_aload i0_102 rfl rfl kk) ?_
  refine lift (fun _ kk => r_iload i0_104 rfl kk) ?_
  refine lift (fun _ kk => s0_106 hw (H1 := [_, _, _]) rfl (add_m hw (s' := 1) (vs' := [_, _, _, _]) (i := 0) (by decide) (by decide) rfl ⟨by decide, by decide⟩ (ltB rfl) rfl) rfl (leB rfl) kk) ?_
  refine lift (fun _ kk => r_iload i0_109 rfl kk) ?_
  refine lift (fun _ kk => r_iconst i0_111 kk) ?_
  refine lift (fun _ kk => r_icT i0_112 (XT.ii_lt_t (by decide)) kk) ?_
  refine lift (fun _ kk => r_iload i0_122 rfl kk) ?_
  refine lift (fun _ kk => r_iconst i0_124 kk) ?_
  refine lift (fun _ kk => r_icT i0_125 (XT.ii_lt_t (by decide)) kk) ?_
  refine lift (fun _ kk => r_aload i0_135 rfl rfl kk) ?_
  refine lift (fun _ kk => s0_137 hw (H1 := [_, _, _]) rfl (end_m hw (c' := 2) (ss' := [_, _, _]) (i := 2) (by decide) (by decide) rfl ⟨by decide, by decide⟩ (ltB rfl) rfl) rfl (leB rfl) kk) ?_
  refine lift (fun _ kk => r_iconst i0_140 kk) ?_
  refine lift (fun _ kk => s0_141 hw (a := 3) (o := [.long 0, .long 0]) (H1 := [_, _, _, _]) (by decide) (by decide) rfl rfl rfl kk) ?_
  refine lift (fun _ kk => r_astore (ls' := [_, _, _, _, _, _, _, _, _, _, _, _, _, _, _, _, _, _, _]) i0_143 rfl rfl rfl kk) ?_
  refine lift (fun _ kk => r_aload i0_145 rfl rfl kk) ?_
  refine lift (fun _ kk => r_iconst i0_147 kk) ?_
  refine lift (fun _ kk => r_lloadN i0_148 rfl kk) ?_
  refine lift (fun _ kk => r_lastore (i := 0) (vs' := [_, _]) (H1 := [_, _, _, _]) i0_149 rfl ⟨by decide, by decide⟩ (ltB rfl) rfl rfl kk) ?_
  refine lift (fun _ kk => r_aload i0_150 rfl rfl kk) ?_
  refine lift (fun _ kk => r_iconst i0_152 kk) ?_
  refine lift (fun _ kk => r_lloadN i0_153 rfl kk) ?_
  refine lift (fun _ kk => r_lastore (i := 1) (vs' := [_, _]) (H1 := [_, _, _, _]) i0_154 rfl ⟨by decide, by decide⟩ (ltB rfl) rfl rfl kk) ?_
  refine lift (fun _ kk => r_aload i0_155 rfl rfl kk) ?_
  refine lift (fun _ kk => r_iload i0_157 rfl kk) ?_
  refine lift (fun _ kk => r_aload i0_159 rfl rfl kk) ?_
  refine lift (fun _ kk => s0_161 hw (H1 := [_, _, _, _]) rfl (rem000 hw rfl rfl ) rfl (leB rfl) kk) ?_
  refine lift (fun _ kk => r_lloadN i0_164 rfl kk) ?_
  refine lift (fun _ kk => r_lstore (ls' := [_, _, _, _, _, _, _, _, _, _, _, _, _, _, _, _, _, _, _]) i0_165 rfl rfl kk) ?_
  refine lift (fun _ kk => r_lloadN i0_167 rfl kk) ?_
  refine lift (fun _ kk => r_lstore (ls' := [_, _, _, _, _, _, _, _, _, _, _, _, _, _, _, _, _, _, _]) i0_168 rfl rfl kk) ?_
  refine lift (fun _ kk => r_iload i0_170 rfl kk) ?_
  refine lift (fun _ kk => r_ifF i0_172 (XT.i0_ne_f (by decide)) kk) ?_
  refine lift (fun _ kk => r_iload i0_175 rfl kk) ?_
  refine lift (fun _ kk => r_ifT i0_177 (XT.i0_eq_t (by decide)) kk) ?_
  refine lift (fun _ kk => r_aload i0_281 rfl rfl kk) ?_
  refine lift (fun _ kk => r_len (n := 2) i0_283 rfl rfl kk) ?_
  refine lift (fun _ kk => r_iconst i0_284 kk) ?_
  refine lift (fun _ kk => r_icF i0_285 (XT.ii_ne_f (by decide)) kk) ?_
  refine lift (fun _ kk => r_aload i0_288 rfl rfl kk) ?_
  refine lift (fun _ kk => r_iconst i0_290 kk) ?_
  refine lift (fun _ kk => r_laload (i := 0) i0_291 rfl ⟨by decide, by decide⟩ rfl kk) ?_
  refine lift (fun _ kk => r_lload i0_292 rfl kk) ?_
  refine lift (fun _ kk => r_lcmp i0_294 kk) ?_
  refine lift (fun _ kk => r_ifF i0_295 (XT.ll_ne_f rfl) kk) ?_
  refine lift (fun _ kk => r_aload i0_298 rfl rfl kk) ?_
  refine lift (fun _ kk => r_iconst i0_300 kk) ?_
  refine lift (fun _ kk => r_laload (i := 1) i0_301 rfl ⟨by decide, by decide⟩ rfl kk) ?_
  refine lift (fun _ kk => r_lload i0_302 rfl kk) ?_
  refine lift (fun _ kk => r_lcmp i0_304 kk) ?_
  refine lift (fun _ kk => r_ifF i0_305 (XT.ll_ne_f rfl) kk) ?_
  refine lift (fun _ kk => r_aload i0_308 rfl rfl kk) ?_
  refine lift (fun _ kk => s0_310 hw (H1 := [_, _, _, _]) rfl (count_m hw) rfl (leB rfl) kk) ?_
  refine lift (fun _ kk => r_iconst i0_313 kk) ?_
  refine lift (fun _ kk => r_icF i0_314 (XT.ii_ne_f (by decide)) kk) ?_
  refine lift (fun _ kk => r_iconst i0_317 kk) ?_
  refine lift (fun _ kk => r_goto i0_318 kk) ?_
  exact ⟨_, r_zreturn i0_322 rfl (by first | decide | simp), leB rfl, leB rfl⟩
set_option maxHeartbeats 4000000 in
theorem fin011 {l : Launch} {Z : State} {a0 : Array Value} {n0 : Nat} (hw : HW Z a0) (p0 p1 : Int64) (p2 p3 a b c d : Int32) (ha : 0 ≤ a.toInt ∧ a.toInt ≤ 127) (hb : 0 ≤ b.toInt ∧ b.toInt ≤ 127) (hc : 0 ≤ c.toInt ∧ c.toInt ≤ 127) (hd : 0 ≤ d.toInt ∧ d.toInt ≤ 127) : RunsB K l Z n0 m0 68 [.val (.long p0), .second, .val (.long p1), .second, .val (.int p2), .val (.int p3), .val (.int a), .val (.int b), .val (.int c), .val (.int d), .val (.int 1), .val (.int 0), .val (.int 1), .unset, .unset, .unset, .unset, .unset, .unset] [] [] (some (.int 1)) 16 128 := by
  refine lift (fun _ kk => s0_68 hw (a := 0) (H1 := [_]) rfl rfl kk) ?_
  refine lift (fun _ kk => r_dup i0_71 rfl kk) ?_
  refine lift (fun _ kk => r_iconst i0_72 kk) ?_
  refine lift (fun _ kk => r_iconst i0_73 kk) ?_
  refine lift (fun _ kk => s0_74 hw (H1 := [_, _, _]) (init_m hw) rfl (leB rfl) kk) ?_
  refine lift (fun _ kk => r_astore (ls' := [_, _, _, _, _, _, _, _, _, _, _, _, _, _, _, _, _, _, _]) i0_77 rfl rfl rfl kk) ?_
  refine lift (fun _ kk => r_iload i0_79 rfl kk) ?_
  refine lift (fun _ kk => r_ifT i0_81 (XT.i0_eq_t (by decide)) kk) ?_
  refine lift (fun _ kk => r_aload i0_91 rfl rfl kk) ?_
  refine lift (fun _ kk => s0_93 hw (H1 := [_, _, _]) rfl (end_m hw (c' := 1) (ss' := [_, _, _]) (i := 1) (by decide) (by decide) rfl ⟨by decide, by decide⟩ (ltB rfl) rfl) rfl (leB rfl) kk) ?_
  refine lift (fun _ kk => r_iload i0_96 rfl kk) ?_
  refine lift (fun _ kk => r_iconst i0_98 kk) ?_
  refine lift (fun _ kk => r_icF i0_99 (XT.ii_lt_f (by decide)) kk) ?_
  refine lift (fun _ kk => r_aload i0_102 rfl rfl kk) ?_
  refine lift (fun _ kk => r_iload i0_104 rfl kk) ?_
  refine lift (fun _ kk => s0_106 hw (H1 := [_, _, _]) rfl (add_m hw (s' := 1) (vs' := [_, _, _, _]) (i := 0) (by decide) (by decide) rfl ⟨by decide, by decide⟩ (ltB rfl) rfl) rfl (leB rfl) kk) ?_
  refine lift (fun _ kk => r_iload i0_109 rfl kk) ?_
  refine lift (fun _ kk => r_iconst i0_111 kk) ?_
  refine lift (fun _ kk => r_icT i0_112 (XT.ii_lt_t (by decide)) kk) ?_
  refine lift (fun _ kk => r_iload i0_122 rfl kk) ?_
  refine lift (fun _ kk => r_iconst i0_124 kk) ?_
  refine lift (fun _ kk => r_icT i0_125 (XT.ii_lt_t (by decide)) kk) ?_
  refine lift (fun _ kk => r_aload i0_135 rfl rfl kk) ?_
  refine lift (fun _ kk => s0_137 hw (H1 := [_, _, _]) rfl (end_m hw (c' := 2) (ss' := [_, _, _]) (i := 2) (by decide) (by decide) rfl ⟨by decide, by decide⟩ (ltB rfl) rfl) rfl (leB rfl) kk) ?_
  refine lift (fun _ kk => r_iconst i0_140 kk) ?_
  refine lift (fun _ kk => s0_141 hw (a := 3) (o := [.long 0, .long 0]) (H1 := [_, _, _, _]) (by decide) (by decide) rfl rfl rfl kk) ?_
  refine lift (fun _ kk => r_astore (ls' := [_, _, _, _, _, _, _, _, _, _, _, _, _, _, _, _, _, _, _]) i0_143 rfl rfl rfl kk) ?_
  refine lift (fun _ kk => r_aload i0_145 rfl rfl kk) ?_
  refine lift (fun _ kk => r_iconst i0_147 kk) ?_
  refine lift (fun _ kk => r_lloadN i0_148 rfl kk) ?_
  refine lift (fun _ kk => r_lastore (i := 0) (vs' := [_, _]) (H1 := [_, _, _, _]) i0_149 rfl ⟨by decide, by decide⟩ (ltB rfl) rfl rfl kk) ?_
  refine lift (fun _ kk => r_aload i0_150 rfl rfl kk) ?_
  refine lift (fun _ kk => r_iconst i0_152 kk) ?_
  refine lift (fun _ kk => r_lloadN i0_153 rfl kk) ?_
  refine lift (fun _ kk => r_lastore (i := 1) (vs' := [_, _]) (H1 := [_, _, _, _]) i0_154 rfl ⟨by decide, by decide⟩ (ltB rfl) rfl rfl kk) ?_
  refine lift (fun _ kk => r_aload i0_155 rfl rfl kk) ?_
  refine lift (fun _ kk => r_iload i0_157 rfl kk) ?_
  refine lift (fun _ kk => r_aload i0_159 rfl rfl kk) ?_
  refine lift (fun _ kk => s0_161 hw (H1 := [_, _, _, _]) rfl (rem101 hw rfl rfl rfl hb) rfl (leB rfl) kk) ?_
  refine lift (fun _ kk => r_lloadN i0_164 rfl kk) ?_
  refine lift (fun _ kk => r_lstore (ls' := [_, _, _, _, _, _, _, _, _, _, _, _, _, _, _, _, _, _, _]) i0_165 rfl rfl kk) ?_
  refine lift (fun _ kk => r_lloadN i0_167 rfl kk) ?_
  refine lift (fun _ kk => r_lstore (ls' := [_, _, _, _, _, _, _, _, _, _, _, _, _, _, _, _, _, _, _]) i0_168 rfl rfl kk) ?_
  refine lift (fun _ kk => r_iload i0_170 rfl kk) ?_
  refine lift (fun _ kk => r_ifT i0_172 (XT.i0_ne_t (by decide)) kk) ?_
  refine lift (fun _ kk => r_iload i0_203 rfl kk) ?_
  refine lift (fun _ kk => r_iconst i0_205 kk) ?_
  refine lift (fun _ kk => r_icF i0_206 (XT.ii_lt_f (by decide)) kk) ?_
  refine lift (fun _ kk => r_lload i0_209 rfl kk) ?_
  refine lift (fun _ kk => r_iconst i0_211 kk) ?_
  refine lift (fun _ kk => r_iload i0_212 rfl kk) ?_
  refine lift (fun _ kk => s0_214 hw (H1 := [_, _, _, _]) (c7 hw _ _ _) rfl (leB rfl) kk) ?_
  refine lift (fun _ kk => r_lstore (ls' := [_, _, _, _, _, _, _, _, _, _, _, _, _, _, _, _, _, _, _]) i0_217 rfl rfl kk) ?_
  refine lift (fun _ kk => r_lload i0_219 rfl kk) ?_
  refine lift (fun _ kk => r_iconst i0_221 kk) ?_
  refine lift (fun _ kk => r_iload i0_222 rfl kk) ?_
  refine lift (fun _ kk => s0_224 hw (H1 := [_, _, _, _]) (c7 hw _ _ _) rfl (leB rfl) kk) ?_
  refine lift (fun _ kk => r_lstore (ls' := [_, _, _, _, _, _, _, _, _, _, _, _, _, _, _, _, _, _, _]) i0_227 rfl rfl kk) ?_
  refine lift (fun _ kk => r_iload i0_229 rfl kk) ?_
  refine lift (fun _ kk => r_iconst i0_231 kk) ?_
  refine lift (fun _ kk => r_icT i0_232 (XT.ii_lt_t (by decide)) kk) ?_
  refine lift (fun _ kk => r_iload i0_255 rfl kk) ?_
  refine lift (fun _ kk => r_iconst i0_257 kk) ?_
  refine lift (fun _ kk => r_icT i0_258 (XT.ii_lt_t (by decide)) kk) ?_
  refine lift (fun _ kk => r_aload i0_281 rfl rfl kk) ?_
  refine lift (fun _ kk => r_len (n := 2) i0_283 rfl rfl kk) ?_
  refine lift (fun _ kk => r_iconst i0_284 kk) ?_
  refine lift (fun _ kk => r_icF i0_285 (XT.ii_ne_f (by decide)) kk) ?_
  refine lift (fun _ kk => r_aload i0_288 rfl rfl kk) ?_
  refine lift (fun _ kk => r_iconst i0_290 kk) ?_
  refine lift (fun _ kk => r_laload (i := 0) i0_291 rfl ⟨by decide, by decide⟩ rfl kk) ?_
  refine lift (fun _ kk => r_lload i0_292 rfl kk) ?_
  refine lift (fun _ kk => r_lcmp i0_294 kk) ?_
  refine lift (fun _ kk => r_ifF i0_295 (XT.ll_ne_f rfl) kk) ?_
  refine lift (fun _ kk => r_aload i0_298 rfl rfl kk) ?_
  refine lift (fun _ kk => r_iconst i0_300 kk) ?_
  refine lift (fun _ kk => r_laload (i := 1) i0_301 rfl ⟨by decide, by decide⟩ rfl kk) ?_
  refine lift (fun _ kk => r_lload i0_302 rfl kk) ?_
  refine lift (fun _ kk => r_lcmp i0_304 kk) ?_
  refine lift (fun _ kk => r_ifF i0_305 (XT.ll_ne_f rfl) kk) ?_
  refine lift (fun _ kk => r_aload i0_308 rfl rfl kk) ?_
  refine lift (fun _ kk => s0_310 hw (H1 := [_, _, _, _]) rfl (count_m hw) rfl (leB rfl) kk) ?_
  refine lift (fun _ kk => r_iconst i0_313 kk) ?_
  refine lift (fun _ kk => r_icF i0_314 (XT.ii_ne_f (by decide)) kk) ?_
  refine lift (fun _ kk => r_iconst i0_317 kk) ?_
  refine lift (fun _ kk => r_goto i0_318 kk) ?_
  exact ⟨_, r_zreturn i0_322 rfl (by first | decide | simp), leB rfl, leB rfl⟩
set_option maxHeartbeats 4000000 in
theorem fin020 {l : Launch} {Z : State} {a0 : Array Value} {n0 : Nat} (hw : HW Z a0) (p0 p1 : Int64) (p2 p3 a b c d : Int32) (ha : 0 ≤ a.toInt ∧ a.toInt ≤ 127) (hb : 0 ≤ b.toInt ∧ b.toInt ≤ 127) (hc : 0 ≤ c.toInt ∧ c.toInt ≤ 127) (hd : 0 ≤ d.toInt ∧ d.toInt ≤ 127) : RunsB K l Z n0 m0 68 [.val (.long p0), .second, .val (.long p1), .second, .val (.int p2), .val (.int p3), .val (.int a), .val (.int b), .val (.int c), .val (.int d), .val (.int 2), .val (.int 0), .val (.int 0), .unset, .unset, .unset, .unset, .unset, .unset] [] [] (some (.int 1)) 16 128 := by
  refine lift (fun _ kk => s0_68 hw (a := 0) (H1 := [_]) rfl rfl kk) ?_
  refine lift (fun _ kk => r_dup i0_71 rfl kk) ?_
  refine lift (fun _ kk => r_iconst i0_72 kk) ?_
  refine lift (fun _ kk => r_iconst i0_73 kk) ?_
  refine lift (fun _ kk => s0_74 hw (H1 := [_, _, _]) (init_m hw) rfl (leB rfl) kk) ?_
  refine lift (fun _ kk => r_astore (ls' := [_, _, _, _, _, _, _, _, _, _, _, _, _, _, _, _, _, _, _]) i0_77 rfl rfl rfl kk) ?_
  refine lift (fun _ kk => r_iload i0_79 rfl kk) ?_
  refine lift (fun _ kk => r_ifT i0_81 (XT.i0_eq_t (by decide)) kk) ?_
  refine lift (fun _ kk => r_aload i0_91 rfl rfl kk) ?_
  refine lift (fun _ kk => s0_93 hw (H1 := [_, _, _]) rfl (end_m hw (c' := 1) (ss' := [_, _, _]) (i := 1) (by decide) (by decide) rfl ⟨by decide, by decide⟩ (ltB rfl) rfl) rfl (leB rfl) kk) ?_
  refine lift (fun _ kk => r_iload i0_96 rfl kk) ?_
  refine lift (fun _ kk => r_iconst i0_98 kk) ?_
  refine lift (fun _ kk => r_icF i0_99 (XT.ii_lt_f (by decide)) kk) ?_
  refine lift (fun _ kk => r_aload i0_102 rfl rfl kk) ?_
  refine lift (fun _ kk => r_iload i0_104 rfl kk) ?_
  refine lift (fun _ kk => s0_106 hw (H1 := [_, _, _]) rfl (add_m hw (s' := 1) (vs' := [_, _, _, _]) (i := 0) (by decide) (by decide) rfl ⟨by decide, by decide⟩ (ltB rfl) rfl) rfl (leB rfl) kk) ?_
  refine lift (fun _ kk => r_iload i0_109 rfl kk) ?_
  refine lift (fun _ kk => r_iconst i0_111 kk) ?_
  refine lift (fun _ kk => r_icF i0_112 (XT.ii_lt_f (by decide)) kk) ?_
  refine lift (fun _ kk => r_aload i0_115 rfl rfl kk) ?_
  refine lift (fun _ kk => r_iload i0_117 rfl kk) ?_
  refine lift (fun _ kk => s0_119 hw (H1 := [_, _, _]) rfl (add_m hw (s' := 2) (vs' := [_, _, _, _]) (i := 1) (by decide) (by decide) rfl ⟨by decide, by decide⟩ (ltB rfl) rfl) rfl (leB rfl) kk) ?_
  refine lift (fun _ kk => r_iload i0_122 rfl kk) ?_
  refine lift (fun _ kk => r_iconst i0_124 kk) ?_
  refine lift (fun _ kk => r_icT i0_125 (XT.ii_lt_t (by decide)) kk) ?_
  refine lift (fun _ kk => r_aload i0_135 rfl rfl kk) ?_
  refine lift (fun _ kk => s0_137 hw (H1 := [_, _, _]) rfl (end_m hw (c' := 2) (ss' := [_, _, _]) (i := 2) (by decide) (by decide) rfl ⟨by decide, by decide⟩ (ltB rfl) rfl) rfl (leB rfl) kk) ?_
  refine lift (fun _ kk => r_iconst i0_140 kk) ?_
  refine lift (fun _ kk => s0_141 hw (a := 3) (o := [.long 0, .long 0]) (H1 := [_, _, _, _]) (by decide) (by decide) rfl rfl rfl kk) ?_
  refine lift (fun _ kk => r_astore (ls' := [_, _, _, _, _, _, _, _, _, _, _, _, _, _, _, _, _, _, _]) i0_143 rfl rfl rfl kk) ?_
  refine lift (fun _ kk => r_aload i0_145 rfl rfl kk) ?_
  refine lift (fun _ kk => r_iconst i0_147 kk) ?_
  refine lift (fun _ kk => r_lloadN i0_148 rfl kk) ?_
  refine lift (fun _ kk => r_lastore (i := 0) (vs' := [_, _]) (H1 := [_, _, _, _]) i0_149 rfl ⟨by decide, by decide⟩ (ltB rfl) rfl rfl kk) ?_
  refine lift (fun _ kk => r_aload i0_150 rfl rfl kk) ?_
  refine lift (fun _ kk => r_iconst i0_152 kk) ?_
  refine lift (fun _ kk => r_lloadN i0_153 rfl kk) ?_
  refine lift (fun _ kk => r_lastore (i := 1) (vs' := [_, _]) (H1 := [_, _, _, _]) i0_154 rfl ⟨by decide, by decide⟩ (ltB rfl) rfl rfl kk) ?_
  refine lift (fun _ kk => r_aload i0_155 rfl rfl kk) ?_
  refine lift (fun _ kk => r_iload i0_157 rfl kk) ?_
  refine lift (fun _ kk => r_aload i0_159 rfl rfl kk) ?_
  refine lift (fun _ kk => s0_161 hw (H1 := [_, _, _, _]) rfl (rem000 hw rfl rfl ) rfl (leB rfl) kk) ?_
  refine lift (fun _ kk => r_lloadN i0_164 rfl kk) ?_
  refine lift (fun _ kk => r_lstore (ls' := [_, _, _, _, _, _, _, _, _, _, _, _, _, _, _, _, _, _, _]) i0_165 rfl rfl kk) ?_
  refine lift (fun _ kk => r_lloadN i0_167 rfl kk) ?_
  refine lift (fun _ kk => r_lstore (ls' := [_, _, _, _, _, _, _, _, _, _, _, _, _, _, _, _, _, _, _]) i0_168 rfl rfl kk) ?_
  refine lift (fun _ kk => r_iload i0_170 rfl kk) ?_
  refine lift (fun _ kk => r_ifF i0_172 (XT.i0_ne_f (by decide)) kk) ?_
  refine lift (fun _ kk => r_iload i0_175 rfl kk) ?_
  refine lift (fun _ kk => r_ifT i0_177 (XT.i0_eq_t (by decide)) kk) ?_
  refine lift (fun _ kk => r_aload i0_281 rfl rfl kk) ?_
  refine lift (fun _ kk => r_len (n := 2) i0_283 rfl rfl kk) ?_
  refine lift (fun _ kk => r_iconst i0_284 kk) ?_
  refine lift (fun _ kk => r_icF i0_285 (XT.ii_ne_f (by decide)) kk) ?_
  refine lift (fun _ kk => r_aload i0_288 rfl rfl kk) ?_
  refine lift (fun _ kk => r_iconst i0_290 kk) ?_
  refine lift (fun _ kk => r_laload (i := 0) i0_291 rfl ⟨by decide, by decide⟩ rfl kk) ?_
  refine lift (fun _ kk => r_lload i0_292 rfl kk) ?_
  refine lift (fun _ kk => r_lcmp i0_294 kk) ?_
  refine lift (fun _ kk => r_ifF i0_295 (XT.ll_ne_f rfl) kk) ?_
  refine lift (fun _ kk => r_aload i0_298 rfl rfl kk) ?_
  refine lift (fun _ kk => r_iconst i0_300 kk) ?_
  refine lift (fun _ kk => r_laload (i := 1) i0_301 rfl ⟨by decide, by decide⟩ rfl kk) ?_
  refine lift (fun _ kk => r_lload i0_302 rfl kk) ?_
  refine lift (fun _ kk => r_lcmp i0_304 kk) ?_
  refine lift (fun _ kk => r_ifF i0_305 (XT.ll_ne_f rfl) kk) ?_
  refine lift (fun _ kk => r_aload i0_308 rfl rfl kk) ?_
  refine lift (fun _ kk => s0_310 hw (H1 := [_, _, _, _]) rfl (count_m hw) rfl (leB rfl) kk) ?_
  refine lift (fun _ kk => r_iconst i0_313 kk) ?_
  refine lift (fun _ kk => r_icF i0_314 (XT.ii_ne_f (by decide)) kk) ?_
  refine lift (fun _ kk => r_iconst i0_317 kk) ?_
  refine lift (fun _ kk => r_goto i0_318 kk) ?_
  exact ⟨_, r_zreturn i0_322 rfl (by first | decide | simp), leB rfl, leB rfl⟩
set_option maxHeartbeats 4000000 in
theorem fin021 {l : Launch} {Z : State} {a0 : Array Value} {n0 : Nat} (hw : HW Z a0) (p0 p1 : Int64) (p2 p3 a b c d : Int32) (ha : 0 ≤ a.toInt ∧ a.toInt ≤ 127) (hb : 0 ≤ b.toInt ∧ b.toInt ≤ 127) (hc : 0 ≤ c.toInt ∧ c.toInt ≤ 127) (hd : 0 ≤ d.toInt ∧ d.toInt ≤ 127) : RunsB K l Z n0 m0 68 [.val (.long p0), .second, .val (.long p1), .second, .val (.int p2), .val (.int p3), .val (.int a), .val (.int b), .val (.int c), .val (.int d), .val (.int 2), .val (.int 0), .val (.int 1), .unset, .unset, .unset, .unset, .unset, .unset] [] [] (some (.int 1)) 16 128 := by
  refine lift (fun _ kk => s0_68 hw (a := 0) (H1 := [_]) rfl rfl kk) ?_
  refine lift (fun _ kk => r_dup i0_71 rfl kk) ?_
  refine lift (fun _ kk => r_iconst i0_72 kk) ?_
  refine lift (fun _ kk => r_iconst i0_73 kk) ?_
  refine lift (fun _ kk => s0_74 hw (H1 := [_, _, _]) (init_m hw) rfl (leB rfl) kk) ?_
  refine lift (fun _ kk => r_astore (ls' := [_, _, _, _, _, _, _, _, _, _, _, _, _, _, _, _, _, _, _]) i0_77 rfl rfl rfl kk) ?_
  refine lift (fun _ kk => r_iload i0_79 rfl kk) ?_
  refine lift (fun _ kk => r_ifT i0_81 (XT.i0_eq_t (by decide)) kk) ?_
  refine lift (fun _ kk => r_aload i0_91 rfl rfl kk) ?_
  refine lift (fun _ kk => s0_93 hw (H1 := [_, _, _]) rfl (end_m hw (c' := 1) (ss' := [_, _, _]) (i := 1) (by decide) (by decide) rfl ⟨by decide, by decide⟩ (ltB rfl) rfl) rfl (leB rfl) kk) ?_
  refine lift (fun _ kk => r_iload i0_96 rfl kk) ?_
  refine lift (fun _ kk => r_iconst i0_98 kk) ?_
  refine lift (fun _ kk => r_icF i0_99 (XT.ii_lt_f (by decide)) kk) ?_
  refine lift (fun _ kk => r_aload i0_102 rfl rfl kk) ?_
  refine lift (fun _ kk => r_iload i0_104 rfl kk) ?_
  refine lift (fun _ kk => s0_106 hw (H1 := [_, _, _]) rfl (add_m hw (s' := 1) (vs' := [_, _, _, _]) (i := 0) (by decide) (by decide) rfl ⟨by decide, by decide⟩ (ltB rfl) rfl) rfl (leB rfl) kk) ?_
  refine lift (fun _ kk => r_iload i0_109 rfl kk) ?_
  refine lift (fun _ kk => r_iconst i0_111 kk) ?_
  refine lift (fun _ kk => r_icF i0_112 (XT.ii_lt_f (by decide)) kk) ?_
  refine lift (fun _ kk => r_aload i0_115 rfl rfl kk) ?_
  refine lift (fun _ kk => r_iload i0_117 rfl kk) ?_
  refine lift (fun _ kk => s0_119 hw (H1 := [_, _, _]) rfl (add_m hw (s' := 2) (vs' := [_, _, _, _]) (i := 1) (by decide) (by decide) rfl ⟨by decide, by decide⟩ (ltB rfl) rfl) rfl (leB rfl) kk) ?_
  refine lift (fun _ kk => r_iload i0_122 rfl kk) ?_
  refine lift (fun _ kk => r_iconst i0_124 kk) ?_
  refine lift (fun _ kk => r_icT i0_125 (XT.ii_lt_t (by decide)) kk) ?_
  refine lift (fun _ kk => r_aload i0_135 rfl rfl kk) ?_
  refine lift (fun _ kk => s0_137 hw (H1 := [_, _, _]) rfl (end_m hw (c' := 2) (ss' := [_, _, _]) (i := 2) (by decide) (by decide) rfl ⟨by decide, by decide⟩ (ltB rfl) rfl) rfl (leB rfl) kk) ?_
  refine lift (fun _ kk => r_iconst i0_140 kk) ?_
  refine lift (fun _ kk => s0_141 hw (a := 3) (o := [.long 0, .long 0]) (H1 := [_, _, _, _]) (by decide) (by decide) rfl rfl rfl kk) ?_
  refine lift (fun _ kk => r_astore (ls' := [_, _, _, _, _, _, _, _, _, _, _, _, _, _, _, _, _, _, _]) i0_143 rfl rfl rfl kk) ?_
  refine lift (fun _ kk => r_aload i0_145 rfl rfl kk) ?_
  refine lift (fun _ kk => r_iconst i0_147 kk) ?_
  refine lift (fun _ kk => r_lloadN i0_148 rfl kk) ?_
  refine lift (fun _ kk => r_lastore (i := 0) (vs' := [_, _]) (H1 := [_, _, _, _]) i0_149 rfl ⟨by decide, by decide⟩ (ltB rfl) rfl rfl kk) ?_
  refine lift (fun _ kk => r_aload i0_150 rfl rfl kk) ?_
  refine lift (fun _ kk => r_iconst i0_152 kk) ?_
  refine lift (fun _ kk => r_lloadN i0_153 rfl kk) ?_
  refine lift (fun _ kk => r_lastore (i := 1) (vs' := [_, _]) (H1 := [_, _, _, _]) i0_154 rfl ⟨by decide, by decide⟩ (ltB rfl) rfl rfl kk) ?_
  refine lift (fun _ kk => r_aload i0_155 rfl rfl kk) ?_
  refine lift (fun _ kk => r_iload i0_157 rfl kk) ?_
  refine lift (fun _ kk => r_aload i0_159 rfl rfl kk) ?_
  refine lift (fun _ kk => s0_161 hw (H1 := [_, _, _, _]) rfl (rem102 hw rfl rfl rfl hb rfl hc) rfl (leB rfl) kk) ?_
  refine lift (fun _ kk => r_lloadN i0_164 rfl kk) ?_
  refine lift (fun _ kk => r_lstore (ls' := [_, _, _, _, _, _, _, _, _, _, _, _, _, _, _, _, _, _, _]) i0_165 rfl rfl kk) ?_
  refine lift (fun _ kk => r_lloadN i0_167 rfl kk) ?_
  refine lift (fun _ kk => r_lstore (ls' := [_, _, _, _, _, _, _, _, _, _, _, _, _, _, _, _, _, _, _]) i0_168 rfl rfl kk) ?_
  refine lift (fun _ kk => r_iload i0_170 rfl kk) ?_
  refine lift (fun _ kk => r_ifT i0_172 (XT.i0_ne_t (by decide)) kk) ?_
  refine lift (fun _ kk => r_iload i0_203 rfl kk) ?_
  refine lift (fun _ kk => r_iconst i0_205 kk) ?_
  refine lift (fun _ kk => r_icF i0_206 (XT.ii_lt_f (by decide)) kk) ?_
  refine lift (fun _ kk => r_lload i0_209 rfl kk) ?_
  refine lift (fun _ kk => r_iconst i0_211 kk) ?_
  refine lift (fun _ kk => r_iload i0_212 rfl kk) ?_
  refine lift (fun _ kk => s0_214 hw (H1 := [_, _, _, _]) (c7 hw _ _ _) rfl (leB rfl) kk) ?_
  refine lift (fun _ kk => r_lstore (ls' := [_, _, _, _, _, _, _, _, _, _, _, _, _, _, _, _, _, _, _]) i0_217 rfl rfl kk) ?_
  refine lift (fun _ kk => r_lload i0_219 rfl kk) ?_
  refine lift (fun _ kk => r_iconst i0_221 kk) ?_
  refine lift (fun _ kk => r_iload i0_222 rfl kk) ?_
  refine lift (fun _ kk => s0_224 hw (H1 := [_, _, _, _]) (c7 hw _ _ _) rfl (leB rfl) kk) ?_
  refine lift (fun _ kk => r_lstore (ls' := [_, _, _, _, _, _, _, _, _, _, _, _, _, _, _, _, _, _, _]) i0_227 rfl rfl kk) ?_
  refine lift (fun _ kk => r_iload i0_229 rfl kk) ?_
  refine lift (fun _ kk => r_iconst i0_231 kk) ?_
  refine lift (fun _ kk => r_icF i0_232 (XT.ii_lt_f (by decide)) kk) ?_
  refine lift (fun _ kk => r_lload i0_235 rfl kk) ?_
  refine lift (fun _ kk => r_iconst i0_237 kk) ?_
  refine lift (fun _ kk => r_iload i0_238 rfl kk) ?_
  refine lift (fun _ kk => s0_240 hw (H1 := [_, _, _, _]) (c7 hw _ _ _) rfl (leB rfl) kk) ?_
  refine lift (fun _ kk => r_lstore (ls' := [_, _, _, _, _, _, _, _, _, _, _, _, _, _, _, _, _, _, _]) i0_243 rfl rfl kk) ?_
  refine lift (fun _ kk => r_lload i0_245 rfl kk) ?_
  refine lift (fun _ kk => r_iconst i0_247 kk) ?_
  refine lift (fun _ kk => r_iload i0_248 rfl kk) ?_
  refine lift (fun _ kk => s0_250 hw (H1 := [_, _, _, _]) (c7 hw _ _ _) rfl (leB rfl) kk) ?_
  refine lift (fun _ kk => r_lstore (ls' := [_, _, _, _, _, _, _, _, _, _, _, _, _, _, _, _, _, _, _]) i0_253 rfl rfl kk) ?_
  refine lift (fun _ kk => r_iload i0_255 rfl kk) ?_
  refine lift (fun _ kk => r_iconst i0_257 kk) ?_
  refine lift (fun _ kk => r_icT i0_258 (XT.ii_lt_t (by decide)) kk) ?_
  refine lift (fun _ kk => r_aload i0_281 rfl rfl kk) ?_
  refine lift (fun _ kk => r_len (n := 2) i0_283 rfl rfl kk) ?_
  refine lift (fun _ kk => r_iconst i0_284 kk) ?_
  refine lift (fun _ kk => r_icF i0_285 (XT.ii_ne_f (by decide)) kk) ?_
  refine lift (fun _ kk => r_aload i0_288 rfl rfl kk) ?_
  refine lift (fun _ kk => r_iconst i0_290 kk) ?_
  refine lift (fun _ kk => r_laload (i := 0) i0_291 rfl ⟨by decide, by decide⟩ rfl kk) ?_
  refine lift (fun _ kk => r_lload i0_292 rfl kk) ?_
  refine lift (fun _ kk => r_lcmp i0_294 kk) ?_
  refine lift (fun _ kk => r_ifF i0_295 (XT.ll_ne_f rfl) kk) ?_
  refine lift (fun _ kk => r_aload i0_298 rfl rfl kk) ?_
  refine lift (fun _ kk => r_iconst i0_300 kk) ?_
  refine lift (fun _ kk => r_laload (i := 1) i0_301 rfl ⟨by decide, by decide⟩ rfl kk) ?_
  refine lift (fun _ kk => r_lload i0_302 rfl kk) ?_
  refine lift (fun _ kk => r_lcmp i0_304 kk) ?_
  refine lift (fun _ kk => r_ifF i0_305 (XT.ll_ne_f rfl) kk) ?_
  refine lift (fun _ kk => r_aload i0_308 rfl rfl kk) ?_
  refine lift (fun _ kk => s0_310 hw (H1 := [_, _, _, _]) rfl (count_m hw) rfl (leB rfl) kk) ?_
  refine lift (fun _ kk => r_iconst i0_313 kk) ?_
  refine lift (fun _ kk => r_icF i0_314 (XT.ii_ne_f (by decide)) kk) ?_
  refine lift (fun _ kk => r_iconst i0_317 kk) ?_
  refine lift (fun _ kk => r_goto i0_318 kk) ?_
  exact ⟨_, r_zreturn i0_322 rfl (by first | decide | simp), leB rfl, leB rfl⟩
set_option maxHeartbeats 4000000 in
theorem fin030 {l : Launch} {Z : State} {a0 : Array Value} {n0 : Nat} (hw : HW Z a0) (p0 p1 : Int64) (p2 p3 a b c d : Int32) (ha : 0 ≤ a.toInt ∧ a.toInt ≤ 127) (hb : 0 ≤ b.toInt ∧ b.toInt ≤ 127) (hc : 0 ≤ c.toInt ∧ c.toInt ≤ 127) (hd : 0 ≤ d.toInt ∧ d.toInt ≤ 127) : RunsB K l Z n0 m0 68 [.val (.long p0), .second, .val (.long p1), .second, .val (.int p2), .val (.int p3), .val (.int a), .val (.int b), .val (.int c), .val (.int d), .val (.int 3), .val (.int 0), .val (.int 0), .unset, .unset, .unset, .unset, .unset, .unset] [] [] (some (.int 1)) 16 128 := by
  refine lift (fun _ kk => s0_68 hw (a := 0) (H1 := [_]) rfl rfl kk) ?_
  refine lift (fun _ kk => r_dup i0_71 rfl kk) ?_
  refine lift (fun _ kk => r_iconst i0_72 kk) ?_
  refine lift (fun _ kk => r_iconst i0_73 kk) ?_
  refine lift (fun _ kk => s0_74 hw (H1 := [_, _, _]) (init_m hw) rfl (leB rfl) kk) ?_
  refine lift (fun _ kk => r_astore (ls' := [_, _, _, _, _, _, _, _, _, _, _, _, _, _, _, _, _, _, _]) i0_77 rfl rfl rfl kk) ?_
  refine lift (fun _ kk => r_iload i0_79 rfl kk) ?_
  refine lift (fun _ kk => r_ifT i0_81 (XT.i0_eq_t (by decide)) kk) ?_
  refine lift (fun _ kk => r_aload i0_91 rfl rfl kk) ?_
  refine lift (fun _ kk => s0_93 hw (H1 := [_, _, _]) rfl (end_m hw (c' := 1) (ss' := [_, _, _]) (i := 1) (by decide) (by decide) rfl ⟨by decide, by decide⟩ (ltB rfl) rfl) rfl (leB rfl) kk) ?_
  refine lift (fun _ kk => r_iload i0_96 rfl kk) ?_
  refine lift (fun _ kk => r_iconst i0_98 kk) ?_
  refine lift (fun _ kk => r_icF i0_99 (XT.ii_lt_f (by decide)) kk) ?_
  refine lift (fun _ kk => r_aload i0_102 rfl rfl kk) ?_
  refine lift (fun _ kk => r_iload i0_104 rfl kk) ?_
  refine lift (fun _ kk => s0_106 hw (H1 := [_, _, _]) rfl (add_m hw (s' := 1) (vs' := [_, _, _, _]) (i := 0) (by decide) (by decide) rfl ⟨by decide, by decide⟩ (ltB rfl) rfl) rfl (leB rfl) kk) ?_
  refine lift (fun _ kk => r_iload i0_109 rfl kk) ?_
  refine lift (fun _ kk => r_iconst i0_111 kk) ?_
  refine lift (fun _ kk => r_icF i0_112 (XT.ii_lt_f (by decide)) kk) ?_
  refine lift (fun _ kk => r_aload i0_115 rfl rfl kk) ?_
  refine lift (fun _ kk => r_iload i0_117 rfl kk) ?_
  refine lift (fun _ kk => s0_119 hw (H1 := [_, _, _]) rfl (add_m hw (s' := 2) (vs' := [_, _, _, _]) (i := 1) (by decide) (by decide) rfl ⟨by decide, by decide⟩ (ltB rfl) rfl) rfl (leB rfl) kk) ?_
  refine lift (fun _ kk => r_iload i0_122 rfl kk) ?_
  refine lift (fun _ kk => r_iconst i0_124 kk) ?_
  refine lift (fun _ kk => r_icF i0_125 (XT.ii_lt_f (by decide)) kk) ?_
  refine lift (fun _ kk => r_aload i0_128 rfl rfl kk) ?_
  refine lift (fun _ kk => r_iload i0_130 rfl kk) ?_
  refine lift (fun _ kk => s0_132 hw (H1 := [_, _, _]) rfl (add_m hw (s' := 3) (vs' := [_, _, _, _]) (i := 2) (by decide) (by decide) rfl ⟨by decide, by decide⟩ (ltB rfl) rfl) rfl (leB rfl) kk) ?_
  refine lift (fun _ kk => r_aload i0_135 rfl rfl kk) ?_
  refine lift (fun _ kk => s0_137 hw (H1 := [_, _, _]) rfl (end_m hw (c' := 2) (ss' := [_, _, _]) (i := 2) (by decide) (by decide) rfl ⟨by decide, by decide⟩ (ltB rfl) rfl) rfl (leB rfl) kk) ?_
  refine lift (fun _ kk => r_iconst i0_140 kk) ?_
  refine lift (fun _ kk => s0_141 hw (a := 3) (o := [.long 0, .long 0]) (H1 := [_, _, _, _]) (by decide) (by decide) rfl rfl rfl kk) ?_
  refine lift (fun _ kk => r_astore (ls' := [_, _, _, _, _, _, _, _, _, _, _, _, _, _, _, _, _, _, _]) i0_143 rfl rfl rfl kk) ?_
  refine lift (fun _ kk => r_aload i0_145 rfl rfl kk) ?_
  refine lift (fun _ kk => r_iconst i0_147 kk) ?_
  refine lift (fun _ kk => r_lloadN i0_148 rfl kk) ?_
  refine lift (fun _ kk => r_lastore (i := 0) (vs' := [_, _]) (H1 := [_, _, _, _]) i0_149 rfl ⟨by decide, by decide⟩ (ltB rfl) rfl rfl kk) ?_
  refine lift (fun _ kk => r_aload i0_150 rfl rfl kk) ?_
  refine lift (fun _ kk => r_iconst i0_152 kk) ?_
  refine lift (fun _ kk => r_lloadN i0_153 rfl kk) ?_
  refine lift (fun _ kk => r_lastore (i := 1) (vs' := [_, _]) (H1 := [_, _, _, _]) i0_154 rfl ⟨by decide, by decide⟩ (ltB rfl) rfl rfl kk) ?_
  refine lift (fun _ kk => r_aload i0_155 rfl rfl kk) ?_
  refine lift (fun _ kk => r_iload i0_157 rfl kk) ?_
  refine lift (fun _ kk => r_aload i0_159 rfl rfl kk) ?_
  refine lift (fun _ kk => s0_161 hw (H1 := [_, _, _, _]) rfl (rem000 hw rfl rfl ) rfl (leB rfl) kk) ?_
  refine lift (fun _ kk => r_lloadN i0_164 rfl kk) ?_
  refine lift (fun _ kk => r_lstore (ls' := [_, _, _, _, _, _, _, _, _, _, _, _, _, _, _, _, _, _, _]) i0_165 rfl rfl kk) ?_
  refine lift (fun _ kk => r_lloadN i0_167 rfl kk) ?_
  refine lift (fun _ kk => r_lstore (ls' := [_, _, _, _, _, _, _, _, _, _, _, _, _, _, _, _, _, _, _]) i0_168 rfl rfl kk) ?_
  refine lift (fun _ kk => r_iload i0_170 rfl kk) ?_
  refine lift (fun _ kk => r_ifF i0_172 (XT.i0_ne_f (by decide)) kk) ?_
  refine lift (fun _ kk => r_iload i0_175 rfl kk) ?_
  refine lift (fun _ kk => r_ifT i0_177 (XT.i0_eq_t (by decide)) kk) ?_
  refine lift (fun _ kk => r_aload i0_281 rfl rfl kk) ?_
  refine lift (fun _ kk => r_len (n := 2) i0_283 rfl rfl kk) ?_
  refine lift (fun _ kk => r_iconst i0_284 kk) ?_
  refine lift (fun _ kk => r_icF i0_285 (XT.ii_ne_f (by decide)) kk) ?_
  refine lift (fun _ kk => r_aload i0_288 rfl rfl kk) ?_
  refine lift (fun _ kk => r_iconst i0_290 kk) ?_
  refine lift (fun _ kk => r_laload (i := 0) i0_291 rfl ⟨by decide, by decide⟩ rfl kk) ?_
  refine lift (fun _ kk => r_lload i0_292 rfl kk) ?_
  refine lift (fun _ kk => r_lcmp i0_294 kk) ?_
  refine lift (fun _ kk => r_ifF i0_295 (XT.ll_ne_f rfl) kk) ?_
  refine lift (fun _ kk => r_aload i0_298 rfl rfl kk) ?_
  refine lift (fun _ kk => r_iconst i0_300 kk) ?_
  refine lift (fun _ kk => r_laload (i := 1) i0_301 rfl ⟨by decide, by decide⟩ rfl kk) ?_
  refine lift (fun _ kk => r_lload i0_302 rfl kk) ?_
  refine lift (fun _ kk => r_lcmp i0_304 kk) ?_
  refine lift (fun _ kk => r_ifF i0_305 (XT.ll_ne_f rfl) kk) ?_
  refine lift (fun _ kk => r_aload i0_308 rfl rfl kk) ?_
  refine lift (fun _ kk => s0_310 hw (H1 := [_, _, _, _]) rfl (count_m hw) rfl (leB rfl) kk) ?_
  refine lift (fun _ kk => r_iconst i0_313 kk) ?_
  refine lift (fun _ kk => r_icF i0_314 (XT.ii_ne_f (by decide)) kk) ?_
  refine lift (fun _ kk => r_iconst i0_317 kk) ?_
  refine lift (fun _ kk => r_goto i0_318 kk) ?_
  exact ⟨_, r_zreturn i0_322 rfl (by first | decide | simp), leB rfl, leB rfl⟩
set_option maxHeartbeats 4000000 in
theorem fin031 {l : Launch} {Z : State} {a0 : Array Value} {n0 : Nat} (hw : HW Z a0) (p0 p1 : Int64) (p2 p3 a b c d : Int32) (ha : 0 ≤ a.toInt ∧ a.toInt ≤ 127) (hb : 0 ≤ b.toInt ∧ b.toInt ≤ 127) (hc : 0 ≤ c.toInt ∧ c.toInt ≤ 127) (hd : 0 ≤ d.toInt ∧ d.toInt ≤ 127) : RunsB K l Z n0 m0 68 [.val (.long p0), .second, .val (.long p1), .second, .val (.int p2), .val (.int p3), .val (.int a), .val (.int b), .val (.int c), .val (.int d), .val (.int 3), .val (.int 0), .val (.int 1), .unset, .unset, .unset, .unset, .unset, .unset] [] [] (some (.int 1)) 16 128 := by
  refine lift (fun _ kk => s0_68 hw (a := 0) (H1 := [_]) rfl rfl kk) ?_
  refine lift (fun _ kk => r_dup i0_71 rfl kk) ?_
  refine lift (fun _ kk => r_iconst i0_72 kk) ?_
  refine lift (fun _ kk => r_iconst i0_73 kk) ?_
  refine lift (fun _ kk => s0_74 hw (H1 := [_, _, _]) (init_m hw) rfl (leB rfl) kk) ?_
  refine lift (fun _ kk => r_astore (ls' := [_, _, _, _, _, _, _, _, _, _, _, _, _, _, _, _, _, _, _]) i0_77 rfl rfl rfl kk) ?_
  refine lift (fun _ kk => r_iload i0_79 rfl kk) ?_
  refine lift (fun _ kk => r_ifT i0_81 (XT.i0_eq_t (by decide)) kk) ?_
  refine lift (fun _ kk => r_aload i0_91 rfl rfl kk) ?_
  refine lift (fun _ kk => s0_93 hw (H1 := [_, _, _]) rfl (end_m hw (c' := 1) (ss' := [_, _, _]) (i := 1) (by decide) (by decide) rfl ⟨by decide, by decide⟩ (ltB rfl) rfl) rfl (leB rfl) kk) ?_
  refine lift (fun _ kk => r_iload i0_96 rfl kk) ?_
  refine lift (fun _ kk => r_iconst i0_98 kk) ?_
  refine lift (fun _ kk => r_icF i0_99 (XT.ii_lt_f (by decide)) kk) ?_
  refine lift (fun _ kk => r_aload i0_102 rfl rfl kk) ?_
  refine lift (fun _ kk => r_iload i0_104 rfl kk) ?_
  refine lift (fun _ kk => s0_106 hw (H1 := [_, _, _]) rfl (add_m hw (s' := 1) (vs' := [_, _, _, _]) (i := 0) (by decide) (by decide) rfl ⟨by decide, by decide⟩ (ltB rfl) rfl) rfl (leB rfl) kk) ?_
  refine lift (fun _ kk => r_iload i0_109 rfl kk) ?_
  refine lift (fun _ kk => r_iconst i0_111 kk) ?_
  refine lift (fun _ kk => r_icF i0_112 (XT.ii_lt_f (by decide)) kk) ?_
  refine lift (fun _ kk => r_aload i0_115 rfl rfl kk) ?_
  refine lift (fun _ kk => r_iload i0_117 rfl kk) ?_
  refine lift (fun _ kk => s0_119 hw (H1 := [_, _, _]) rfl (add_m hw (s' := 2) (vs' := [_, _, _, _]) (i := 1) (by decide) (by decide) rfl ⟨by decide, by decide⟩ (ltB rfl) rfl) rfl (leB rfl) kk) ?_
  refine lift (fun _ kk => r_iload i0_122 rfl kk) ?_
  refine lift (fun _ kk => r_iconst i0_124 kk) ?_
  refine lift (fun _ kk => r_icF i0_125 (XT.ii_lt_f (by decide)) kk) ?_
  refine lift (fun _ kk => r_aload i0_128 rfl rfl kk) ?_
  refine lift (fun _ kk => r_iload i0_130 rfl kk) ?_
  refine lift (fun _ kk => s0_132 hw (H1 := [_, _, _]) rfl (add_m hw (s' := 3) (vs' := [_, _, _, _]) (i := 2) (by decide) (by decide) rfl ⟨by decide, by decide⟩ (ltB rfl) rfl) rfl (leB rfl) kk) ?_
  refine lift (fun _ kk => r_aload i0_135 rfl rfl kk) ?_
  refine lift (fun _ kk => s0_137 hw (H1 := [_, _, _]) rfl (end_m hw (c' := 2) (ss' := [_, _, _]) (i := 2) (by decide) (by decide) rfl ⟨by decide, by decide⟩ (ltB rfl) rfl) rfl (leB rfl) kk) ?_
  refine lift (fun _ kk => r_iconst i0_140 kk) ?_
  refine lift (fun _ kk => s0_141 hw (a := 3) (o := [.long 0, .long 0]) (H1 := [_, _, _, _]) (by decide) (by decide) rfl rfl rfl kk) ?_
  refine lift (fun _ kk => r_astore (ls' := [_, _, _, _, _, _, _, _, _, _, _, _, _, _, _, _, _, _, _]) i0_143 rfl rfl rfl kk) ?_
  refine lift (fun _ kk => r_aload i0_145 rfl rfl kk) ?_
  refine lift (fun _ kk => r_iconst i0_147 kk) ?_
  refine lift (fun _ kk => r_lloadN i0_148 rfl kk) ?_
  refine lift (fun _ kk => r_lastore (i := 0) (vs' := [_, _]) (H1 := [_, _, _, _]) i0_149 rfl ⟨by decide, by decide⟩ (ltB rfl) rfl rfl kk) ?_
  refine lift (fun _ kk => r_aload i0_150 rfl rfl kk) ?_
  refine lift (fun _ kk => r_iconst i0_152 kk) ?_
  refine lift (fun _ kk => r_lloadN i0_153 rfl kk) ?_
  refine lift (fun _ kk => r_lastore (i := 1) (vs' := [_, _]) (H1 := [_, _, _, _]) i0_154 rfl ⟨by decide, by decide⟩ (ltB rfl) rfl rfl kk) ?_
  refine lift (fun _ kk => r_aload i0_155 rfl rfl kk) ?_
  refine lift (fun _ kk => r_iload i0_157 rfl kk) ?_
  refine lift (fun _ kk => r_aload i0_159 rfl rfl kk) ?_
  refine lift (fun _ kk => s0_161 hw (H1 := [_, _, _, _]) rfl (rem103 hw rfl rfl rfl hb rfl hc rfl hd) rfl (leB rfl) kk) ?_
  refine lift (fun _ kk => r_lloadN i0_164 rfl kk) ?_
  refine lift (fun _ kk => r_lstore (ls' := [_, _, _, _, _, _, _, _, _, _, _, _, _, _, _, _, _, _, _]) i0_165 rfl rfl kk) ?_
  refine lift (fun _ kk => r_lloadN i0_167 rfl kk) ?_
  refine lift (fun _ kk => r_lstore (ls' := [_, _, _, _, _, _, _, _, _, _, _, _, _, _, _, _, _, _, _]) i0_168 rfl rfl kk) ?_
  refine lift (fun _ kk => r_iload i0_170 rfl kk) ?_
  refine lift (fun _ kk => r_ifT i0_172 (XT.i0_ne_t (by decide)) kk) ?_
  refine lift (fun _ kk => r_iload i0_203 rfl kk) ?_
  refine lift (fun _ kk => r_iconst i0_205 kk) ?_
  refine lift (fun _ kk => r_icF i0_206 (XT.ii_lt_f (by decide)) kk) ?_
  refine lift (fun _ kk => r_lload i0_209 rfl kk) ?_
  refine lift (fun _ kk => r_iconst i0_211 kk) ?_
  refine lift (fun _ kk => r_iload i0_212 rfl kk) ?_
  refine lift (fun _ kk => s0_214 hw (H1 := [_, _, _, _]) (c7 hw _ _ _) rfl (leB rfl) kk) ?_
  refine lift (fun _ kk => r_lstore (ls' := [_, _, _, _, _, _, _, _, _, _, _, _, _, _, _, _, _, _, _]) i0_217 rfl rfl kk) ?_
  refine lift (fun _ kk => r_lload i0_219 rfl kk) ?_
  refine lift (fun _ kk => r_iconst i0_221 kk) ?_
  refine lift (fun _ kk => r_iload i0_222 rfl kk) ?_
  refine lift (fun _ kk => s0_224 hw (H1 := [_, _, _, _]) (c7 hw _ _ _) rfl (leB rfl) kk) ?_
  refine lift (fun _ kk => r_lstore (ls' := [_, _, _, _, _, _, _, _, _, _, _, _, _, _, _, _, _, _, _]) i0_227 rfl rfl kk) ?_
  refine lift (fun _ kk => r_iload i0_229 rfl kk) ?_
  refine lift (fun _ kk => r_iconst i0_231 kk) ?_
  refine lift (fun _ kk => r_icF i0_232 (XT.ii_lt_f (by decide)) kk) ?_
  refine lift (fun _ kk => r_lload i0_235 rfl kk) ?_
  refine lift (fun _ kk => r_iconst i0_237 kk) ?_
  refine lift (fun _ kk => r_iload i0_238 rfl kk) ?_
  refine lift (fun _ kk => s0_240 hw (H1 := [_, _, _, _]) (c7 hw _ _ _) rfl (leB rfl) kk) ?_
  refine lift (fun _ kk => r_lstore (ls' := [_, _, _, _, _, _, _, _, _, _, _, _, _, _, _, _, _, _, _]) i0_243 rfl rfl kk) ?_
  refine lift (fun _ kk => r_lload i0_245 rfl kk) ?_
  refine lift (fun _ kk => r_iconst i0_247 kk) ?_
  refine lift (fun _ kk => r_iload i0_248 rfl kk) ?_
  refine lift (fun _ kk => s0_250 hw (H1 := [_, _, _, _]) (c7 hw _ _ _) rfl (leB rfl) kk) ?_
  refine lift (fun _ kk => r_lstore (ls' := [_, _, _, _, _, _, _, _, _, _, _, _, _, _, _, _, _, _, _]) i0_253 rfl rfl kk) ?_
  refine lift (fun _ kk => r_iload i0_255 rfl kk) ?_
  refine lift (fun _ kk => r_iconst i0_257 kk) ?_
  refine lift (fun _ kk => r_icF i0_258 (XT.ii_lt_f (by decide)) kk) ?_
  refine lift (fun _ kk => r_lload i0_261 rfl kk) ?_
  refine lift (fun _ kk => r_iconst i0_263 kk) ?_
  refine lift (fun _ kk => r_iload i0_264 rfl kk) ?_
  refine lift (fun _ kk => s0_266 hw (H1 := [_, _, _, _]) (c7 hw _ _ _) rfl (leB rfl) kk) ?_
  refine lift (fun _ kk => r_lstore (ls' := [_, _, _, _, _, _, _, _, _, _, _, _, _, _, _, _, _, _, _]) i0_269 rfl rfl kk) ?_
  refine lift (fun _ kk => r_lload i0_271 rfl kk) ?_
  refine lift (fun _ kk => r_iconst i0_273 kk) ?_
  refine lift (fun _ kk => r_iload i0_274 rfl kk) ?_
  refine lift (fun _ kk => s0_276 hw (H1 := [_, _, _, _]) (c7 hw _ _ _) rfl (leB rfl) kk) ?_
  refine lift (fun _ kk => r_lstore (ls' := [_, _, _, _, _, _, _, _, _, _, _, _, _, _, _, _, _, _, _]) i0_279 rfl rfl kk) ?_
  refine lift (fun _ kk => r_aload i0_281 rfl rfl kk) ?_
  refine lift (fun _ kk => r_len (n := 2) i0_283 rfl rfl kk) ?_
  refine lift (fun _ kk => r_iconst i0_284 kk) ?_
  refine lift (fun _ kk => r_icF i0_285 (XT.ii_ne_f (by decide)) kk) ?_
  refine lift (fun _ kk => r_aload i0_288 rfl rfl kk) ?_
  refine lift (fun _ kk => r_iconst i0_290 kk) ?_
  refine lift (fun _ kk => r_laload (i := 0) i0_291 rfl ⟨by decide, by decide⟩ rfl kk) ?_
  refine lift (fun _ kk => r_lload i0_292 rfl kk) ?_
  refine lift (fun _ kk => r_lcmp i0_294 kk) ?_
  refine lift (fun _ kk => r_ifF i0_295 (XT.ll_ne_f rfl) kk) ?_
  refine lift (fun _ kk => r_aload i0_298 rfl rfl kk) ?_
  refine lift (fun _ kk => r_iconst i0_300 kk) ?_
  refine lift (fun _ kk => r_laload (i := 1) i0_301 rfl ⟨by decide, by decide⟩ rfl kk) ?_
  refine lift (fun _ kk => r_lload i0_302 rfl kk) ?_
  refine lift (fun _ kk => r_lcmp i0_304 kk) ?_
  refine lift (fun _ kk => r_ifF i0_305 (XT.ll_ne_f rfl) kk) ?_
  refine lift (fun _ kk => r_aload i0_308 rfl rfl kk) ?_
  refine lift (fun _ kk => s0_310 hw (H1 := [_, _, _, _]) rfl (count_m hw) rfl (leB rfl) kk) ?_
  refine lift (fun _ kk => r_iconst i0_313 kk) ?_
  refine lift (fun _ kk => r_icF i0_314 (XT.ii_ne_f (by decide)) kk) ?_
  refine lift (fun _ kk => r_iconst i0_317 kk) ?_
  refine lift (fun _ kk => r_goto i0_318 kk) ?_
  exact ⟨_, r_zreturn i0_322 rfl (by first | decide | simp), leB rfl, leB rfl⟩
set_option maxHeartbeats 4000000 in
theorem fin100 {l : Launch} {Z : State} {a0 : Array Value} {n0 : Nat} (hw : HW Z a0) (p0 p1 : Int64) (p2 p3 a b c d : Int32) (ha : 0 ≤ a.toInt ∧ a.toInt ≤ 127) (hb : 0 ≤ b.toInt ∧ b.toInt ≤ 127) (hc : 0 ≤ c.toInt ∧ c.toInt ≤ 127) (hd : 0 ≤ d.toInt ∧ d.toInt ≤ 127) : RunsB K l Z n0 m0 68 [.val (.long p0), .second, .val (.long p1), .second, .val (.int p2), .val (.int p3), .val (.int a), .val (.int b), .val (.int c), .val (.int d), .val (.int 0), .val (.int 1), .val (.int 0), .unset, .unset, .unset, .unset, .unset, .unset] [] [] (some (.int 1)) 16 128 := by
  refine lift (fun _ kk => s0_68 hw (a := 0) (H1 := [_]) rfl rfl kk) ?_
  refine lift (fun _ kk => r_dup i0_71 rfl kk) ?_
  refine lift (fun _ kk => r_iconst i0_72 kk) ?_
  refine lift (fun _ kk => r_iconst i0_73 kk) ?_
  refine lift (fun _ kk => s0_74 hw (H1 := [_, _, _]) (init_m hw) rfl (leB rfl) kk) ?_
  refine lift (fun _ kk => r_astore (ls' := [_, _, _, _, _, _, _, _, _, _, _, _, _, _, _, _, _, _, _]) i0_77 rfl rfl rfl kk) ?_
  refine lift (fun _ kk => r_iload i0_79 rfl kk) ?_
  refine lift (fun _ kk => r_ifF i0_81 (XT.i0_eq_f (by decide)) kk) ?_
  refine lift (fun _ kk => r_aload i0_84 rfl rfl kk) ?_
  refine lift (fun _ kk => r_iload i0_86 rfl kk) ?_
  refine lift (fun _ kk => s0_88 hw (H1 := [_, _, _]) rfl (add_m hw (s' := 1) (vs' := [_, _, _, _]) (i := 0) (by decide) (by decide) rfl ⟨by decide, by decide⟩ (ltB rfl) rfl) rfl (leB rfl) kk) ?_
  refine lift (fun _ kk => r_aload i0_91 rfl rfl kk) ?_
  refine lift (fun _ kk => s0_93 hw (H1 := [_, _, _]) rfl (end_m hw (c' := 1) (ss' := [_, _, _]) (i := 1) (by decide) (by decide) rfl ⟨by decide, by decide⟩ (ltB rfl) rfl) rfl (leB rfl) kk) ?_
  refine lift (fun _ kk => r_iload i0_96 rfl kk) ?_
  refine lift (fun _ kk => r_iconst i0_98 kk) ?_
  refine lift (fun _ kk => r_icT i0_99 (XT.ii_lt_t (by decide)) kk) ?_
  refine lift (fun _ kk => r_iload i0_109 rfl kk) ?_
  refine lift (fun _ kk => r_iconst i0_111 kk) ?_
  refine lift (fun _ kk => r_icT i0_112 (XT.ii_lt_t (by decide)) kk) ?_
  refine lift (fun _ kk => r_iload i0_122 rfl kk) ?_
  refine lift (fun _ kk => r_iconst i0_124 kk) ?_
  refine lift (fun _ kk => r_icT i0_125 (XT.ii_lt_t (by decide)) kk) ?_
  refine lift (fun _ kk => r_aload i0_135 rfl rfl kk) ?_
  refine lift (fun _ kk => s0_137 hw (H1 := [_, _, _]) rfl (end_m hw (c' := 2) (ss' := [_, _, _]) (i := 2) (by decide) (by decide) rfl ⟨by decide, by decide⟩ (ltB rfl) rfl) rfl (leB rfl) kk) ?_
  refine lift (fun _ kk => r_iconst i0_140 kk) ?_
  refine lift (fun _ kk => s0_141 hw (a := 3) (o := [.long 0, .long 0]) (H1 := [_, _, _, _]) (by decide) (by decide) rfl rfl rfl kk) ?_
  refine lift (fun _ kk => r_astore (ls' := [_, _, _, _, _, _, _, _, _, _, _, _, _, _, _, _, _, _, _]) i0_143 rfl rfl rfl kk) ?_
  refine lift (fun _ kk => r_aload i0_145 rfl rfl kk) ?_
  refine lift (fun _ kk => r_iconst i0_147 kk) ?_
  refine lift (fun _ kk => r_lloadN i0_148 rfl kk) ?_
  refine lift (fun _ kk => r_lastore (i := 0) (vs' := [_, _]) (H1 := [_, _, _, _]) i0_149 rfl ⟨by decide, by decide⟩ (ltB rfl) rfl rfl kk) ?_
  refine lift (fun _ kk => r_aload i0_150 rfl rfl kk) ?_
  refine lift (fun _ kk => r_iconst i0_152 kk) ?_
  refine lift (fun _ kk => r_lloadN i0_153 rfl kk) ?_
  refine lift (fun _ kk => r_lastore (i := 1) (vs' := [_, _]) (H1 := [_, _, _, _]) i0_154 rfl ⟨by decide, by decide⟩ (ltB rfl) rfl rfl kk) ?_
  refine lift (fun _ kk => r_aload i0_155 rfl rfl kk) ?_
  refine lift (fun _ kk => r_iload i0_157 rfl kk) ?_
  refine lift (fun _ kk => r_aload i0_159 rfl rfl kk) ?_
  refine lift (fun _ kk => s0_161 hw (H1 := [_, _, _, _]) rfl (rem001 hw rfl rfl rfl ha) rfl (leB rfl) kk) ?_
  refine lift (fun _ kk => r_lloadN i0_164 rfl kk) ?_
  refine lift (fun _ kk => r_lstore (ls' := [_, _, _, _, _, _, _, _, _, _, _, _, _, _, _, _, _, _, _]) i0_165 rfl rfl kk) ?_
  refine lift (fun _ kk => r_lloadN i0_167 rfl kk) ?_
  refine lift (fun _ kk => r_lstore (ls' := [_, _, _, _, _, _, _, _, _, _, _, _, _, _, _, _, _, _, _]) i0_168 rfl rfl kk) ?_
  refine lift (fun _ kk => r_iload i0_170 rfl kk) ?_
  refine lift (fun _ kk => r_ifF i0_172 (XT.i0_ne_f (by decide)) kk) ?_
  refine lift (fun _ kk => r_iload i0_175 rfl kk) ?_
  refine lift (fun _ kk => r_ifF i0_177 (XT.i0_eq_f (by decide)) kk) ?_
  refine lift (fun _ kk => r_lload i0_180 rfl kk) ?_
  refine lift (fun _ kk => r_iconst i0_182 kk) ?_
  refine lift (fun _ kk => r_iload i0_183 rfl kk) ?_
  refine lift (fun _ kk => s0_185 hw (H1 := [_, _, _, _]) (c7 hw _ _ _) rfl (leB rfl) kk) ?_
  refine lift (fun _ kk => r_lstore (ls' := [_, _, _, _, _, _, _, _, _, _, _, _, _, _, _, _, _, _, _]) i0_188 rfl rfl kk) ?_
  refine lift (fun _ kk => r_lload i0_190 rfl kk) ?_
  refine lift (fun _ kk => r_iconst i0_192 kk) ?_
  refine lift (fun _ kk => r_iload i0_193 rfl kk) ?_
  refine lift (fun _ kk => s0_195 hw (H1 := [_, _, _, _]) (c7 hw _ _ _) rfl (leB rfl) kk) ?_
  refine lift (fun _ kk => r_lstore (ls' := [_, _, _, _, _, _, _, _, _, _, _, _, _, _, _, _, _, _, _]) i0_198 rfl rfl kk) ?_
  refine lift (fun _ kk => r_goto i0_200 kk) ?_
  refine lift (fun _ kk => r_aload i0_281 rfl rfl kk) ?_
  refine lift (fun _ kk => r_len (n := 2) i0_283 rfl rfl kk) ?_
  refine lift (fun _ kk => r_iconst i0_284 kk) ?_
  refine lift (fun _ kk => r_icF i0_285 (XT.ii_ne_f (by decide)) kk) ?_
  refine lift (fun _ kk => r_aload i0_288 rfl rfl kk) ?_
  refine lift (fun _ kk => r_iconst i0_290 kk) ?_
  refine lift (fun _ kk => r_laload (i := 0) i0_291 rfl ⟨by decide, by decide⟩ rfl kk) ?_
  refine lift (fun _ kk => r_lload i0_292 rfl kk) ?_
  refine lift (fun _ kk => r_lcmp i0_294 kk) ?_
  refine lift (fun _ kk => r_ifF i0_295 (XT.ll_ne_f rfl) kk) ?_
  refine lift (fun _ kk => r_aload i0_298 rfl rfl kk) ?_
  refine lift (fun _ kk => r_iconst i0_300 kk) ?_
  refine lift (fun _ kk => r_laload (i := 1) i0_301 rfl ⟨by decide, by decide⟩ rfl kk) ?_
  refine lift (fun _ kk => r_lload i0_302 rfl kk) ?_
  refine lift (fun _ kk => r_lcmp i0_304 kk) ?_
  refine lift (fun _ kk => r_ifF i0_305 (XT.ll_ne_f rfl) kk) ?_
  refine lift (fun _ kk => r_aload i0_308 rfl rfl kk) ?_
  refine lift (fun _ kk => s0_310 hw (H1 := [_, _, _, _]) rfl (count_m hw) rfl (leB rfl) kk) ?_
  refine lift (fun _ kk => r_iconst i0_313 kk) ?_
  refine lift (fun _ kk => r_icF i0_314 (XT.ii_ne_f (by decide)) kk) ?_
  refine lift (fun _ kk => r_iconst i0_317 kk) ?_
  refine lift (fun _ kk => r_goto i0_318 kk) ?_
  exact ⟨_, r_zreturn i0_322 rfl (by first | decide | simp), leB rfl, leB rfl⟩
set_option maxHeartbeats 4000000 in
theorem fin101 {l : Launch} {Z : State} {a0 : Array Value} {n0 : Nat} (hw : HW Z a0) (p0 p1 : Int64) (p2 p3 a b c d : Int32) (ha : 0 ≤ a.toInt ∧ a.toInt ≤ 127) (hb : 0 ≤ b.toInt ∧ b.toInt ≤ 127) (hc : 0 ≤ c.toInt ∧ c.toInt ≤ 127) (hd : 0 ≤ d.toInt ∧ d.toInt ≤ 127) : RunsB K l Z n0 m0 68 [.val (.long p0), .second, .val (.long p1), .second, .val (.int p2), .val (.int p3), .val (.int a), .val (.int b), .val (.int c), .val (.int d), .val (.int 0), .val (.int 1), .val (.int 1), .unset, .unset, .unset, .unset, .unset, .unset] [] [] (some (.int 1)) 16 128 := by
  refine lift (fun _ kk => s0_68 hw (a := 0) (H1 := [_]) rfl rfl kk) ?_
  refine lift (fun _ kk => r_dup i0_71 rfl kk) ?_
  refine lift (fun _ kk => r_iconst i0_72 kk) ?_
  refine lift (fun _ kk => r_iconst i0_73 kk) ?_
  refine lift (fun _ kk => s0_74 hw (H1 := [_, _, _]) (init_m hw) rfl (leB rfl) kk) ?_
  refine lift (fun _ kk => r_astore (ls' := [_, _, _, _, _, _, _, _, _, _, _, _, _, _, _, _, _, _, _]) i0_77 rfl rfl rfl kk) ?_
  refine lift (fun _ kk => r_iload i0_79 rfl kk) ?_
  refine lift (fun _ kk => r_ifF i0_81 (XT.i0_eq_f (by decide)) kk) ?_
  refine lift (fun _ kk => r_aload i0_84 rfl rfl kk) ?_
  refine lift (fun _ kk => r_iload i0_86 rfl kk) ?_
  refine lift (fun _ kk => s0_88 hw (H1 := [_, _, _]) rfl (add_m hw (s' := 1) (vs' := [_, _, _, _]) (i := 0) (by decide) (by decide) rfl ⟨by decide, by decide⟩ (ltB rfl) rfl) rfl (leB rfl) kk) ?_
  refine lift (fun _ kk => r_aload i0_91 rfl rfl kk) ?_
  refine lift (fun _ kk => s0_93 hw (H1 := [_, _, _]) rfl (end_m hw (c' := 1) (ss' := [_, _, _]) (i := 1) (by decide) (by decide) rfl ⟨by decide, by decide⟩ (ltB rfl) rfl) rfl (leB rfl) kk) ?_
  refine lift (fun _ kk => r_iload i0_96 rfl kk) ?_
  refine lift (fun _ kk => r_iconst i0_98 kk) ?_
  refine lift (fun _ kk => r_icT i0_99 (XT.ii_lt_t (by decide)) kk) ?_
  refine lift (fun _ kk => r_iload i0_109 rfl kk) ?_
  refine lift (fun _ kk => r_iconst i0_111 kk) ?_
  refine lift (fun _ kk => r_icT i0_112 (XT.ii_lt_t (by decide)) kk) ?_
  refine lift (fun _ kk => r_iload i0_122 rfl kk) ?_
  refine lift (fun _ kk => r_iconst i0_124 kk) ?_
  refine lift (fun _ kk => r_icT i0_125 (XT.ii_lt_t (by decide)) kk) ?_
  refine lift (fun _ kk => r_aload i0_135 rfl rfl kk) ?_
  refine lift (fun _ kk => s0_137 hw (H1 := [_, _, _]) rfl (end_m hw (c' := 2) (ss' := [_, _, _]) (i := 2) (by decide) (by decide) rfl ⟨by decide, by decide⟩ (ltB rfl) rfl) rfl (leB rfl) kk) ?_
  refine lift (fun _ kk => r_iconst i0_140 kk) ?_
  refine lift (fun _ kk => s0_141 hw (a := 3) (o := [.long 0, .long 0]) (H1 := [_, _, _, _]) (by decide) (by decide) rfl rfl rfl kk) ?_
  refine lift (fun _ kk => r_astore (ls' := [_, _, _, _, _, _, _, _, _, _, _, _, _, _, _, _, _, _, _]) i0_143 rfl rfl rfl kk) ?_
  refine lift (fun _ kk => r_aload i0_145 rfl rfl kk) ?_
  refine lift (fun _ kk => r_iconst i0_147 kk) ?_
  refine lift (fun _ kk => r_lloadN i0_148 rfl kk) ?_
  refine lift (fun _ kk => r_lastore (i := 0) (vs' := [_, _]) (H1 := [_, _, _, _]) i0_149 rfl ⟨by decide, by decide⟩ (ltB rfl) rfl rfl kk) ?_
  refine lift (fun _ kk => r_aload i0_150 rfl rfl kk) ?_
  refine lift (fun _ kk => r_iconst i0_152 kk) ?_
  refine lift (fun _ kk => r_lloadN i0_153 rfl kk) ?_
  refine lift (fun _ kk => r_lastore (i := 1) (vs' := [_, _]) (H1 := [_, _, _, _]) i0_154 rfl ⟨by decide, by decide⟩ (ltB rfl) rfl rfl kk) ?_
  refine lift (fun _ kk => r_aload i0_155 rfl rfl kk) ?_
  refine lift (fun _ kk => r_iload i0_157 rfl kk) ?_
  refine lift (fun _ kk => r_aload i0_159 rfl rfl kk) ?_
  refine lift (fun _ kk => s0_161 hw (H1 := [_, _, _, _]) rfl (rem110 hw rfl rfl ) rfl (leB rfl) kk) ?_
  refine lift (fun _ kk => r_lloadN i0_164 rfl kk) ?_
  refine lift (fun _ kk => r_lstore (ls' := [_, _, _, _, _, _, _, _, _, _, _, _, _, _, _, _, _, _, _]) i0_165 rfl rfl kk) ?_
  refine lift (fun _ kk => r_lloadN i0_167 rfl kk) ?_
  refine lift (fun _ kk => r_lstore (ls' := [_, _, _, _, _, _, _, _, _, _, _, _, _, _, _, _, _, _, _]) i0_168 rfl rfl kk) ?_
  refine lift (fun _ kk => r_iload i0_170 rfl kk) ?_
  refine lift (fun _ kk => r_ifT i0_172 (XT.i0_ne_t (by decide)) kk) ?_
  refine lift (fun _ kk => r_iload i0_203 rfl kk) ?_
  refine lift (fun _ kk => r_iconst i0_205 kk) ?_
  refine lift (fun _ kk => r_icT i0_206 (XT.ii_lt_t (by decide)) kk) ?_
  refine lift (fun _ kk => r_iload i0_229 rfl kk) ?_
  refine lift (fun _ kk => r_iconst i0_231 kk) ?_
  refine lift (fun _ kk => r_icT i0_232 (XT.ii_lt_t (by decide)) kk) ?_
  refine lift (fun _ kk => r_iload i0_255 rfl kk) ?_
  refine lift (fun _ kk => r_iconst i0_257 kk) ?_
  refine lift (fun _ kk => r_icT i0_258 (XT.ii_lt_t (by decide)) kk) ?_
  refine lift (fun _ kk => r_aload i0_281 rfl rfl kk) ?_
  refine lift (fun _ kk => r_len (n := 2) i0_283 rfl rfl kk) ?_
  refine lift (fun _ kk => r_iconst i0_284 kk) ?_
  refine lift (fun _ kk => r_icF i0_285 (XT.ii_ne_f (by decide)) kk) ?_
  refine lift (fun _ kk => r_aload i0_288 rfl rfl kk) ?_
  refine lift (fun _ kk => r_iconst i0_290 kk) ?_
  refine lift (fun _ kk => r_laload (i := 0) i0_291 rfl ⟨by decide, by decide⟩ rfl kk) ?_
  refine lift (fun _ kk => r_lload i0_292 rfl kk) ?_
  refine lift (fun _ kk => r_lcmp i0_294 kk) ?_
  refine lift (fun _ kk => r_ifF i0_295 (XT.ll_ne_f rfl) kk) ?_
  refine lift (fun _ kk => r_aload i0_298 rfl rfl kk) ?_
  refine lift (fun _ kk => r_iconst i0_300 kk) ?_
  refine lift (fun _ kk => r_laload (i := 1) i0_301 rfl ⟨by decide, by decide⟩ rfl kk) ?_
  refine lift (fun _ kk => r_lload i0_302 rfl kk) ?_
  refine lift (fun _ kk => r_lcmp i0_304 kk) ?_
  refine lift (fun _ kk => r_ifF i0_305 (XT.ll_ne_f rfl) kk) ?_
  refine lift (fun _ kk => r_aload i0_308 rfl rfl kk) ?_
  refine lift (fun _ kk => s0_310 hw (H1 := [_, _, _, _]) rfl (count_m hw) rfl (leB rfl) kk) ?_
  refine lift (fun _ kk => r_iconst i0_313 kk) ?_
  refine lift (fun _ kk => r_icF i0_314 (XT.ii_ne_f (by decide)) kk) ?_
  refine lift (fun _ kk => r_iconst i0_317 kk) ?_
  refine lift (fun _ kk => r_goto i0_318 kk) ?_
  exact ⟨_, r_zreturn i0_322 rfl (by first | decide | simp), leB rfl, leB rfl⟩
set_option maxHeartbeats 4000000 in
theorem fin110 {l : Launch} {Z : State} {a0 : Array Value} {n0 : Nat} (hw : HW Z a0) (p0 p1 : Int64) (p2 p3 a b c d : Int32) (ha : 0 ≤ a.toInt ∧ a.toInt ≤ 127) (hb : 0 ≤ b.toInt ∧ b.toInt ≤ 127) (hc : 0 ≤ c.toInt ∧ c.toInt ≤ 127) (hd : 0 ≤ d.toInt ∧ d.toInt ≤ 127) : RunsB K l Z n0 m0 68 [.val (.long p0), .second, .val (.long p1), .second, .val (.int p2), .val (.int p3), .val (.int a), .val (.int b), .val (.int c), .val (.int d), .val (.int 1), .val (.int 1), .val (.int 0), .unset, .unset, .unset, .unset, .unset, .unset] [] [] (some (.int 1)) 16 128 := by
  refine lift (fun _ kk => s0_68 hw (a := 0) (H1 := [_]) rfl rfl kk) ?_
  refine lift (fun _ kk => r_dup i0_71 rfl kk) ?_
  refine lift (fun _ kk => r_iconst i0_72 kk) ?_
  refine lift (fun _ kk => r_iconst i0_73 kk) ?_
  refine lift (fun _ kk => s0_74 hw (H1 := [_, _, _]) (init_m hw) rfl (leB rfl) kk) ?_
  refine lift (fun _ kk => r_astore (ls' := [_, _, _, _, _, _, _, _, _, _, _, _, _, _, _, _, _, _, _]) i0_77 rfl rfl rfl kk) ?_
  refine lift (fun _ kk => r_iload i0_79 rfl kk) ?_
  refine lift (fun _ kk => r_ifF i0_81 (XT.i0_eq_f (by decide)) kk) ?_
  refine lift (fun _ kk => r_aload i0_84 rfl rfl kk) ?_
  refine lift (fun _ kk => r_iload i0_86 rfl kk) ?_
  refine lift (fun _ kk => s0_88 hw (H1 := [_, _, _]) rfl (add_m hw (s' := 1) (vs' := [_, _, _, _]) (i := 0) (by decide) (by decide) rfl ⟨by decide, by decide⟩ (ltB rfl) rfl) rfl (leB rfl) kk) ?_
  refine lift (fun _ kk => r_aload i0_91 rfl rfl kk) ?_
  refine lift (fun _ kk => s0_93 hw (H1 := [_, _, _]) rfl (end_m hw (c' := 1) (ss' := [_, _, _]) (i := 1) (by decide) (by decide) rfl ⟨by decide, by decide⟩ (ltB rfl) rfl) rfl (leB rfl) kk) ?_
  refine lift (fun _ kk => r_iload i0_96 rfl kk) ?_
  refine lift (fun _ kk => r_iconst i0_98 kk) ?_
  refine lift (fun _ kk => r_icF i0_99 (XT.ii_lt_f (by decide)) kk) ?_
  refine lift (fun _ kk => r_aload i0_102 rfl rfl kk) ?_
  refine lift (fun _ kk => r_iload i0_104 rfl kk) ?_
  refine lift (fun _ kk => s0_106 hw (H1 := [_, _, _]) rfl (add_m hw (s' := 2) (vs' := [_, _, _, _]) (i := 1) (by decide) (by decide) rfl ⟨by decide, by decide⟩ (ltB rfl) rfl) rfl (leB rfl) kk) ?_
  refine lift (fun _ kk => r_iload i0_109 rfl kk) ?_
  refine lift (fun _ kk => r_iconst i0_111 kk) ?_
  refine lift (fun _ kk => r_icT i0_112 (XT.ii_lt_t (by decide)) kk) ?_
  refine lift (fun _ kk => r_iload i0_122 rfl kk) ?_
  refine lift (fun _ kk => r_iconst i0_124 kk) ?_
  refine lift (fun _ kk => r_icT i0_125 (XT.ii_lt_t (by decide)) kk) ?_
  refine lift (fun _ kk => r_aload i0_135 rfl rfl kk) ?_
  refine lift (fun _ kk => s0_137 hw (H1 := [_, _, _]) rfl (end_m hw (c' := 2) (ss' := [_, _, _]) (i := 2) (by decide) (by decide) rfl ⟨by decide, by decide⟩ (ltB rfl) rfl) rfl (leB rfl) kk) ?_
  refine lift (fun _ kk => r_iconst i0_140 kk) ?_
  refine lift (fun _ kk => s0_141 hw (a := 3) (o := [.long 0, .long 0]) (H1 := [_, _, _, _]) (by decide) (by decide) rfl rfl rfl kk) ?_
  refine lift (fun _ kk => r_astore (ls' := [_, _, _, _, _, _, _, _, _, _, _, _, _, _, _, _, _, _, _]) i0_143 rfl rfl rfl kk) ?_
  refine lift (fun _ kk => r_aload i0_145 rfl rfl kk) ?_
  refine lift (fun _ kk => r_iconst i0_147 kk) ?_
  refine lift (fun _ kk => r_lloadN i0_148 rfl kk) ?_
  refine lift (fun _ kk => r_lastore (i := 0) (vs' := [_, _]) (H1 := [_, _, _, _]) i0_149 rfl ⟨by decide, by decide⟩ (ltB rfl) rfl rfl kk) ?_
  refine lift (fun _ kk => r_aload i0_150 rfl rfl kk) ?_
  refine lift (fun _ kk => r_iconst i0_152 kk) ?_
  refine lift (fun _ kk => r_lloadN i0_153 rfl kk) ?_
  refine lift (fun _ kk => r_lastore (i := 1) (vs' := [_, _]) (H1 := [_, _, _, _]) i0_154 rfl ⟨by decide, by decide⟩ (ltB rfl) rfl rfl kk) ?_
  refine lift (fun _ kk => r_aload i0_155 rfl rfl kk) ?_
  refine lift (fun _ kk => r_iload i0_157 rfl kk) ?_
  refine lift (fun _ kk => r_aload i0_159 rfl rfl kk) ?_
  refine lift (fun _ kk => s0_161 hw (H1 := [_, _, _, _]) rfl (rem001 hw rfl rfl rfl ha) rfl (leB rfl) kk) ?_
  refine lift (fun _ kk => r_lloadN i0_164 rfl kk) ?_
  refine lift (fun _ kk => r_lstore (ls' := [_, _, _, _, _, _, _, _, _, _, _, _, _, _, _, _, _, _, _]) i0_165 rfl rfl kk) ?_
  refine lift (fun _ kk => r_lloadN i0_167 rfl kk) ?_
  refine lift (fun _ kk => r_lstore (ls' := [_, _, _, _, _, _, _, _, _, _, _, _, _, _, _, _, _, _, _]) i0_168 rfl rfl kk) ?_
  refine lift (fun _ kk => r_iload i0_170 rfl kk) ?_
  refine lift (fun _ kk => r_ifF i0_172 (XT.i0_ne_f (by decide)) kk) ?_
  refine lift (fun _ kk => r_iload i0_175 rfl kk) ?_
  refine lift (fun _ kk => r_ifF i0_177 (XT.i0_eq_f (by decide)) kk) ?_
  refine lift (fun _ kk => r_lload i0_180 rfl kk) ?_
  refine lift (fun _ kk => r_iconst i0_182 kk) ?_
  refine lift (fun _ kk => r_iload i0_183 rfl kk) ?_
  refine lift (fun _ kk => s0_185 hw (H1 := [_, _, _, _]) (c7 hw _ _ _) rfl (leB rfl) kk) ?_
  refine lift (fun _ kk => r_lstore (ls' := [_, _, _, _, _, _, _, _, _, _, _, _, _, _, _, _, _, _, _]) i0_188 rfl rfl kk) ?_
  refine lift (fun _ kk => r_lload i0_190 rfl kk) ?_
  refine lift (fun _ kk => r_iconst i0_192 kk) ?_
  refine lift (fun _ kk => r_iload i0_193 rfl kk) ?_
  refine lift (fun _ kk => s0_195 hw (H1 := [_, _, _, _]) (c7 hw _ _ _) rfl (leB rfl) kk) ?_
  refine lift (fun _ kk => r_lstore (ls' := [_, _, _, _, _, _, _, _, _, _, _, _, _, _, _, _, _, _, _]) i0_198 rfl rfl kk) ?_
  refine lift (fun _ kk => r_goto i0_200 kk) ?_
  refine lift (fun _ kk => r_aload i0_281 rfl rfl kk) ?_
  refine lift (fun _ kk => r_len (n := 2) i0_283 rfl rfl kk) ?_
  refine lift (fun _ kk => r_iconst i0_284 kk) ?_
  refine lift (fun _ kk => r_icF i0_285 (XT.ii_ne_f (by decide)) kk) ?_
  refine lift (fun _ kk => r_aload i0_288 rfl rfl kk) ?_
  refine lift (fun _ kk => r_iconst i0_290 kk) ?_
  refine lift (fun _ kk => r_laload (i := 0) i0_291 rfl ⟨by decide, by decide⟩ rfl kk) ?_
  refine lift (fun _ kk => r_lload i0_292 rfl kk) ?_
  refine lift (fun _ kk => r_lcmp i0_294 kk) ?_
  refine lift (fun _ kk => r_ifF i0_295 (XT.ll_ne_f rfl) kk) ?_
  refine lift (fun _ kk => r_aload i0_298 rfl rfl kk) ?_
  refine lift (fun _ kk => r_iconst i0_300 kk) ?_
  refine lift (fun _ kk => r_laload (i := 1) i0_301 rfl ⟨by decide, by decide⟩ rfl kk) ?_
  refine lift (fun _ kk => r_lload i0_302 rfl kk) ?_
  refine lift (fun _ kk => r_lcmp i0_304 kk) ?_
  refine lift (fun _ kk => r_ifF i0_305 (XT.ll_ne_f rfl) kk) ?_
  refine lift (fun _ kk => r_aload i0_308 rfl rfl kk) ?_
  refine lift (fun _ kk => s0_310 hw (H1 := [_, _, _, _]) rfl (count_m hw) rfl (leB rfl) kk) ?_
  refine lift (fun _ kk => r_iconst i0_313 kk) ?_
  refine lift (fun _ kk => r_icF i0_314 (XT.ii_ne_f (by decide)) kk) ?_
  refine lift (fun _ kk => r_iconst i0_317 kk) ?_
  refine lift (fun _ kk => r_goto i0_318 kk) ?_
  exact ⟨_, r_zreturn i0_322 rfl (by first | decide | simp), leB rfl, leB rfl⟩
set_option maxHeartbeats 4000000 in
theorem fin111 {l : Launch} {Z : State} {a0 : Array Value} {n0 : Nat} (hw : HW Z a0) (p0 p1 : Int64) (p2 p3 a b c d : Int32) (ha : 0 ≤ a.toInt ∧ a.toInt ≤ 127) (hb : 0 ≤ b.toInt ∧ b.toInt ≤ 127) (hc : 0 ≤ c.toInt ∧ c.toInt ≤ 127) (hd : 0 ≤ d.toInt ∧ d.toInt ≤ 127) : RunsB K l Z n0 m0 68 [.val (.long p0), .second, .val (.long p1), .second, .val (.int p2), .val (.int p3), .val (.int a), .val (.int b), .val (.int c), .val (.int d), .val (.int 1), .val (.int 1), .val (.int 1), .unset, .unset, .unset, .unset, .unset, .unset] [] [] (some (.int 1)) 16 128 := by
  refine lift (fun _ kk => s0_68 hw (a := 0) (H1 := [_]) rfl rfl kk) ?_
  refine lift (fun _ kk => r_dup i0_71 rfl kk) ?_
  refine lift (fun _ kk => r_iconst i0_72 kk) ?_
  refine lift (fun _ kk => r_iconst i0_73 kk) ?_
  refine lift (fun _ kk => s0_74 hw (H1 := [_, _, _]) (init_m hw) rfl (leB rfl) kk) ?_
  refine lift (fun _ kk => r_astore (ls' := [_, _, _, _, _, _, _, _, _, _, _, _, _, _, _, _, _, _, _]) i0_77 rfl rfl rfl kk) ?_
  refine lift (fun _ kk => r_iload i0_79 rfl kk) ?_
  refine lift (fun _ kk => r_ifF i0_81 (XT.i0_eq_f (by decide)) kk) ?_
  refine lift (fun _ kk => r_aload i0_84 rfl rfl kk) ?_
  refine lift (fun _ kk => r_iload i0_86 rfl kk) ?_
  refine lift (fun _ kk => s0_88 hw (H1 := [_, _, _]) rfl (add_m hw (s' := 1) (vs' := [_, _, _, _]) (i := 0) (by decide) (by decide) rfl ⟨by decide, by decide⟩ (ltB rfl) rfl) rfl (leB rfl) kk) ?_
  refine lift (fun _ kk => r_aload i0_91 rfl rfl kk) ?_
  refine lift (fun _ kk => s0_93 hw (H1 := [_, _, _]) rfl (end_m hw (c' := 1) (ss' := [_, _, _]) (i := 1) (by decide) (by decide) rfl ⟨by decide, by decide⟩ (ltB rfl) rfl) rfl (leB rfl) kk) ?_
  refine lift (fun _ kk => r_iload i0_96 rfl kk) ?_
  refine lift (fun _ kk => r_iconst i0_98 kk) ?_
  refine lift (fun _ kk => r_icF i0_99 (XT.ii_lt_f (by decide)) kk) ?_
  refine lift (fun _ kk => r_aload i0_102 rfl rfl kk) ?_
  refine lift (fun _ kk => r_iload i0_104 rfl kk) ?_
  refine lift (fun _ kk => s0_106 hw (H1 := [_, _, _]) rfl (add_m hw (s' := 2) (vs' := [_, _, _, _]) (i := 1) (by decide) (by decide) rfl ⟨by decide, by decide⟩ (ltB rfl) rfl) rfl (leB rfl) kk) ?_
  refine lift (fun _ kk => r_iload i0_109 rfl kk) ?_
  refine lift (fun _ kk => r_iconst i0_111 kk) ?_
  refine lift (fun _ kk => r_icT i0_112 (XT.ii_lt_t (by decide)) kk) ?_
  refine lift (fun _ kk => r_iload i0_122 rfl kk) ?_
  refine lift (fun _ kk => r_iconst i0_124 kk) ?_
  refine lift (fun _ kk => r_icT i0_125 (XT.ii_lt_t (by decide)) kk) ?_
  refine lift (fun _ kk => r_aload i0_135 rfl rfl kk) ?_
  refine lift (fun _ kk => s0_137 hw (H1 := [_, _, _]) rfl (end_m hw (c' := 2) (ss' := [_, _, _]) (i := 2) (by decide) (by decide) rfl ⟨by decide, by decide⟩ (ltB rfl) rfl) rfl (leB rfl) kk) ?_
  refine lift (fun _ kk => r_iconst i0_140 kk) ?_
  refine lift (fun _ kk => s0_141 hw (a := 3) (o := [.long 0, .long 0]) (H1 := [_, _, _, _]) (by decide) (by decide) rfl rfl rfl kk) ?_
  refine lift (fun _ kk => r_astore (ls' := [_, _, _, _, _, _, _, _, _, _, _, _, _, _, _, _, _, _, _]) i0_143 rfl rfl rfl kk) ?_
  refine lift (fun _ kk => r_aload i0_145 rfl rfl kk) ?_
  refine lift (fun _ kk => r_iconst i0_147 kk) ?_
  refine lift (fun _ kk => r_lloadN i0_148 rfl kk) ?_
  refine lift (fun _ kk => r_lastore (i := 0) (vs' := [_, _]) (H1 := [_, _, _, _]) i0_149 rfl ⟨by decide, by decide⟩ (ltB rfl) rfl rfl kk) ?_
  refine lift (fun _ kk => r_aload i0_150 rfl rfl kk) ?_
  refine lift (fun _ kk => r_iconst i0_152 kk) ?_
  refine lift (fun _ kk => r_lloadN i0_153 rfl kk) ?_
  refine lift (fun _ kk => r_lastore (i := 1) (vs' := [_, _]) (H1 := [_, _, _, _]) i0_154 rfl ⟨by decide, by decide⟩ (ltB rfl) rfl rfl kk) ?_
  refine lift (fun _ kk => r_aload i0_155 rfl rfl kk) ?_
  refine lift (fun _ kk => r_iload i0_157 rfl kk) ?_
  refine lift (fun _ kk => r_aload i0_159 rfl rfl kk) ?_
  refine lift (fun _ kk => s0_161 hw (H1 := [_, _, _, _]) rfl (rem111 hw rfl rfl rfl hb) rfl (leB rfl) kk) ?_
  refine lift (fun _ kk => r_lloadN i0_164 rfl kk) ?_
  refine lift (fun _ kk => r_lstore (ls' := [_, _, _, _, _, _, _, _, _, _, _, _, _, _, _, _, _, _, _]) i0_165 rfl rfl kk) ?_
  refine lift (fun _ kk => r_lloadN i0_167 rfl kk) ?_
  refine lift (fun _ kk => r_lstore (ls' := [_, _, _, _, _, _, _, _, _, _, _, _, _, _, _, _, _, _, _]) i0_168 rfl rfl kk) ?_
  refine lift (fun _ kk => r_iload i0_170 rfl kk) ?_
  refine lift (fun _ kk => r_ifT i0_172 (XT.i0_ne_t (by decide)) kk) ?_
  refine lift (fun _ kk => r_iload i0_203 rfl kk) ?_
  refine lift (fun _ kk => r_iconst i0_205 kk) ?_
  refine lift (fun _ kk => r_icF i0_206 (XT.ii_lt_f (by decide)) kk) ?_
  refine lift (fun _ kk => r_lload i0_209 rfl kk) ?_
  refine lift (fun _ kk => r_iconst i0_211 kk) ?_
  refine lift (fun _ kk => r_iload i0_212 rfl kk) ?_
  refine lift (fun _ kk => s0_214 hw (H1 := [_, _, _, _]) (c7 hw _ _ _) rfl (leB rfl) kk) ?_
  refine lift (fun _ kk => r_lstore (ls' := [_, _, _, _, _, _, _, _, _, _, _, _, _, _, _, _, _, _, _]) i0_217 rfl rfl kk) ?_
  refine lift (fun _ kk => r_lload i0_219 rfl kk) ?_
  refine lift (fun _ kk => r_iconst i0_221 kk) ?_
  refine lift (fun _ kk => r_iload i0_222 rfl kk) ?_
  refine lift (fun _ kk => s0_224 hw (H1 := [_, _, _, _]) (c7 hw _ _ _) rfl (leB rfl) kk) ?_
  refine lift (fun _ kk => r_lstore (ls' := [_, _, _, _, _, _, _, _, _, _, _, _, _, _, _, _, _, _, _]) i0_227 rfl rfl kk) ?_
  refine lift (fun _ kk => r_iload i0_229 rfl kk) ?_
  refine lift (fun _ kk => r_iconst i0_231 kk) ?_
  refine lift (fun _ kk => r_icT i0_232 (XT.ii_lt_t (by decide)) kk) ?_
  refine lift (fun _ kk => r_iload i0_255 rfl kk) ?_
  refine lift (fun _ kk => r_iconst i0_257 kk) ?_
  refine lift (fun _ kk => r_icT i0_258 (XT.ii_lt_t (by decide)) kk) ?_
  refine lift (fun _ kk => r_aload i0_281 rfl rfl kk) ?_
  refine lift (fun _ kk => r_len (n := 2) i0_283 rfl rfl kk) ?_
  refine lift (fun _ kk => r_iconst i0_284 kk) ?_
  refine lift (fun _ kk => r_icF i0_285 (XT.ii_ne_f (by decide)) kk) ?_
  refine lift (fun _ kk => r_aload i0_288 rfl rfl kk) ?_
  refine lift (fun _ kk => r_iconst i0_290 kk) ?_
  refine lift (fun _ kk => r_laload (i := 0) i0_291 rfl ⟨by decide, by decide⟩ rfl kk) ?_
  refine lift (fun _ kk => r_lload i0_292 rfl kk) ?_
  refine lift (fun _ kk => r_lcmp i0_294 kk) ?_
  refine lift (fun _ kk => r_ifF i0_295 (XT.ll_ne_f rfl) kk) ?_
  refine lift (fun _ kk => r_aload i0_298 rfl rfl kk) ?_
  refine lift (fun _ kk => r_iconst i0_300 kk) ?_
  refine lift (fun _ kk => r_laload (i := 1) i0_301 rfl ⟨by decide, by decide⟩ rfl kk) ?_
  refine lift (fun _ kk => r_lload i0_302 rfl kk) ?_
  refine lift (fun _ kk => r_lcmp i0_304 kk) ?_
  refine lift (fun _ kk => r_ifF i0_305 (XT.ll_ne_f rfl) kk) ?_
  refine lift (fun _ kk => r_aload i0_308 rfl rfl kk) ?_
  refine lift (fun _ kk => s0_310 hw (H1 := [_, _, _, _]) rfl (count_m hw) rfl (leB rfl) kk) ?_
  refine lift (fun _ kk => r_iconst i0_313 kk) ?_
  refine lift (fun _ kk => r_icF i0_314 (XT.ii_ne_f (by decide)) kk) ?_
  refine lift (fun _ kk => r_iconst i0_317 kk) ?_
  refine lift (fun _ kk => r_goto i0_318 kk) ?_
  exact ⟨_, r_zreturn i0_322 rfl (by first | decide | simp), leB rfl, leB rfl⟩
set_option maxHeartbeats 4000000 in
theorem fin120 {l : Launch} {Z : State} {a0 : Array Value} {n0 : Nat} (hw : HW Z a0) (p0 p1 : Int64) (p2 p3 a b c d : Int32) (ha : 0 ≤ a.toInt ∧ a.toInt ≤ 127) (hb : 0 ≤ b.toInt ∧ b.toInt ≤ 127) (hc : 0 ≤ c.toInt ∧ c.toInt ≤ 127) (hd : 0 ≤ d.toInt ∧ d.toInt ≤ 127) : RunsB K l Z n0 m0 68 [.val (.long p0), .second, .val (.long p1), .second, .val (.int p2), .val (.int p3), .val (.int a), .val (.int b), .val (.int c), .val (.int d), .val (.int 2), .val (.int 1), .val (.int 0), .unset, .unset, .unset, .unset, .unset, .unset] [] [] (some (.int 1)) 16 128 := by
  refine lift (fun _ kk => s0_68 hw (a := 0) (H1 := [_]) rfl rfl kk) ?_
  refine lift (fun _ kk => r_dup i0_71 rfl kk) ?_
  refine lift (fun _ kk => r_iconst i0_72 kk) ?_
  refine lift (fun _ kk => r_iconst i0_73 kk) ?_
  refine lift (fun _ kk => s0_74 hw (H1 := [_, _, _]) (init_m hw) rfl (leB rfl) kk) ?_
  refine lift (fun _ kk => r_astore (ls' := [_, _, _, _, _, _, _, _, _, _, _, _, _, _, _, _, _, _, _]) i0_77 rfl rfl rfl kk) ?_
  refine lift (fun _ kk => r_iload i0_79 rfl kk) ?_
  refine lift (fun _ kk => r_ifF i0_81 (XT.i0_eq_f (by decide)) kk) ?_
  refine lift (fun _ kk => r_aload i0_84 rfl rfl kk) ?_
  refine lift (fun _ kk => r_iload i0_86 rfl kk) ?_
  refine lift (fun _ kk => s0_88 hw (H1 := [_, _, _]) rfl (add_m hw (s' := 1) (vs' := [_, _, _, _]) (i := 0) (by decide) (by decide) rfl ⟨by decide, by decide⟩ (ltB rfl) rfl) rfl (leB rfl) kk) ?_
  refine lift (fun _ kk => r_aload i0_91 rfl rfl kk) ?_
  refine lift (fun _ kk => s0_93 hw (H1 := [_, _, _]) rfl (end_m hw (c' := 1) (ss' := [_, _, _]) (i := 1) (by decide) (by decide) rfl ⟨by decide, by decide⟩ (ltB rfl) rfl) rfl (leB rfl) kk) ?_
  refine lift (fun _ kk => r_iload i0_96 rfl kk) ?_
  refine lift (fun _ kk => r_iconst i0_98 kk) ?_
  refine lift (fun _ kk => r_icF i0_99 (XT.ii_lt_f (by decide)) kk) ?_
  refine lift (fun _ kk => r_aload i0_102 rfl rfl kk) ?_
  refine lift (fun _ kk => r_iload i0_104 rfl kk) ?_
  refine lift (fun _ kk => s0_106 hw (H1 := [_, _, _]) rfl (add_m hw (s' := 2) (vs' := [_, _, _, _]) (i := 1) (by decide) (by decide) rfl ⟨by decide, by decide⟩ (ltB rfl) rfl) rfl (leB rfl) kk) ?_
  refine lift (fun _ kk => r_iload i0_109 rfl kk) ?_
  refine lift (fun _ kk => r_iconst i0_111 kk) ?_
  refine lift (fun _ kk => r_icF i0_112 (XT.ii_lt_f (by decide)) kk) ?_
  refine lift (fun _ kk => r_aload i0_115 rfl rfl kk) ?_
  refine lift (fun _ kk => r_iload i0_117 rfl kk) ?_
  refine lift (fun _ kk => s0_119 hw (H1 := [_, _, _]) rfl (add_m hw (s' := 3) (vs' := [_, _, _, _]) (i := 2) (by decide) (by decide) rfl ⟨by decide, by decide⟩ (ltB rfl) rfl) rfl (leB rfl) kk) ?_
  refine lift (fun _ kk => r_iload i0_122 rfl kk) ?_
  refine lift (fun _ kk => r_iconst i0_124 kk) ?_
  refine lift (fun _ kk => r_icT i0_125 (XT.ii_lt_t (by decide)) kk) ?_
  refine lift (fun _ kk => r_aload i0_135 rfl rfl kk) ?_
  refine lift (fun _ kk => s0_137 hw (H1 := [_, _, _]) rfl (end_m hw (c' := 2) (ss' := [_, _, _]) (i := 2) (by decide) (by decide) rfl ⟨by decide, by decide⟩ (ltB rfl) rfl) rfl (leB rfl) kk) ?_
  refine lift (fun _ kk => r_iconst i0_140 kk) ?_
  refine lift (fun _ kk => s0_141 hw (a := 3) (o := [.long 0, .long 0]) (H1 := [_, _, _, _]) (by decide) (by decide) rfl rfl rfl kk) ?_
  refine lift (fun _ kk => r_astore (ls' := [_, _, _, _, _, _, _, _, _, _, _, _, _, _, _, _, _, _, _]) i0_143 rfl rfl rfl kk) ?_
  refine lift (fun _ kk => r_aload i0_145 rfl rfl kk) ?_
  refine lift (fun _ kk => r_iconst i0_147 kk) ?_
  refine lift (fun _ kk => r_lloadN i0_148 rfl kk) ?_
  refine lift (fun _ kk => r_lastore (i := 0) (vs' := [_, _]) (H1 := [_, _, _, _]) i0_149 rfl ⟨by decide, by decide⟩ (ltB rfl) rfl rfl kk) ?_
  refine lift (fun _ kk => r_aload i0_150 rfl rfl kk) ?_
  refine lift (fun _ kk => r_iconst i0_152 kk) ?_
  refine lift (fun _ kk => r_lloadN i0_153 rfl kk) ?_
  refine lift (fun _ kk => r_lastore (i := 1) (vs' := [_, _]) (H1 := [_, _, _, _]) i0_154 rfl ⟨by decide, by decide⟩ (ltB rfl) rfl rfl kk) ?_
  refine lift (fun _ kk => r_aload i0_155 rfl rfl kk) ?_
  refine lift (fun _ kk => r_iload i0_157 rfl kk) ?_
  refine lift (fun _ kk => r_aload i0_159 rfl rfl kk) ?_
  refine lift (fun _ kk => s0_161 hw (H1 := [_, _, _, _]) rfl (rem001 hw rfl rfl rfl ha) rfl (leB rfl) kk) ?_
  refine lift (fun _ kk => r_lloadN i0_164 rfl kk) ?_
  refine lift (fun _ kk => r_lstore (ls' := [_, _, _, _, _, _, _, _, _, _, _, _, _, _, _, _, _, _, _]) i0_165 rfl rfl kk) ?_
  refine lift (fun _ kk => r_lloadN i0_167 rfl kk) ?_
  refine lift (fun _ kk => r_lstore (ls' := [_, _, _, _, _, _, _, _, _, _, _, _, _, _, _, _, _, _, _]) i0_168 rfl rfl kk) ?_
  refine lift (fun _ kk => r_iload i0_170 rfl kk) ?_
  refine lift (fun _ kk => r_ifF i0_172 (XT.i0_ne_f (by decide)) kk) ?_
  refine lift (fun _ kk => r_iload i0_175 rfl kk) ?_
  refine lift (fun _ kk => r_ifF i0_177 (XT.i0_eq_f (by decide)) kk) ?_
  refine lift (fun _ kk => r_lload i0_180 rfl kk) ?_
  refine lift (fun _ kk => r_iconst i0_182 kk) ?_
  refine lift (fun _ kk => r_iload i0_183 rfl kk) ?_
  refine lift (fun _ kk => s0_185 hw (H1 := [_, _, _, _]) (c7 hw _ _ _) rfl (leB rfl) kk) ?_
  refine lift (fun _ kk => r_lstore (ls' := [_, _, _, _, _, _, _, _, _, _, _, _, _, _, _, _, _, _, _]) i0_188 rfl rfl kk) ?_
  refine lift (fun _ kk => r_lload i0_190 rfl kk) ?_
  refine lift (fun _ kk => r_iconst i0_192 kk) ?_
  refine lift (fun _ kk => r_iload i0_193 rfl kk) ?_
  refine lift (fun _ kk => s0_195 hw (H1 := [_, _, _, _]) (c7 hw _ _ _) rfl (leB rfl) kk) ?_
  refine lift (fun _ kk => r_lstore (ls' := [_, _, _, _, _, _, _, _, _, _, _, _, _, _, _, _, _, _, _]) i0_198 rfl rfl kk) ?_
  refine lift (fun _ kk => r_goto i0_200 kk) ?_
  refine lift (fun _ kk => r_aload i0_281 rfl rfl kk) ?_
  refine lift (fun _ kk => r_len (n := 2) i0_283 rfl rfl kk) ?_
  refine lift (fun _ kk => r_iconst i0_284 kk) ?_
  refine lift (fun _ kk => r_icF i0_285 (XT.ii_ne_f (by decide)) kk) ?_
  refine lift (fun _ kk => r_aload i0_288 rfl rfl kk) ?_
  refine lift (fun _ kk => r_iconst i0_290 kk) ?_
  refine lift (fun _ kk => r_laload (i := 0) i0_291 rfl ⟨by decide, by decide⟩ rfl kk) ?_
  refine lift (fun _ kk => r_lload i0_292 rfl kk) ?_
  refine lift (fun _ kk => r_lcmp i0_294 kk) ?_
  refine lift (fun _ kk => r_ifF i0_295 (XT.ll_ne_f rfl) kk) ?_
  refine lift (fun _ kk => r_aload i0_298 rfl rfl kk) ?_
  refine lift (fun _ kk => r_iconst i0_300 kk) ?_
  refine lift (fun _ kk => r_laload (i := 1) i0_301 rfl ⟨by decide, by decide⟩ rfl kk) ?_
  refine lift (fun _ kk => r_lload i0_302 rfl kk) ?_
  refine lift (fun _ kk => r_lcmp i0_304 kk) ?_
  refine lift (fun _ kk => r_ifF i0_305 (XT.ll_ne_f rfl) kk) ?_
  refine lift (fun _ kk => r_aload i0_308 rfl rfl kk) ?_
  refine lift (fun _ kk => s0_310 hw (H1 := [_, _, _, _]) rfl (count_m hw) rfl (leB rfl) kk) ?_
  refine lift (fun _ kk => r_iconst i0_313 kk) ?_
  refine lift (fun _ kk => r_icF i0_314 (XT.ii_ne_f (by decide)) kk) ?_
  refine lift (fun _ kk => r_iconst i0_317 kk) ?_
  refine lift (fun _ kk => r_goto i0_318 kk) ?_
  exact ⟨_, r_zreturn i0_322 rfl (by first | decide | simp), leB rfl, leB rfl⟩
set_option maxHeartbeats 4000000 in
theorem fin121 {l : Launch} {Z : State} {a0 : Array Value} {n0 : Nat} (hw : HW Z a0) (p0 p1 : Int64) (p2 p3 a b c d : Int32) (ha : 0 ≤ a.toInt ∧ a.toInt ≤ 127) (hb : 0 ≤ b.toInt ∧ b.toInt ≤ 127) (hc : 0 ≤ c.toInt ∧ c.toInt ≤ 127) (hd : 0 ≤ d.toInt ∧ d.toInt ≤ 127) : RunsB K l Z n0 m0 68 [.val (.long p0), .second, .val (.long p1), .second, .val (.int p2), .val (.int p3), .val (.int a), .val (.int b), .val (.int c), .val (.int d), .val (.int 2), .val (.int 1), .val (.int 1), .unset, .unset, .unset, .unset, .unset, .unset] [] [] (some (.int 1)) 16 128 := by
  refine lift (fun _ kk => s0_68 hw (a := 0) (H1 := [_]) rfl rfl kk) ?_
  refine lift (fun _ kk => r_dup i0_71 rfl kk) ?_
  refine lift (fun _ kk => r_iconst i0_72 kk) ?_
  refine lift (fun _ kk => r_iconst i0_73 kk) ?_
  refine lift (fun _ kk => s0_74 hw (H1 := [_, _, _]) (init_m hw) rfl (leB rfl) kk) ?_
  refine lift (fun _ kk => r_astore (ls' := [_, _, _, _, _, _, _, _, _, _, _, _, _, _, _, _, _, _, _]) i0_77 rfl rfl rfl kk) ?_
  refine lift (fun _ kk => r_iload i0_79 rfl kk) ?_
  refine lift (fun _ kk => r_ifF i0_81 (XT.i0_eq_f (by decide)) kk) ?_
  refine lift (fun _ kk => r_aload i0_84 rfl rfl kk) ?_
  refine lift (fun _ kk => r_iload i0_86 rfl kk) ?_
  refine lift (fun _ kk => s0_88 hw (H1 := [_, _, _]) rfl (add_m hw (s' := 1) (vs' := [_, _, _, _]) (i := 0) (by decide) (by decide) rfl ⟨by decide, by decide⟩ (ltB rfl) rfl) rfl (leB rfl) kk) ?_
  refine lift (fun _ kk => r_aload i0_91 rfl rfl kk) ?_
  refine lift (fun _ kk => s0_93 hw (H1 := [_, _, _]) rfl (end_m hw (c' := 1) (ss' := [_, _, _]) (i := 1) (by decide) (by decide) rfl ⟨by decide, by decide⟩ (ltB rfl) rfl) rfl (leB rfl) kk) ?_
  refine lift (fun _ kk => r_iload i0_96 rfl kk) ?_
  refine lift (fun _ kk => r_iconst i0_98 kk) ?_
  refine lift (fun _ kk => r_icF i0_99 (XT.ii_lt_f (by decide)) kk) ?_
  refine lift (fun _ kk => r_aload i0_102 rfl rfl kk) ?_
  refine lift (fun _ kk => r_iload i0_104 rfl kk) ?_
  refine lift (fun _ kk => s0_106 hw (H1 := [_, _, _]) rfl (add_m hw (s' := 2) (vs' := [_, _, _, _]) (i := 1) (by decide) (by decide) rfl ⟨by decide, by decide⟩ (ltB rfl) rfl) rfl (leB rfl) kk) ?_
  refine lift (fun _ kk => r_iload i0_109 rfl kk) ?_
  refine lift (fun _ kk => r_iconst i0_111 kk) ?_
  refine lift (fun _ kk => r_icF i0_112 (XT.ii_lt_f (by decide)) kk) ?_
  refine lift (fun _ kk => r_aload i0_115 rfl rfl kk) ?_
  refine lift (fun _ kk => r_iload i0_117 rfl kk) ?_
  refine lift (fun _ kk => s0_119 hw (H1 := [_, _, _]) rfl (add_m hw (s' := 3) (vs' := [_, _, _, _]) (i := 2) (by decide) (by decide) rfl ⟨by decide, by decide⟩ (ltB rfl) rfl) rfl (leB rfl) kk) ?_
  refine lift (fun _ kk => r_iload i0_122 rfl kk) ?_
  refine lift (fun _ kk => r_iconst i0_124 kk) ?_
  refine lift (fun _ kk => r_icT i0_125 (XT.ii_lt_t (by decide)) kk) ?_
  refine lift (fun _ kk => r_aload i0_135 rfl rfl kk) ?_
  refine lift (fun _ kk => s0_137 hw (H1 := [_, _, _]) rfl (end_m hw (c' := 2) (ss' := [_, _, _]) (i := 2) (by decide) (by decide) rfl ⟨by decide, by decide⟩ (ltB rfl) rfl) rfl (leB rfl) kk) ?_
  refine lift (fun _ kk => r_iconst i0_140 kk) ?_
  refine lift (fun _ kk => s0_141 hw (a := 3) (o := [.long 0, .long 0]) (H1 := [_, _, _, _]) (by decide) (by decide) rfl rfl rfl kk) ?_
  refine lift (fun _ kk => r_astore (ls' := [_, _, _, _, _, _, _, _, _, _, _, _, _, _, _, _, _, _, _]) i0_143 rfl rfl rfl kk) ?_
  refine lift (fun _ kk => r_aload i0_145 rfl rfl kk) ?_
  refine lift (fun _ kk => r_iconst i0_147 kk) ?_
  refine lift (fun _ kk => r_lloadN i0_148 rfl kk) ?_
  refine lift (fun _ kk => r_lastore (i := 0) (vs' := [_, _]) (H1 := [_, _, _, _]) i0_149 rfl ⟨by decide, by decide⟩ (ltB rfl) rfl rfl kk) ?_
  refine lift (fun _ kk => r_aload i0_150 rfl rfl kk) ?_
  refine lift (fun _ kk => r_iconst i0_152 kk) ?_
  refine lift (fun _ kk => r_lloadN i0_153 rfl kk) ?_
  refine lift (fun _ kk => r_lastore (i := 1) (vs' := [_, _]) (H1 := [_, _, _, _]) i0_154 rfl ⟨by decide, by decide⟩ (ltB rfl) rfl rfl kk) ?_
  refine lift (fun _ kk => r_aload i0_155 rfl rfl kk) ?_
  refine lift (fun _ kk => r_iload i0_157 rfl kk) ?_
  refine lift (fun _ kk => r_aload i0_159 rfl rfl kk) ?_
  refine lift (fun _ kk => s0_161 hw (H1 := [_, _, _, _]) rfl (rem112 hw rfl rfl rfl hb rfl hc) rfl (leB rfl) kk) ?_
  refine lift (fun _ kk => r_lloadN i0_164 rfl kk) ?_
  refine lift (fun _ kk => r_lstore (ls' := [_, _, _, _, _, _, _, _, _, _, _, _, _, _, _, _, _, _, _]) i0_165 rfl rfl kk) ?_
  refine lift (fun _ kk => r_lloadN i0_167 rfl kk) ?_
  refine lift (fun _ kk => r_lstore (ls' := [_, _, _, _, _, _, _, _, _, _, _, _, _, _, _, _, _, _, _]) i0_168 rfl rfl kk) ?_
  refine lift (fun _ kk => r_iload i0_170 rfl kk) ?_
  refine lift (fun _ kk => r_ifT i0_172 (XT.i0_ne_t (by decide)) kk) ?_
  refine lift (fun _ kk => r_iload i0_203 rfl kk) ?_
  refine lift (fun _ kk => r_iconst i0_205 kk) ?_
  refine lift (fun _ kk => r_icF i0_206 (XT.ii_lt_f (by decide)) kk) ?_
  refine lift (fun _ kk => r_lload i0_209 rfl kk) ?_
  refine lift (fun _ kk => r_iconst i0_211 kk) ?_
  refine lift (fun _ kk => r_iload i0_212 rfl kk) ?_
  refine lift (fun _ kk => s0_214 hw (H1 := [_, _, _, _]) (c7 hw _ _ _) rfl (leB rfl) kk) ?_
  refine lift (fun _ kk => r_lstore (ls' := [_, _, _, _, _, _, _, _, _, _, _, _, _, _, _, _, _, _, _]) i0_217 rfl rfl kk) ?_
  refine lift (fun _ kk => r_lload i0_219 rfl kk) ?_
  refine lift (fun _ kk => r_iconst i0_221 kk) ?_
  refine lift (fun _ kk => r_iload i0_222 rfl kk) ?_
  refine lift (fun _ kk => s0_224 hw (H1 := [_, _, _, _]) (c7 hw _ _ _) rfl (leB rfl) kk) ?_
  refine lift (fun _ kk => r_lstore (ls' := [_, _, _, _, _, _, _, _, _, _, _, _, _, _, _, _, _, _, _]) i0_227 rfl rfl kk) ?_
  refine lift (fun _ kk => r_iload i0_229 rfl kk) ?_
  refine lift (fun _ kk => r_iconst i0_231 kk) ?_
  refine lift (fun _ kk => r_icF i0_232 (XT.ii_lt_f (by decide)) kk) ?_
  refine lift (fun _ kk => r_lload i0_235 rfl kk) ?_
  refine lift (fun _ kk => r_iconst i0_237 kk) ?_
  refine lift (fun _ kk => r_iload i0_238 rfl kk) ?_
  refine lift (fun _ kk => s0_240 hw (H1 := [_, _, _, _]) (c7 hw _ _ _) rfl (leB rfl) kk) ?_
  refine lift (fun _ kk => r_lstore (ls' := [_, _, _, _, _, _, _, _, _, _, _, _, _, _, _, _, _, _, _]) i0_243 rfl rfl kk) ?_
  refine lift (fun _ kk => r_lload i0_245 rfl kk) ?_
  refine lift (fun _ kk => r_iconst i0_247 kk) ?_
  refine lift (fun _ kk => r_iload i0_248 rfl kk) ?_
  refine lift (fun _ kk => s0_250 hw (H1 := [_, _, _, _]) (c7 hw _ _ _) rfl (leB rfl) kk) ?_
  refine lift (fun _ kk => r_lstore (ls' := [_, _, _, _, _, _, _, _, _, _, _, _, _, _, _, _, _, _, _]) i0_253 rfl rfl kk) ?_
  refine lift (fun _ kk => r_iload i0_255 rfl kk) ?_
  refine lift (fun _ kk => r_iconst i0_257 kk) ?_
  refine lift (fun _ kk => r_icT i0_258 (XT.ii_lt_t (by decide)) kk) ?_
  refine lift (fun _ kk => r_aload i0_281 rfl rfl kk) ?_
  refine lift (fun _ kk => r_len (n := 2) i0_283 rfl rfl kk) ?_
  refine lift (fun _ kk => r_iconst i0_284 kk) ?_
  refine lift (fun _ kk => r_icF i0_285 (XT.ii_ne_f (by decide)) kk) ?_
  refine lift (fun _ kk => r_aload i0_288 rfl rfl kk) ?_
  refine lift (fun _ kk => r_iconst i0_290 kk) ?_
  refine lift (fun _ kk => r_laload (i := 0) i0_291 rfl ⟨by decide, by decide⟩ rfl kk) ?_
  refine lift (fun _ kk => r_lload i0_292 rfl kk) ?_
  refine lift (fun _ kk => r_lcmp i0_294 kk) ?_
  refine lift (fun _ kk => r_ifF i0_295 (XT.ll_ne_f rfl) kk) ?_
  refine lift (fun _ kk => r_aload i0_298 rfl rfl kk) ?_
  refine lift (fun _ kk => r_iconst i0_300 kk) ?_
  refine lift (fun _ kk => r_laload (i := 1) i0_301 rfl ⟨by decide, by decide⟩ rfl kk) ?_
  refine lift (fun _ kk => r_lload i0_302 rfl kk) ?_
  refine lift (fun _ kk => r_lcmp i0_304 kk) ?_
  refine lift (fun _ kk => r_ifF i0_305 (XT.ll_ne_f rfl) kk) ?_
  refine lift (fun _ kk => r_aload i0_308 rfl rfl kk) ?_
  refine lift (fun _ kk => s0_310 hw (H1 := [_, _, _, _]) rfl (count_m hw) rfl (leB rfl) kk) ?_
  refine lift (fun _ kk => r_iconst i0_313 kk) ?_
  refine lift (fun _ kk => r_icF i0_314 (XT.ii_ne_f (by decide)) kk) ?_
  refine lift (fun _ kk => r_iconst i0_317 kk) ?_
  refine lift (fun _ kk => r_goto i0_318 kk) ?_
  exact ⟨_, r_zreturn i0_322 rfl (by first | decide | simp), leB rfl, leB rfl⟩
set_option maxHeartbeats 4000000 in
theorem fin130 {l : Launch} {Z : State} {a0 : Array Value} {n0 : Nat} (hw : HW Z a0) (p0 p1 : Int64) (p2 p3 a b c d : Int32) (ha : 0 ≤ a.toInt ∧ a.toInt ≤ 127) (hb : 0 ≤ b.toInt ∧ b.toInt ≤ 127) (hc : 0 ≤ c.toInt ∧ c.toInt ≤ 127) (hd : 0 ≤ d.toInt ∧ d.toInt ≤ 127) : RunsB K l Z n0 m0 68 [.val (.long p0), .second, .val (.long p1), .second, .val (.int p2), .val (.int p3), .val (.int a), .val (.int b), .val (.int c), .val (.int d), .val (.int 3), .val (.int 1), .val (.int 0), .unset, .unset, .unset, .unset, .unset, .unset] [] [] (some (.int 1)) 16 128 := by
  refine lift (fun _ kk => s0_68 hw (a := 0) (H1 := [_]) rfl rfl kk) ?_
  refine lift (fun _ kk => r_dup i0_71 rfl kk) ?_
  refine lift (fun _ kk => r_iconst i0_72 kk) ?_
  refine lift (fun _ kk => r_iconst i0_73 kk) ?_
  refine lift (fun _ kk => s0_74 hw (H1 := [_, _, _]) (init_m hw) rfl (leB rfl) kk) ?_
  refine lift (fun _ kk => r_astore (ls' := [_, _, _, _, _, _, _, _, _, _, _, _, _, _, _, _, _, _, _]) i0_77 rfl rfl rfl kk) ?_
  refine lift (fun _ kk => r_iload i0_79 rfl kk) ?_
  refine lift (fun _ kk => r_ifF i0_81 (XT.i0_eq_f (by decide)) kk) ?_
  refine lift (fun _ kk => r_aload i0_84 rfl rfl kk) ?_
  refine lift (fun _ kk => r_iload i0_86 rfl kk) ?_
  refine lift (fun _ kk => s0_88 hw (H1 := [_, _, _]) rfl (add_m hw (s' := 1) (vs' := [_, _, _, _]) (i := 0) (by decide) (by decide) rfl ⟨by decide, by decide⟩ (ltB rfl) rfl) rfl (leB rfl) kk) ?_
  refine lift (fun _ kk => r_aload i0_91 rfl rfl kk) ?_
  refine lift (fun _ kk => s0_93 hw (H1 := [_, _, _]) rfl (end_m hw (c' := 1) (ss' := [_, _, _]) (i := 1) (by decide) (by decide) rfl ⟨by decide, by decide⟩ (ltB rfl) rfl) rfl (leB rfl) kk) ?_
  refine lift (fun _ kk => r_iload i0_96 rfl kk) ?_
  refine lift (fun _ kk => r_iconst i0_98 kk) ?_
  refine lift (fun _ kk => r_icF i0_99 (XT.ii_lt_f (by decide)) kk) ?_
  refine lift (fun _ kk => r_aload i0_102 rfl rfl kk) ?_
  refine lift (fun _ kk => r_iload i0_104 rfl kk) ?_
  refine lift (fun _ kk => s0_106 hw (H1 := [_, _, _]) rfl (add_m hw (s' := 2) (vs' := [_, _, _, _]) (i := 1) (by decide) (by decide) rfl ⟨by decide, by decide⟩ (ltB rfl) rfl) rfl (leB rfl) kk) ?_
  refine lift (fun _ kk => r_iload i0_109 rfl kk) ?_
  refine lift (fun _ kk => r_iconst i0_111 kk) ?_
  refine lift (fun _ kk => r_icF i0_112 (XT.ii_lt_f (by decide)) kk) ?_
  refine lift (fun _ kk => r_aload i0_115 rfl rfl kk) ?_
  refine lift (fun _ kk => r_iload i0_117 rfl kk) ?_
  refine lift (fun _ kk => s0_119 hw (H1 := [_, _, _]) rfl (add_m hw (s' := 3) (vs' := [_, _, _, _]) (i := 2) (by decide) (by decide) rfl ⟨by decide, by decide⟩ (ltB rfl) rfl) rfl (leB rfl) kk) ?_
  refine lift (fun _ kk => r_iload i0_122 rfl kk) ?_
  refine lift (fun _ kk => r_iconst i0_124 kk) ?_
  refine lift (fun _ kk => r_icF i0_125 (XT.ii_lt_f (by decide)) kk) ?_
  refine lift (fun _ kk => r_aload i0_128 rfl rfl kk) ?_
  refine lift (fun _ kk => r_iload i0_130 rfl kk) ?_
  refine lift (fun _ kk => s0_132 hw (H1 := [_, _, _]) rfl (add_m hw (s' := 4) (vs' := [_, _, _, _]) (i := 3) (by decide) (by decide) rfl ⟨by decide, by decide⟩ (ltB rfl) rfl) rfl (leB rfl) kk) ?_
  refine lift (fun _ kk => r_aload i0_135 rfl rfl kk) ?_
  refine lift (fun _ kk => s0_137 hw (H1 := [_, _, _]) rfl (end_m hw (c' := 2) (ss' := [_, _, _]) (i := 2) (by decide) (by decide) rfl ⟨by decide, by decide⟩ (ltB rfl) rfl) rfl (leB rfl) kk) ?_
  refine lift (fun _ kk => r_iconst i0_140 kk) ?_
  refine lift (fun _ kk => s0_141 hw (a := 3) (o := [.long 0, .long 0]) (H1 := [_, _, _, _]) (by decide) (by decide) rfl rfl rfl kk) ?_
  refine lift (fun _ kk => r_astore (ls' := [_, _, _, _, _, _, _, _, _, _, _, _, _, _, _, _, _, _, _]) i0_143 rfl rfl rfl kk) ?_
  refine lift (fun _ kk => r_aload i0_145 rfl rfl kk) ?_
  refine lift (fun _ kk => r_iconst i0_147 kk) ?_
  refine lift (fun _ kk => r_lloadN i0_148 rfl kk) ?_
  refine lift (fun _ kk => r_lastore (i := 0) (vs' := [_, _]) (H1 := [_, _, _, _]) i0_149 rfl ⟨by decide, by decide⟩ (ltB rfl) rfl rfl kk) ?_
  refine lift (fun _ kk => r_aload i0_150 rfl rfl kk) ?_
  refine lift (fun _ kk => r_iconst i0_152 kk) ?_
  refine lift (fun _ kk => r_lloadN i0_153 rfl kk) ?_
  refine lift (fun _ kk => r_lastore (i := 1) (vs' := [_, _]) (H1 := [_, _, _, _]) i0_154 rfl ⟨by decide, by decide⟩ (ltB rfl) rfl rfl kk) ?_
  refine lift (fun _ kk => r_aload i0_155 rfl rfl kk) ?_
  refine lift (fun _ kk => r_iload i0_157 rfl kk) ?_
  refine lift (fun _ kk => r_aload i0_159 rfl rfl kk) ?_
  refine lift (fun _ kk => s0_161 hw (H1 := [_, _, _, _]) rfl (rem001 hw rfl rfl rfl ha) rfl (leB rfl) kk) ?_
  refine lift (fun _ kk => r_lloadN i0_164 rfl kk) ?_
  refine lift (fun _ kk => r_lstore (ls' := [_, _, _, _, _, _, _, _, _, _, _, _, _, _, _, _, _, _, _]) i0_165 rfl rfl kk) ?_
  refine lift (fun _ kk => r_lloadN i0_167 rfl kk) ?_
  refine lift (fun _ kk => r_lstore (ls' := [_, _, _, _, _, _, _, _, _, _, _, _, _, _, _, _, _, _, _]) i0_168 rfl rfl kk) ?_
  refine lift (fun _ kk => r_iload i0_170 rfl kk) ?_
  refine lift (fun _ kk => r_ifF i0_172 (XT.i0_ne_f (by decide)) kk) ?_
  refine lift (fun _ kk => r_iload i0_175 rfl kk) ?_
  refine lift (fun _ kk => r_ifF i0_177 (XT.i0_eq_f (by decide)) kk) ?_
  refine lift (fun _ kk => r_lload i0_180 rfl kk) ?_
  refine lift (fun _ kk => r_iconst i0_182 kk) ?_
  refine lift (fun _ kk => r_iload i0_183 rfl kk) ?_
  refine lift (fun _ kk => s0_185 hw (H1 := [_, _, _, _]) (c7 hw _ _ _) rfl (leB rfl) kk) ?_
  refine lift (fun _ kk => r_lstore (ls' := [_, _, _, _, _, _, _, _, _, _, _, _, _, _, _, _, _, _, _]) i0_188 rfl rfl kk) ?_
  refine lift (fun _ kk => r_lload i0_190 rfl kk) ?_
  refine lift (fun _ kk => r_iconst i0_192 kk) ?_
  refine lift (fun _ kk => r_iload i0_193 rfl kk) ?_
  refine lift (fun _ kk => s0_195 hw (H1 := [_, _, _, _]) (c7 hw _ _ _) rfl (leB rfl) kk) ?_
  refine lift (fun _ kk => r_lstore (ls' := [_, _, _, _, _, _, _, _, _, _, _, _, _, _, _, _, _, _, _]) i0_198 rfl rfl kk) ?_
  refine lift (fun _ kk => r_goto i0_200 kk) ?_
  refine lift (fun _ kk => r_aload i0_281 rfl rfl kk) ?_
  refine lift (fun _ kk => r_len (n := 2) i0_283 rfl rfl kk) ?_
  refine lift (fun _ kk => r_iconst i0_284 kk) ?_
  refine lift (fun _ kk => r_icF i0_285 (XT.ii_ne_f (by decide)) kk) ?_
  refine lift (fun _ kk => r_aload i0_288 rfl rfl kk) ?_
  refine lift (fun _ kk => r_iconst i0_290 kk) ?_
  refine lift (fun _ kk => r_laload (i := 0) i0_291 rfl ⟨by decide, by decide⟩ rfl kk) ?_
  refine lift (fun _ kk => r_lload i0_292 rfl kk) ?_
  refine lift (fun _ kk => r_lcmp i0_294 kk) ?_
  refine lift (fun _ kk => r_ifF i0_295 (XT.ll_ne_f rfl) kk) ?_
  refine lift (fun _ kk => r_aload i0_298 rfl rfl kk) ?_
  refine lift (fun _ kk => r_iconst i0_300 kk) ?_
  refine lift (fun _ kk => r_laload (i := 1) i0_301 rfl ⟨by decide, by decide⟩ rfl kk) ?_
  refine lift (fun _ kk => r_lload i0_302 rfl kk) ?_
  refine lift (fun _ kk => r_lcmp i0_304 kk) ?_
  refine lift (fun _ kk => r_ifF i0_305 (XT.ll_ne_f rfl) kk) ?_
  refine lift (fun _ kk => r_aload i0_308 rfl rfl kk) ?_
  refine lift (fun _ kk => s0_310 hw (H1 := [_, _, _, _]) rfl (count_m hw) rfl (leB rfl) kk) ?_
  refine lift (fun _ kk => r_iconst i0_313 kk) ?_
  refine lift (fun _ kk => r_icF i0_314 (XT.ii_ne_f (by decide)) kk) ?_
  refine lift (fun _ kk => r_iconst i0_317 kk) ?_
  refine lift (fun _ kk => r_goto i0_318 kk) ?_
  exact ⟨_, r_zreturn i0_322 rfl (by first | decide | simp), leB rfl, leB rfl⟩
set_option maxHeartbeats 4000000 in
theorem fin131 {l : Launch} {Z : State} {a0 : Array Value} {n0 : Nat} (hw : HW Z a0) (p0 p1 : Int64) (p2 p3 a b c d : Int32) (ha : 0 ≤ a.toInt ∧ a.toInt ≤ 127) (hb : 0 ≤ b.toInt ∧ b.toInt ≤ 127) (hc : 0 ≤ c.toInt ∧ c.toInt ≤ 127) (hd : 0 ≤ d.toInt ∧ d.toInt ≤ 127) : RunsB K l Z n0 m0 68 [.val (.long p0), .second, .val (.long p1), .second, .val (.int p2), .val (.int p3), .val (.int a), .val (.int b), .val (.int c), .val (.int d), .val (.int 3), .val (.int 1), .val (.int 1), .unset, .unset, .unset, .unset, .unset, .unset] [] [] (some (.int 1)) 16 128 := by
  refine lift (fun _ kk => s0_68 hw (a := 0) (H1 := [_]) rfl rfl kk) ?_
  refine lift (fun _ kk => r_dup i0_71 rfl kk) ?_
  refine lift (fun _ kk => r_iconst i0_72 kk) ?_
  refine lift (fun _ kk => r_iconst i0_73 kk) ?_
  refine lift (fun _ kk => s0_74 hw (H1 := [_, _, _]) (init_m hw) rfl (leB rfl) kk) ?_
  refine lift (fun _ kk => r_astore (ls' := [_, _, _, _, _, _, _, _, _, _, _, _, _, _, _, _, _, _, _]) i0_77 rfl rfl rfl kk) ?_
  refine lift (fun _ kk => r_iload i0_79 rfl kk) ?_
  refine lift (fun _ kk => r_ifF i0_81 (XT.i0_eq_f (by decide)) kk) ?_
  refine lift (fun _ kk => r_aload i0_84 rfl rfl kk) ?_
  refine lift (fun _ kk => r_iload i0_86 rfl kk) ?_
  refine lift (fun _ kk => s0_88 hw (H1 := [_, _, _]) rfl (add_m hw (s' := 1) (vs' := [_, _, _, _]) (i := 0) (by decide) (by decide) rfl ⟨by decide, by decide⟩ (ltB rfl) rfl) rfl (leB rfl) kk) ?_
  refine lift (fun _ kk => r_aload i0_91 rfl rfl kk) ?_
  refine lift (fun _ kk => s0_93 hw (H1 := [_, _, _]) rfl (end_m hw (c' := 1) (ss' := [_, _, _]) (i := 1) (by decide) (by decide) rfl ⟨by decide, by decide⟩ (ltB rfl) rfl) rfl (leB rfl) kk) ?_
  refine lift (fun _ kk => r_iload i0_96 rfl kk) ?_
  refine lift (fun _ kk => r_iconst i0_98 kk) ?_
  refine lift (fun _ kk => r_icF i0_99 (XT.ii_lt_f (by decide)) kk) ?_
  refine lift (fun _ kk => r_aload i0_102 rfl rfl kk) ?_
  refine lift (fun _ kk => r_iload i0_104 rfl kk) ?_
  refine lift (fun _ kk => s0_106 hw (H1 := [_, _, _]) rfl (add_m hw (s' := 2) (vs' := [_, _, _, _]) (i := 1) (by decide) (by decide) rfl ⟨by decide, by decide⟩ (ltB rfl) rfl) rfl (leB rfl) kk) ?_
  refine lift (fun _ kk => r_iload i0_109 rfl kk) ?_
  refine lift (fun _ kk => r_iconst i0_111 kk) ?_
  refine lift (fun _ kk => r_icF i0_112 (XT.ii_lt_f (by decide)) kk) ?_
  refine lift (fun _ kk => r_aload i0_115 rfl rfl kk) ?_
  refine lift (fun _ kk => r_iload i0_117 rfl kk) ?_
  refine lift (fun _ kk => s0_119 hw (H1 := [_, _, _]) rfl (add_m hw (s' := 3) (vs' := [_, _, _, _]) (i := 2) (by decide) (by decide) rfl ⟨by decide, by decide⟩ (ltB rfl) rfl) rfl (leB rfl) kk) ?_
  refine lift (fun _ kk => r_iload i0_122 rfl kk) ?_
  refine lift (fun _ kk => r_iconst i0_124 kk) ?_
  refine lift (fun _ kk => r_icF i0_125 (XT.ii_lt_f (by decide)) kk) ?_
  refine lift (fun _ kk => r_aload i0_128 rfl rfl kk) ?_
  refine lift (fun _ kk => r_iload i0_130 rfl kk) ?_
  refine lift (fun _ kk => s0_132 hw (H1 := [_, _, _]) rfl (add_m hw (s' := 4) (vs' := [_, _, _, _]) (i := 3) (by decide) (by decide) rfl ⟨by decide, by decide⟩ (ltB rfl) rfl) rfl (leB rfl) kk) ?_
  refine lift (fun _ kk => r_aload i0_135 rfl rfl kk) ?_
  refine lift (fun _ kk => s0_137 hw (H1 := [_, _, _]) rfl (end_m hw (c' := 2) (ss' := [_, _, _]) (i := 2) (by decide) (by decide) rfl ⟨by decide, by decide⟩ (ltB rfl) rfl) rfl (leB rfl) kk) ?_
  refine lift (fun _ kk => r_iconst i0_140 kk) ?_
  refine lift (fun _ kk => s0_141 hw (a := 3) (o := [.long 0, .long 0]) (H1 := [_, _, _, _]) (by decide) (by decide) rfl rfl rfl kk) ?_
  refine lift (fun _ kk => r_astore (ls' := [_, _, _, _, _, _, _, _, _, _, _, _, _, _, _, _, _, _, _]) i0_143 rfl rfl rfl kk) ?_
  refine lift (fun _ kk => r_aload i0_145 rfl rfl kk) ?_
  refine lift (fun _ kk => r_iconst i0_147 kk) ?_
  refine lift (fun _ kk => r_lloadN i0_148 rfl kk) ?_
  refine lift (fun _ kk => r_lastore (i := 0) (vs' := [_, _]) (H1 := [_, _, _, _]) i0_149 rfl ⟨by decide, by decide⟩ (ltB rfl) rfl rfl kk) ?_
  refine lift (fun _ kk => r_aload i0_150 rfl rfl kk) ?_
  refine lift (fun _ kk => r_iconst i0_152 kk) ?_
  refine lift (fun _ kk => r_lloadN i0_153 rfl kk) ?_
  refine lift (fun _ kk => r_lastore (i := 1) (vs' := [_, _]) (H1 := [_, _, _, _]) i0_154 rfl ⟨by decide, by decide⟩ (ltB rfl) rfl rfl kk) ?_
  refine lift (fun _ kk => r_aload i0_155 rfl rfl kk) ?_
  refine lift (fun _ kk => r_iload i0_157 rfl kk) ?_
  refine lift (fun _ kk => r_aload i0_159 rfl rfl kk) ?_
  refine lift (fun _ kk => s0_161 hw (H1 := [_, _, _, _]) rfl (rem113 hw rfl rfl rfl hb rfl hc rfl hd) rfl (leB rfl) kk) ?_
  refine lift (fun _ kk => r_lloadN i0_164 rfl kk) ?_
  refine lift (fun _ kk => r_lstore (ls' := [_, _, _, _, _, _, _, _, _, _, _, _, _, _, _, _, _, _, _]) i0_165 rfl rfl kk) ?_
  refine lift (fun _ kk => r_lloadN i0_167 rfl kk) ?_
  refine lift (fun _ kk => r_lstore (ls' := [_, _, _, _, _, _, _, _, _, _, _, _, _, _, _, _, _, _, _]) i0_168 rfl rfl kk) ?_
  refine lift (fun _ kk => r_iload i0_170 rfl kk) ?_
  refine lift (fun _ kk => r_ifT i0_172 (XT.i0_ne_t (by decide)) kk) ?_
  refine lift (fun _ kk => r_iload i0_203 rfl kk) ?_
  refine lift (fun _ kk => r_iconst i0_205 kk) ?_
  refine lift (fun _ kk => r_icF i0_206 (XT.ii_lt_f (by decide)) kk) ?_
  refine lift (fun _ kk => r_lload i0_209 rfl kk) ?_
  refine lift (fun _ kk => r_iconst i0_211 kk) ?_
  refine lift (fun _ kk => r_iload i0_212 rfl kk) ?_
  refine lift (fun _ kk => s0_214 hw (H1 := [_, _, _, _]) (c7 hw _ _ _) rfl (leB rfl) kk) ?_
  refine lift (fun _ kk => r_lstore (ls' := [_, _, _, _, _, _, _, _, _, _, _, _, _, _, _, _, _, _, _]) i0_217 rfl rfl kk) ?_
  refine lift (fun _ kk => r_lload i0_219 rfl kk) ?_
  refine lift (fun _ kk => r_iconst i0_221 kk) ?_
  refine lift (fun _ kk => r_iload i0_222 rfl kk) ?_
  refine lift (fun _ kk => s0_224 hw (H1 := [_, _, _, _]) (c7 hw _ _ _) rfl (leB rfl) kk) ?_
  refine lift (fun _ kk => r_lstore (ls' := [_, _, _, _, _, _, _, _, _, _, _, _, _, _, _, _, _, _, _]) i0_227 rfl rfl kk) ?_
  refine lift (fun _ kk => r_iload i0_229 rfl kk) ?_
  refine lift (fun _ kk => r_iconst i0_231 kk) ?_
  refine lift (fun _ kk => r_icF i0_232 (XT.ii_lt_f (by decide)) kk) ?_
  refine lift (fun _ kk => r_lload i0_235 rfl kk) ?_
  refine lift (fun _ kk => r_iconst i0_237 kk) ?_
  refine lift (fun _ kk => r_iload i0_238 rfl kk) ?_
  refine lift (fun _ kk => s0_240 hw (H1 := [_, _, _, _]) (c7 hw _ _ _) rfl (leB rfl) kk) ?_
  refine lift (fun _ kk => r_lstore (ls' := [_, _, _, _, _, _, _, _, _, _, _, _, _, _, _, _, _, _, _]) i0_243 rfl rfl kk) ?_
  refine lift (fun _ kk => r_lload i0_245 rfl kk) ?_
  refine lift (fun _ kk => r_iconst i0_247 kk) ?_
  refine lift (fun _ kk => r_iload i0_248 rfl kk) ?_
  refine lift (fun _ kk => s0_250 hw (H1 := [_, _, _, _]) (c7 hw _ _ _) rfl (leB rfl) kk) ?_
  refine lift (fun _ kk => r_lstore (ls' := [_, _, _, _, _, _, _, _, _, _, _, _, _, _, _, _, _, _, _]) i0_253 rfl rfl kk) ?_
  refine lift (fun _ kk => r_iload i0_255 rfl kk) ?_
  refine lift (fun _ kk => r_iconst i0_257 kk) ?_
  refine lift (fun _ kk => r_icF i0_258 (XT.ii_lt_f (by decide)) kk) ?_
  refine lift (fun _ kk => r_lload i0_261 rfl kk) ?_
  refine lift (fun _ kk => r_iconst i0_263 kk) ?_
  refine lift (fun _ kk => r_iload i0_264 rfl kk) ?_
  refine lift (fun _ kk => s0_266 hw (H1 := [_, _, _, _]) (c7 hw _ _ _) rfl (leB rfl) kk) ?_
  refine lift (fun _ kk => r_lstore (ls' := [_, _, _, _, _, _, _, _, _, _, _, _, _, _, _, _, _, _, _]) i0_269 rfl rfl kk) ?_
  refine lift (fun _ kk => r_lload i0_271 rfl kk) ?_
  refine lift (fun _ kk => r_iconst i0_273 kk) ?_
  refine lift (fun _ kk => r_iload i0_274 rfl kk) ?_
  refine lift (fun _ kk => s0_276 hw (H1 := [_, _, _, _]) (c7 hw _ _ _) rfl (leB rfl) kk) ?_
  refine lift (fun _ kk => r_lstore (ls' := [_, _, _, _, _, _, _, _, _, _, _, _, _, _, _, _, _, _, _]) i0_279 rfl rfl kk) ?_
  refine lift (fun _ kk => r_aload i0_281 rfl rfl kk) ?_
  refine lift (fun _ kk => r_len (n := 2) i0_283 rfl rfl kk) ?_
  refine lift (fun _ kk => r_iconst i0_284 kk) ?_
  refine lift (fun _ kk => r_icF i0_285 (XT.ii_ne_f (by decide)) kk) ?_
  refine lift (fun _ kk => r_aload i0_288 rfl rfl kk) ?_
  refine lift (fun _ kk => r_iconst i0_290 kk) ?_
  refine lift (fun _ kk => r_laload (i := 0) i0_291 rfl ⟨by decide, by decide⟩ rfl kk) ?_
  refine lift (fun _ kk => r_lload i0_292 rfl kk) ?_
  refine lift (fun _ kk => r_lcmp i0_294 kk) ?_
  refine lift (fun _ kk => r_ifF i0_295 (XT.ll_ne_f rfl) kk) ?_
  refine lift (fun _ kk => r_aload i0_298 rfl rfl kk) ?_
  refine lift (fun _ kk => r_iconst i0_300 kk) ?_
  refine lift (fun _ kk => r_laload (i := 1) i0_301 rfl ⟨by decide, by decide⟩ rfl kk) ?_
  refine lift (fun _ kk => r_lload i0_302 rfl kk) ?_
  refine lift (fun _ kk => r_lcmp i0_304 kk) ?_
  refine lift (fun _ kk => r_ifF i0_305 (XT.ll_ne_f rfl) kk) ?_
  refine lift (fun _ kk => r_aload i0_308 rfl rfl kk) ?_
  refine lift (fun _ kk => s0_310 hw (H1 := [_, _, _, _]) rfl (count_m hw) rfl (leB rfl) kk) ?_
  refine lift (fun _ kk => r_iconst i0_313 kk) ?_
  refine lift (fun _ kk => r_icF i0_314 (XT.ii_ne_f (by decide)) kk) ?_
  refine lift (fun _ kk => r_iconst i0_317 kk) ?_
  refine lift (fun _ kk => r_goto i0_318 kk) ?_
  exact ⟨_, r_zreturn i0_322 rfl (by first | decide | simp), leB rfl, leB rfl⟩
set_option maxHeartbeats 4000000 in
theorem law_runs {l : Launch} {Z : State} {a0 : Array Value} {n0 : Nat} (hw : HW Z a0) (p0 : Int64) (p1 : Int64) (p2 : Int32) (p3 : Int32) : RunsB K l Z n0 m0 0 [.val (.long p0), .second, .val (.long p1), .second, .val (.int p2), .val (.int p3), .unset, .unset, .unset, .unset, .unset, .unset, .unset, .unset, .unset, .unset, .unset, .unset, .unset] [] [] (some (.int 1)) 16 128 := by
  refine lift (fun _ kk => r_iload i0_0 rfl kk) ?_
  refine lift (fun _ kk => r_bipush i0_2 kk) ?_
  refine lift (fun _ kk => r_iand i0_4 kk) ?_
  refine lift (fun _ kk => r_istore (ls' := [_, _, _, _, _, _, _, _, _, _, _, _, _, _, _, _, _, _, _]) i0_5 rfl rfl kk) ?_
  refine lift (fun _ kk => r_iload i0_7 rfl kk) ?_
  refine lift (fun _ kk => r_bipush i0_9 kk) ?_
  refine lift (fun _ kk => r_iushr i0_11 kk) ?_
  refine lift (fun _ kk => r_bipush i0_12 kk) ?_
  refine lift (fun _ kk => r_iand i0_14 kk) ?_
  refine lift (fun _ kk => r_istore (ls' := [_, _, _, _, _, _, _, _, _, _, _, _, _, _, _, _, _, _, _]) i0_15 rfl rfl kk) ?_
  refine lift (fun _ kk => r_iload i0_17 rfl kk) ?_
  refine lift (fun _ kk => r_bipush i0_19 kk) ?_
  refine lift (fun _ kk => r_iushr i0_21 kk) ?_
  refine lift (fun _ kk => r_bipush i0_22 kk) ?_
  refine lift (fun _ kk => r_iand i0_24 kk) ?_
  refine lift (fun _ kk => r_istore (ls' := [_, _, _, _, _, _, _, _, _, _, _, _, _, _, _, _, _, _, _]) i0_25 rfl rfl kk) ?_
  refine lift (fun _ kk => r_iload i0_27 rfl kk) ?_
  refine lift (fun _ kk => r_bipush i0_29 kk) ?_
  refine lift (fun _ kk => r_iushr i0_31 kk) ?_
  refine lift (fun _ kk => r_bipush i0_32 kk) ?_
  refine lift (fun _ kk => r_iand i0_34 kk) ?_
  refine lift (fun _ kk => r_istore (ls' := [_, _, _, _, _, _, _, _, _, _, _, _, _, _, _, _, _, _, _]) i0_35 rfl rfl kk) ?_
  refine lift (fun _ kk => r_iload i0_37 rfl kk) ?_
  refine lift (fun _ kk => r_bipush i0_39 kk) ?_
  refine lift (fun _ kk => r_iushr i0_41 kk) ?_
  refine lift (fun _ kk => r_iconst i0_42 kk) ?_
  refine lift (fun _ kk => r_iand i0_43 kk) ?_
  refine lift (fun _ kk => r_istore (ls' := [_, _, _, _, _, _, _, _, _, _, _, _, _, _, _, _, _, _, _]) i0_44 rfl rfl kk) ?_
  rcases own_3 (XT.ushr p2 28) with g | g | g | g <;> rcases own_1 (XT.ushr p3 1) with r | r <;> by_cases h : p3 &&& 1 = 0
  · rw [g]
    refine lift (fun _ kk => r_iload i0_46 rfl kk) ?_
    refine lift (fun _ kk => r_iconst i0_48 kk) ?_
    refine lift (fun _ kk => r_iand i0_49 kk) ?_
    refine lift (fun _ kk => r_ifT i0_50 (XT.i0_eq_t h) kk) ?_
    refine lift (fun _ kk => r_iconst i0_57 kk) ?_
    refine lift (fun _ kk => r_istore (ls' := [_, _, _, _, _, _, _, _, _, _, _, _, _, _, _, _, _, _, _]) i0_58 rfl rfl kk) ?_
    refine lift (fun _ kk => r_iload i0_60 rfl kk) ?_
    refine lift (fun _ kk => r_iconst i0_62 kk) ?_
    refine lift (fun _ kk => r_iushr i0_63 kk) ?_
    refine lift (fun _ kk => r_iconst i0_64 kk) ?_
    refine lift (fun _ kk => r_iand i0_65 kk) ?_
    refine lift (fun _ kk => r_istore (ls' := [_, _, _, _, _, _, _, _, _, _, _, _, _, _, _, _, _, _, _]) i0_66 rfl rfl kk) ?_
    rw [r]
    exact fin000 hw p0 p1 p2 p3 _ _ _ _ (own_127 _) (own_127 _) (own_127 _) (own_127 _)
  · rw [g]
    refine lift (fun _ kk => r_iload i0_46 rfl kk) ?_
    refine lift (fun _ kk => r_iconst i0_48 kk) ?_
    refine lift (fun _ kk => r_iand i0_49 kk) ?_
    refine lift (fun _ kk => r_ifF i0_50 (XT.i0_eq_f h) kk) ?_
    refine lift (fun _ kk => r_iconst i0_53 kk) ?_
    refine lift (fun _ kk => r_goto i0_54 kk) ?_
    refine lift (fun _ kk => r_istore (ls' := [_, _, _, _, _, _, _, _, _, _, _, _, _, _, _, _, _, _, _]) i0_58 rfl rfl kk) ?_
    refine lift (fun _ kk => r_iload i0_60 rfl kk) ?_
    refine lift (fun _ kk => r_iconst i0_62 kk) ?_
    refine lift (fun _ kk => r_iushr i0_63 kk) ?_
    refine lift (fun _ kk => r_iconst i0_64 kk) ?_
    refine lift (fun _ kk => r_iand i0_65 kk) ?_
    refine lift (fun _ kk => r_istore (ls' := [_, _, _, _, _, _, _, _, _, _, _, _, _, _, _, _, _, _, _]) i0_66 rfl rfl kk) ?_
    rw [r]
    exact fin100 hw p0 p1 p2 p3 _ _ _ _ (own_127 _) (own_127 _) (own_127 _) (own_127 _)
  · rw [g]
    refine lift (fun _ kk => r_iload i0_46 rfl kk) ?_
    refine lift (fun _ kk => r_iconst i0_48 kk) ?_
    refine lift (fun _ kk => r_iand i0_49 kk) ?_
    refine lift (fun _ kk => r_ifT i0_50 (XT.i0_eq_t h) kk) ?_
    refine lift (fun _ kk => r_iconst i0_57 kk) ?_
    refine lift (fun _ kk => r_istore (ls' := [_, _, _, _, _, _, _, _, _, _, _, _, _, _, _, _, _, _, _]) i0_58 rfl rfl kk) ?_
    refine lift (fun _ kk => r_iload i0_60 rfl kk) ?_
    refine lift (fun _ kk => r_iconst i0_62 kk) ?_
    refine lift (fun _ kk => r_iushr i0_63 kk) ?_
    refine lift (fun _ kk => r_iconst i0_64 kk) ?_
    refine lift (fun _ kk => r_iand i0_65 kk) ?_
    refine lift (fun _ kk => r_istore (ls' := [_, _, _, _, _, _, _, _, _, _, _, _, _, _, _, _, _, _, _]) i0_66 rfl rfl kk) ?_
    rw [r]
    exact fin001 hw p0 p1 p2 p3 _ _ _ _ (own_127 _) (own_127 _) (own_127 _) (own_127 _)
  · rw [g]
    refine lift (fun _ kk => r_iload i0_46 rfl kk) ?_
    refine lift (fun _ kk => r_iconst i0_48 kk) ?_
    refine lift (fun _ kk => r_iand i0_49 kk) ?_
    refine lift (fun _ kk => r_ifF i0_50 (XT.i0_eq_f h) kk) ?_
    refine lift (fun _ kk => r_iconst i0_53 kk) ?_
    refine lift (fun _ kk => r_goto i0_54 kk) ?_
    refine lift (fun _ kk => r_istore (ls' := [_, _, _, _, _, _, _, _, _, _, _, _, _, _, _, _, _, _, _]) i0_58 rfl rfl kk) ?_
    refine lift (fun _ kk => r_iload i0_60 rfl kk) ?_
    refine lift (fun _ kk => r_iconst i0_62 kk) ?_
    refine lift (fun _ kk => r_iushr i0_63 kk) ?_
    refine lift (fun _ kk => r_iconst i0_64 kk) ?_
    refine lift (fun _ kk => r_iand i0_65 kk) ?_
    refine lift (fun _ kk => r_istore (ls' := [_, _, _, _, _, _, _, _, _, _, _, _, _, _, _, _, _, _, _]) i0_66 rfl rfl kk) ?_
    rw [r]
    exact fin101 hw p0 p1 p2 p3 _ _ _ _ (own_127 _) (own_127 _) (own_127 _) (own_127 _)
  · rw [g]
    refine lift (fun _ kk => r_iload i0_46 rfl kk) ?_
    refine lift (fun _ kk => r_iconst i0_48 kk) ?_
    refine lift (fun _ kk => r_iand i0_49 kk) ?_
    refine lift (fun _ kk => r_ifT i0_50 (XT.i0_eq_t h) kk) ?_
    refine lift (fun _ kk => r_iconst i0_57 kk) ?_
    refine lift (fun _ kk => r_istore (ls' := [_, _, _, _, _, _, _, _, _, _, _, _, _, _, _, _, _, _, _]) i0_58 rfl rfl kk) ?_
    refine lift (fun _ kk => r_iload i0_60 rfl kk) ?_
    refine lift (fun _ kk => r_iconst i0_62 kk) ?_
    refine lift (fun _ kk => r_iushr i0_63 kk) ?_
    refine lift (fun _ kk => r_iconst i0_64 kk) ?_
    refine lift (fun _ kk => r_iand i0_65 kk) ?_
    refine lift (fun _ kk => r_istore (ls' := [_, _, _, _, _, _, _, _, _, _, _, _, _, _, _, _, _, _, _]) i0_66 rfl rfl kk) ?_
    rw [r]
    exact fin010 hw p0 p1 p2 p3 _ _ _ _ (own_127 _) (own_127 _) (own_127 _) (own_127 _)
  · rw [g]
    refine lift (fun _ kk => r_iload i0_46 rfl kk) ?_
    refine lift (fun _ kk => r_iconst i0_48 kk) ?_
    refine lift (fun _ kk => r_iand i0_49 kk) ?_
    refine lift (fun _ kk => r_ifF i0_50 (XT.i0_eq_f h) kk) ?_
    refine lift (fun _ kk => r_iconst i0_53 kk) ?_
    refine lift (fun _ kk => r_goto i0_54 kk) ?_
    refine lift (fun _ kk => r_istore (ls' := [_, _, _, _, _, _, _, _, _, _, _, _, _, _, _, _, _, _, _]) i0_58 rfl rfl kk) ?_
    refine lift (fun _ kk => r_iload i0_60 rfl kk) ?_
    refine lift (fun _ kk => r_iconst i0_62 kk) ?_
    refine lift (fun _ kk => r_iushr i0_63 kk) ?_
    refine lift (fun _ kk => r_iconst i0_64 kk) ?_
    refine lift (fun _ kk => r_iand i0_65 kk) ?_
    refine lift (fun _ kk => r_istore (ls' := [_, _, _, _, _, _, _, _, _, _, _, _, _, _, _, _, _, _, _]) i0_66 rfl rfl kk) ?_
    rw [r]
    exact fin110 hw p0 p1 p2 p3 _ _ _ _ (own_127 _) (own_127 _) (own_127 _) (own_127 _)
  · rw [g]
    refine lift (fun _ kk => r_iload i0_46 rfl kk) ?_
    refine lift (fun _ kk => r_iconst i0_48 kk) ?_
    refine lift (fun _ kk => r_iand i0_49 kk) ?_
    refine lift (fun _ kk => r_ifT i0_50 (XT.i0_eq_t h) kk) ?_
    refine lift (fun _ kk => r_iconst i0_57 kk) ?_
    refine lift (fun _ kk => r_istore (ls' := [_, _, _, _, _, _, _, _, _, _, _, _, _, _, _, _, _, _, _]) i0_58 rfl rfl kk) ?_
    refine lift (fun _ kk => r_iload i0_60 rfl kk) ?_
    refine lift (fun _ kk => r_iconst i0_62 kk) ?_
    refine lift (fun _ kk => r_iushr i0_63 kk) ?_
    refine lift (fun _ kk => r_iconst i0_64 kk) ?_
    refine lift (fun _ kk => r_iand i0_65 kk) ?_
    refine lift (fun _ kk => r_istore (ls' := [_, _, _, _, _, _, _, _, _, _, _, _, _, _, _, _, _, _, _]) i0_66 rfl rfl kk) ?_
    rw [r]
    exact fin011 hw p0 p1 p2 p3 _ _ _ _ (own_127 _) (own_127 _) (own_127 _) (own_127 _)
  · rw [g]
    refine lift (fun _ kk => r_iload i0_46 rfl kk) ?_
    refine lift (fun _ kk => r_iconst i0_48 kk) ?_
    refine lift (fun _ kk => r_iand i0_49 kk) ?_
    refine lift (fun _ kk => r_ifF i0_50 (XT.i0_eq_f h) kk) ?_
    refine lift (fun _ kk => r_iconst i0_53 kk) ?_
    refine lift (fun _ kk => r_goto i0_54 kk) ?_
    refine lift (fun _ kk => r_istore (ls' := [_, _, _, _, _, _, _, _, _, _, _, _, _, _, _, _, _, _, _]) i0_58 rfl rfl kk) ?_
    refine lift (fun _ kk => r_iload i0_60 rfl kk) ?_
    refine lift (fun _ kk => r_iconst i0_62 kk) ?_
    refine lift (fun _ kk => r_iushr i0_63 kk) ?_
    refine lift (fun _ kk => r_iconst i0_64 kk) ?_
    refine lift (fun _ kk => r_iand i0_65 kk) ?_
    refine lift (fun _ kk => r_istore (ls' := [_, _, _, _, _, _, _, _, _, _, _, _, _, _, _, _, _, _, _]) i0_66 rfl rfl kk) ?_
    rw [r]
    exact fin111 hw p0 p1 p2 p3 _ _ _ _ (own_127 _) (own_127 _) (own_127 _) (own_127 _)
  · rw [g]
    refine lift (fun _ kk => r_iload i0_46 rfl kk) ?_
    refine lift (fun _ kk => r_iconst i0_48 kk) ?_
    refine lift (fun _ kk => r_iand i0_49 kk) ?_
    refine lift (fun _ kk => r_ifT i0_50 (XT.i0_eq_t h) kk) ?_
    refine lift (fun _ kk => r_iconst i0_57 kk) ?_
    refine lift (fun _ kk => r_istore (ls' := [_, _, _, _, _, _, _, _, _, _, _, _, _, _, _, _, _, _, _]) i0_58 rfl rfl kk) ?_
    refine lift (fun _ kk => r_iload i0_60 rfl kk) ?_
    refine lift (fun _ kk => r_iconst i0_62 kk) ?_
    refine lift (fun _ kk => r_iushr i0_63 kk) ?_
    refine lift (fun _ kk => r_iconst i0_64 kk) ?_
    refine lift (fun _ kk => r_iand i0_65 kk) ?_
    refine lift (fun _ kk => r_istore (ls' := [_, _, _, _, _, _, _, _, _, _, _, _, _, _, _, _, _, _, _]) i0_66 rfl rfl kk) ?_
    rw [r]
    exact fin020 hw p0 p1 p2 p3 _ _ _ _ (own_127 _) (own_127 _) (own_127 _) (own_127 _)
  · rw [g]
    refine lift (fun _ kk => r_iload i0_46 rfl kk) ?_
    refine lift (fun _ kk => r_iconst i0_48 kk) ?_
    refine lift (fun _ kk => r_iand i0_49 kk) ?_
    refine lift (fun _ kk => r_ifF i0_50 (XT.i0_eq_f h) kk) ?_
    refine lift (fun _ kk => r_iconst i0_53 kk) ?_
    refine lift (fun _ kk => r_goto i0_54 kk) ?_
    refine lift (fun _ kk => r_istore (ls' := [_, _, _, _, _, _, _, _, _, _, _, _, _, _, _, _, _, _, _]) i0_58 rfl rfl kk) ?_
    refine lift (fun _ kk => r_iload i0_60 rfl kk) ?_
    refine lift (fun _ kk => r_iconst i0_62 kk) ?_
    refine lift (fun _ kk => r_iushr i0_63 kk) ?_
    refine lift (fun _ kk => r_iconst i0_64 kk) ?_
    refine lift (fun _ kk => r_iand i0_65 kk) ?_
    refine lift (fun _ kk => r_istore (ls' := [_, _, _, _, _, _, _, _, _, _, _, _, _, _, _, _, _, _, _]) i0_66 rfl rfl kk) ?_
    rw [r]
    exact fin120 hw p0 p1 p2 p3 _ _ _ _ (own_127 _) (own_127 _) (own_127 _) (own_127 _)
  · rw [g]
    refine lift (fun _ kk => r_iload i0_46 rfl kk) ?_
    refine lift (fun _ kk => r_iconst i0_48 kk) ?_
    refine lift (fun _ kk => r_iand i0_49 kk) ?_
    refine lift (fun _ kk => r_ifT i0_50 (XT.i0_eq_t h) kk) ?_
    refine lift (fun _ kk => r_iconst i0_57 kk) ?_
    refine lift (fun _ kk => r_istore (ls' := [_, _, _, _, _, _, _, _, _, _, _, _, _, _, _, _, _, _, _]) i0_58 rfl rfl kk) ?_
    refine lift (fun _ kk => r_iload i0_60 rfl kk) ?_
    refine lift (fun _ kk => r_iconst i0_62 kk) ?_
    refine lift (fun _ kk => r_iushr i0_63 kk) ?_
    refine lift (fun _ kk => r_iconst i0_64 kk) ?_
    refine lift (fun _ kk => r_iand i0_65 kk) ?_
    refine lift (fun _ kk => r_istore (ls' := [_, _, _, _, _, _, _, _, _, _, _, _, _, _, _, _, _, _, _]) i0_66 rfl rfl kk) ?_
    rw [r]
    exact fin021 hw p0 p1 p2 p3 _ _ _ _ (own_127 _) (own_127 _) (own_127 _) (own_127 _)
  · rw [g]
    refine lift (fun _ kk => r_iload i0_46 rfl kk) ?_
    refine lift (fun _ kk => r_iconst i0_48 kk) ?_
    refine lift (fun _ kk => r_iand i0_49 kk) ?_
    refine lift (fun _ kk => r_ifF i0_50 (XT.i0_eq_f h) kk) ?_
    refine lift (fun _ kk => r_iconst i0_53 kk) ?_
    refine lift (fun _ kk => r_goto i0_54 kk) ?_
    refine lift (fun _ kk => r_istore (ls' := [_, _, _, _, _, _, _, _, _, _, _, _, _, _, _, _, _, _, _]) i0_58 rfl rfl kk) ?_
    refine lift (fun _ kk => r_iload i0_60 rfl kk) ?_
    refine lift (fun _ kk => r_iconst i0_62 kk) ?_
    refine lift (fun _ kk => r_iushr i0_63 kk) ?_
    refine lift (fun _ kk => r_iconst i0_64 kk) ?_
    refine lift (fun _ kk => r_iand i0_65 kk) ?_
    refine lift (fun _ kk => r_istore (ls' := [_, _, _, _, _, _, _, _, _, _, _, _, _, _, _, _, _, _, _]) i0_66 rfl rfl kk) ?_
    rw [r]
    exact fin121 hw p0 p1 p2 p3 _ _ _ _ (own_127 _) (own_127 _) (own_127 _) (own_127 _)
  · rw [g]
    refine lift (fun _ kk => r_iload i0_46 rfl kk) ?_
    refine lift (fun _ kk => r_iconst i0_48 kk) ?_
    refine lift (fun _ kk => r_iand i0_49 kk) ?_
    refine lift (fun _ kk => r_ifT i0_50 (XT.i0_eq_t h) kk) ?_
    refine lift (fun _ kk => r_iconst i0_57 kk) ?_
    refine lift (fun _ kk => r_istore (ls' := [_, _, _, _, _, _, _, _, _, _, _, _, _, _, _, _, _, _, _]) i0_58 rfl rfl kk) ?_
    refine lift (fun _ kk => r_iload i0_60 rfl kk) ?_
    refine lift (fun _ kk => r_iconst i0_62 kk) ?_
    refine lift (fun _ kk => r_iushr i0_63 kk) ?_
    refine lift (fun _ kk => r_iconst i0_64 kk) ?_
    refine lift (fun _ kk => r_iand i0_65 kk) ?_
    refine lift (fun _ kk => r_istore (ls' := [_, _, _, _, _, _, _, _, _, _, _, _, _, _, _, _, _, _, _]) i0_66 rfl rfl kk) ?_
    rw [r]
    exact fin030 hw p0 p1 p2 p3 _ _ _ _ (own_127 _) (own_127 _) (own_127 _) (own_127 _)
  · rw [g]
    refine lift (fun _ kk => r_iload i0_46 rfl kk) ?_
    refine lift (fun _ kk => r_iconst i0_48 kk) ?_
    refine lift (fun _ kk => r_iand i0_49 kk) ?_
    refine lift (fun _ kk => r_ifF i0_50 (XT.i0_eq_f h) kk) ?_
    refine lift (fun _ kk => r_iconst i0_53 kk) ?_
    refine lift (fun _ kk => r_goto i0_54 kk) ?_
    refine lift (fun _ kk => r_istore (ls' := [_, _, _, _, _, _, _, _, _, _, _, _, _, _, _, _, _, _, _]) i0_58 rfl rfl kk) ?_
    refine lift (fun _ kk => r_iload i0_60 rfl kk) ?_
    refine lift (fun _ kk => r_iconst i0_62 kk) ?_
    refine lift (fun _ kk => r_iushr i0_63 kk) ?_
    refine lift (fun _ kk => r_iconst i0_64 kk) ?_
    refine lift (fun _ kk => r_iand i0_65 kk) ?_
    refine lift (fun _ kk => r_istore (ls' := [_, _, _, _, _, _, _, _, _, _, _, _, _, _, _, _, _, _, _]) i0_66 rfl rfl kk) ?_
    rw [r]
    exact fin130 hw p0 p1 p2 p3 _ _ _ _ (own_127 _) (own_127 _) (own_127 _) (own_127 _)
  · rw [g]
    refine lift (fun _ kk => r_iload i0_46 rfl kk) ?_
    refine lift (fun _ kk => r_iconst i0_48 kk) ?_
    refine lift (fun _ kk => r_iand i0_49 kk) ?_
    refine lift (fun _ kk => r_ifT i0_50 (XT.i0_eq_t h) kk) ?_
    refine lift (fun _ kk => r_iconst i0_57 kk) ?_
    refine lift (fun _ kk => r_istore (ls' := [_, _, _, _, _, _, _, _, _, _, _, _, _, _, _, _, _, _, _]) i0_58 rfl rfl kk) ?_
    refine lift (fun _ kk => r_iload i0_60 rfl kk) ?_
    refine lift (fun _ kk => r_iconst i0_62 kk) ?_
    refine lift (fun _ kk => r_iushr i0_63 kk) ?_
    refine lift (fun _ kk => r_iconst i0_64 kk) ?_
    refine lift (fun _ kk => r_iand i0_65 kk) ?_
    refine lift (fun _ kk => r_istore (ls' := [_, _, _, _, _, _, _, _, _, _, _, _, _, _, _, _, _, _, _]) i0_66 rfl rfl kk) ?_
    rw [r]
    exact fin031 hw p0 p1 p2 p3 _ _ _ _ (own_127 _) (own_127 _) (own_127 _) (own_127 _)
  · rw [g]
    refine lift (fun _ kk => r_iload i0_46 rfl kk) ?_
    refine lift (fun _ kk => r_iconst i0_48 kk) ?_
    refine lift (fun _ kk => r_iand i0_49 kk) ?_
    refine lift (fun _ kk => r_ifF i0_50 (XT.i0_eq_f h) kk) ?_
    refine lift (fun _ kk => r_iconst i0_53 kk) ?_
    refine lift (fun _ kk => r_goto i0_54 kk) ?_
    refine lift (fun _ kk => r_istore (ls' := [_, _, _, _, _, _, _, _, _, _, _, _, _, _, _, _, _, _, _]) i0_58 rfl rfl kk) ?_
    refine lift (fun _ kk => r_iload i0_60 rfl kk) ?_
    refine lift (fun _ kk => r_iconst i0_62 kk) ?_
    refine lift (fun _ kk => r_iushr i0_63 kk) ?_
    refine lift (fun _ kk => r_iconst i0_64 kk) ?_
    refine lift (fun _ kk => r_iand i0_65 kk) ?_
    refine lift (fun _ kk => r_istore (ls' := [_, _, _, _, _, _, _, _, _, _, _, _, _, _, _, _, _, _, _]) i0_66 rfl rfl kk) ?_
    rw [r]
    exact fin131 hw p0 p1 p2 p3 _ _ _ _ (own_127 _) (own_127 _) (own_127 _) (own_127 _)
set_option maxRecDepth 65536 in
set_option maxHeartbeats 40000000 in
theorem comes_1 {Post : Tables → Env → Array Value → State → Outcome → State → Prop} (hpost : ∀ tb e args s v u, (limb_1_1.after args s (.returned v) u = true ∧ limb_1_2.after args s (.returned v) u = true ∧ True) → FrameEnd s (.returned v) u (Jvm.fieldLocs frame_1_writes args s ++ Jvm.arrayLocs frame_1_arrays args s ++ Jvm.staticLocs frame_1_statics s) 16 128 → Post tb e args s (.returned v) u) :
    ArmFor flags0 classFile x code maxLocals ret World_1 tables_1 room_1 Calls_1 rest_1 Pre_1 Post := by
  intro l hfl _ _ p e ha hc hk s m args below hf hA hF happ hP
  obtain ⟨hcalls, hrest, hpre⟩ := hP
  obtain ⟨-, -, -, hnamed, -, -, -, hat⟩ := (Spec.applies_iff hf).mp happ
  obtain ⟨hg, hn⟩ := and_e (Cond.before_iff.mp (show (Jvm.Cond.and given_1 narrow_1).before args s = true from hpre))
  obtain ⟨hcount, hk0⟩ := and_e hg
  obtain ⟨w0, w1, w2, w3, rfl⟩ : ∃ w0 w1 w2 w3 : Value, args = #[w0, w1, w2, w3] := by
    have hs : args.size = 4 := by simpa [Cond.value, given_1] using hcount
    obtain ⟨L⟩ := args
    match L, hs with
    | [w0, w1, w2, w3], _ => exact ⟨w0, w1, w2, w3, rfl⟩
  have hw : HW s _ := fun d (hd : d ∈ tables_1) => atoms_spec (ws := Jvm.Cond.code x code maxLocals ret :: tables_1) hat d (List.mem_cons_of_mem _ hd)
  replace hk0 := and_e hk0
  obtain ⟨p0, e0⟩ := isL_v hk0.1
  obtain rfl : w0 = (.long p0) := Option.some.inj e0
  have hk1 := hk0.2
  replace hk1 := and_e hk1
  obtain ⟨p1, e1⟩ := isL_v hk1.1
  obtain rfl : w1 = (.long p1) := Option.some.inj e1
  have hk2 := hk1.2
  replace hk2 := and_e hk2
  obtain ⟨p2, e2⟩ := is_v hk2.1
  obtain rfl : w2 = (.int p2) := Option.some.inj e2
  have hk3 := hk2.2
  obtain ⟨p3, e3⟩ := is_v hk3
  obtain rfl : w3 = (.int p3) := Option.some.inj e3
  obtain ⟨H', k, hcl, hsl⟩ := law_runs (l := l) (n0 := s.heap.size) hw p0 p1 p2 p3
  obtain ⟨n, o, h1, h2, h3, _, L, rfl, ⟨rfl, -, N⟩, hq⟩ := met_gen (mi := m0) (as := [.long p0, .long p1, .int p2, .int p3]) tables_1 room_1 pf0 rfl (fun h => nomatch h) k (by decide) (by decide) (by show H'.length ≤ 16 + 0; omega) (by show szs K H' ≤ 128 + 0; omega) (h := s.heap) ⟨rfl, fun k o h => by simp at h⟩ p e ha hc hk s m _ below hf ((Spec.applies_iff_loose hf).mp happ).1 ⟨rfl, State.Warmed39.refl s, rfl⟩ trivial
  refine ⟨n, _, h1, h2, h3, hpost _ _ _ _ _ _ ⟨Cond.after_iff.mpr rfl, Cond.after_iff.mpr (eq_i res_at (Term.int_eval (1)) rfl), trivial⟩ ⟨hq.1, hq.2.1, (hq.2.2.sift fun y hy => Or.inr (N y hy)).mono (by show H'.length - 0 ≤ _; omega) (by show szs K H' - 0 ≤ _; omega)⟩⟩
theorem main_1_1 : Claimed_1_1 := comes_1 fun _ _ _ _ _ _ h hF => ⟨h.1, hF⟩
theorem main_1_2 : Claimed_1_2 := comes_1 fun _ _ _ _ _ _ h hF => ⟨h.2.1, hF⟩
end Jvm.Pilot.@@N@@
namespace Jvm.Pilot.@@N@@
open Jvm Jvm.ClassFile Sem Op Lib Jvm.Free Jvm.Stand Jvm.Pilot.@@N@@.Jvm.D
/-! MADE BY PROGRAM (witnessworld.py) out of the Statement's table words and the real class files: 11 classes; the members and pool entries that the words name. The judged class is class 1, her method 1. -/
namespace start1
open Jvm.ClassFile
def u (s : String) : CpInfo := .utf8 (stringToUtf16 s)
/-- a pool by its gaps: so many unusable entries, then the entry; so many at the end -/
def gap : Nat → List CpInfo → List CpInfo
  | 0, r => r
  | n + 1, r => .unusable :: gap n r
def poolList (es : List (Nat × CpInfo)) (last : Nat) : List CpInfo := es.foldr (fun e r => gap e.1 (e.2 :: r)) (gap last [])
def pool (es : List (Nat × CpInfo)) (last : Nat) : Array CpInfo := ⟨poolList es last⟩
def fileOf (pool : Array CpInfo) (this : Nat) (attrs : Array Attribute := #[]) (ms : Array MethodInfo := #[]) (fl : Nat := 33) (sup : Nat := 0) (ifs : Array Nat := #[]) (fds : Array FieldInfo := #[]) : ClassFile where
  minorVersion := 0
  majorVersion := 65
  constantPool := pool
  accessFlags := fl
  thisClass := this
  superClass := sup
  interfaces := ifs
  fields := fds
  methods := ms
  attributes := attrs
def plain (name : String) (sup : Option ClassId) : Class where
  name := name
  kind := .ordinary
  loader := none
  accessFlags := 33
  super := sup
  interfaces := #[]
  cf := none
  fields := #[]
  methods := #[]
  instanceTypes := #[]
  staticTypes := #[]
  resolved := #[]
  callSites := []
  init := .initialized
  statics := none
  mirror := none

def pool0 : Array CpInfo := pool [(5, u "<init>"), (0, u "()V"), (1, .class_ 10), (1, u "java/lang/Object")] 113

def k0c0 : Code := { maxStack := 0, maxLocals := 1, code := object_method_1_code, exceptionTable := #[], attributes := #[] }
def k0m0 : Method := { name := "<init>", desc := "()V", sig := { parameters := [], returnType := none }, accessFlags := 1, code := some k0c0 }
/-- java/lang/Object -/
def k0 : Class := { plain "java/lang/Object" none with
  accessFlags := 33
  interfaces := #[]
  cf := some (fileOf pool0 8 #[] #[{ accessFlags := 1, nameIndex := 5, descriptorIndex := 6, attributes := #[] }] 33 0 #[] #[])
  fields := #[]
  methods := #[k0m0]
  instanceTypes := #[]
  staticTypes := #[]
  resolved := Array.replicate 124 none
  statics := none }

def pool1 : Array CpInfo := pool [(2, .class_ 4), (1, u "java/lang/Object"), (0, u "<init>"), (0, u "()V"), (0, .class_ 8), (0, u "com/example/features_at_odds/featuresatodds/search/Rows"), (0, .methodref 7 10), (0, .nameAndType 5 11), (0, u "(II)V"), (0, .methodref 7 13), (0, .nameAndType 14 15), (0, u "add"), (0, u "(I)V"), (0, .methodref 7 17), (0, .nameAndType 18 6), (0, u "endRow"), (0, .methodref 7 20), (0, .nameAndType 21 22), (0, u "removeFrom"), (0, u "(I[J)V"), (0, .methodref 24 25), (0, .class_ 26), (0, .nameAndType 27 28), (0, u "com/example/features_at_odds/featuresatodds/search/RowsRemoveFromPinLaw"), (0, u "clear"), (0, u "(JII)J"), (0, .methodref 7 30), (0, .nameAndType 31 32), (0, u "count"), (0, u "()I"), (0, .long 18446744073709551615), (3, u "law"), (0, u "(JJII)Z")] 5

def k1m0 : Method := { name := "<init>", desc := "()V", sig := { parameters := [], returnType := none }, accessFlags := 1, code := none }
def k1c1 : Code := { maxStack := 4, maxLocals := 19, code := code, exceptionTable := #[], attributes := #[] }
def k1m1 : Method := { name := "law", desc := "(JJII)Z", sig := { parameters := [.long, .long, .int, .int], returnType := some .boolean }, accessFlags := 9, code := some k1c1 }
def k1c2 : Code := { maxStack := 7, maxLocals := 4, code := method_3_code, exceptionTable := #[], attributes := #[] }
def k1m2 : Method := { name := "clear", desc := "(JII)J", sig := { parameters := [.long, .int, .int], returnType := some .long }, accessFlags := 10, code := some k1c2 }
/-- com/example/features_at_odds/featuresatodds/search/RowsRemoveFromPinLaw -/
def k1 : Class := { plain "com/example/features_at_odds/featuresatodds/search/RowsRemoveFromPinLaw" (some 0) with
  accessFlags := 49
  interfaces := #[]
  cf := some (fileOf pool1 24 #[] #[{ accessFlags := 1, nameIndex := 5, descriptorIndex := 6, attributes := #[] }, { accessFlags := 9, nameIndex := 37, descriptorIndex := 38, attributes := #[] }, { accessFlags := 10, nameIndex := 27, descriptorIndex := 28, attributes := #[] }] 49 2 #[] #[])
  fields := #[]
  methods := #[k1m0, k1m1, k1m2]
  instanceTypes := #[]
  staticTypes := #[]
  resolved := Array.replicate 44 none
  statics := none }

def pool2 : Array CpInfo := pool [(1, .methodref 2 3), (0, .class_ 4), (0, .nameAndType 5 6), (0, u "java/lang/Object"), (0, u "<init>"), (0, u "()V"), (0, .fieldref 8 9), (0, .class_ 10), (0, .nameAndType 11 12), (0, u "com/example/features_at_odds/featuresatodds/search/Rows"), (0, u "values"), (0, u "[I"), (0, .fieldref 8 14), (0, .nameAndType 15 12), (0, u "start"), (0, .fieldref 8 17), (0, .nameAndType 18 19), (0, u "count"), (0, u "I"), (12, .long 18446744073709551615), (7, .fieldref 8 41), (0, .nameAndType 42 19), (0, u "size"), (10, .long 2), (1, u "(II)V"), (2, u "()I"), (9, u "(I[J)V"), (0, u "removeFrom"), (6, u "add"), (0, u "(I)V"), (0, u "endRow")] 2

def k2c0 : Code := { maxStack := 3, maxLocals := 3, code := prog_39_method_1_code, exceptionTable := #[], attributes := #[] }
def k2m0 : Method := { name := "<init>", desc := "(II)V", sig := { parameters := [.int, .int], returnType := none }, accessFlags := 0, code := some k2c0 }
def k2c1 : Code := { maxStack := 1, maxLocals := 1, code := prog_39_method_2_code, exceptionTable := #[], attributes := #[] }
def k2m1 : Method := { name := "count", desc := "()I", sig := { parameters := [], returnType := some .int }, accessFlags := 0, code := some k2c1 }
def k2c2 : Code := { maxStack := 8, maxLocals := 5, code := prog_39_method_9_code, exceptionTable := #[], attributes := #[] }
def k2m2 : Method := { name := "removeFrom", desc := "(I[J)V", sig := { parameters := [.int, (.array .long)], returnType := none }, accessFlags := 0, code := some k2c2 }
def k2c3 : Code := { maxStack := 7, maxLocals := 2, code := prog_39_method_12_code, exceptionTable := #[], attributes := #[] }
def k2m3 : Method := { name := "add", desc := "(I)V", sig := { parameters := [.int], returnType := none }, accessFlags := 0, code := some k2c3 }
def k2c4 : Code := { maxStack := 7, maxLocals := 1, code := prog_39_method_13_code, exceptionTable := #[], attributes := #[] }
def k2m4 : Method := { name := "endRow", desc := "()V", sig := { parameters := [], returnType := none }, accessFlags := 0, code := some k2c4 }
/-- com/example/features_at_odds/featuresatodds/search/Rows -/
def k2 : Class := { plain "com/example/features_at_odds/featuresatodds/search/Rows" (some 0) with
  accessFlags := 48
  interfaces := #[]
  cf := some (fileOf pool2 8 #[] #[{ accessFlags := 0, nameIndex := 5, descriptorIndex := 55, attributes := #[] }, { accessFlags := 0, nameIndex := 18, descriptorIndex := 58, attributes := #[] }, { accessFlags := 0, nameIndex := 69, descriptorIndex := 68, attributes := #[] }, { accessFlags := 0, nameIndex := 76, descriptorIndex := 77, attributes := #[] }, { accessFlags := 0, nameIndex := 78, descriptorIndex := 6, attributes := #[] }] 48 2 #[] #[{ accessFlags := 2, nameIndex := 11, descriptorIndex := 12, attributes := #[] }, { accessFlags := 2, nameIndex := 15, descriptorIndex := 12, attributes := #[] }, { accessFlags := 2, nameIndex := 18, descriptorIndex := 19, attributes := #[] }, { accessFlags := 2, nameIndex := 42, descriptorIndex := 19, attributes := #[] }])
  fields := #[{ name := "values", type := (.array .int), accessFlags := 2, slot := 0, constantValue := 0 }, { name := "start", type := (.array .int), accessFlags := 2, slot := 1, constantValue := 0 }, { name := "count", type := .int, accessFlags := 2, slot := 2, constantValue := 0 }, { name := "size", type := .int, accessFlags := 2, slot := 3, constantValue := 0 }]
  methods := #[k2m0, k2m1, k2m2, k2m3, k2m4]
  instanceTypes := #[(.array .int), (.array .int), .int, .int]
  staticTypes := #[]
  resolved := Array.replicate 81 none
  statics := none }

def pool3 : Array CpInfo := pool [(1, u "java/lang/Cloneable"), (0, .class_ 1), (0, u "java/lang/Object"), (0, .class_ 3)] 3

/-- java/lang/Cloneable -/
def k3 : Class := { plain "java/lang/Cloneable" (some 0) with
  accessFlags := 1537
  interfaces := #[]
  cf := some (fileOf pool3 2 #[] #[] 1537 4 #[] #[])
  fields := #[]
  methods := #[]
  instanceTypes := #[]
  staticTypes := #[]
  resolved := Array.replicate 8 none
  statics := none }

def pool4 : Array CpInfo := pool [(1, u "java/io/Serializable"), (0, .class_ 1), (0, u "java/lang/Object"), (0, .class_ 3)] 3

/-- java/io/Serializable -/
def k4 : Class := { plain "java/io/Serializable" (some 0) with
  accessFlags := 1537
  interfaces := #[]
  cf := some (fileOf pool4 2 #[] #[] 1537 4 #[] #[])
  fields := #[]
  methods := #[]
  instanceTypes := #[]
  staticTypes := #[]
  resolved := Array.replicate 8 none
  statics := none }

/-- the primitive byte -/
def k5 : Class := { plain "byte" none with kind := .primitive 'B', accessFlags := 0x411 }
/-- [B -/
def k6 : Class := { plain "[B" (some 0) with kind := .array 5 .byte, interfaces := #[3, 4], accessFlags := 1041 }

/-- the primitive int -/
def k7 : Class := { plain "int" none with kind := .primitive 'I', accessFlags := 0x411 }
/-- [I -/
def k8 : Class := { plain "[I" (some 0) with kind := .array 7 .int, interfaces := #[3, 4], accessFlags := 1041 }

/-- the primitive long -/
def k9 : Class := { plain "long" none with kind := .primitive 'J', accessFlags := 0x411 }
/-- [J -/
def k10 : Class := { plain "[J" (some 0) with kind := .array 9 .long, interfaces := #[3, 4], accessFlags := 1041 }

def heap : Heap := #[]
def classes : Array Class := #[k0, k1, k2, k3, k4, k5, k6, k7, k8, k9, k10]
def interned : List (Array UInt16 × Addr) := []
def slotsUsed : Nat := 0
def theMethod : MethodId := ⟨1, 1⟩
def args0 : Array Value := #[.long 5, .long 300, .int 7, .int 9]
def aboutOver (below : List Frame) : State where
  vm := { classes := classes, interned := interned.toArray }
  heap := heap
  slotsUsed := slotsUsed
  threads := #[{ frames := .invoking theMethod args0 :: below }]
def below0 : List Frame := [.native { method := ⟨0, 0⟩, args := #[] }]
def about1 : State := aboutOver below0
def p0 : Program := .bare "" "" ""
def e0 : Env := launch0.env 0 0 0
theorem w_frames : about1.frames = Frame.invoking theMethod args0 :: below0 := rfl
set_option maxRecDepth 65536 in
theorem w_args : argsFit about1.vm theMethod args0 = true := by decide +kernel
set_option maxRecDepth 65536 in
theorem w_heap : heapFits about1 = true := by decide +kernel
set_option maxRecDepth 65536 in
theorem w_runnable : about1.curStatus? = some .runnable := by decide +kernel
set_option maxRecDepth 65536 in
theorem w_alone : about1.alone = true := by decide +kernel
set_option maxRecDepth 65536 in
theorem w_named : about1.methodNamed? x = some theMethod := by decide +kernel
set_option maxRecDepth 65536 in
theorem w_hears : about1.hears theMethod below0 = true := by decide +kernel
set_option maxRecDepth 65536 in
theorem w_ripe : about1.ripe theMethod args0 below0 = true := by decide +kernel
theorem w_running : about1.status = .running := rfl
set_option maxRecDepth 65536 in
theorem w_room : about1.hasRoom e0.platform room_1 = true :=
  launch0.hasRoom_least _ room_1 (by decide +kernel) (by decide +kernel) (by decide +kernel) (by decide +kernel) (by decide +kernel) (by decide +kernel)
theorem allAtoms_all (ts : List Jvm.Cond) (a : Array Jvm.Value) (st : Jvm.State) : (allAtoms ts).before a st = ts.all (fun c => c.before a st) := by
  induction ts with
  | nil => rfl
  | cons c t ih =>
    show (Jvm.Cond.and c (allAtoms t)).before a st = _
    rw [Jvm.Cond.before_and, ih, List.all_cons]
def words1 : List Jvm.Cond := Jvm.Cond.code x code maxLocals ret :: tables_1
/-- a 'code' word, met by the world's own term for the bytes: nothing is compared byte by byte -/
theorem code_word {y : MethodName} {bytes : ByteArray} {mx : Nat} {rt : Option FieldType} {a : Array Value} {s : State} {m : MethodId} {meth : Method} {c : Code} (h1 : s.methodNamed? y = some m) (h2 : s.vm.method? m = some meth) (h3 : meth.code = some c) (h4 : c.code = bytes)
    (h5 : (c.maxLocals == mx && c.exceptionTable.isEmpty && decide (c.maxStack ≤ mostOperands) && decide (meth.sig.returnType = rt) && !meth.locks && decide (parseMethodDescriptor y.desc = some meth.sig)) = true) : (Jvm.Cond.code y bytes mx rt).before a s = true := by
  simp only [Bool.and_eq_true, beq_iff_eq, Bool.not_eq_true', decide_eq_true_eq] at h5
  obtain ⟨⟨⟨⟨⟨g1, g2⟩, g3⟩, g4⟩, g5⟩, g6⟩ := h5
  simp [Cond.before, Cond.holds, Cond.value, h1, h2, h3, h4, g1, g2, g3, g4, g5, g6]
def isCode : Jvm.Cond → Bool
  | .code _ _ _ _ => true
  | _ => false
theorem all_split {L : List Jvm.Cond} {P : Jvm.Cond → Bool} (h1 : L.all (fun c => isCode c || P c) = true) (h2 : ∀ c ∈ L.filter isCode, P c = true) : L.all P = true := by
  refine List.all_eq_true.mpr fun c hc => ?_
  have h := List.all_eq_true.mp h1 c hc
  rcases Bool.eq_false_or_eq_true (isCode c) with hi | hi
  · exact h2 c (List.mem_filter.mpr ⟨hc, hi⟩)
  · simpa [hi] using h
set_option maxRecDepth 65536 in
theorem w_c0 : (Jvm.Cond.code x code maxLocals ret).before args0 about1 = true := code_word (m := ⟨1, 1⟩) (meth := k1m1) (c := k1c1) (by decide +kernel) rfl rfl rfl (by decide +kernel)
set_option maxRecDepth 65536 in
theorem w_c1 : (Jvm.Cond.code ({ cls := "com/example/features_at_odds/featuresatodds/search/Rows", name := "<init>", desc := "(II)V" } : Jvm.MethodName) prog_39_method_1_code (3 : Nat) (Option.none : Option Jvm.ClassFile.FieldType)).before args0 about1 = true := code_word (m := ⟨2, 0⟩) (meth := k2m0) (c := k2c0) (by decide +kernel) rfl rfl rfl (by decide +kernel)
set_option maxRecDepth 65536 in
theorem w_c2 : (Jvm.Cond.code ({ cls := "java/lang/Object", name := "<init>", desc := "()V" } : Jvm.MethodName) object_method_1_code (1 : Nat) (Option.none : Option Jvm.ClassFile.FieldType)).before args0 about1 = true := code_word (m := ⟨0, 0⟩) (meth := k0m0) (c := k0c0) (by decide +kernel) rfl rfl rfl (by decide +kernel)
set_option maxRecDepth 65536 in
theorem w_c3 : (Jvm.Cond.code ({ cls := "com/example/features_at_odds/featuresatodds/search/Rows", name := "add", desc := "(I)V" } : Jvm.MethodName) prog_39_method_12_code (2 : Nat) (Option.none : Option Jvm.ClassFile.FieldType)).before args0 about1 = true := code_word (m := ⟨2, 3⟩) (meth := k2m3) (c := k2c3) (by decide +kernel) rfl rfl rfl (by decide +kernel)
set_option maxRecDepth 65536 in
theorem w_c4 : (Jvm.Cond.code ({ cls := "com/example/features_at_odds/featuresatodds/search/Rows", name := "endRow", desc := "()V" } : Jvm.MethodName) prog_39_method_13_code (1 : Nat) (Option.none : Option Jvm.ClassFile.FieldType)).before args0 about1 = true := code_word (m := ⟨2, 4⟩) (meth := k2m4) (c := k2c4) (by decide +kernel) rfl rfl rfl (by decide +kernel)
set_option maxRecDepth 65536 in
theorem w_c5 : (Jvm.Cond.code ({ cls := "com/example/features_at_odds/featuresatodds/search/Rows", name := "removeFrom", desc := "(I[J)V" } : Jvm.MethodName) prog_39_method_9_code (5 : Nat) (Option.none : Option Jvm.ClassFile.FieldType)).before args0 about1 = true := code_word (m := ⟨2, 2⟩) (meth := k2m2) (c := k2c2) (by decide +kernel) rfl rfl rfl (by decide +kernel)
set_option maxRecDepth 65536 in
theorem w_c6 : (Jvm.Cond.code ({ cls := "com/example/features_at_odds/featuresatodds/search/Rows", name := "count", desc := "()I" } : Jvm.MethodName) prog_39_method_2_code (1 : Nat) (Option.some Jvm.ClassFile.FieldType.int)).before args0 about1 = true := code_word (m := ⟨2, 1⟩) (meth := k2m1) (c := k2c1) (by decide +kernel) rfl rfl rfl (by decide +kernel)
set_option maxRecDepth 65536 in
theorem w_c7 : (Jvm.Cond.code ({ cls := "com/example/features_at_odds/featuresatodds/search/RowsRemoveFromPinLaw", name := "clear", desc := "(JII)J" } : Jvm.MethodName) method_3_code (4 : Nat) (Option.some Jvm.ClassFile.FieldType.long)).before args0 about1 = true := code_word (m := ⟨1, 2⟩) (meth := k1m2) (c := k1c2) (by decide +kernel) rfl rfl rfl (by decide +kernel)
def codes1 : List Jvm.Cond := [Jvm.Cond.code x code maxLocals ret, Jvm.Cond.code ({ cls := "com/example/features_at_odds/featuresatodds/search/Rows", name := "<init>", desc := "(II)V" } : Jvm.MethodName) prog_39_method_1_code (3 : Nat) (Option.none : Option Jvm.ClassFile.FieldType), Jvm.Cond.code ({ cls := "java/lang/Object", name := "<init>", desc := "()V" } : Jvm.MethodName) object_method_1_code (1 : Nat) (Option.none : Option Jvm.ClassFile.FieldType), Jvm.Cond.code ({ cls := "com/example/features_at_odds/featuresatodds/search/Rows", name := "add", desc := "(I)V" } : Jvm.MethodName) prog_39_method_12_code (2 : Nat) (Option.none : Option Jvm.ClassFile.FieldType), Jvm.Cond.code ({ cls := "com/example/features_at_odds/featuresatodds/search/Rows", name := "endRow", desc := "()V" } : Jvm.MethodName) prog_39_method_13_code (1 : Nat) (Option.none : Option Jvm.ClassFile.FieldType), Jvm.Cond.code ({ cls := "com/example/features_at_odds/featuresatodds/search/Rows", name := "removeFrom", desc := "(I[J)V" } : Jvm.MethodName) prog_39_method_9_code (5 : Nat) (Option.none : Option Jvm.ClassFile.FieldType), Jvm.Cond.code ({ cls := "com/example/features_at_odds/featuresatodds/search/Rows", name := "count", desc := "()I" } : Jvm.MethodName) prog_39_method_2_code (1 : Nat) (Option.some Jvm.ClassFile.FieldType.int), Jvm.Cond.code ({ cls := "com/example/features_at_odds/featuresatodds/search/RowsRemoveFromPinLaw", name := "clear", desc := "(JII)J" } : Jvm.MethodName) method_3_code (4 : Nat) (Option.some Jvm.ClassFile.FieldType.long)]
set_option maxRecDepth 65536 in
theorem codes_eq : words1.filter isCode = codes1 := rfl
theorem w_codes : ∀ c ∈ words1.filter isCode, c.before args0 about1 = true := by
  rw [codes_eq]
  intro c hc
  simp only [codes1, List.mem_cons, List.not_mem_nil, or_false] at hc
  rcases hc with rfl | rfl | rfl | rfl | rfl | rfl | rfl | rfl
  · exact w_c0
  · exact w_c1
  · exact w_c2
  · exact w_c3
  · exact w_c4
  · exact w_c5
  · exact w_c6
  · exact w_c7
set_option maxRecDepth 65536 in
theorem w_t1 : (words1.take 24).all (fun c => isCode c || c.before args0 about1) = true := by decide +kernel
set_option maxRecDepth 65536 in
theorem w_t2 : (words1.drop 24).all (fun c => isCode c || c.before args0 about1) = true := by decide +kernel
theorem w_tables : (allAtoms (Jvm.Cond.code x code maxLocals ret :: tables_1)).before args0 about1 = true := by
  rw [allAtoms_all]
  show words1.all (fun c => c.before args0 about1) = true
  refine all_split ?_ w_codes
  rw [← List.take_append_drop 24 words1, List.all_append, w_t1, w_t2]
  rfl
set_option maxRecDepth 65536 in
theorem w_case : (Jvm.Cond.and given_1 narrow_1).before args0 about1 = true := by decide +kernel
theorem w_applies : (headSpec (Jvm.Cond.code x code maxLocals ret :: tables_1) room_1).applies x e0.platform about1 = true :=
  (Spec.applies_iff w_frames).mpr ⟨w_running, w_runnable, w_alone, w_named, w_hears, w_ripe, w_room, w_tables⟩
theorem atStart : AtStart classFile x code maxLocals ret World_1 tables_1 room_1 Calls_1 rest_1 Pre_1 launch0 p0 e0 about1 theMethod args0 below0 :=
  ⟨lists_1, trivial, launch0.admits_env _ _ _, launch0.least_env, fairChoices_fair.cas, fairChoices_fair.clock, w_frames, w_args, w_heap, w_applies, trivial, trivial, w_case⟩
end start1
theorem witness_1 : WitnessClaimed_1 := ⟨start1.p0, start1.e0, start1.about1, start1.theMethod, start1.args0, start1.below0, start1.atStart⟩
end Jvm.Pilot.@@N@@
