import JvmDerived
import JvmDerived.Pilot.@@N@@Statement
import JvmDerived.Pilot.@@N@@Code
set_option linter.unusedVariables false
set_option linter.unusedSimpArgs false
namespace Jvm.Pilot.@@N@@
open Jvm Jvm.ClassFile Sem Op Lib Jvm.Free Jvm.Stand Jvm.LawKit Jvm.RoadKit Bundle Jvm.Pilot.@@N@@.Jvm.D
/-! ## A small logic of runs over a virtual heap (own work, the same text in every proof of this seat)
References count from the first cell that the law makes (n0): `shV n0`. `Ob`: an object by its class (a place in K) and its laid fields, or an array by its component type and values.
`Runs K l Z n0 mi pc ls st H v H'`: whoever stands in the method mi at pc with locals ls, stack st and virtual heap H comes out returning v with heap H'. -/
def shV (n0 : Nat) : Value → Value
  | .ref a => .ref (n0 + a)
  | v => v
def shS (n0 : Nat) : Slot → Slot
  | .val v => .val (shV n0 v)
  | s => s
abbrev Ob : Type := (Nat × List Value) ⊕ (FieldType × List Value)
/-- a field: who declares it, its name, its descriptor, its type -/
abbrev FI : Type := String × String × String × FieldType
/-- a class: its name, the number of its slots, its fields -/
abbrev CI : Type := String × Nat × List FI
/-- a method: name, bytes, max_locals, return type; frames and words that its callees need -/
abbrev MI : Type := MethodName × ByteArray × Nat × Option FieldType × Nat × Nat
def osz (K : List CI) : Ob → Nat
  | .inl (c, _) => ((K[c]?).map (fun ci => ci.2.1)).getD 0
  | .inr (_, vs) => vs.length
def szs (K : List CI) (H : List Ob) : Nat := (H.map (osz K)).sum
def OOk (K : List CI) (Z : State) (n0 : Nat) (h : Heap) (a : Addr) : Ob → Prop
  | .inl (c, vs) => ∃ ci, K[c]? = some ci ∧ Exa Z h a ci.1 ∧ ∀ (i : Nat) (f : FI) (v : Value), ci.2.2[i]? = some f → vs[i]? = some v → Fld Z h a f.1 f.2.1 f.2.2.1 (shV n0 v)
  | .inr (ty, vs) => ∃ cl, Arr Z h a cl ty ∧ cl.slots.size = vs.length ∧ vs.length < 2 ^ 31 ∧ (∀ (i : Nat) (v : Value), vs[i]? = some v → cl.slots[i]? = some (shV n0 v) ∧ fits ty v = true) ∧ Exa Z h a ("[" ++ ty.toString)
def Rel (K : List CI) (Z : State) (n0 : Nat) (H : List Ob) (h : Heap) : Prop := h.size = n0 + H.length ∧ ∀ (k : Nat) (o : Ob), H[k]? = some o → OOk K Z n0 h (n0 + k) o
def KOk (K : List CI) (Z : State) (a0 : Array Value) : Prop := ∀ (k : Nat) (ci : CI), K[k]? = some ci → (Jvm.Cond.instantiable ci.1 ci.2.1).before a0 Z = true ∧ (∀ f ∈ ci.2.2, Laid Z a0 ci.1 f.1 f.2.1 f.2.2.1 ∧ parseFieldDescriptor f.2.2.1 = some f.2.2.2) ∧ ci.2.2.Pairwise (fun f g => f.2.1 ≠ g.2.1)
theorem cat_sh (n0 : Nat) (v : Value) : (shV n0 v).category = v.category := by cases v <;> rfl
theorem cats_sh (n0 : Nat) (st : List Value) : ((st.map (shV n0)).map fun v => v.category).sum = (st.map fun v => v.category).sum := by
  rw [List.map_map]; congr 1; exact List.map_congr_left fun v _ => cat_sh n0 v
theorem laid_map (n0 : Nat) : ∀ as : List Value, Jvm.Sym.laidSlots (as.map (shV n0)) = (Jvm.Sym.laidSlots as).map (shS n0)
  | [] => rfl
  | v :: vs => by
    simp only [List.map_cons, Jvm.Sym.laidSlots, cat_sh, laid_map n0 vs]
    split <;> rfl
theorem entry_eq (n0 : Nat) (m : MethodId) (as : List Value) (n : Nat) {ls : List Slot} (h : Jvm.Sym.laidSlots as ++ List.replicate (n - (Jvm.Sym.laidSlots as).length) .unset = ls) :
    entryFrame m (as.map (shV n0)).toArray n = mkF m 0 (ls.map (shS n0)).toArray [] := by
  have e : argsToLocals (as.map (shV n0)).toArray n = (ls.map (shS n0)).toArray := Array.toList_inj.mp (by
    rw [Jvm.Sym.argsToLocals_toList]
    simp only [laid_map, List.length_map, ← h, List.map_append, List.map_replicate]
    rfl)
  show ({ method := m, pc := 0, locals := argsToLocals (as.map (shV n0)).toArray n, stack := [], locked := none } : JFrame) = _
  rw [e]
theorem loc_at {n0 : Nat} {ls : List Slot} {k : Nat} {s : Slot} (h : ls[k]? = some s) : ((ls.map (shS n0)).toArray)[k]? = some (shS n0 s) := by
  simp [h]
/-- the place k may take a value of one word -/
def P1 (ls : List Slot) (k : Nat) : Bool := match ls[k]? with | some .unset => true | some (.val w) => w.category == 1 | _ => false
/-- the places k and k + 1 may take a value of two words -/
def P2 (ls : List Slot) (k : Nat) : Bool := match ls[k]?, ls[k + 1]? with | some (.val w), some .second => w.category == 2 | _, _ => P1 ls k && P1 ls (k + 1)
theorem P1_slot {ls : List Slot} {k : Nat} (h : P1 ls k = true) : ∃ s, ls[k]? = some s ∧ (match s with | .second => False | .val old => old.category = 1 | .unset => True) := by
  unfold P1 at h
  split at h
  · rename_i e; exact ⟨_, e, trivial⟩
  · rename_i w e; exact ⟨_, e, by simpa using h⟩
  · cases h
theorem st1 {n0 : Nat} {ls ls' : List Slot} {k : Nat} {v : Value} (hp : P1 ls k = true) (hv : v.category = 1) (hs : ls.set k (.val v) = ls') : storeLocals (ls.map (shS n0)).toArray k (shV n0 v) = some (ls'.map (shS n0)).toArray := by
  obtain ⟨s, e, q⟩ := P1_slot hp
  rw [storeLocals_cat1 (loc_at (n0 := n0) e) (by rw [cat_sh]; exact hv) (by cases s <;> simp_all [shS, cat_sh]), ← hs]
  simp [List.map_set, shS]
theorem st2 {n0 : Nat} {ls ls' : List Slot} {k : Nat} {v : Value} (hp : P2 ls k = true) (hv : v.category = 2) (hs : (ls.set k (.val v)).set (k + 1) .second = ls') : storeLocals (ls.map (shS n0)).toArray k (shV n0 v) = some (ls'.map (shS n0)).toArray := by
  have key : ∃ x y, ls[k]? = some x ∧ ls[k + 1]? = some y ∧ ((Jvm.Free.Fl.Plain1 (shS n0 x) ∧ Jvm.Free.Fl.Plain1 (shS n0 y)) ∨ ((∃ old, shS n0 x = .val old ∧ old.category = 2) ∧ shS n0 y = .second)) := by
    unfold P2 at hp
    split at hp
    · rename_i w e1 e2
      exact ⟨_, _, e1, e2, Or.inr ⟨⟨_, rfl, by rw [cat_sh]; simpa using hp⟩, rfl⟩⟩
    · rw [Bool.and_eq_true] at hp
      obtain ⟨s, e, q⟩ := P1_slot hp.1
      obtain ⟨s', e', q'⟩ := P1_slot hp.2
      exact ⟨s, s', e, e', Or.inl ⟨by cases s <;> simp_all [shS, cat_sh, Jvm.Free.Fl.Plain1], by cases s' <;> simp_all [shS, cat_sh, Jvm.Free.Fl.Plain1]⟩⟩
  obtain ⟨x, y, e1, e2, q⟩ := key
  rw [Jvm.Free.Fl.storeLocals_cat2 (loc_at (n0 := n0) e1) (loc_at (n0 := n0) e2) (by rw [cat_sh]; exact hv) q, ← hs]
  simp [List.map_set, shS]
def Runs (K : List CI) (l : Launch) (Z : State) (n0 : Nat) (mi : MI) (pc : Nat) (ls : List Slot) (st : List Value) (H : List Ob) (v : Option Value) (H' : List Ob) : Prop :=
  H.length ≤ H'.length ∧ szs K H ≤ szs K H' ∧
  ∀ (p : Program) (e : Env) (R : Room) (s : State) (m : MethodId) (args : Array Value) (below : List Frame) (meth : Method) (c : Code) (T : State) (locs : List Loc) (cells slots : Nat),
    Stand p l e R s m args below meth c T locs cells slots → p.tables.exec = Jvm.exec → Z.Warmed39 s.vm → c.code = mi.2.1 → c.maxLocals = mi.2.2.1 → meth.sig.returnType = mi.2.2.2.1 → s.vm.findClass mi.1.cls = some m.cls → meth.name = mi.1.name →
    Rel K Z n0 H T.heap → Fr n0 locs → mi.2.2.2.2.1 ≤ R.frames → mi.2.2.2.2.2 ≤ R.locals → s.heap.size + cells = n0 + H.length → cells + H'.length ≤ R.cells + H.length → slots + szs K H' ≤ R.slots + szs K H →
    ∃ (T' : State) (locs' : List Loc) (cells' slots' : Nat), Stand p l e R s m args below meth c T' locs' cells' slots' ∧ Rel K Z n0 H' T'.heap ∧ Fr n0 locs' ∧ s.heap.size + cells' = n0 + H'.length ∧ slots' + szs K H ≤ slots + szs K H' ∧
      ∀ fs, (∀ (f : JFrame) (acts : List Action), f.method = m → f.locked = none → f.entered = [] → (doReturn e (T'.setTop f) acts (v.map (shV n0))).1 = T'.setFrames fs) →
        Steps p.tables e below (T.setTop (mkF m pc (ls.map (shS n0)).toArray (st.map (shV n0)))) (T'.setFrames fs)
def rmOf (K : List CI) (mi : MI) (H H' : List Ob) : Room := { frames := mi.2.2.2.2.1, cells := H'.length - H.length, slots := szs K H' - szs K H, locals := mi.2.2.2.2.2 }
def Meets (K : List CI) (l : Launch) (Z : State) (n0 : Nat) (mi : MI) (as : List Value) (H : List Ob) (v : Option Value) (H' : List Ob) : Prop :=
  H.length ≤ H'.length ∧ szs K H ≤ szs K H' ∧ ∀ h, Rel K Z n0 H h →
    MetFree l mi.1 (head1 [Jvm.Cond.code mi.1 mi.2.1 mi.2.2.1 mi.2.2.2.1] (rmOf K mi H H')) (fun a U => a = (as.map (shV n0)).toArray ∧ Z.Warmed39 U.vm ∧ U.heap = h) (fun _ _ _ _ _ => True)
      (fun _ U o U' => ∃ w L, o = .returned w ∧ (w = v.map (shV n0) ∧ Rel K Z n0 H' U'.heap ∧ Fr n0 L) ∧ FrameEnd U o U' L (rmOf K mi H H').cells (rmOf K mi H H').slots)
theorem leB {a b : Nat} (h : Nat.ble a b = true) : a ≤ b := Nat.le_of_ble_eq_true h
theorem ltB {a b : Nat} (h : Nat.ble (a + 1) b = true) : a < b := Nat.le_of_ble_eq_true h
section Logic
variable {K : List CI} {l : Launch} {Z : State} {a0 : Array Value} {n0 : Nat} {mi : MI} {pc np tp : Nat} {ls ls' : List Slot} {st rest : List Value} {H H' H1 : List Ob} {v : Option Value}
/-- from a run of the body to the method's contract, in any room that holds it -/
theorem met_gen {as : List Value} (ws : List Jvm.Cond) (R0 : Room) (hp : plainFor mi.1 = true) (hls : Jvm.Sym.laidSlots as ++ List.replicate (mi.2.2.1 - (Jvm.Sym.laidSlots as).length) .unset = ls) (hv : mi.2.2.2.1 = none → v = none)
    (k : Runs K l Z n0 mi 0 ls [] H v H') (hfr : mi.2.2.2.2.1 ≤ R0.frames) (hlo : mi.2.2.2.2.2 ≤ R0.locals) (hcl : H'.length ≤ R0.cells + H.length) (hsl : szs K H' ≤ R0.slots + szs K H) {h : Heap} (hrel : Rel K Z n0 H h) :
    MetFree l mi.1 (head1 (Jvm.Cond.code mi.1 mi.2.1 mi.2.2.1 mi.2.2.2.1 :: ws) R0) (fun a U => a = (as.map (shV n0)).toArray ∧ Z.Warmed39 U.vm ∧ U.heap = h) (fun _ _ _ _ _ => True)
      (fun _ U o U' => ∃ w L, o = .returned w ∧ (w = v.map (shV n0) ∧ Rel K Z n0 H' U'.heap ∧ Fr n0 L) ∧ FrameEnd U o U' L (H'.length - H.length) (szs K H' - szs K H)) := by
  refine MetFree.of_bodySF hp hisR ?_
  intro p e s m args below meth c s₁ Bd hml0 hP hK
  obtain ⟨rfl, hZ, hh⟩ := hP
  have hx := Bd.exec
  have hby := Bd.bytes
  have hown : s.vm.findClass mi.1.cls = some m.cls := findClass_of_methodNamed Bd.named
  have hnm := (name_of_methodNamed Bd.named Bd.method).1
  have X0 : Stand p l e R0 s m (as.map (shV n0)).toArray below meth c s₁ [] 0 0 := Stand.of_body Bd
  have e0 : s₁.heap = h := by rw [← hh, Bd.state]; rfl
  obtain ⟨T', locs', cells', slots', X', rel', fr', hc', hs', stp⟩ := k.2.2 p e R0 s m _ below meth c s₁ [] 0 0 X0 hx hZ hby hml0 Bd.returns hown hnm (e0 ▸ hrel) (Fr.nil n0) hfr hlo (by rw [hh, hrel.1]; rfl) (by omega) (by omega)
  have hsz : s.heap.size = n0 + H.length := by rw [hh, hrel.1]
  obtain ⟨fs, hr, hrun, hended, hW, hsame⟩ := X'.leave (v := v.map (shV n0)) (fun q => by rw [Bd.returns] at q; rw [hv q]; rfl)
  exact ⟨_, _, castTop (entry_eq n0 m as mi.2.2.1 hls) (stp fs hr), hrun, hended, _, _, rfl, ⟨rfl, rel', fr'⟩, ⟨_, rfl⟩, hW, hsame.mono (by omega) (by omega)⟩
theorem meets {as : List Value} (hp : plainFor mi.1 = true) (hls : Jvm.Sym.laidSlots as ++ List.replicate (mi.2.2.1 - (Jvm.Sym.laidSlots as).length) .unset = ls) (hv : mi.2.2.2.1 = none → v = none) (k : Runs K l Z n0 mi 0 ls [] H v H') : Meets K l Z n0 mi as H v H' :=
  ⟨k.1, k.2.1, fun h hrel => met_gen [] (rmOf K mi H H') hp hls hv k (Nat.le_refl _) (Nat.le_refl _) (by have := k.1; show _ ≤ (H'.length - H.length) + _; omega) (by have := k.2.1; show _ ≤ (szs K H' - szs K H) + _; omega) hrel⟩
/-- a run that ends in some heap of at most c cells and n slots -/
def RunsB (K : List CI) (l : Launch) (Z : State) (n0 : Nat) (mi : MI) (pc : Nat) (ls : List Slot) (st : List Value) (H : List Ob) (v : Option Value) (c n : Nat) : Prop := ∃ H' : List Ob, Runs K l Z n0 mi pc ls st H v H' ∧ H'.length ≤ c ∧ szs K H' ≤ n
theorem lift {st2 : List Value} {c n : Nat} (f : ∀ H' : List Ob, Runs K l Z n0 mi np ls' st2 H1 v H' → Runs K l Z n0 mi pc ls st H v H') (k : RunsB K l Z n0 mi np ls' st2 H1 v c n) : RunsB K l Z n0 mi pc ls st H v c n := by
  obtain ⟨H', k1, k2⟩ := k
  exact ⟨H', f H' k1, k2⟩
/-- a run that ends in a value and a heap of which Q holds -/
def RunsP (K : List CI) (l : Launch) (Z : State) (n0 : Nat) (mi : MI) (pc : Nat) (ls : List Slot) (st : List Value) (H : List Ob) (Q : Option Value → List Ob → Prop) : Prop := ∃ v H', Runs K l Z n0 mi pc ls st H v H' ∧ Q v H'
theorem liftP {st2 : List Value} {Q : Option Value → List Ob → Prop} (f : ∀ (v : Option Value) (H' : List Ob), Runs K l Z n0 mi np ls' st2 H1 v H' → Runs K l Z n0 mi pc ls st H v H') (k : RunsP K l Z n0 mi np ls' st2 H1 Q) : RunsP K l Z n0 mi pc ls st H Q := by
  obtain ⟨v, H', k1, k2⟩ := k
  exact ⟨v, H', f v H' k1, k2⟩
/-- a step that reads no heap -/
theorem Runs.pure {st2 : List Value} (hstep : ∀ (p : Program) (e : Env) (R : Room) (s : State) (m : MethodId) (args : Array Value) (below : List Frame) (meth : Method) (c : Code) (T : State) (locs : List Loc) (cells slots : Nat),
      Stand p l e R s m args below meth c T locs cells slots → p.tables.exec = Jvm.exec → Z.Warmed39 s.vm → c.code = mi.2.1 → s.vm.findClass mi.1.cls = some m.cls → ∀ target,
      Steps p.tables e below (T.setTop (mkF m np (ls'.map (shS n0)).toArray (st2.map (shV n0)))) target → Steps p.tables e below (T.setTop (mkF m pc (ls.map (shS n0)).toArray (st.map (shV n0)))) target)
    (k : Runs K l Z n0 mi np ls' st2 H v H') : Runs K l Z n0 mi pc ls st H v H' := by
  refine ⟨k.1, k.2.1, fun p e R s m args below meth c T locs cells slots X hx hZ hc hml hret hown hnm hrel hfr hf hlo hsz hcl hsl => ?_⟩
  obtain ⟨T', locs', cells', slots', X', rel', fr', hc', hs', stp⟩ := k.2.2 p e R s m args below meth c T locs cells slots X hx hZ hc hml hret hown hnm hrel hfr hf hlo hsz hcl hsl
  exact ⟨T', locs', cells', slots', X', rel', fr', hc', hs', fun fs hr => hstep p e R s m args below meth c T locs cells slots X hx hZ hc hown _ (stp fs hr)⟩
theorem isRef_sh {n0 : Nat} {x : Value} (h : x.isRef = true) : (shV n0 x).isRef = true := by cases x <;> first | rfl | cases h
theorem P1_int {ls : List Slot} {k : Nat} {x : Int32} (h : ls[k]? = some (.val (.int x))) : P1 ls k = true := by unfold P1; rw [h]; rfl
theorem r_iloadN {k : Fin 4} {x : Int32} (hd : decode mi.2.1 pc = .ok (.iload_n k, 1) ∧ pc + 1 = np) (hl : ls[k.val]? = some (.val (.int x))) (kk : Runs K l Z n0 mi np ls (.int x :: st) H v H') : Runs K l Z n0 mi pc ls st H v H' := by
  obtain ⟨hd, rfl⟩ := hd
  exact Runs.pure (fun _ _ _ _ _ _ _ _ _ _ _ _ _ X hx hZ hc hown t h => XS.iloadN X.here hx rfl (hb hc hd) (loc_at hl) h) kk
theorem r_iload {k : Nat} {x : Int32} (hd : decode mi.2.1 pc = .ok (.iload k, 2) ∧ pc + 2 = np) (hl : ls[k]? = some (.val (.int x))) (kk : Runs K l Z n0 mi np ls (.int x :: st) H v H') : Runs K l Z n0 mi pc ls st H v H' := by
  obtain ⟨hd, rfl⟩ := hd
  exact Runs.pure (fun _ _ _ _ _ _ _ _ _ _ _ _ _ X hx hZ hc hown t h => XS.iload X.here hx rfl (hb hc hd) (loc_at hl) h) kk
theorem r_lloadN {k : Fin 4} {x : Int64} (hd : decode mi.2.1 pc = .ok (.lload_n k, 1) ∧ pc + 1 = np) (hl : ls[k.val]? = some (.val (.long x))) (kk : Runs K l Z n0 mi np ls (.long x :: st) H v H') : Runs K l Z n0 mi pc ls st H v H' := by
  obtain ⟨hd, rfl⟩ := hd
  exact Runs.pure (fun _ _ _ _ _ _ _ _ _ _ _ _ _ X hx hZ hc hown t h => XT.lloadN X.here hx rfl (hb hc hd) (loc_at hl) h) kk
theorem r_lload {k : Nat} {x : Int64} (hd : decode mi.2.1 pc = .ok (.lload k, 2) ∧ pc + 2 = np) (hl : ls[k]? = some (.val (.long x))) (kk : Runs K l Z n0 mi np ls (.long x :: st) H v H') : Runs K l Z n0 mi pc ls st H v H' := by
  obtain ⟨hd, rfl⟩ := hd
  exact Runs.pure (fun _ _ _ _ _ _ _ _ _ _ _ _ _ X hx hZ hc hown t h => XT.lload X.here hx rfl (hb hc hd) (loc_at hl) h) kk
theorem r_aloadN {k : Fin 4} {x : Value} (hd : decode mi.2.1 pc = .ok (.aload_n k, 1) ∧ pc + 1 = np) (hl : ls[k.val]? = some (.val x)) (hv : x.isRef = true) (kk : Runs K l Z n0 mi np ls (x :: st) H v H') : Runs K l Z n0 mi pc ls st H v H' := by
  obtain ⟨hd, rfl⟩ := hd
  exact Runs.pure (fun _ _ _ _ _ _ _ _ _ _ _ _ _ X hx hZ hc hown t h => XS.aloadN X.here hx rfl (hb hc hd) (loc_at hl) (isRef_sh hv) h) kk
theorem r_aload {k : Nat} {x : Value} (hd : decode mi.2.1 pc = .ok (.aload k, 2) ∧ pc + 2 = np) (hl : ls[k]? = some (.val x)) (hv : x.isRef = true) (kk : Runs K l Z n0 mi np ls (x :: st) H v H') : Runs K l Z n0 mi pc ls st H v H' := by
  obtain ⟨hd, rfl⟩ := hd
  exact Runs.pure (fun _ _ _ _ _ _ _ _ _ _ _ _ _ X hx hZ hc hown t h => XS.aload X.here hx rfl (hb hc hd) (loc_at hl) (isRef_sh hv) h) kk
theorem r_istoreN {k : Fin 4} {x : Int32} (hd : decode mi.2.1 pc = .ok (.istore_n k, 1) ∧ pc + 1 = np) (hp : P1 ls k.val = true) (hs : ls.set k.val (.val (.int x)) = ls') (kk : Runs K l Z n0 mi np ls' st H v H') : Runs K l Z n0 mi pc ls (.int x :: st) H v H' := by
  obtain ⟨hd, rfl⟩ := hd
  exact Runs.pure (fun _ _ _ _ _ _ _ _ _ _ _ _ _ X hx hZ hc hown t h => XS.istoreN X.here hx rfl (hb hc hd) rfl (st1 hp rfl hs) h) kk
theorem r_istore {k : Nat} {x : Int32} (hd : decode mi.2.1 pc = .ok (.istore k, 2) ∧ pc + 2 = np) (hp : P1 ls k = true) (hs : ls.set k (.val (.int x)) = ls') (kk : Runs K l Z n0 mi np ls' st H v H') : Runs K l Z n0 mi pc ls (.int x :: st) H v H' := by
  obtain ⟨hd, rfl⟩ := hd
  exact Runs.pure (fun _ _ _ _ _ _ _ _ _ _ _ _ _ X hx hZ hc hown t h => XS.istore X.here hx rfl (hb hc hd) rfl (st1 hp rfl hs) h) kk
theorem r_lstoreN {k : Fin 4} {x : Int64} (hd : decode mi.2.1 pc = .ok (.lstore_n k, 1) ∧ pc + 1 = np) (hp : P2 ls k.val = true) (hs : (ls.set k.val (.val (.long x))).set (k.val + 1) .second = ls') (kk : Runs K l Z n0 mi np ls' st H v H') : Runs K l Z n0 mi pc ls (.long x :: st) H v H' := by
  obtain ⟨hd, rfl⟩ := hd
  exact Runs.pure (fun _ _ _ _ _ _ _ _ _ _ _ _ _ X hx hZ hc hown t h => XT.lstoreN X.here hx rfl (hb hc hd) rfl (st2 hp rfl hs) h) kk
theorem r_lstore {k : Nat} {x : Int64} (hd : decode mi.2.1 pc = .ok (.lstore k, 2) ∧ pc + 2 = np) (hp : P2 ls k = true) (hs : (ls.set k (.val (.long x))).set (k + 1) .second = ls') (kk : Runs K l Z n0 mi np ls' st H v H') : Runs K l Z n0 mi pc ls (.long x :: st) H v H' := by
  obtain ⟨hd, rfl⟩ := hd
  exact Runs.pure (fun _ _ _ _ _ _ _ _ _ _ _ _ _ X hx hZ hc hown t h => XT.lstore X.here hx rfl (hb hc hd) rfl (st2 hp rfl hs) h) kk
theorem r_astoreN {k : Fin 4} {x : Value} (hd : decode mi.2.1 pc = .ok (.astore_n k, 1) ∧ pc + 1 = np) (hp : P1 ls k.val = true) (hv : x.isRef = true) (hs : ls.set k.val (.val x) = ls') (kk : Runs K l Z n0 mi np ls' st H v H') : Runs K l Z n0 mi pc ls (x :: st) H v H' := by
  obtain ⟨hd, rfl⟩ := hd
  exact Runs.pure (fun _ _ _ _ _ _ _ _ _ _ _ _ _ X hx hZ hc hown t h => XS.astoreN X.here hx rfl (hb hc hd) rfl (isRef_sh hv) (st1 hp (XT.cat1 hv) hs) h) kk
theorem r_astore {k : Nat} {x : Value} (hd : decode mi.2.1 pc = .ok (.astore k, 2) ∧ pc + 2 = np) (hp : P1 ls k = true) (hv : x.isRef = true) (hs : ls.set k (.val x) = ls') (kk : Runs K l Z n0 mi np ls' st H v H') : Runs K l Z n0 mi pc ls (x :: st) H v H' := by
  obtain ⟨hd, rfl⟩ := hd
  exact Runs.pure (fun _ _ _ _ _ _ _ _ _ _ _ _ _ X hx hZ hc hown t h => XS.astore X.here hx rfl (hb hc hd) rfl (isRef_sh hv) (st1 hp (XT.cat1 hv) hs) h) kk
theorem r_iadd {x y : Int32} (hd : decode mi.2.1 pc = .ok (.iadd, 1) ∧ pc + 1 = np) (kk : Runs K l Z n0 mi np ls (.int (x + y) :: st) H v H') : Runs K l Z n0 mi pc ls (.int y :: .int x :: st) H v H' := by
  obtain ⟨hd, rfl⟩ := hd
  exact Runs.pure (fun _ _ _ _ _ _ _ _ _ _ _ _ _ X hx hZ hc hown t h => XS.iadd X.here hx rfl (hb hc hd) rfl h) kk
theorem r_isub {x y : Int32} (hd : decode mi.2.1 pc = .ok (.isub, 1) ∧ pc + 1 = np) (kk : Runs K l Z n0 mi np ls (.int (x - y) :: st) H v H') : Runs K l Z n0 mi pc ls (.int y :: .int x :: st) H v H' := by
  obtain ⟨hd, rfl⟩ := hd
  exact Runs.pure (fun _ _ _ _ _ _ _ _ _ _ _ _ _ X hx hZ hc hown t h => XS.isub X.here hx rfl (hb hc hd) rfl h) kk
theorem r_imul {x y : Int32} (hd : decode mi.2.1 pc = .ok (.imul, 1) ∧ pc + 1 = np) (kk : Runs K l Z n0 mi np ls (.int (x * y) :: st) H v H') : Runs K l Z n0 mi pc ls (.int y :: .int x :: st) H v H' := by
  obtain ⟨hd, rfl⟩ := hd
  exact Runs.pure (fun _ _ _ _ _ _ _ _ _ _ _ _ _ X hx hZ hc hown t h => XS.imul X.here hx rfl (hb hc hd) rfl h) kk
theorem r_iand {x y : Int32} (hd : decode mi.2.1 pc = .ok (.iand, 1) ∧ pc + 1 = np) (kk : Runs K l Z n0 mi np ls (.int (x &&& y) :: st) H v H') : Runs K l Z n0 mi pc ls (.int y :: .int x :: st) H v H' := by
  obtain ⟨hd, rfl⟩ := hd
  exact Runs.pure (fun _ _ _ _ _ _ _ _ _ _ _ _ _ X hx hZ hc hown t h => XS.iand X.here hx rfl (hb hc hd) rfl h) kk
theorem r_ior {x y : Int32} (hd : decode mi.2.1 pc = .ok (.ior, 1) ∧ pc + 1 = np) (kk : Runs K l Z n0 mi np ls (.int (x ||| y) :: st) H v H') : Runs K l Z n0 mi pc ls (.int y :: .int x :: st) H v H' := by
  obtain ⟨hd, rfl⟩ := hd
  exact Runs.pure (fun _ _ _ _ _ _ _ _ _ _ _ _ _ X hx hZ hc hown t h => XT.ior X.here hx rfl (hb hc hd) rfl h) kk
theorem r_ixor {x y : Int32} (hd : decode mi.2.1 pc = .ok (.ixor, 1) ∧ pc + 1 = np) (kk : Runs K l Z n0 mi np ls (.int (x ^^^ y) :: st) H v H') : Runs K l Z n0 mi pc ls (.int y :: .int x :: st) H v H' := by
  obtain ⟨hd, rfl⟩ := hd
  exact Runs.pure (fun _ _ _ _ _ _ _ _ _ _ _ _ _ X hx hZ hc hown t h => XT.ixor X.here hx rfl (hb hc hd) rfl h) kk
theorem r_ishl {x y : Int32} (hd : decode mi.2.1 pc = .ok (.ishl, 1) ∧ pc + 1 = np) (kk : Runs K l Z n0 mi np ls (.int (x <<< (y &&& 31)) :: st) H v H') : Runs K l Z n0 mi pc ls (.int y :: .int x :: st) H v H' := by
  obtain ⟨hd, rfl⟩ := hd
  exact Runs.pure (fun _ _ _ _ _ _ _ _ _ _ _ _ _ X hx hZ hc hown t h => XT.ishl X.here hx rfl (hb hc hd) rfl h) kk
theorem r_ishr {x y : Int32} (hd : decode mi.2.1 pc = .ok (.ishr, 1) ∧ pc + 1 = np) (kk : Runs K l Z n0 mi np ls (.int (x >>> (y &&& 31)) :: st) H v H') : Runs K l Z n0 mi pc ls (.int y :: .int x :: st) H v H' := by
  obtain ⟨hd, rfl⟩ := hd
  exact Runs.pure (fun _ _ _ _ _ _ _ _ _ _ _ _ _ X hx hZ hc hown t h => XT.ishr X.here hx rfl (hb hc hd) rfl h) kk
theorem r_iushr {x y : Int32} (hd : decode mi.2.1 pc = .ok (.iushr, 1) ∧ pc + 1 = np) (kk : Runs K l Z n0 mi np ls (.int (XT.ushr x y) :: st) H v H') : Runs K l Z n0 mi pc ls (.int y :: .int x :: st) H v H' := by
  obtain ⟨hd, rfl⟩ := hd
  exact Runs.pure (fun _ _ _ _ _ _ _ _ _ _ _ _ _ X hx hZ hc hown t h => XT.iushr X.here hx rfl (hb hc hd) rfl h) kk
theorem r_idiv {x y : Int32} (hd : decode mi.2.1 pc = .ok (.idiv, 1) ∧ pc + 1 = np) (hy : y ≠ 0) (kk : Runs K l Z n0 mi np ls (.int (x / y) :: st) H v H') : Runs K l Z n0 mi pc ls (.int y :: .int x :: st) H v H' := by
  obtain ⟨hd, rfl⟩ := hd
  exact Runs.pure (fun _ _ _ _ _ _ _ _ _ _ _ _ _ X hx hZ hc hown t h => XS.idiv X.here hx rfl (hb hc hd) rfl hy h) kk
theorem r_irem {x y : Int32} (hd : decode mi.2.1 pc = .ok (.irem, 1) ∧ pc + 1 = np) (hy : y ≠ 0) (kk : Runs K l Z n0 mi np ls (.int (x % y) :: st) H v H') : Runs K l Z n0 mi pc ls (.int y :: .int x :: st) H v H' := by
  obtain ⟨hd, rfl⟩ := hd
  exact Runs.pure (fun _ _ _ _ _ _ _ _ _ _ _ _ _ X hx hZ hc hown t h => iremM X hx rfl (hb hc hd) rfl hy h) kk
theorem r_ladd {x y : Int64} (hd : decode mi.2.1 pc = .ok (.ladd, 1) ∧ pc + 1 = np) (kk : Runs K l Z n0 mi np ls (.long (x + y) :: st) H v H') : Runs K l Z n0 mi pc ls (.long y :: .long x :: st) H v H' := by
  obtain ⟨hd, rfl⟩ := hd
  exact Runs.pure (fun _ _ _ _ _ _ _ _ _ _ _ _ _ X hx hZ hc hown t h => XT.ladd X.here hx rfl (hb hc hd) rfl h) kk
theorem r_lsub {x y : Int64} (hd : decode mi.2.1 pc = .ok (.lsub, 1) ∧ pc + 1 = np) (kk : Runs K l Z n0 mi np ls (.long (x - y) :: st) H v H') : Runs K l Z n0 mi pc ls (.long y :: .long x :: st) H v H' := by
  obtain ⟨hd, rfl⟩ := hd
  exact Runs.pure (fun _ _ _ _ _ _ _ _ _ _ _ _ _ X hx hZ hc hown t h => XT.lsub X.here hx rfl (hb hc hd) rfl h) kk
theorem r_lmul {x y : Int64} (hd : decode mi.2.1 pc = .ok (.lmul, 1) ∧ pc + 1 = np) (kk : Runs K l Z n0 mi np ls (.long (x * y) :: st) H v H') : Runs K l Z n0 mi pc ls (.long y :: .long x :: st) H v H' := by
  obtain ⟨hd, rfl⟩ := hd
  exact Runs.pure (fun _ _ _ _ _ _ _ _ _ _ _ _ _ X hx hZ hc hown t h => XT.lmul X.here hx rfl (hb hc hd) rfl h) kk
theorem r_land {x y : Int64} (hd : decode mi.2.1 pc = .ok (.land, 1) ∧ pc + 1 = np) (kk : Runs K l Z n0 mi np ls (.long (x &&& y) :: st) H v H') : Runs K l Z n0 mi pc ls (.long y :: .long x :: st) H v H' := by
  obtain ⟨hd, rfl⟩ := hd
  exact Runs.pure (fun _ _ _ _ _ _ _ _ _ _ _ _ _ X hx hZ hc hown t h => XT.land X.here hx rfl (hb hc hd) rfl h) kk
theorem r_lor {x y : Int64} (hd : decode mi.2.1 pc = .ok (.lor, 1) ∧ pc + 1 = np) (kk : Runs K l Z n0 mi np ls (.long (x ||| y) :: st) H v H') : Runs K l Z n0 mi pc ls (.long y :: .long x :: st) H v H' := by
  obtain ⟨hd, rfl⟩ := hd
  exact Runs.pure (fun _ _ _ _ _ _ _ _ _ _ _ _ _ X hx hZ hc hown t h => XT.lor X.here hx rfl (hb hc hd) rfl h) kk
theorem r_lxor {x y : Int64} (hd : decode mi.2.1 pc = .ok (.lxor, 1) ∧ pc + 1 = np) (kk : Runs K l Z n0 mi np ls (.long (x ^^^ y) :: st) H v H') : Runs K l Z n0 mi pc ls (.long y :: .long x :: st) H v H' := by
  obtain ⟨hd, rfl⟩ := hd
  exact Runs.pure (fun _ _ _ _ _ _ _ _ _ _ _ _ _ X hx hZ hc hown t h => XT.lxor X.here hx rfl (hb hc hd) rfl h) kk
theorem r_lshl {x : Int64} {y : Int32} (hd : decode mi.2.1 pc = .ok (.lshl, 1) ∧ pc + 1 = np) (kk : Runs K l Z n0 mi np ls (.long (x <<< (y.toInt64 &&& 63)) :: st) H v H') : Runs K l Z n0 mi pc ls (.int y :: .long x :: st) H v H' := by
  obtain ⟨hd, rfl⟩ := hd
  exact Runs.pure (fun _ _ _ _ _ _ _ _ _ _ _ _ _ X hx hZ hc hown t h => XT.lshl X.here hx rfl (hb hc hd) rfl h) kk
theorem r_lshr {x : Int64} {y : Int32} (hd : decode mi.2.1 pc = .ok (.lshr, 1) ∧ pc + 1 = np) (kk : Runs K l Z n0 mi np ls (.long (x >>> (y.toInt64 &&& 63)) :: st) H v H') : Runs K l Z n0 mi pc ls (.int y :: .long x :: st) H v H' := by
  obtain ⟨hd, rfl⟩ := hd
  exact Runs.pure (fun _ _ _ _ _ _ _ _ _ _ _ _ _ X hx hZ hc hown t h => XT.lshr X.here hx rfl (hb hc hd) rfl h) kk
theorem r_lushr {x : Int64} {y : Int32} (hd : decode mi.2.1 pc = .ok (.lushr, 1) ∧ pc + 1 = np) (kk : Runs K l Z n0 mi np ls (.long (XT.ushrL x y) :: st) H v H') : Runs K l Z n0 mi pc ls (.int y :: .long x :: st) H v H' := by
  obtain ⟨hd, rfl⟩ := hd
  exact Runs.pure (fun _ _ _ _ _ _ _ _ _ _ _ _ _ X hx hZ hc hown t h => XT.lushr X.here hx rfl (hb hc hd) rfl h) kk
theorem r_ldiv {x y : Int64} (hd : decode mi.2.1 pc = .ok (.ldiv, 1) ∧ pc + 1 = np) (hy : y ≠ 0) (kk : Runs K l Z n0 mi np ls (.long (x / y) :: st) H v H') : Runs K l Z n0 mi pc ls (.long y :: .long x :: st) H v H' := by
  obtain ⟨hd, rfl⟩ := hd
  exact Runs.pure (fun _ _ _ _ _ _ _ _ _ _ _ _ _ X hx hZ hc hown t h => XT.ldiv X.here hx rfl (hb hc hd) rfl hy h) kk
theorem r_lrem {x y : Int64} (hd : decode mi.2.1 pc = .ok (.lrem, 1) ∧ pc + 1 = np) (hy : y ≠ 0) (kk : Runs K l Z n0 mi np ls (.long (x % y) :: st) H v H') : Runs K l Z n0 mi pc ls (.long y :: .long x :: st) H v H' := by
  obtain ⟨hd, rfl⟩ := hd
  exact Runs.pure (fun _ _ _ _ _ _ _ _ _ _ _ _ _ X hx hZ hc hown t h => XT.lrem X.here hx rfl (hb hc hd) rfl hy (by rw [lrem_mod]; exact h)) kk
theorem r_lcmp {x y : Int64} (hd : decode mi.2.1 pc = .ok (.lcmp, 1) ∧ pc + 1 = np) (kk : Runs K l Z n0 mi np ls (.int (XT.cmpL x y) :: st) H v H') : Runs K l Z n0 mi pc ls (.long y :: .long x :: st) H v H' := by
  obtain ⟨hd, rfl⟩ := hd
  exact Runs.pure (fun _ _ _ _ _ _ _ _ _ _ _ _ _ X hx hZ hc hown t h => XT.lcmp X.here hx rfl (hb hc hd) rfl h) kk
theorem r_ineg {x : Int32} (hd : decode mi.2.1 pc = .ok (.ineg, 1) ∧ pc + 1 = np) (kk : Runs K l Z n0 mi np ls (.int (-x) :: st) H v H') : Runs K l Z n0 mi pc ls (.int x :: st) H v H' := by
  obtain ⟨hd, rfl⟩ := hd
  exact Runs.pure (fun _ _ _ _ _ _ _ _ _ _ _ _ _ X hx hZ hc hown t h => XS.ineg X.here hx rfl (hb hc hd) rfl h) kk
theorem r_lneg {x : Int64} (hd : decode mi.2.1 pc = .ok (.lneg, 1) ∧ pc + 1 = np) (kk : Runs K l Z n0 mi np ls (.long (-x) :: st) H v H') : Runs K l Z n0 mi pc ls (.long x :: st) H v H' := by
  obtain ⟨hd, rfl⟩ := hd
  exact Runs.pure (fun _ _ _ _ _ _ _ _ _ _ _ _ _ X hx hZ hc hown t h => XT.lneg X.here hx rfl (hb hc hd) rfl h) kk
theorem r_i2l {x : Int32} (hd : decode mi.2.1 pc = .ok (.i2l, 1) ∧ pc + 1 = np) (kk : Runs K l Z n0 mi np ls (.long x.toInt64 :: st) H v H') : Runs K l Z n0 mi pc ls (.int x :: st) H v H' := by
  obtain ⟨hd, rfl⟩ := hd
  exact Runs.pure (fun _ _ _ _ _ _ _ _ _ _ _ _ _ X hx hZ hc hown t h => XT.i2l X.here hx rfl (hb hc hd) rfl h) kk
theorem r_l2i {x : Int64} (hd : decode mi.2.1 pc = .ok (.l2i, 1) ∧ pc + 1 = np) (kk : Runs K l Z n0 mi np ls (.int x.toInt32 :: st) H v H') : Runs K l Z n0 mi pc ls (.long x :: st) H v H' := by
  obtain ⟨hd, rfl⟩ := hd
  exact Runs.pure (fun _ _ _ _ _ _ _ _ _ _ _ _ _ X hx hZ hc hown t h => XT.l2i X.here hx rfl (hb hc hd) rfl h) kk
theorem r_i2b {x : Int32} (hd : decode mi.2.1 pc = .ok (.i2b, 1) ∧ pc + 1 = np) (kk : Runs K l Z n0 mi np ls (.int x.toInt8.toInt32 :: st) H v H') : Runs K l Z n0 mi pc ls (.int x :: st) H v H' := by
  obtain ⟨hd, rfl⟩ := hd
  exact Runs.pure (fun _ _ _ _ _ _ _ _ _ _ _ _ _ X hx hZ hc hown t h => XT.i2b X.here hx rfl (hb hc hd) rfl h) kk
theorem r_i2s {x : Int32} (hd : decode mi.2.1 pc = .ok (.i2s, 1) ∧ pc + 1 = np) (kk : Runs K l Z n0 mi np ls (.int x.toInt16.toInt32 :: st) H v H') : Runs K l Z n0 mi pc ls (.int x :: st) H v H' := by
  obtain ⟨hd, rfl⟩ := hd
  exact Runs.pure (fun _ _ _ _ _ _ _ _ _ _ _ _ _ X hx hZ hc hown t h => XT.i2s X.here hx rfl (hb hc hd) rfl h) kk
theorem r_i2c {x : Int32} (hd : decode mi.2.1 pc = .ok (.i2c, 1) ∧ pc + 1 = np) (kk : Runs K l Z n0 mi np ls (.int x.toUInt32.toUInt16.toUInt32.toInt32 :: st) H v H') : Runs K l Z n0 mi pc ls (.int x :: st) H v H' := by
  obtain ⟨hd, rfl⟩ := hd
  exact Runs.pure (fun _ _ _ _ _ _ _ _ _ _ _ _ _ X hx hZ hc hown t h => XT.i2c X.here hx rfl (hb hc hd) rfl h) kk
theorem r_dup {x : Value} (hd : decode mi.2.1 pc = .ok (.dup, 1) ∧ pc + 1 = np) (hx1 : x.category = 1) (kk : Runs K l Z n0 mi np ls (x :: x :: st) H v H') : Runs K l Z n0 mi pc ls (x :: st) H v H' := by
  obtain ⟨hd, rfl⟩ := hd
  exact Runs.pure (fun _ _ _ _ _ _ _ _ _ _ _ _ _ X hx hZ hc hown t h => XS.dup X.here hx rfl (hb hc hd) rfl ((cat_sh _ _).trans hx1) h) kk
theorem r_pop {x : Value} (hd : decode mi.2.1 pc = .ok (.pop, 1) ∧ pc + 1 = np) (hx1 : x.category = 1) (kk : Runs K l Z n0 mi np ls st H v H') : Runs K l Z n0 mi pc ls (x :: st) H v H' := by
  obtain ⟨hd, rfl⟩ := hd
  exact Runs.pure (fun _ _ _ _ _ _ _ _ _ _ _ _ _ X hx hZ hc hown t h => XT.pop X.here hx rfl (hb hc hd) rfl ((cat_sh _ _).trans hx1) h) kk
theorem r_dupX1 {x y : Value} (hd : decode mi.2.1 pc = .ok (.dup_x1, 1) ∧ pc + 1 = np) (hx1 : x.category = 1) (hy1 : y.category = 1) (kk : Runs K l Z n0 mi np ls (x :: y :: x :: st) H v H') : Runs K l Z n0 mi pc ls (x :: y :: st) H v H' := by
  obtain ⟨hd, rfl⟩ := hd
  exact Runs.pure (fun _ _ _ _ _ _ _ _ _ _ _ _ _ X hx hZ hc hown t h => XT.dupX1 X.here hx rfl (hb hc hd) rfl ((cat_sh _ _).trans hx1) ((cat_sh _ _).trans hy1) h) kk
theorem r_dup2 {x y : Value} (hd : decode mi.2.1 pc = .ok (.dup2, 1) ∧ pc + 1 = np) (hx1 : x.category = 1) (hy1 : y.category = 1) (kk : Runs K l Z n0 mi np ls (x :: y :: x :: y :: st) H v H') : Runs K l Z n0 mi pc ls (x :: y :: st) H v H' := by
  obtain ⟨hd, rfl⟩ := hd
  exact Runs.pure (fun _ _ _ _ _ _ _ _ _ _ _ _ _ X hx hZ hc hown t h => XT.dup2 X.here hx rfl (hb hc hd) rfl ((cat_sh _ _).trans hx1) ((cat_sh _ _).trans hy1) h) kk
theorem r_dup2L {x : Int64} (hd : decode mi.2.1 pc = .ok (.dup2, 1) ∧ pc + 1 = np) (kk : Runs K l Z n0 mi np ls (.long x :: .long x :: st) H v H') : Runs K l Z n0 mi pc ls (.long x :: st) H v H' := by
  obtain ⟨hd, rfl⟩ := hd
  exact Runs.pure (fun _ _ _ _ _ _ _ _ _ _ _ _ _ X hx hZ hc hown t h => XT.dup2L X.here hx rfl (hb hc hd) rfl h) kk
theorem r_aconstNull  (hd : decode mi.2.1 pc = .ok (.aconst_null, 1) ∧ pc + 1 = np) (kk : Runs K l Z n0 mi np ls (.null :: st) H v H') : Runs K l Z n0 mi pc ls st H v H' := by
  obtain ⟨hd, rfl⟩ := hd
  exact Runs.pure (fun _ _ _ _ _ _ _ _ _ _ _ _ _ X hx hZ hc hown t h => XS.aconstNull X.here hx rfl (hb hc hd) h) kk
theorem r_iconst {i : Int} {x : Int32} (hd : decode mi.2.1 pc = .ok (.iconst i, 1) ∧ pc + 1 = np ∧ Int32.ofInt i = x) (kk : Runs K l Z n0 mi np ls (.int x :: st) H v H') : Runs K l Z n0 mi pc ls st H v H' := by
  obtain ⟨hd, rfl, hx0⟩ := hd
  exact Runs.pure (fun _ _ _ _ _ _ _ _ _ _ _ _ _ X hx hZ hc hown t h => XT.iconstV X.here hx rfl x (hb hc hd) hx0 h) kk
theorem r_bipush {i : Int} {x : Int32} (hd : decode mi.2.1 pc = .ok (.bipush i, 2) ∧ pc + 2 = np ∧ (Int8.ofInt i).toInt32 = x) (kk : Runs K l Z n0 mi np ls (.int x :: st) H v H') : Runs K l Z n0 mi pc ls st H v H' := by
  obtain ⟨hd, rfl, hx0⟩ := hd
  exact Runs.pure (fun _ _ _ _ _ _ _ _ _ _ _ _ _ X hx hZ hc hown t h => XT.bipushV X.here hx rfl x (hb hc hd) hx0 h) kk
theorem r_sipush {i : Int} {x : Int32} (hd : decode mi.2.1 pc = .ok (.sipush i, 3) ∧ pc + 3 = np ∧ (Int16.ofInt i).toInt32 = x) (kk : Runs K l Z n0 mi np ls (.int x :: st) H v H') : Runs K l Z n0 mi pc ls st H v H' := by
  obtain ⟨hd, rfl, hx0⟩ := hd
  exact Runs.pure (fun _ _ _ _ _ _ _ _ _ _ _ _ _ X hx hZ hc hown t h => XT.sipushV X.here hx rfl x (hb hc hd) hx0 h) kk
theorem r_lconst {i : Fin 2} {x : Int64} (hd : decode mi.2.1 pc = .ok (.lconst i, 1) ∧ pc + 1 = np ∧ Int64.ofNat i = x) (kk : Runs K l Z n0 mi np ls (.long x :: st) H v H') : Runs K l Z n0 mi pc ls st H v H' := by
  obtain ⟨hd, rfl, hx0⟩ := hd
  exact Runs.pure (fun _ _ _ _ _ _ _ _ _ _ _ _ _ X hx hZ hc hown t h => XT.lconstV X.here hx rfl x (hb hc hd) hx0 h) kk
theorem r_ldc {i : Nat} {x : Int32} (hd : decode mi.2.1 pc = .ok (.ldc i, 2) ∧ pc + 2 = np) (w : (Jvm.Cond.constant mi.1.cls i x).before a0 Z = true) (kk : Runs K l Z n0 mi np ls (.int x :: st) H v H') : Runs K l Z n0 mi pc ls st H v H' := by
  obtain ⟨hd, rfl⟩ := hd
  exact Runs.pure (fun _ _ _ _ _ _ _ _ _ _ _ _ _ X hx hZ hc hown t h => X.ldcI hx hown (mv hZ w) rfl (hb hc hd) h) kk
theorem r_ldcW {i : Nat} {x : Int32} (hd : decode mi.2.1 pc = .ok (.ldc_w i, 3) ∧ pc + 3 = np) (w : (Jvm.Cond.constant mi.1.cls i x).before a0 Z = true) (kk : Runs K l Z n0 mi np ls (.int x :: st) H v H') : Runs K l Z n0 mi pc ls st H v H' := by
  obtain ⟨hd, rfl⟩ := hd
  exact Runs.pure (fun _ _ _ _ _ _ _ _ _ _ _ _ _ X hx hZ hc hown t h => X.ldcWI hx hown (mv hZ w) rfl (hb hc hd) h) kk
theorem r_ldc2 {i : Nat} {x : Int64} (hd : decode mi.2.1 pc = .ok (.ldc2_w i, 3) ∧ pc + 3 = np) (w : (Jvm.Cond.constantLong mi.1.cls i x).before a0 Z = true) (kk : Runs K l Z n0 mi np ls (.long x :: st) H v H') : Runs K l Z n0 mi pc ls st H v H' := by
  obtain ⟨hd, rfl⟩ := hd
  exact Runs.pure (fun _ _ _ _ _ _ _ _ _ _ _ _ _ X hx hZ hc hown t h => X.ldc2J hx hown (mv hZ w) rfl (hb hc hd) h) kk
theorem r_iinc {k : Nat} {i : Int} {x y : Int32} (hd : decode mi.2.1 pc = .ok (.iinc k i, 3) ∧ pc + 3 = np ∧ Int32.ofInt i = y) (hl : ls[k]? = some (.val (.int x))) (hs : ls.set k (.val (.int (x + y))) = ls') (kk : Runs K l Z n0 mi np ls' st H v H') : Runs K l Z n0 mi pc ls st H v H' := by
  obtain ⟨hd, rfl, hx0⟩ := hd
  exact Runs.pure (fun _ _ _ _ _ _ _ _ _ _ _ _ _ X hx hZ hc hown t h => XT.iincV X.here hx rfl y (hb hc hd) hx0 (loc_at hl) (st1 (P1_int hl) rfl hs) h) kk
theorem r_goto  {o : Int} (hd : decode mi.2.1 pc = .ok (.goto o, 3) ∧ pc + 3 = np ∧ 0 ≤ (pc : Int) + o ∧ ((pc : Int) + o).toNat = tp) (kk : Runs K l Z n0 mi tp ls st H v H') : Runs K l Z n0 mi pc ls st H v H' := by
  obtain ⟨hd, hn, h1, h2⟩ := hd
  exact Runs.pure (fun _ _ _ _ _ _ _ _ _ _ _ _ _ X hx hZ hc hown t h => XS.goto X.here hx rfl rfl (hb hc hd) h1 h2 h) kk
theorem r_ifT {cd : ClassFile.Cond} {x : Int32} {o : Int} (hd : decode mi.2.1 pc = .ok (.ifCond cd o, 3) ∧ pc + 3 = np ∧ 0 ≤ (pc : Int) + o ∧ ((pc : Int) + o).toNat = tp) (hq : ifCond.holds cd x = true) (kk : Runs K l Z n0 mi tp ls st H v H') : Runs K l Z n0 mi pc ls (.int x :: st) H v H' := by
  obtain ⟨hd, hn, h1, h2⟩ := hd
  exact Runs.pure (fun _ _ _ _ _ _ _ _ _ _ _ _ _ X hx hZ hc hown t h => XS.ifYes X.here hx rfl rfl (hb hc hd) rfl hq h1 h2 h) kk
theorem r_ifF {cd : ClassFile.Cond} {x : Int32} {o : Int} (hd : decode mi.2.1 pc = .ok (.ifCond cd o, 3) ∧ pc + 3 = np ∧ 0 ≤ (pc : Int) + o ∧ ((pc : Int) + o).toNat = tp) (hq : ifCond.holds cd x = false) (kk : Runs K l Z n0 mi np ls st H v H') : Runs K l Z n0 mi pc ls (.int x :: st) H v H' := by
  obtain ⟨hd, rfl, h1, h2⟩ := hd
  exact Runs.pure (fun _ _ _ _ _ _ _ _ _ _ _ _ _ X hx hZ hc hown t h => XS.ifNo X.here hx rfl (hb hc hd) rfl hq h) kk
theorem r_icT {cd : ClassFile.Cond} {x y : Int32} {o : Int} (hd : decode mi.2.1 pc = .ok (.if_icmp cd o, 3) ∧ pc + 3 = np ∧ 0 ≤ (pc : Int) + o ∧ ((pc : Int) + o).toNat = tp) (hq : if_icmp.holds cd x y = true) (kk : Runs K l Z n0 mi tp ls st H v H') : Runs K l Z n0 mi pc ls (.int y :: .int x :: st) H v H' := by
  obtain ⟨hd, hn, h1, h2⟩ := hd
  exact Runs.pure (fun _ _ _ _ _ _ _ _ _ _ _ _ _ X hx hZ hc hown t h => XS.icmpYes X.here hx rfl rfl (hb hc hd) rfl hq h1 h2 h) kk
theorem r_icF {cd : ClassFile.Cond} {x y : Int32} {o : Int} (hd : decode mi.2.1 pc = .ok (.if_icmp cd o, 3) ∧ pc + 3 = np ∧ 0 ≤ (pc : Int) + o ∧ ((pc : Int) + o).toNat = tp) (hq : if_icmp.holds cd x y = false) (kk : Runs K l Z n0 mi np ls st H v H') : Runs K l Z n0 mi pc ls (.int y :: .int x :: st) H v H' := by
  obtain ⟨hd, rfl, h1, h2⟩ := hd
  exact Runs.pure (fun _ _ _ _ _ _ _ _ _ _ _ _ _ X hx hZ hc hown t h => XS.icmpNo X.here hx rfl (hb hc hd) rfl hq h) kk
theorem r_nullT  {o : Int} (hd : decode mi.2.1 pc = .ok (.ifnull o, 3) ∧ pc + 3 = np ∧ 0 ≤ (pc : Int) + o ∧ ((pc : Int) + o).toNat = tp) (kk : Runs K l Z n0 mi tp ls st H v H') : Runs K l Z n0 mi pc ls (.null :: st) H v H' := by
  obtain ⟨hd, hn, h1, h2⟩ := hd
  exact Runs.pure (fun _ _ _ _ _ _ _ _ _ _ _ _ _ X hx hZ hc hown t h => XS.ifnullYes X.here hx rfl rfl (hb hc hd) rfl h1 h2 h) kk
theorem r_nullF {a : Addr} {o : Int} (hd : decode mi.2.1 pc = .ok (.ifnull o, 3) ∧ pc + 3 = np ∧ 0 ≤ (pc : Int) + o ∧ ((pc : Int) + o).toNat = tp) (kk : Runs K l Z n0 mi np ls st H v H') : Runs K l Z n0 mi pc ls (.ref a :: st) H v H' := by
  obtain ⟨hd, rfl, h1, h2⟩ := hd
  exact Runs.pure (fun _ _ _ _ _ _ _ _ _ _ _ _ _ X hx hZ hc hown t h => XS.ifnullNo X.here hx rfl (hb hc hd) rfl h) kk
theorem r_nonnullT {a : Addr} {o : Int} (hd : decode mi.2.1 pc = .ok (.ifnonnull o, 3) ∧ pc + 3 = np ∧ 0 ≤ (pc : Int) + o ∧ ((pc : Int) + o).toNat = tp) (kk : Runs K l Z n0 mi tp ls st H v H') : Runs K l Z n0 mi pc ls (.ref a :: st) H v H' := by
  obtain ⟨hd, hn, h1, h2⟩ := hd
  exact Runs.pure (fun _ _ _ _ _ _ _ _ _ _ _ _ _ X hx hZ hc hown t h => XT.ifnonnullYes X.here hx rfl rfl (hb hc hd) rfl h1 h2 h) kk
theorem r_nonnullF  {o : Int} (hd : decode mi.2.1 pc = .ok (.ifnonnull o, 3) ∧ pc + 3 = np ∧ 0 ≤ (pc : Int) + o ∧ ((pc : Int) + o).toNat = tp) (kk : Runs K l Z n0 mi np ls st H v H') : Runs K l Z n0 mi pc ls (.null :: st) H v H' := by
  obtain ⟨hd, rfl, h1, h2⟩ := hd
  exact Runs.pure (fun _ _ _ _ _ _ _ _ _ _ _ _ _ X hx hZ hc hown t h => XT.ifnonnullNo X.here hx rfl (hb hc hd) rfl h) kk
/-- a step that may turn the heap -/
theorem Runs.heap {st2 : List Value} (m1 : H.length ≤ H1.length) (m2 : szs K H ≤ szs K H1) (hstep : ∀ (p : Program) (e : Env) (R : Room) (s : State) (m : MethodId) (args : Array Value) (below : List Frame) (meth : Method) (c : Code) (T : State) (locs : List Loc) (cells slots : Nat),
      Stand p l e R s m args below meth c T locs cells slots → p.tables.exec = Jvm.exec → Z.Warmed39 s.vm → c.code = mi.2.1 → c.maxLocals = mi.2.2.1 → s.vm.findClass mi.1.cls = some m.cls → meth.name = mi.1.name → Rel K Z n0 H T.heap → Fr n0 locs → mi.2.2.2.2.1 ≤ R.frames → mi.2.2.2.2.2 ≤ R.locals →
      s.heap.size + cells = n0 + H.length → cells + H1.length ≤ R.cells + H.length → slots + szs K H1 ≤ R.slots + szs K H →
      ∃ (T1 : State) (locs1 : List Loc) (cells1 slots1 : Nat), Stand p l e R s m args below meth c T1 locs1 cells1 slots1 ∧ Rel K Z n0 H1 T1.heap ∧ Fr n0 locs1 ∧ s.heap.size + cells1 = n0 + H1.length ∧ slots1 + szs K H ≤ slots + szs K H1 ∧
        ∀ target, Steps p.tables e below (T1.setTop (mkF m np (ls'.map (shS n0)).toArray (st2.map (shV n0)))) target → Steps p.tables e below (T.setTop (mkF m pc (ls.map (shS n0)).toArray (st.map (shV n0)))) target)
    (k : Runs K l Z n0 mi np ls' st2 H1 v H') : Runs K l Z n0 mi pc ls st H v H' := by
  have k1 := k.1
  have k2 := k.2.1
  refine ⟨Nat.le_trans m1 k1, Nat.le_trans m2 k2, fun p e R s m args below meth c T locs cells slots X hx hZ hc hml hret hown hnm hrel hfr hf hlo hsz hcl hsl => ?_⟩
  obtain ⟨T1, locs1, cells1, slots1, X1, rel1, fr1, hc1, hs1, st1⟩ := hstep p e R s m args below meth c T locs cells slots X hx hZ hc hml hown hnm hrel hfr hf hlo hsz (by omega) (by omega)
  obtain ⟨T', locs', cells', slots', X', rel', fr', hc', hs', stp⟩ := k.2.2 p e R s m args below meth c T1 locs1 cells1 slots1 X1 hx hZ hc hml hret hown hnm rel1 fr1 hf hlo hc1 (by omega) (by omega)
  exact ⟨T', locs', cells', slots', X', rel', fr', hc', by omega, fun fs hr => st1 _ (stp fs hr)⟩
theorem r_ret {x : Value} {t : FieldType} {i : Instr} (hd : decode mi.2.1 pc = .ok (i, 1)) (hret : mi.2.2.2.1 = some t) (hn : narrow t x = x)
    (hi : (i = .ireturn ∧ (t = .int ∨ t = .boolean ∨ t = .byte ∨ t = .char ∨ t = .short) ∧ ∃ z, x = .int z) ∨ (i = .lreturn ∧ t = .long ∧ ∃ z, x = .long z) ∨ (i = .areturn ∧ t.isReference = true ∧ x.isRef = true)) : Runs K l Z n0 mi pc ls (x :: st) H (some x) H := by
  refine ⟨Nat.le_refl _, Nat.le_refl _, fun p e R s m args below meth c T locs cells slots X hx hZ hc hml hret' hown hnm hrel hfr hf hlo hsz hcl hsl => ⟨T, locs, cells, slots, X, hrel, hfr, hsz, Nat.le_refl _, fun fs hr => ?_⟩⟩
  have hn' : narrow t (shV n0 x) = shV n0 x := by
    rcases hi with ⟨-, -, z, rfl⟩ | ⟨-, -, z, rfl⟩ | ⟨-, -, q⟩
    · exact hn
    · exact hn
    · cases x <;> first | (cases q; done) | (cases t <;> rfl)
  refine retOut X hx (hret'.trans hret) hn' ?_ (hb hc hd) hr
  rcases hi with ⟨h1, h2, z, rfl⟩ | ⟨h1, h2, z, rfl⟩ | ⟨h1, h2, q⟩
  · exact Or.inl ⟨h1, h2, z, rfl⟩
  · exact Or.inr (Or.inl ⟨h1, h2, z, rfl⟩)
  · exact Or.inr (Or.inr (Or.inr (Or.inr ⟨h1, h2, isRef_sh q⟩)))
theorem r_ireturn {z : Int32} (hd : decode mi.2.1 pc = .ok (.ireturn, 1)) (hret : mi.2.2.2.1 = some .int) : Runs K l Z n0 mi pc ls (.int z :: st) H (some (.int z)) H := r_ret hd hret rfl (Or.inl ⟨rfl, Or.inl rfl, z, rfl⟩)
theorem r_ireturnE {z z' : Int32} (hd : decode mi.2.1 pc = .ok (.ireturn, 1)) (hret : mi.2.2.2.1 = some .int) (h : z = z') : Runs K l Z n0 mi pc ls (.int z :: st) H (some (.int z')) H := h ▸ r_ireturn hd hret
theorem r_zreturn {z : Int32} (hd : decode mi.2.1 pc = .ok (.ireturn, 1)) (hret : mi.2.2.2.1 = some .boolean) (hz : z = 0 ∨ z = 1) : Runs K l Z n0 mi pc ls (.int z :: st) H (some (.int z)) H := r_ret hd hret (by rcases hz with rfl | rfl <;> rfl) (Or.inl ⟨rfl, Or.inr (Or.inl rfl), z, rfl⟩)
theorem r_lreturn {z : Int64} (hd : decode mi.2.1 pc = .ok (.lreturn, 1)) (hret : mi.2.2.2.1 = some .long) : Runs K l Z n0 mi pc ls (.long z :: st) H (some (.long z)) H := r_ret hd hret rfl (Or.inr (Or.inl ⟨rfl, rfl, z, rfl⟩))
theorem r_areturn {x : Value} {t : FieldType} (hd : decode mi.2.1 pc = .ok (.areturn, 1)) (hret : mi.2.2.2.1 = some t) (ht : t.isReference = true) (hx : x.isRef = true) : Runs K l Z n0 mi pc ls (x :: st) H (some x) H := r_ret hd hret (by cases x <;> first | (cases hx; done) | (cases t <;> rfl)) (Or.inr (Or.inr ⟨rfl, ht, hx⟩))
theorem r_return (hd : decode mi.2.1 pc = .ok (.return_, 1)) (hret : mi.2.2.2.1 = none) : Runs K l Z n0 mi pc ls [] H none H := by
  refine ⟨Nat.le_refl _, Nat.le_refl _, fun p e R s m args below meth c T locs cells slots X hx hZ hc hml hret' hown hnm hrel hfr hf hlo hsz hcl hsl => ⟨T, locs, cells, slots, X, hrel, hfr, hsz, Nat.le_refl _, fun fs hr => ?_⟩⟩
  exact X.returnOut hx (hret'.trans hret) (hb hc hd) hr
theorem r_tswIn {dflt low high o : Int} {offs : Array Int} {len : Nat} {i : Int32} (hd : decode mi.2.1 pc = .ok (.tableswitch dflt low high offs, len)) (hin : ¬ (i.toInt < low ∨ i.toInt > high)) (hoff : offs[(i.toInt - low).toNat]? = some o) (ho : 0 ≤ (pc : Int) + o) (hp : ((pc : Int) + o).toNat = tp)
    (kk : Runs K l Z n0 mi tp ls st H v H') : Runs K l Z n0 mi pc ls (.int i :: st) H v H' :=
  Runs.pure (fun _ _ _ _ _ _ _ _ _ _ _ _ _ X hx hZ hc hown t h => XS.tswIn X.here hx rfl rfl (hb hc hd) rfl hin hoff ho hp h) kk
theorem r_tswOut {dflt low high : Int} {offs : Array Int} {len : Nat} {i : Int32} (hd : decode mi.2.1 pc = .ok (.tableswitch dflt low high offs, len)) (hout : i.toInt < low ∨ i.toInt > high) (ho : 0 ≤ (pc : Int) + dflt) (hp : ((pc : Int) + dflt).toNat = tp)
    (kk : Runs K l Z n0 mi tp ls st H v H') : Runs K l Z n0 mi pc ls (.int i :: st) H v H' :=
  Runs.pure (fun _ _ _ _ _ _ _ _ _ _ _ _ _ X hx hZ hc hown t h => XS.tswOut X.here hx rfl rfl (hb hc hd) rfl hout ho hp h) kk
/-! ### the heap -/
theorem OOk.ext {h h' : Heap} {a : Addr} {o : Ob} (E : Ext h h') (q : OOk K Z n0 h a o) : OOk K Z n0 h' a o := by
  cases o with
  | inl o => obtain ⟨ci, h1, h2, h3⟩ := q; exact ⟨ci, h1, h2.ext E, fun i f v a b => (h3 i f v a b).ext E⟩
  | inr o => obtain ⟨cl, h1, h2, h3, h4, h5⟩ := q; exact ⟨cl, h1.ext E, h2, h3, h4, h5.ext E⟩
theorem OOk.other {h h' : Heap} {a b : Addr} {sl : Nat} {x : Value} {o : Ob} (W : Wr h h' b sl x) (ne : a ≠ b) (q : OOk K Z n0 h a o) : OOk K Z n0 h' a o := by
  cases o with
  | inl o => obtain ⟨ci, h1, h2, h3⟩ := q; exact ⟨ci, h1, h2.wr W, fun i f v a b => (h3 i f v a b).other W (Or.inl ne)⟩
  | inr o => obtain ⟨cl, h1, h2, h3, h4, h5⟩ := q; exact ⟨cl, h1.other W ne, h2, h3, h4, h5.wr W⟩
theorem Rel.push {h h' : Heap} {o : Ob} (r : Rel K Z n0 H h) (E : Ext h h') (hs : h'.size = h.size + 1) (ho : OOk K Z n0 h' h.size o) : Rel K Z n0 (H ++ [o]) h' := by
  refine ⟨by rw [hs, r.1, List.length_append]; rfl, fun k q hk => ?_⟩
  by_cases hl : k < H.length
  · rw [List.getElem?_append_left hl] at hk; exact (r.2 k q hk).ext E
  · rw [List.getElem?_append_right (Nat.le_of_not_lt hl)] at hk
    have e : k - H.length = 0 := by
      cases hq : k - H.length with
      | zero => rfl
      | succ j => rw [hq] at hk; simp at hk
    rw [e] at hk
    simp at hk
    subst hk
    have : k = H.length := by omega
    subst this
    rw [← r.1]; exact ho
theorem Rel.put {h h' : Heap} {o : Ob} {a sl : Nat} {x : Value} (r : Rel K Z n0 H h) (W : Wr h h' (n0 + a) sl x) (ha : a < H.length) (ho : OOk K Z n0 h' (n0 + a) o) : Rel K Z n0 (H.set a o) h' := by
  refine ⟨by rw [W.size, r.1, List.length_set], fun k q hk => ?_⟩
  by_cases e : a = k
  · subst e
    rw [List.getElem?_set_self ha] at hk
    cases hk; exact ho
  · rw [List.getElem?_set_ne e] at hk
    exact (r.2 k q hk).other W (fun z => e (Nat.add_left_cancel z).symm)
theorem map_set_same {α β : Type} (f : α → β) : ∀ (H : List α) (a : Nat) (o o' : α), H[a]? = some o' → f o = f o' → (H.set a o).map f = H.map f
  | [], _, _, _, h, _ => by simp at h
  | x :: r, 0, o, o', h, e => by simp at h; subst h; simp [e]
  | x :: r, a + 1, o, o', h, e => by simp at h; simp [map_set_same f r a o o' h e]
theorem szs_set {a : Nat} {o o' : Ob} (h : H[a]? = some o') (e : osz K o = osz K o') : szs K (H.set a o) = szs K H := by unfold szs; rw [map_set_same (osz K) H a o o' h e]
theorem szs_push {o : Ob} : szs K (H ++ [o]) = szs K H + osz K o := by simp [szs]
theorem lt_of_at {α : Type} {L : List α} {a : Nat} {o : α} (h : L[a]? = some o) : a < L.length := (List.getElem?_eq_some_iff.mp h).1
theorem nar_sh {t : FieldType} {x : Value} (h : narrow t x = x) : narrow t (shV n0 x) = shV n0 x := by cases x <;> first | exact h | (cases t <;> rfl)
theorem fits_sh {t : FieldType} {x : Value} (h : fits t x = true) : fits t (shV n0 x) = true := by cases x <;> first | exact h | (cases t <;> first | rfl | cases h)
theorem sh_dflt (ty : FieldType) : shV n0 (defaultValue ty) = defaultValue ty := by cases ty <;> rfl
theorem r_getF {a cid i idx : Nat} {vs : List Value} {ci : CI} {f : FI} {x : Value} {R0 : String} (hd : decode mi.2.1 pc = .ok (.getfield idx, 3) ∧ pc + 3 = np) (w : (Jvm.Cond.fieldLink mi.1.cls idx R0 f.2.1 f.2.2.1).before a0 Z = true) (via : Via Z R0 f.1 f.2.1 f.2.2.1) (hci : K[cid]? = some ci) (hf : ci.2.2[i]? = some f)
    (ho : H[a]? = some (.inl (cid, vs))) (hv : vs[i]? = some x) (kk : Runs K l Z n0 mi np ls (x :: st) H v H') : Runs K l Z n0 mi pc ls (.ref a :: st) H v H' := by
  obtain ⟨hd, rfl⟩ := hd
  refine Runs.heap (Nat.le_refl _) (Nat.le_refl _) (fun p e R s m args below meth c T locs cells slots X hx hZ hc hml hown hnm hrel hfr hf' hlo hsz hcl hsl => ?_) kk
  obtain ⟨ci', q1, E, F⟩ := hrel.2 a _ ho
  cases hci.symm.trans q1
  obtain ⟨T1, X1, e1, st1⟩ := getF X hx hZ hown (host := "") (Or.inl w) via rfl (F i f x hf hv) (g := mkF m pc (ls.map (shS n0)).toArray (.ref (n0 + a) :: st.map (shV n0))) rfl rfl (hb hc hd)
  exact ⟨T1, _, _, _, X1, by rw [e1]; exact hrel, hfr, hsz, Nat.le_refl _, st1⟩
theorem r_putF {a cid i idx : Nat} {vs vs' : List Value} {ci : CI} {f : FI} {x : Value} {R0 : String} (hK : KOk K Z a0) (hd : decode mi.2.1 pc = .ok (.putfield idx, 3) ∧ pc + 3 = np) (w : (Jvm.Cond.fieldLink mi.1.cls idx R0 f.2.1 f.2.2.1).before a0 Z = true) (via : Via Z R0 f.1 f.2.1 f.2.2.1) (hci : K[cid]? = some ci) (hf : ci.2.2[i]? = some f)
    (L : (Jvm.Cond.lays ci.1 f.1 f.2.1 f.2.2.1).before a0 Z = true ∨ ((Jvm.Cond.laysFinal ci.1 f.1 f.2.1 f.2.2.1).before a0 Z = true ∧ mi.1.cls = f.1 ∧ mi.1.name = "<init>"))
    (ho : H[a]? = some (.inl (cid, vs))) (hi : i < vs.length) (hn : narrow f.2.2.2 x = x) (hft : fits f.2.2.2 x = true) (hvs : vs.set i x = vs') (hH : H.set a (.inl (cid, vs')) = H1) (kk : Runs K l Z n0 mi np ls st H1 v H') : Runs K l Z n0 mi pc ls (x :: .ref a :: st) H v H' := by
  obtain ⟨hd, rfl⟩ := hd
  subst hvs hH
  have ha := lt_of_at ho
  have es : szs K (H.set a (.inl (cid, vs.set i x))) = szs K H := szs_set ho rfl
  refine Runs.heap (by rw [List.length_set]; exact Nat.le_refl _) (by rw [es]; exact Nat.le_refl _) (fun p e R s m args below meth c T locs cells slots X hx hZ hc hml hown hnm hrel hfr hf' hlo hsz hcl hsl => ?_) kk
  obtain ⟨ci', q1, E, F⟩ := hrel.2 a _ ho
  cases hci.symm.trans q1
  obtain ⟨kk1, kk2, kk3⟩ := hK cid ci hci
  have hfm : f ∈ ci.2.2 := List.mem_of_getElem? hf
  obtain ⟨T1, h1, X1, e1, W1, st1⟩ := putF X hx hZ hown (host := "") (Or.inl w) via rfl (F i f _ hf (List.getElem?_eq_getElem hi)) E (L.imp id fun q => ⟨q.1, q.2.1, hnm.trans q.2.2⟩) kk1 (kk2 f hfm).2 (nar_sh hn) (fits_sh hft)
    (g := mkF m pc (ls.map (shS n0)).toArray (shV n0 x :: .ref (n0 + a) :: st.map (shV n0))) rfl rfl (hb hc hd)
  refine ⟨T1, _, _, _, X1, ?_, Fr.snoc X1 hfr (Nat.le_add_right _ _), by rw [List.length_set]; exact hsz, by rw [es]; exact Nat.le_refl _, st1⟩
  rw [e1]
  refine hrel.put W1 ha ⟨ci, hci, E.wr W1, fun j g y hg hy => ?_⟩
  by_cases ji : i = j
  · subst ji
    cases hf.symm.trans hg
    rw [List.getElem?_set_self hi] at hy
    cases hy
    exact (F i f _ hf (List.getElem?_eq_getElem hi)).same W1
  · rw [List.getElem?_set_ne ji] at hy
    have hgm : g ∈ ci.2.2 := List.mem_of_getElem? hg
    refine (F j g y hg hy).other W1 (Or.inr (slot_ne (kk2 g hgm).1 (kk2 f hfm).1 ?_ (kk2 g hgm).2 (kk2 f hfm).2))
    obtain ⟨li, ei⟩ := List.getElem?_eq_some_iff.mp hf
    obtain ⟨lj, ej⟩ := List.getElem?_eq_some_iff.mp hg
    have pw := List.pairwise_iff_getElem.mp kk3
    rcases Nat.lt_or_gt_of_ne ji with q | q
    · have := pw i j li lj q; rw [ei, ej] at this; exact fun z => this z.symm
    · have := pw j i lj li q; rw [ei, ej] at this; exact this
theorem r_new {a cid idx : Nat} {ci : CI} {o : List Value} (hK : KOk K Z a0) (hd : decode mi.2.1 pc = .ok (.new idx, 3) ∧ pc + 3 = np) (w : (Jvm.Cond.classLink mi.1.cls idx ci.1).before a0 Z = true) (wz : (Jvm.Cond.initialized ci.1).before a0 Z = true) (hci : K[cid]? = some ci)
    (ho : ci.2.2.map (fun f => defaultValue f.2.2.2) = o) (ha : H.length = a) (hH : H ++ [.inl (cid, o)] = H1) (kk : Runs K l Z n0 mi np ls (.ref a :: st) H1 v H') : Runs K l Z n0 mi pc ls st H v H' := by
  obtain ⟨hd, rfl⟩ := hd
  subst ho ha hH
  obtain ⟨kk1, kk2, kk3⟩ := hK cid ci hci
  have es : osz K (.inl (cid, ci.2.2.map (fun f => defaultValue f.2.2.2))) = ci.2.1 := by show ((K[cid]?).map (fun ci => ci.2.1)).getD 0 = _; rw [hci]; rfl
  refine Runs.heap (by simp) (by rw [szs_push]; exact Nat.le_add_right _ _) (fun p e R s m args below meth c T locs cells slots X hx hZ hc hml hown hnm hrel hfr hf' hlo hsz hcl hsl => ?_) kk
  rw [szs_push, es] at hsl
  simp only [List.length_append, List.length_cons, List.length_nil] at hcl
  obtain ⟨T1, h1, X1, e1, E1, A1, D1, -, st1⟩ := newO X hx hZ hown w kk1 wz rfl (g := mkF m pc (ls.map (shS n0)).toArray (st.map (shV n0))) rfl (hb hc hd) (by omega) (by omega)
  have hs1 := X1.heapSize
  have hlt : T.heap.size < h1.size := A1.lt
  have hh := hrel.1
  rw [e1] at hs1
  refine ⟨T1, _, _, _, X1, ?_, hfr, by simp only [List.length_append, List.length_cons, List.length_nil]; omega, by rw [szs_push, es]; omega, fun t q => st1 t ?_⟩
  · rw [e1]
    refine hrel.push E1 (by omega) ⟨ci, hci, A1, fun i f x hf hx => ?_⟩
    have hfm : f ∈ ci.2.2 := List.mem_of_getElem? hf
    rw [List.getElem?_map, hf] at hx
    cases hx
    show Fld Z h1 T.heap.size f.1 f.2.1 f.2.2.1 (shV n0 (defaultValue f.2.2.2))
    rw [sh_dflt]
    exact D1 (kk2 f hfm).1 (kk2 f hfm).2
  · show Steps _ _ _ (T1.setTop (mkF m (pc + 3) _ (.ref T.heap.size :: _))) t
    rw [hh]; exact q
theorem toNat_of {n : Int32} (h : ¬ n < 0) : n.toNatClampNeg < 2 ^ 31 := (back32 h).2
theorem r_newA {a : Nat} {n : Int32} {aty : ArrayType} {o : List Value} (hd : decode mi.2.1 pc = .ok (.newarray aty, 2) ∧ pc + 2 = np) (w : (Jvm.Cond.arrayClass (newarray.typeOf aty)).before a0 Z = true) (hn : ¬ n < 0) (hb8 : n.toNatClampNeg * 8 ≤ 536870912)
    (ho : List.replicate n.toNatClampNeg (defaultValue (newarray.typeOf aty)) = o) (ha : H.length = a) (hH : H ++ [.inr (newarray.typeOf aty, o)] = H1) (kk : Runs K l Z n0 mi np ls (.ref a :: st) H1 v H') : Runs K l Z n0 mi pc ls (.int n :: st) H v H' := by
  obtain ⟨hd, rfl⟩ := hd
  subst ho ha hH
  have es : osz K (.inr (newarray.typeOf aty, List.replicate n.toNatClampNeg (defaultValue (newarray.typeOf aty)))) = n.toNatClampNeg := by show (List.replicate _ _).length = _; simp
  refine Runs.heap (by simp) (by rw [szs_push]; exact Nat.le_add_right _ _) (fun p e R s m args below meth c T locs cells slots X hx hZ hc hml hown hnm hrel hfr hf' hlo hsz hcl hsl => ?_) kk
  rw [szs_push, es] at hsl
  simp only [List.length_append, List.length_cons, List.length_nil] at hcl
  obtain ⟨T1, h1, cA, X1, e1, E1, A1, EE1, st1⟩ := newPE X hx hZ w rfl (g := mkF m pc (ls.map (shS n0)).toArray (.int n :: st.map (shV n0))) rfl (hb hc hd) rfl hn (cap := n.toNatClampNeg) (Nat.le_refl _) hb8 (by omega) (by omega) (ad := "[" ++ (newarray.typeOf aty).toString) rfl
  have hs1 := X1.heapSize
  have hlt : T.heap.size < h1.size := A1.lt
  have hh := hrel.1
  rw [e1] at hs1
  refine ⟨T1, _, _, _, X1, ?_, hfr, by simp only [List.length_append, List.length_cons, List.length_nil]; omega, by rw [szs_push, es]; omega, fun t q => st1 t ?_⟩
  · rw [e1]
    refine hrel.push E1 (by omega) ⟨_, A1, by rw [sz_new]; simp, by simpa using toNat_of hn, fun i x hx => ?_, EE1⟩
    rw [List.getElem?_replicate] at hx
    split at hx
    · rename_i hi
      cases hx
      have q1 : (newA cA (newarray.typeOf aty) n).slots[i]? = some (defaultValue (newarray.typeOf aty)) := by simp [newA, hi]
      exact ⟨by rw [q1]; cases newarray.typeOf aty <;> rfl, by cases newarray.typeOf aty <;> rfl⟩
    · cases hx
  · show Steps _ _ _ (T1.setTop (mkF m (pc + 2) _ (.ref T.heap.size :: _))) t
    rw [hh]; exact q
theorem fits_byte (x : Int32) : fits .byte (.int x.toInt8.toInt32) = true := by
  have h1 : (x.toInt8.toInt32).toInt = x.toInt8.toInt := Int8.toInt_toInt32 _
  have h2 := x.toInt8.toInt_lt
  have h3 := x.toInt8.le_toInt
  have e1 : (-128 : Int32).toInt = -128 := by decide
  have e2 : (127 : Int32).toInt = 127 := by decide
  simp only [fits, Bool.and_eq_true, decide_eq_true_eq]
  rw [Int32.le_iff_toInt_le, Int32.le_iff_toInt_le, h1, e1, e2]
  omega
/-- the int j names the place i -/
def Ix (j : Int32) (i : Nat) : Prop := ¬ j < 0 ∧ j.toNatClampNeg = i
theorem r_len {a : Nat} {ty : FieldType} {vs : List Value} {n : Int32} (hd : decode mi.2.1 pc = .ok (.arraylength, 1) ∧ pc + 1 = np) (ho : H[a]? = some (.inr (ty, vs))) (hn : vs.length.toInt32 = n) (kk : Runs K l Z n0 mi np ls (.int n :: st) H v H') : Runs K l Z n0 mi pc ls (.ref a :: st) H v H' := by
  obtain ⟨hd, rfl⟩ := hd
  subst hn
  refine Runs.heap (Nat.le_refl _) (Nat.le_refl _) (fun p e R s m args below meth c T locs cells slots X hx hZ hc hml hown hnm hrel hfr hf' hlo hsz hcl hsl => ?_) kk
  obtain ⟨cl, A, hs, hl, hv, hE⟩ := hrel.2 a _ ho
  refine ⟨T, _, _, _, X, hrel, hfr, hsz, Nat.le_refl _, fun t q => ?_⟩
  refine X.arraylength hx A.1 (State.isArrayOf_alike hZ.alike A.2.1) (g := mkF m pc (ls.map (shS n0)).toArray (.ref (n0 + a) :: st.map (shV n0))) rfl rfl (hb hc hd) _ ?_
  rw [hs]; exact q
theorem r_iaload {a i : Nat} {vs : List Value} {j : Int32} {x : Value} (hd : decode mi.2.1 pc = .ok (.iaload, 1) ∧ pc + 1 = np) (ho : H[a]? = some (.inr (.int, vs))) (hj : Ix j i) (hv : vs[i]? = some x) (kk : Runs K l Z n0 mi np ls (x :: st) H v H') : Runs K l Z n0 mi pc ls (.int j :: .ref a :: st) H v H' := by
  obtain ⟨hd, rfl⟩ := hd
  obtain ⟨hj0, rfl⟩ := hj
  refine Runs.heap (Nat.le_refl _) (Nat.le_refl _) (fun p e R s m args below meth c T locs cells slots X hx hZ hc hml hown hnm hrel hfr hf' hlo hsz hcl hsl => ?_) kk
  obtain ⟨cl, A, hs, hl, hvs, hE⟩ := hrel.2 a _ ho
  have hi := lt_of_at hv
  refine ⟨T, _, _, _, X, hrel, hfr, hsz, Nat.le_refl _, fun t q => ?_⟩
  exact X.iaload hx (j := j) (v := shV n0 x) A.1 (State.isArrayOf_alike hZ.alike A.2.1) A.2.2 (fun z => z.elim hj0 (fun q => by rw [hs] at q; omega)) (hvs _ _ hv).1 (g := mkF m pc (ls.map (shS n0)).toArray (.int j :: .ref (n0 + a) :: st.map (shV n0))) rfl rfl (hb hc hd) _ q
theorem r_laload {a i : Nat} {vs : List Value} {j : Int32} {x : Value} (hd : decode mi.2.1 pc = .ok (.laload, 1) ∧ pc + 1 = np) (ho : H[a]? = some (.inr (.long, vs))) (hj : Ix j i) (hv : vs[i]? = some x) (kk : Runs K l Z n0 mi np ls (x :: st) H v H') : Runs K l Z n0 mi pc ls (.int j :: .ref a :: st) H v H' := by
  obtain ⟨hd, rfl⟩ := hd
  obtain ⟨hj0, rfl⟩ := hj
  refine Runs.heap (Nat.le_refl _) (Nat.le_refl _) (fun p e R s m args below meth c T locs cells slots X hx hZ hc hml hown hnm hrel hfr hf' hlo hsz hcl hsl => ?_) kk
  obtain ⟨cl, A, hs, hl, hvs, hE⟩ := hrel.2 a _ ho
  have hi := lt_of_at hv
  refine ⟨T, _, _, _, X, hrel, hfr, hsz, Nat.le_refl _, fun t q => ?_⟩
  exact X.laload hx (j := j) (v := shV n0 x) A.1 (State.isArrayOf_alike hZ.alike A.2.1) A.2.2 (fun z => z.elim hj0 (fun q => by rw [hs] at q; omega)) (hvs _ _ hv).1 (g := mkF m pc (ls.map (shS n0)).toArray (.int j :: .ref (n0 + a) :: st.map (shV n0))) rfl rfl (hb hc hd) _ q
theorem r_baload {a i : Nat} {vs : List Value} {j : Int32} {x : Value} (hd : decode mi.2.1 pc = .ok (.baload, 1) ∧ pc + 1 = np) (ho : H[a]? = some (.inr (.byte, vs))) (hj : Ix j i) (hv : vs[i]? = some x) (kk : Runs K l Z n0 mi np ls (x :: st) H v H') : Runs K l Z n0 mi pc ls (.int j :: .ref a :: st) H v H' := by
  obtain ⟨hd, rfl⟩ := hd
  obtain ⟨hj0, rfl⟩ := hj
  refine Runs.heap (Nat.le_refl _) (Nat.le_refl _) (fun p e R s m args below meth c T locs cells slots X hx hZ hc hml hown hnm hrel hfr hf' hlo hsz hcl hsl => ?_) kk
  obtain ⟨cl, A, hs, hl, hvs, hE⟩ := hrel.2 a _ ho
  have hi := lt_of_at hv
  refine ⟨T, _, _, _, X, hrel, hfr, hsz, Nat.le_refl _, fun t q => ?_⟩
  exact X.baloadBytes hx (j := j) (v := shV n0 x) A.1 (State.isArrayOf_alike hZ.alike A.2.1) A.2.2 (fun z => z.elim hj0 (fun q => by rw [hs] at q; omega)) (hvs _ _ hv).1 (g := mkF m pc (ls.map (shS n0)).toArray (.int j :: .ref (n0 + a) :: st.map (shV n0))) rfl rfl (hb hc hd) _ q
theorem r_caload {a i : Nat} {vs : List Value} {j : Int32} {x : Value} (hd : decode mi.2.1 pc = .ok (.caload, 1) ∧ pc + 1 = np) (ho : H[a]? = some (.inr (.char, vs))) (hj : Ix j i) (hv : vs[i]? = some x) (kk : Runs K l Z n0 mi np ls (x :: st) H v H') : Runs K l Z n0 mi pc ls (.int j :: .ref a :: st) H v H' := by
  obtain ⟨hd, rfl⟩ := hd
  obtain ⟨hj0, rfl⟩ := hj
  refine Runs.heap (Nat.le_refl _) (Nat.le_refl _) (fun p e R s m args below meth c T locs cells slots X hx hZ hc hml hown hnm hrel hfr hf' hlo hsz hcl hsl => ?_) kk
  obtain ⟨cl, A, hs, hl, hvs, hE⟩ := hrel.2 a _ ho
  have hi := lt_of_at hv
  refine ⟨T, _, _, _, X, hrel, hfr, hsz, Nat.le_refl _, fun t q => ?_⟩
  exact X.caload hx (j := j) (v := shV n0 x) A.1 (State.isArrayOf_alike hZ.alike A.2.1) A.2.2 (fun z => z.elim hj0 (fun q => by rw [hs] at q; omega)) (hvs _ _ hv).1 (g := mkF m pc (ls.map (shS n0)).toArray (.int j :: .ref (n0 + a) :: st.map (shV n0))) rfl rfl (hb hc hd) _ q
theorem r_iastore {a i : Nat} {vs vs' : List Value} {j : Int32} {x : Int32} (hd : decode mi.2.1 pc = .ok (.iastore, 1) ∧ pc + 1 = np) (ho : H[a]? = some (.inr (.int, vs))) (hj : Ix j i) (hi : i < vs.length) (hvs : vs.set i (.int x) = vs') (hH : H.set a (.inr (.int, vs')) = H1) (kk : Runs K l Z n0 mi np ls st H1 v H') : Runs K l Z n0 mi pc ls (.int x :: .int j :: .ref a :: st) H v H' := by
  obtain ⟨hd, rfl⟩ := hd
  obtain ⟨hj0, rfl⟩ := hj
  subst hvs hH
  have ha := lt_of_at ho
  have es : szs K (H.set a (.inr (.int, vs.set j.toNatClampNeg (.int x)))) = szs K H := szs_set ho (by show (List.set _ _ _).length = _; simp [osz])
  refine Runs.heap (by rw [List.length_set]; exact Nat.le_refl _) (by rw [es]; exact Nat.le_refl _) (fun p e R s m args below meth c T locs cells slots X hx hZ hc hml hown hnm hrel hfr hf' hlo hsz hcl hsl => ?_) kk
  obtain ⟨cl, A, hs, hl, hvs, hE⟩ := hrel.2 a _ ho
  have hin : ¬ (j < 0 ∨ cl.slots.size ≤ j.toNatClampNeg) := fun z => z.elim hj0 (fun q => by rw [hs] at q; omega)
  obtain ⟨T1, h1, X1, e1, W1, st1⟩ := stI X hx hZ rfl A hin (g := mkF m pc (ls.map (shS n0)).toArray (.int x :: .int j :: .ref (n0 + a) :: st.map (shV n0))) rfl rfl (hb hc hd)
  refine ⟨T1, _, _, _, X1, ?_, Fr.snoc X1 hfr (Nat.le_add_right _ _), by rw [List.length_set]; exact hsz, by rw [es]; exact Nat.le_refl _, st1⟩
  rw [e1]
  refine hrel.put W1 ha ⟨_, A.same W1, by rw [sz_set, hs, List.length_set], by rw [List.length_set]; exact hl, fun k y hy => ?_, hE.wr W1⟩
  by_cases e : j.toNatClampNeg = k
  · subst e
    rw [List.getElem?_set_self hi] at hy
    cases hy
    exact ⟨by simp [Cell.setSlot, hs, hi, shV, nar], rfl⟩
  · rw [List.getElem?_set_ne e] at hy
    refine ⟨?_, (hvs k y hy).2⟩
    exact (Array.getElem?_setIfInBounds_ne e).trans (hvs k y hy).1
theorem r_lastore {a i : Nat} {vs vs' : List Value} {j : Int32} {x : Int64} (hd : decode mi.2.1 pc = .ok (.lastore, 1) ∧ pc + 1 = np) (ho : H[a]? = some (.inr (.long, vs))) (hj : Ix j i) (hi : i < vs.length) (hvs : vs.set i (.long x) = vs') (hH : H.set a (.inr (.long, vs')) = H1) (kk : Runs K l Z n0 mi np ls st H1 v H') : Runs K l Z n0 mi pc ls (.long x :: .int j :: .ref a :: st) H v H' := by
  obtain ⟨hd, rfl⟩ := hd
  obtain ⟨hj0, rfl⟩ := hj
  subst hvs hH
  have ha := lt_of_at ho
  have es : szs K (H.set a (.inr (.long, vs.set j.toNatClampNeg (.long x)))) = szs K H := szs_set ho (by show (List.set _ _ _).length = _; simp [osz])
  refine Runs.heap (by rw [List.length_set]; exact Nat.le_refl _) (by rw [es]; exact Nat.le_refl _) (fun p e R s m args below meth c T locs cells slots X hx hZ hc hml hown hnm hrel hfr hf' hlo hsz hcl hsl => ?_) kk
  obtain ⟨cl, A, hs, hl, hvs, hE⟩ := hrel.2 a _ ho
  have hin : ¬ (j < 0 ∨ cl.slots.size ≤ j.toNatClampNeg) := fun z => z.elim hj0 (fun q => by rw [hs] at q; omega)
  obtain ⟨T1, h1, X1, e1, W1, st1⟩ := stJ X hx hZ rfl A hin (g := mkF m pc (ls.map (shS n0)).toArray (.long x :: .int j :: .ref (n0 + a) :: st.map (shV n0))) rfl rfl (hb hc hd)
  refine ⟨T1, _, _, _, X1, ?_, Fr.snoc X1 hfr (Nat.le_add_right _ _), by rw [List.length_set]; exact hsz, by rw [es]; exact Nat.le_refl _, st1⟩
  rw [e1]
  refine hrel.put W1 ha ⟨_, A.same W1, by rw [sz_set, hs, List.length_set], by rw [List.length_set]; exact hl, fun k y hy => ?_, hE.wr W1⟩
  by_cases e : j.toNatClampNeg = k
  · subst e
    rw [List.getElem?_set_self hi] at hy
    cases hy
    exact ⟨by simp [Cell.setSlot, hs, hi, shV, nar], rfl⟩
  · rw [List.getElem?_set_ne e] at hy
    refine ⟨?_, (hvs k y hy).2⟩
    exact (Array.getElem?_setIfInBounds_ne e).trans (hvs k y hy).1
theorem r_bastore {a i : Nat} {vs vs' : List Value} {j : Int32} {x : Int32} (hd : decode mi.2.1 pc = .ok (.bastore, 1) ∧ pc + 1 = np) (ho : H[a]? = some (.inr (.byte, vs))) (hj : Ix j i) (hi : i < vs.length) (hvs : vs.set i (.int x.toInt8.toInt32) = vs') (hH : H.set a (.inr (.byte, vs')) = H1) (kk : Runs K l Z n0 mi np ls st H1 v H') : Runs K l Z n0 mi pc ls (.int x :: .int j :: .ref a :: st) H v H' := by
  obtain ⟨hd, rfl⟩ := hd
  obtain ⟨hj0, rfl⟩ := hj
  subst hvs hH
  have ha := lt_of_at ho
  have es : szs K (H.set a (.inr (.byte, vs.set j.toNatClampNeg (.int x.toInt8.toInt32)))) = szs K H := szs_set ho (by show (List.set _ _ _).length = _; simp [osz])
  refine Runs.heap (by rw [List.length_set]; exact Nat.le_refl _) (by rw [es]; exact Nat.le_refl _) (fun p e R s m args below meth c T locs cells slots X hx hZ hc hml hown hnm hrel hfr hf' hlo hsz hcl hsl => ?_) kk
  obtain ⟨cl, A, hs, hl, hvs, hE⟩ := hrel.2 a _ ho
  have hin : ¬ (j < 0 ∨ cl.slots.size ≤ j.toNatClampNeg) := fun z => z.elim hj0 (fun q => by rw [hs] at q; omega)
  obtain ⟨T1, h1, X1, e1, W1, st1⟩ := stB X hx hZ rfl A hin (g := mkF m pc (ls.map (shS n0)).toArray (.int x :: .int j :: .ref (n0 + a) :: st.map (shV n0))) rfl rfl (hb hc hd)
  refine ⟨T1, _, _, _, X1, ?_, Fr.snoc X1 hfr (Nat.le_add_right _ _), by rw [List.length_set]; exact hsz, by rw [es]; exact Nat.le_refl _, st1⟩
  rw [e1]
  refine hrel.put W1 ha ⟨_, A.same W1, by rw [sz_set, hs, List.length_set], by rw [List.length_set]; exact hl, fun k y hy => ?_, hE.wr W1⟩
  by_cases e : j.toNatClampNeg = k
  · subst e
    rw [List.getElem?_set_self hi] at hy
    cases hy
    exact ⟨by simp [Cell.setSlot, hs, hi, shV, nar], fits_byte x⟩
  · rw [List.getElem?_set_ne e] at hy
    refine ⟨?_, (hvs k y hy).2⟩
    exact (Array.getElem?_setIfInBounds_ne e).trans (hvs k y hy).1
/-! ### calls -/
theorem map_toList (w : Option Value) (rest : List Value) : ((w.toList ++ rest).map (shV n0)) = (w.map (shV n0)).toList ++ rest.map (shV n0) := by cases w <;> simp
theorem r_initO {a idx : Nat} (hd : decode mi.2.1 pc = .ok (.invokespecial idx, 3) ∧ pc + 3 = np) (w1 : (Jvm.Cond.methodLink mi.1.cls idx Lib.objectInit).before a0 Z = true) (w2 : (Jvm.Cond.instanceMethod Lib.objectInit).before a0 Z = true) (w3 : (Jvm.Cond.code Lib.objectInit ⟨#[0xb1]⟩ 1 none).before a0 Z = true)
    (hls : ls.length = mi.2.2.1) (hf : 1 ≤ mi.2.2.2.2.1) (hlo : (st.map fun v => v.category).sum + 12 ≤ mi.2.2.2.2.2) (kk : Runs K l Z n0 mi np ls st H v H') : Runs K l Z n0 mi pc ls (.ref a :: st) H v H' := by
  obtain ⟨hd, rfl⟩ := hd
  refine Runs.heap (Nat.le_refl _) (Nat.le_refl _) (fun p e R s m args below meth c T locs cells slots X hx hZ hc hml hown hnm hrel hfr hf' hlo' hsz hcl hsl => ?_) kk
  obtain ⟨T1, X1, e1, st1⟩ := initO X hx hZ hown w1 w2 w3 rfl (g := mkF m pc (ls.map (shS n0)).toArray (.ref (n0 + a) :: st.map (shV n0))) rfl (by rw [hml, ← hls]; simp) rfl (hb hc hd) (by omega) (W := (st.map fun v => v.category).sum) (by rw [cats_sh]; show 2 * 0 + _ ≤ _; omega) (by omega)
  exact ⟨T1, _, _, _, X1, by rw [e1]; exact hrel, hfr, hsz, Nat.le_refl _, st1⟩
theorem backM {mj : MI} {as : List Value} {w : Option Value} {h : Heap} {p : Program} {e : Env} {R : Room} {s : State} {args : Array Value} {below : List Frame} {len W : Nat} (M : Meets K l Z n0 mj as H w H1) (hrel : Rel K Z n0 H h) (hZ : Z.Warmed39 s.vm) (w4 : (Jvm.Cond.code mj.1 mj.2.1 mj.2.2.1 mj.2.2.2.1).before a0 Z = true) (w3 : (Jvm.Cond.initialized mj.1.cls).before a0 Z = true)
    (hf : mj.2.2.2.2.1 + 1 ≤ R.frames) (hl : W + (mj.2.2.1 + 11) + mj.2.2.2.2.2 ≤ R.locals) :
    Back l R p e below s args mj.1 len W (fun A a => a = (as.map (shV n0)).toArray ∧ A.U.heap = h ∧ A.cells + (H1.length - H.length) ≤ R.cells ∧ A.slots + (szs K H1 - szs K H) ≤ R.slots)
      (fun A _ v B => ∃ L, (v = w.map (shV n0) ∧ Rel K Z n0 H1 B.U.heap ∧ Fr n0 L) ∧ B.locs = A.locs ++ L ∧ B.cells = A.cells + (H1.length - H.length) ∧ B.slots = A.slots + (szs K H1 - szs K H)) :=
  backOf (rm := rmOf K mj H H1) (Q := fun v h L => v = w.map (shV n0) ∧ Rel K Z n0 H1 h ∧ Fr n0 L) (M.2.2 h hrel) hZ w4 w3 hf hl
theorem r_static {mj : MI} {as : List Value} {w : Option Value} {idx : Nat} (hd : decode mi.2.1 pc = .ok (.invokestatic idx, 3) ∧ pc + 3 = np) (w1 : (Jvm.Cond.methodLink mi.1.cls idx mj.1).before a0 Z = true) (w2 : (Jvm.Cond.static mj.1).before a0 Z = true) (w3 : (Jvm.Cond.initialized mj.1.cls).before a0 Z = true) (w4 : (Jvm.Cond.code mj.1 mj.2.1 mj.2.2.1 mj.2.2.2.1).before a0 Z = true)
    (hy : mj.1.cls ≠ "java/lang/invoke/MethodHandle" ∧ mj.1.cls ≠ "java/lang/invoke/VarHandle") (hlen : ∀ sig, parseMethodDescriptor mj.1.desc = some sig → as.length = sig.parameters.length) (hfr : mj.2.2.2.2.1 + 1 ≤ mi.2.2.2.2.1)
    (hst : as.reverse ++ rest = st) (hls : ls.length = mi.2.2.1) (hlo : (rest.map fun v => v.category).sum + (mj.2.2.1 + 11) + mj.2.2.2.2.2 ≤ mi.2.2.2.2.2)
    (M : Meets K l Z n0 mj as H w H1) (kk : Runs K l Z n0 mi np ls (w.toList ++ rest) H1 v H') : Runs K l Z n0 mi pc ls st H v H' := by
  obtain ⟨hd, rfl⟩ := hd
  subst hst
  have m1 := M.1
  have m2 := M.2.1
  refine Runs.heap m1 m2 (fun p e R s m args below meth c T locs cells slots X hx hZ hc hml hown hnm hrel hfr' hf' hlo' hsz hcl hsl => ?_) kk
  obtain ⟨_, _, ⟨T1, L1, k1, n1⟩, -, X1, ⟨Lc, hQ, l1, y1, z1⟩, st1⟩ := Jvm.LawKit.callS X hx (y := mj.1) hown (mvT hZ w1) (mvT hZ w2) (mvT hZ w3) (mvT hZ w4) hy
    (backM (W := (rest.map fun v => v.category).sum) M hrel hZ w4 w3 (by omega) (by omega))
    (g := mkF m pc (ls.map (shS n0)).toArray ((as.reverse ++ rest).map (shV n0))) rfl (by rw [hml, ← hls]; simp) (argsL := as.map (shV n0)) (rest := rest.map (shV n0)) (fun sig q => by rw [List.length_map]; exact hlen sig q) (by simp) (by rw [cats_sh]; show 2 * 0 + _ ≤ _; omega) (hb hc hd)
    (fun _ _ => ⟨rfl, rfl, (by show cells + (H1.length - H.length) ≤ _; omega), (by show slots + (szs K H1 - szs K H) ≤ _; omega)⟩)
  dsimp only [Pt.U, Pt.locs, Pt.cells, Pt.slots] at X1 l1 y1 z1 st1 hQ
  subst l1 y1 z1
  obtain ⟨rfl, R1, F1⟩ := hQ
  refine ⟨T1, _, _, _, X1, R1, Fr.app hfr' F1, by show s.heap.size + (cells + (H1.length - H.length)) = _; omega, by show slots + (szs K H1 - szs K H) + _ ≤ _; omega, fun t q => st1 t ?_⟩
  rw [map_toList] at q; exact q
theorem r_special {mj : MI} {as : List Value} {a idx : Nat} (hd : decode mi.2.1 pc = .ok (.invokespecial idx, 3) ∧ pc + 3 = np) (hy1 : mj.1.name = "<init>") (hr : mj.2.2.2.1 = none) (w1 : (Jvm.Cond.methodLink mi.1.cls idx mj.1).before a0 Z = true) (w2 : (Jvm.Cond.instanceMethod mj.1).before a0 Z = true) (w3 : (Jvm.Cond.initialized mj.1.cls).before a0 Z = true) (w4 : (Jvm.Cond.code mj.1 mj.2.1 mj.2.2.1 mj.2.2.2.1).before a0 Z = true)
    (hy : mj.1.cls ≠ "java/lang/invoke/MethodHandle" ∧ mj.1.cls ≠ "java/lang/invoke/VarHandle") (hlen : ∀ sig, parseMethodDescriptor mj.1.desc = some sig → as.length = sig.parameters.length) (hfr : mj.2.2.2.2.1 + 1 ≤ mi.2.2.2.2.1)
    (hst : as.reverse ++ .ref a :: rest = st) (hls : ls.length = mi.2.2.1) (hlo : (rest.map fun v => v.category).sum + (mj.2.2.1 + 11) + mj.2.2.2.2.2 ≤ mi.2.2.2.2.2)
    (M : Meets K l Z n0 mj (.ref a :: as) H none H1) (kk : Runs K l Z n0 mi np ls rest H1 v H') : Runs K l Z n0 mi pc ls st H v H' := by
  obtain ⟨hd, rfl⟩ := hd
  subst hst
  have m1 := M.1
  have m2 := M.2.1
  refine Runs.heap m1 m2 (fun p e R s m args below meth c T locs cells slots X hx hZ hc hml hown hnm hrel hfr' hf' hlo' hsz hcl hsl => ?_) kk
  have w4' := w4
  rw [hr] at w4'
  obtain ⟨_, _, ⟨T1, L1, k1, n1⟩, -, X1, ⟨Lc, hQ, l1, y1, z1⟩, st1⟩ := X.specialBack hx (y := mj.1) hy1 hown (mvT hZ w1) (mvT hZ w2) (mvT hZ w4') hy
    (backM (W := (rest.map fun v => v.category).sum) M hrel hZ w4 w3 (by omega) (by omega))
    (g := mkF m pc (ls.map (shS n0)).toArray ((as.reverse ++ .ref a :: rest).map (shV n0))) rfl (by rw [hml, ← hls]; simp) (Steps.refl _) (a := n0 + a) (argsL := as.map (shV n0)) (rest := rest.map (shV n0)) (fun sig q => by rw [List.length_map]; exact hlen sig q) (by simp [shV]) (by rw [cats_sh]; show 2 * 0 + _ ≤ _; omega) (hb hc hd)
    (fun _ _ => ⟨rfl, rfl, (by show cells + (H1.length - H.length) ≤ _; omega), (by show slots + (szs K H1 - szs K H) ≤ _; omega)⟩)
  dsimp only [Pt.U, Pt.locs, Pt.cells, Pt.slots] at X1 l1 y1 z1 st1 hQ
  subst l1 y1 z1
  obtain ⟨rfl, R1, F1⟩ := hQ
  exact ⟨T1, _, _, _, X1, R1, Fr.app hfr' F1, by show s.heap.size + (cells + (H1.length - H.length)) = _; omega, by show slots + (szs K H1 - szs K H) + _ ≤ _; omega, fun t q => st1.trans q⟩
theorem r_virtual {mj : MI} {as : List Value} {w : Option Value} {a cid idx : Nat} {ci : CI} {vs : List Value} (hd : decode mi.2.1 pc = .ok (.invokevirtual idx, 3) ∧ pc + 3 = np) (w1 : (Jvm.Cond.methodLink mi.1.cls idx mj.1).before a0 Z = true) (w2 : (Jvm.Cond.declares mj.1).before a0 Z = true) (w5 : (Jvm.Cond.selects ci.1 mj.1 mj.1).before a0 Z = true) (w6 : (Jvm.Cond.instanceMethod mj.1).before a0 Z = true) (w3 : (Jvm.Cond.initialized mj.1.cls).before a0 Z = true) (w4 : (Jvm.Cond.code mj.1 mj.2.1 mj.2.2.1 mj.2.2.2.1).before a0 Z = true)
    (hy : mj.1.cls ≠ "java/lang/invoke/MethodHandle" ∧ mj.1.cls ≠ "java/lang/invoke/VarHandle") (hlen : ∀ sig, parseMethodDescriptor mj.1.desc = some sig → as.length = sig.parameters.length) (hfr : mj.2.2.2.2.1 + 1 ≤ mi.2.2.2.2.1) (hci : K[cid]? = some ci)
    (hst : as.reverse ++ .ref a :: rest = st) (ho : H[a]? = some (.inl (cid, vs))) (hls : ls.length = mi.2.2.1) (hlo : (rest.map fun v => v.category).sum + (mj.2.2.1 + 11) + mj.2.2.2.2.2 ≤ mi.2.2.2.2.2)
    (M : Meets K l Z n0 mj (.ref a :: as) H w H1) (kk : Runs K l Z n0 mi np ls (w.toList ++ rest) H1 v H') : Runs K l Z n0 mi pc ls st H v H' := by
  obtain ⟨hd, rfl⟩ := hd
  subst hst
  have m1 := M.1
  have m2 := M.2.1
  refine Runs.heap m1 m2 (fun p e R s m args below meth c T locs cells slots X hx hZ hc hml hown hnm hrel hfr' hf' hlo' hsz hcl hsl => ?_) kk
  obtain ⟨ci', q1, E, F⟩ := hrel.2 a _ ho
  cases hci.symm.trans q1
  obtain ⟨cq, kq, qa, qb, qc⟩ := isOf hZ rfl E
  obtain ⟨_, _, ⟨T1, L1, k1, n1⟩, -, X1, ⟨Lc, hQ, l1, y1, z1⟩, st1⟩ := X.virtualBack hx (y := mj.1) (z := mj.1) hown (mvT hZ w1) (mvT hZ w2) (notFace_of_selects (args := #[]) (mvT hZ w5)) (mvT hZ w5) (mvT hZ w6) hy
    (backM (W := (rest.map fun v => v.category).sum) M hrel hZ w4 w3 (by omega) (by omega)) qa qc
    (g := mkF m pc (ls.map (shS n0)).toArray ((as.reverse ++ .ref a :: rest).map (shV n0))) rfl (by rw [hml, ← hls]; simp) (Steps.refl _) (argsL := as.map (shV n0)) (rest := rest.map (shV n0)) (fun sig q => by rw [List.length_map]; exact hlen sig q) (by simp [shV]) (by rw [cats_sh]; show 2 * 0 + _ ≤ _; omega) (hb hc hd)
    (fun _ _ => ⟨rfl, rfl, (by show cells + (H1.length - H.length) ≤ _; omega), (by show slots + (szs K H1 - szs K H) ≤ _; omega)⟩)
  dsimp only [Pt.U, Pt.locs, Pt.cells, Pt.slots] at X1 l1 y1 z1 st1 hQ
  subst l1 y1 z1
  obtain ⟨rfl, R1, F1⟩ := hQ
  refine ⟨T1, _, _, _, X1, R1, Fr.app hfr' F1, by show s.heap.size + (cells + (H1.length - H.length)) = _; omega, by show slots + (szs K H1 - szs K H) + _ ≤ _; omega, fun t q => st1.trans ?_⟩
  rw [map_toList] at q; exact q
theorem r_private {mj : MI} {as : List Value} {w : Option Value} {a cid idx : Nat} {ci : CI} {vs : List Value} (hd : decode mi.2.1 pc = .ok (.invokevirtual idx, 3) ∧ pc + 3 = np) (w1 : (Jvm.Cond.methodLink mi.1.cls idx mj.1).before a0 Z = true) (w5 : (Jvm.Cond.selects mj.1.cls mj.1 mj.1).before a0 Z = true) (w7 : (Jvm.Cond.privateMethod mj.1).before a0 Z = true) (w6 : (Jvm.Cond.instanceMethod mj.1).before a0 Z = true) (w3 : (Jvm.Cond.initialized mj.1.cls).before a0 Z = true) (w4 : (Jvm.Cond.code mj.1 mj.2.1 mj.2.2.1 mj.2.2.2.1).before a0 Z = true)
    (hy : mj.1.cls ≠ "java/lang/invoke/MethodHandle" ∧ mj.1.cls ≠ "java/lang/invoke/VarHandle") (hlen : ∀ sig, parseMethodDescriptor mj.1.desc = some sig → as.length = sig.parameters.length) (hfr : mj.2.2.2.2.1 + 1 ≤ mi.2.2.2.2.1) (hci : K[cid]? = some ci)
    (hst : as.reverse ++ .ref a :: rest = st) (ho : H[a]? = some (.inl (cid, vs))) (hls : ls.length = mi.2.2.1) (hlo : (rest.map fun v => v.category).sum + (mj.2.2.1 + 11) + mj.2.2.2.2.2 ≤ mi.2.2.2.2.2)
    (M : Meets K l Z n0 mj (.ref a :: as) H w H1) (kk : Runs K l Z n0 mi np ls (w.toList ++ rest) H1 v H') : Runs K l Z n0 mi pc ls st H v H' := by
  obtain ⟨hd, rfl⟩ := hd
  subst hst
  have m1 := M.1
  have m2 := M.2.1
  refine Runs.heap m1 m2 (fun p e R s m args below meth c T locs cells slots X hx hZ hc hml hown hnm hrel hfr' hf' hlo' hsz hcl hsl => ?_) kk
  obtain ⟨ci', q1, E, F⟩ := hrel.2 a _ ho
  cases hci.symm.trans q1
  obtain ⟨cq, qa, qc⟩ := E.cell
  obtain ⟨_, _, ⟨T1, L1, k1, n1⟩, -, X1, ⟨Lc, hQ, l1, y1, z1⟩, st1⟩ := X.privateBack hx (y := mj.1) hown (mvT hZ w1) (mvT hZ w6) (mvT hZ w5) (Cond.privateMethod_at (mvP hZ w7 (args := #[]))) (mvT hZ w4) hy
    (backM (W := (rest.map fun v => v.category).sum) M hrel hZ w4 w3 (by omega) (by omega))
    (g := mkF m pc (ls.map (shS n0)).toArray ((as.reverse ++ .ref a :: rest).map (shV n0))) rfl (by rw [hml, ← hls]; simp) (Steps.refl _) (a := n0 + a) qa qc (argsL := as.map (shV n0)) (rest := rest.map (shV n0)) (fun sig q => by rw [List.length_map]; exact hlen sig q) (by simp [shV]) (by rw [cats_sh]; show 2 * 0 + _ ≤ _; omega) (hb hc hd)
    (fun _ _ => ⟨rfl, rfl, (by show cells + (H1.length - H.length) ≤ _; omega), (by show slots + (szs K H1 - szs K H) ≤ _; omega)⟩)
  dsimp only [Pt.U, Pt.locs, Pt.cells, Pt.slots] at X1 l1 y1 z1 st1 hQ
  subst l1 y1 z1
  obtain ⟨rfl, R1, F1⟩ := hQ
  refine ⟨T1, _, _, _, X1, R1, Fr.app hfr' F1, by show s.heap.size + (cells + (H1.length - H.length)) = _; omega, by show slots + (szs K H1 - szs K H) + _ ≤ _; omega, fun t q => st1.trans ?_⟩
  rw [map_toList] at q; exact q
end Logic
/-! ### arrays by a function of the place; small naturals as ints -/
def arrF (m : Nat) (f : Nat → Int32) : List Value := (List.range m).map (fun j => Value.int (f j))
def arrJ (m : Nat) (f : Nat → Int64) : List Value := (List.range m).map (fun j => Value.long (f j))
theorem arrF_len {m : Nat} {f : Nat → Int32} : (arrF m f).length = m := by simp [arrF]
theorem arrJ_len {m : Nat} {f : Nat → Int64} : (arrJ m f).length = m := by simp [arrJ]
theorem arrF_at {m i : Nat} {f : Nat → Int32} (h : i < m) : (arrF m f)[i]? = some (.int (f i)) := by simp [arrF, h]
theorem arrJ_at {m i : Nat} {f : Nat → Int64} (h : i < m) : (arrJ m f)[i]? = some (.long (f i)) := by simp [arrJ, h]
theorem arrF_set {m i : Nat} {f : Nat → Int32} {x : Int32} : (arrF m f).set i (.int x) = arrF m (fun j => if j = i then x else f j) := by
  apply List.ext_getElem?
  intro j
  by_cases hj : j < m
  · rw [arrF_at hj]
    by_cases e : i = j
    · subst e; rw [List.getElem?_set_self (by rw [arrF_len]; exact hj), if_pos rfl]
    · rw [List.getElem?_set_ne e, arrF_at hj, if_neg (fun q => e q.symm)]
  · rw [List.getElem?_eq_none (by rw [List.length_set, arrF_len]; omega), List.getElem?_eq_none (by rw [arrF_len]; omega)]
theorem arrJ_set {m i : Nat} {f : Nat → Int64} {x : Int64} : (arrJ m f).set i (.long x) = arrJ m (fun j => if j = i then x else f j) := by
  apply List.ext_getElem?
  intro j
  by_cases hj : j < m
  · rw [arrJ_at hj]
    by_cases e : i = j
    · subst e; rw [List.getElem?_set_self (by rw [arrJ_len]; exact hj), if_pos rfl]
    · rw [List.getElem?_set_ne e, arrJ_at hj, if_neg (fun q => e q.symm)]
  · rw [List.getElem?_eq_none (by rw [List.length_set, arrJ_len]; omega), List.getElem?_eq_none (by rw [arrJ_len]; omega)]
theorem arrF_congr {m : Nat} {f g : Nat → Int32} (h : ∀ j, j < m → f j = g j) : arrF m f = arrF m g := List.map_congr_left fun j hj => by rw [h j (List.mem_range.mp hj)]
theorem arrJ_congr {m : Nat} {f g : Nat → Int64} (h : ∀ j, j < m → f j = g j) : arrJ m f = arrJ m g := List.map_congr_left fun j hj => by rw [h j (List.mem_range.mp hj)]
theorem arrF_zero {m : Nat} : List.replicate m (Value.int 0) = arrF m (fun _ => 0) := by
  apply List.ext_getElem?
  intro j
  by_cases hj : j < m
  · rw [arrF_at hj, List.getElem?_replicate, if_pos hj]
  · rw [List.getElem?_eq_none (by simp; omega), List.getElem?_eq_none (by rw [arrF_len]; omega)]
theorem arrJ_zero {m : Nat} : List.replicate m (Value.long 0) = arrJ m (fun _ => 0) := by
  apply List.ext_getElem?
  intro j
  by_cases hj : j < m
  · rw [arrJ_at hj, List.getElem?_replicate, if_pos hj]
  · rw [List.getElem?_eq_none (by simp; omega), List.getElem?_eq_none (by rw [arrJ_len]; omega)]
theorem ti_int {n : Nat} (h : n < 2 ^ 31) : n.toInt32.toInt = n := len_toInt h
theorem ti_ix {n : Nat} (h : n < 2 ^ 31) : Ix n.toInt32 n := by
  have q := ti_int h
  have e0 : (0 : Int32).toInt = 0 := by decide
  refine ⟨?_, ?_⟩
  · rw [Int32.lt_iff_toInt_lt]; omega
  · simp only [Int32.toNatClampNeg]; omega
theorem ti_lt {a b : Nat} (ha : a < 2 ^ 31) (hb : b < 2 ^ 31) : a.toInt32 < b.toInt32 ↔ a < b := by
  rw [Int32.lt_iff_toInt_lt, ti_int ha, ti_int hb]; omega
theorem ti_eq {a b : Nat} (ha : a < 2 ^ 31) (hb : b < 2 ^ 31) : a.toInt32 = b.toInt32 ↔ a = b := by
  rw [← Int32.toInt_inj, ti_int ha, ti_int hb]; omega
theorem ti_add {a b : Nat} (h : a + b < 2 ^ 31) : a.toInt32 + b.toInt32 = (a + b).toInt32 := by
  apply Int32.toInt_inj.mp
  have q := c_iadd a.toInt32 b.toInt32
  have l1 := Int32.le_toInt (a.toInt32 + b.toInt32)
  have l2 := Int32.toInt_lt (a.toInt32 + b.toInt32)
  have e1 := ti_int (show a < 2 ^ 31 by omega)
  have e2 := ti_int (show b < 2 ^ 31 by omega)
  have e3 := ti_int h
  omega
theorem ti_succ {a : Nat} (h : a + 1 < 2 ^ 31) : a.toInt32 + 1 = (a + 1).toInt32 := ti_add (b := 1) h
theorem ti_of {x : Int32} (h : 0 ≤ x.toInt) : x = x.toNatClampNeg.toInt32 := by
  have b := Int32.toInt_lt x
  apply Int32.toInt_inj.mp
  rw [ti_int (by simp only [Int32.toNatClampNeg]; omega)]
  simp only [Int32.toNatClampNeg]; omega
theorem ix_of {x : Int32} (h : 0 ≤ x.toInt) : Ix x x.toNatClampNeg := by
  refine ⟨?_, rfl⟩
  have e0 : (0 : Int32).toInt = 0 := by decide
  rw [Int32.lt_iff_toInt_lt]; omega
section Logic2
variable {K : List CI} {l : Launch} {Z : State} {a0 : Array Value} {n0 : Nat} {mi : MI} {pc np tp : Nat} {ls ls' : List Slot} {st rest : List Value} {H H' H1 : List Ob} {v : Option Value}
theorem OOk.keep {h h' : Heap} {a : Addr} {o : Ob} {ws : List Addr} (E : Keep h h' ws) (ne : a ∉ ws) (q : OOk K Z n0 h a o) : OOk K Z n0 h' a o := by
  cases o with
  | inl o => obtain ⟨ci, h1, h2, h3⟩ := q; exact ⟨ci, h1, h2.keep E, fun i f v a b => (h3 i f v a b).keep E ne⟩
  | inr o => obtain ⟨cl, h1, h2, h3, h4, h5⟩ := q; exact ⟨cl, ⟨E.2.1 a cl h1.1 ne, h1.2⟩, h2, h3, h4, h5.keep E⟩
theorem getD_sh {vs : List Value} {i : Nat} {x : Value} (h : vs[i]? = some x) (d : Value) : (vs.map (shV n0)).getD i d = shV n0 x := by
  rw [List.getD_eq_getElem?_getD, List.getElem?_map, h]; rfl
theorem OOk.arv {h : Heap} {a : Addr} {ty : FieldType} {vs : List Value} (q : OOk K Z n0 h a (.inr (ty, vs))) : ∃ k, Arv Z h a k ty vs.length.toInt32 (vs.map (shV n0)) (.int 0) := by
  obtain ⟨cl, A, hs, hl, hv, -⟩ := q
  have j := ti_ix hl
  refine ⟨cl.cls, cl, A, rfl, by rw [j.2]; exact hs, j.1, fun i hi => ?_, fun i hi => ?_⟩
  · rw [hs] at hi
    have e := List.getElem?_eq_getElem hi
    rw [getD_sh e]; exact (hv i _ e).1
  · rw [hs] at hi
    have e := List.getElem?_eq_getElem hi
    rw [getD_sh e]; exact fits_sh (hv i _ e).2
theorem us_eq {vs : List Value} {sp n : Nat} (h : sp + n ≤ vs.length) (d : Value) : ((vs.drop sp).take n).map (shV n0) = (List.range n).map fun i => (vs.map (shV n0)).getD (sp + i) d := by
  apply List.ext_getElem?
  intro i
  by_cases hi : i < n
  · rw [List.getElem?_map, List.getElem?_map, List.getElem?_take_of_lt hi, List.getElem?_drop, List.getElem?_range hi]
    have e := List.getElem?_eq_getElem (show sp + i < vs.length by omega)
    rw [e]
    show some _ = some ((vs.map (shV n0)).getD (sp + i) d)
    rw [getD_sh e]
  · rw [List.getElem?_eq_none (by simp; omega), List.getElem?_eq_none (by simp; omega)]
theorem r_acopy {a b idx : Nat} {ty : FieldType} {vs wd wd' : List Value} {sp dp nn : Int32} {spN dpN nN : Nat} (hd : decode mi.2.1 pc = .ok (.invokestatic idx, 3) ∧ pc + 3 = np) (w1 : (Jvm.Cond.methodLink mi.1.cls idx Jvm.Stand.acN).before a0 Z = true) (w2 : (Jvm.Cond.native Jvm.Stand.acN).before a0 Z = true) (w3 : (Jvm.Cond.static Jvm.Stand.acN).before a0 Z = true) (w4 : (Jvm.Cond.initialized "java/lang/System").before a0 Z = true)
    (hty : refKind ty = false) (ho : H[a]? = some (.inr (ty, vs))) (ho' : H[b]? = some (.inr (ty, wd))) (h1 : Ix sp spN) (h2 : Ix dp dpN) (h3 : Ix nn nN) (h4 : spN + nN ≤ vs.length) (h5 : dpN + nN ≤ wd.length) (hwd : wd.take dpN ++ (vs.drop spN).take nN ++ wd.drop (dpN + nN) = wd') (hH : H.set b (.inr (ty, wd')) = H1)
    (hls : ls.length = mi.2.2.1) (hf : 1 ≤ mi.2.2.2.2.1) (hlo : (st.map fun v => v.category).sum + 18 ≤ mi.2.2.2.2.2) (kk : Runs K l Z n0 mi np ls st H1 v H') : Runs K l Z n0 mi pc ls (.int nn :: .int dp :: .ref b :: .int sp :: .ref a :: st) H v H' := by
  obtain ⟨hd, rfl⟩ := hd
  obtain ⟨h1, rfl⟩ := h1
  obtain ⟨h2, rfl⟩ := h2
  obtain ⟨h3, rfl⟩ := h3
  subst hH
  have hb2 := lt_of_at ho'
  have hlen : wd'.length = wd.length := by rw [← hwd]; simp only [List.length_append, List.length_take, List.length_drop]; omega
  have es : szs K (H.set b (.inr (ty, wd'))) = szs K H := szs_set ho' hlen
  refine Runs.heap (by rw [List.length_set]; exact Nat.le_refl _) (by rw [es]; exact Nat.le_refl _) (fun p e R s m args below meth c T locs cells slots X hx hZ hc hml hown hnm hrel hfr hf' hlo' hsz hcl hsl => ?_) kk
  have qa := hrel.2 a _ ho
  have qb := hrel.2 b _ ho'
  obtain ⟨k1, A⟩ := qa.arv
  obtain ⟨k2, B⟩ := qb.arv
  obtain ⟨-, -, -, va, -⟩ := qa
  obtain ⟨-, -, -, vb, -, vE⟩ := qb
  obtain ⟨T1, h', L1, X1, e1, F1, K1, B1, st1⟩ := cpA X hx hZ hown w1 w2 w3 w4 rfl A B (Or.inl ⟨rfl, hty⟩) h1 h2 h3 (by rw [(ti_ix va).2]; exact h4) (by rw [(ti_ix vb).2]; exact h5) (us := (((vs.drop sp.toNatClampNeg).take nn.toNatClampNeg).map (shV n0))) (us_eq h4 _) (by rw [List.length_map]; exact h5) hfr (Nat.le_add_right _ _)
    (g := mkF m pc (ls.map (shS n0)).toArray (.int nn :: .int dp :: .ref (n0 + b) :: .int sp :: .ref (n0 + a) :: st.map (shV n0))) rfl (by rw [hml, ← hls]; simp) rfl (hb hc hd) (by omega) (W := (st.map fun v => v.category).sum) (by rw [cats_sh]; show 2 * 0 + _ ≤ _; omega) (by show _ + (7 + 11) ≤ _; omega)
  have hs1 := X1.heapSize
  rw [e1] at hs1
  have hk := K1.1
  have hh := hrel.1
  refine ⟨T1, _, _, _, X1, ?_, F1, by rw [List.length_set]; exact hsz, by rw [es]; exact Nat.le_refl _, st1⟩
  rw [e1]
  refine ⟨by rw [List.length_set]; omega, fun k o hk2 => ?_⟩
  by_cases e : b = k
  · subst e
    rw [List.getElem?_set_self hb2] at hk2
    cases hk2
    obtain ⟨c', A', -, S', -, V', G'⟩ := B1
    rw [(ti_ix vb).2] at S'
    have ew : ((wd.map (shV n0)).take dp.toNatClampNeg ++ ((vs.drop sp.toNatClampNeg).take nn.toNatClampNeg).map (shV n0) ++ (wd.map (shV n0)).drop (dp.toNatClampNeg + nn.toNatClampNeg)) = wd'.map (shV n0) := by
      rw [← hwd]; simp only [List.map_append, List.map_take, List.map_drop]
    rw [ew] at V' G'
    refine ⟨c', A', by rw [S', hlen], by rw [hlen]; exact vb, fun i x hx2 => ?_, vE.keep K1⟩
    have hi := lt_of_at hx2
    have q1 := V' i (by rw [S', ← hlen]; exact hi)
    have q2 := G' i (by rw [S', ← hlen]; exact hi)
    rw [getD_sh hx2] at q1 q2
    refine ⟨q1, ?_⟩
    cases x with
    | ref y => cases ty <;> first | (simp [refKind] at hty; done) | (simp [shV, fits] at q2)
    | _ => exact q2
  · rw [List.getElem?_set_ne e] at hk2
    exact (hrel.2 k o hk2).keep K1 (fun z => e ((Nat.add_left_cancel (List.mem_singleton.mp z)).symm))
theorem r_clone {a b idx : Nat} {ty : FieldType} {ad : String} {vs : List Value} (hd : decode mi.2.1 pc = .ok (.invokevirtual idx, 3) ∧ pc + 3 = np) (had : "[" ++ ty.toString = ad)
    (w1 : (Jvm.Cond.methodLink mi.1.cls idx ⟨ad, "clone", "()Ljava/lang/Object;"⟩).before a0 Z = true) (w2 : (Jvm.Cond.sameMethod ad "java/lang/Object" "clone" "()Ljava/lang/Object;").before a0 Z = true) (w3 : (Jvm.Cond.native ⟨"java/lang/Object", "clone", "()Ljava/lang/Object;"⟩).before a0 Z = true)
    (w4 : (Jvm.Cond.instanceMethod ⟨"java/lang/Object", "clone", "()Ljava/lang/Object;"⟩).before a0 Z = true) (w5 : (Jvm.Cond.selects ad ⟨ad, "clone", "()Ljava/lang/Object;"⟩ ⟨"java/lang/Object", "clone", "()Ljava/lang/Object;"⟩).before a0 Z = true) (w6 : (Jvm.Cond.castable ad "java/lang/Cloneable").before a0 Z = true)
    (ho : H[a]? = some (.inr (ty, vs))) (ha : H.length = b) (hH : H ++ [.inr (ty, vs)] = H1) (hls : ls.length = mi.2.2.1) (hf : 1 ≤ mi.2.2.2.2.1) (hlo : (st.map fun v => v.category).sum + 14 ≤ mi.2.2.2.2.2) (kk : Runs K l Z n0 mi np ls (.ref b :: st) H1 v H') : Runs K l Z n0 mi pc ls (.ref a :: st) H v H' := by
  obtain ⟨hd, rfl⟩ := hd
  subst ha hH had
  refine Runs.heap (by simp) (by rw [szs_push]; exact Nat.le_add_right _ _) (fun p e R s m args below meth c T locs cells slots X hx hZ hc hml hown hnm hrel hfr hf' hlo' hsz hcl hsl => ?_) kk
  have es : osz K (.inr (ty, vs)) = vs.length := rfl
  rw [szs_push, es] at hsl
  simp only [List.length_append, List.length_cons, List.length_nil] at hcl
  obtain ⟨cl, A, hs, hl, hvs, hE⟩ := hrel.2 a _ ho
  have FC : FitC Z cl := fitC_of A (fun i hi w hw => by
    have q := List.getElem?_eq_getElem (show i < vs.length by omega)
    have q2 := hvs i _ q
    rw [q2.1] at hw
    cases hw
    exact fits_sh q2.2)
  obtain ⟨T1, h1, X1, e1, E1, A1, EE1, st1⟩ := cloneA X hx hZ hown w1 w2 w3 w4 w5 w6 rfl A hE FC (g := mkF m pc (ls.map (shS n0)).toArray (.ref (n0 + a) :: st.map (shV n0))) rfl (by rw [hml, ← hls]; simp) rfl (hb hc hd) (by omega) (W := (st.map fun v => v.category).sum) (cap := vs.length) (by rw [cats_sh]; show 2 * 0 + _ ≤ _; omega) (by omega) (by omega) (by omega) (by omega)
  have hs1 := X1.heapSize
  have hlt : T.heap.size < h1.size := A1.lt
  have hh := hrel.1
  rw [e1] at hs1
  refine ⟨T1, _, _, _, X1, ?_, hfr, by simp only [List.length_append, List.length_cons, List.length_nil]; omega, by rw [szs_push, es]; omega, fun t q => st1 t ?_⟩
  · rw [e1]
    exact hrel.push E1 (by omega) ⟨_, A1, hs, hl, hvs, EE1⟩
  · show Steps _ _ _ (T1.setTop (mkF m (pc + 3) _ (.ref T.heap.size :: _))) t
    rw [hh]; exact q
theorem r_castA {a idx : Nat} {ty : FieldType} {ad : String} {vs : List Value} (hd : decode mi.2.1 pc = .ok (.checkcast idx, 3) ∧ pc + 3 = np) (had : "[" ++ ty.toString = ad) (w : (Jvm.Cond.classLink mi.1.cls idx ad).before a0 Z = true) (ho : H[a]? = some (.inr (ty, vs))) (kk : Runs K l Z n0 mi np ls (.ref a :: st) H v H') : Runs K l Z n0 mi pc ls (.ref a :: st) H v H' := by
  obtain ⟨hd, rfl⟩ := hd
  subst had
  refine Runs.heap (Nat.le_refl _) (Nat.le_refl _) (fun p e R s m args below meth c T locs cells slots X hx hZ hc hml hown hnm hrel hfr hf' hlo hsz hcl hsl => ?_) kk
  obtain ⟨cl, A, hs, hl, hvs, hE⟩ := hrel.2 a _ ho
  obtain ⟨T1, X1, e1, st1⟩ := castY X hx hZ hown w rfl (Ins.self hE) (g := mkF m pc (ls.map (shS n0)).toArray (.ref (n0 + a) :: st.map (shV n0))) rfl rfl (hb hc hd)
  exact ⟨T1, _, _, _, X1, by rw [e1]; exact hrel, hfr, hsz, Nat.le_refl _, st1⟩
theorem own_dupX2 {tb : Tables} [Ours tb] {e : Env} {below : List Frame} {T target : State} {m : MethodId} {c : Code} {g : JFrame} (h : At T m c below) (hx : tb.exec = Jvm.exec) (hg : g.method = m) {x y z : Value} {rest : List Value} (hd : decode c.code g.pc = .ok (.dup_x2, 1)) (hs : g.stack = x :: y :: z :: rest) (hc : x.category = 1) (hc' : y.category = 1) (hc'' : z.category = 1)
    (hr : Steps tb e below (T.setTop { g with pc := g.pc + 1, stack := x :: y :: z :: x :: rest }) target) : Steps tb e below (T.setTop g) target := by
  subst hg
  jvm_step h [h.top, hx, hd, hs, hc, hc', hc'']
  exact hr
theorem r_dupX2 {x y z : Value} (hd : decode mi.2.1 pc = .ok (.dup_x2, 1) ∧ pc + 1 = np) (hx1 : x.category = 1) (hy1 : y.category = 1) (hz1 : z.category = 1) (kk : Runs K l Z n0 mi np ls (x :: y :: z :: x :: st) H v H') : Runs K l Z n0 mi pc ls (x :: y :: z :: st) H v H' := by
  obtain ⟨hd, rfl⟩ := hd
  exact Runs.pure (fun _ _ _ _ _ _ _ _ _ _ _ _ _ X hx hZ hc hown t h => own_dupX2 X.here hx rfl (hb hc hd) rfl ((cat_sh _ _).trans hx1) ((cat_sh _ _).trans hy1) ((cat_sh _ _).trans hz1) h) kk
end Logic2
abbrev HW (Z : State) (a0 : Array Value) : Prop := ∀ d ∈ tables_1, d.before a0 Z = true
def K : List CI := []
theorem allL0 {α : Type} {P : α → Prop} : ∀ x ∈ ([] : List α), P x := fun _ q => nomatch q
theorem allLS {α : Type} {P : α → Prop} {y : α} {L : List α} (q : P y) (r : ∀ x ∈ L, P x) : ∀ x ∈ y :: L, P x := fun x z => (List.mem_cons.mp z).elim (fun u => u ▸ q) (r x)
theorem kok {Z : State} {a0 : Array Value} (hw : HW Z a0) : KOk K Z a0 := by
  intro k ci h
  simp [K] at h
def m0 : MI := (x, code, 8, some .boolean, 4, 75)
def m1 : MI := (⟨"com/example/alike2/alike2/search/SuffixArray", "sort", "([II)[I"⟩, prog_66_method_2_code, 14, some (.array .int), 3, 50)
def m2 : MI := (⟨"java/util/Arrays", "copyOf", "([II)[I"⟩, jdk_65_method_123_code, 3, some (.array .int), 1, 14)
def m3 : MI := (⟨"java/lang/Math", "max", "(II)I"⟩, jdk_29_method_65_code, 2, some .int, 0, 0)
def m4 : MI := (⟨"com/example/alike2/alike2/search/SuffixArray", "countingSort", "([I[I[I[II)V"⟩, prog_66_method_4_code, 9, none, 2, 30)
def m5 : MI := (⟨"java/util/Arrays", "fill", "([IIII)V"⟩, jdk_65_method_104_code, 5, none, 1, 14)
def m6 : MI := (⟨"java/util/Arrays", "rangeCheck", "(III)V"⟩, jdk_65_method_30_code, 3, none, 0, 0)
def m7 : MI := (⟨"com/example/alike2/alike2/search/SuffixArray", "commonPrefixes", "([I[I)[I"⟩, prog_66_method_3_code, 9, some (.array .int), 0, 0)
def m8 : MI := (⟨"com/example/alike2/alike2/search/SuffixArrayCommonPrefixesPinLaw", "at", "([I[I[II)Z"⟩, method_5_code, 4, some .boolean, 2, 31)
def m9 : MI := (⟨"com/example/alike2/alike2/search/SuffixArrayCommonPrefixesPinLaw", "val", "(IIZ)I"⟩, method_2_code, 4, some .int, 0, 0)
def m10 : MI := (⟨"com/example/alike2/alike2/search/SuffixArrayCommonPrefixesPinLaw", "lcp", "([III)I"⟩, method_4_code, 3, some .int, 1, 16)
def m11 : MI := (⟨"com/example/alike2/alike2/search/SuffixArrayCommonPrefixesPinLaw", "eq", "([IIII)Z"⟩, method_3_code, 5, some .boolean, 0, 0)
def m12 : MI := (⟨"com/example/alike2/alike2/search/SuffixArray", "rankAt", "([II)I"⟩, prog_66_method_5_code, 2, some .int, 0, 0)
theorem pd0 : parseMethodDescriptor "(III)Z" = some ⟨[.int, .int, .int], some .boolean⟩ := by decide +kernel
theorem pf0 : plainFor m0.1 = true := by first | exact plainFor_of_name (by first | (simp [m0, x, plainName, overriddenIn]; done) | decide +kernel) | decide +kernel
theorem pd1 : parseMethodDescriptor "([II)[I" = some ⟨[(.array .int), .int], some (.array .int)⟩ := by decide +kernel
theorem pf1 : plainFor m1.1 = true := by first | exact plainFor_of_name (by first | (simp [m1, x, plainName, overriddenIn]; done) | decide +kernel) | decide +kernel
theorem pd2 : parseMethodDescriptor "([II)[I" = some ⟨[(.array .int), .int], some (.array .int)⟩ := by decide +kernel
theorem pf2 : plainFor m2.1 = true := by first | exact plainFor_of_name (by first | (simp [m2, x, plainName, overriddenIn]; done) | decide +kernel) | decide +kernel
theorem pd3 : parseMethodDescriptor "(II)I" = some ⟨[.int, .int], some .int⟩ := by decide +kernel
theorem pf3 : plainFor m3.1 = true := by first | exact plainFor_of_name (by first | (simp [m3, x, plainName, overriddenIn]; done) | decide +kernel) | decide +kernel
theorem pd4 : parseMethodDescriptor "([I[I[I[II)V" = some ⟨[(.array .int), (.array .int), (.array .int), (.array .int), .int], none⟩ := by decide +kernel
theorem pf4 : plainFor m4.1 = true := by first | exact plainFor_of_name (by first | (simp [m4, x, plainName, overriddenIn]; done) | decide +kernel) | decide +kernel
theorem pd5 : parseMethodDescriptor "([IIII)V" = some ⟨[(.array .int), .int, .int, .int], none⟩ := by decide +kernel
theorem pf5 : plainFor m5.1 = true := by first | exact plainFor_of_name (by first | (simp [m5, x, plainName, overriddenIn]; done) | decide +kernel) | decide +kernel
theorem pd6 : parseMethodDescriptor "(III)V" = some ⟨[.int, .int, .int], none⟩ := by decide +kernel
theorem pf6 : plainFor m6.1 = true := by first | exact plainFor_of_name (by first | (simp [m6, x, plainName, overriddenIn]; done) | decide +kernel) | decide +kernel
theorem pd7 : parseMethodDescriptor "([I[I)[I" = some ⟨[(.array .int), (.array .int)], some (.array .int)⟩ := by decide +kernel
theorem pf7 : plainFor m7.1 = true := by first | exact plainFor_of_name (by first | (simp [m7, x, plainName, overriddenIn]; done) | decide +kernel) | decide +kernel
theorem pd8 : parseMethodDescriptor "([I[I[II)Z" = some ⟨[(.array .int), (.array .int), (.array .int), .int], some .boolean⟩ := by decide +kernel
theorem pf8 : plainFor m8.1 = true := by first | exact plainFor_of_name (by first | (simp [m8, x, plainName, overriddenIn]; done) | decide +kernel) | decide +kernel
theorem pd9 : parseMethodDescriptor "(IIZ)I" = some ⟨[.int, .int, .boolean], some .int⟩ := by decide +kernel
theorem pf9 : plainFor m9.1 = true := by first | exact plainFor_of_name (by first | (simp [m9, x, plainName, overriddenIn]; done) | decide +kernel) | decide +kernel
theorem pd10 : parseMethodDescriptor "([III)I" = some ⟨[(.array .int), .int, .int], some .int⟩ := by decide +kernel
theorem pf10 : plainFor m10.1 = true := by first | exact plainFor_of_name (by first | (simp [m10, x, plainName, overriddenIn]; done) | decide +kernel) | decide +kernel
theorem pd11 : parseMethodDescriptor "([IIII)Z" = some ⟨[(.array .int), .int, .int, .int], some .boolean⟩ := by decide +kernel
theorem pf11 : plainFor m11.1 = true := by first | exact plainFor_of_name (by first | (simp [m11, x, plainName, overriddenIn]; done) | decide +kernel) | decide +kernel
theorem pd12 : parseMethodDescriptor "([II)I" = some ⟨[(.array .int), .int], some .int⟩ := by decide +kernel
theorem pf12 : plainFor m12.1 = true := by first | exact plainFor_of_name (by first | (simp [m12, x, plainName, overriddenIn]; done) | decide +kernel) | decide +kernel
theorem i0_0 : decode m0.2.1 0 = .ok (.iconst 1, 1) ∧ 0 + 1 = 1 ∧ Int32.ofInt 1 = 1 := ⟨by decide +kernel, rfl, by decide⟩
theorem i0_1 : decode m0.2.1 1 = .ok (.iload_n 0, 1) ∧ 1 + 1 = 2 := ⟨by decide +kernel, rfl⟩
theorem i0_2 : decode m0.2.1 2 = .ok (.ldc 17, 2) ∧ 2 + 2 = 4 := ⟨by decide +kernel, rfl⟩
theorem i0_4 : decode m0.2.1 4 = .ok (.iand, 1) ∧ 4 + 1 = 5 := ⟨by decide +kernel, rfl⟩
theorem i0_5 : decode m0.2.1 5 = .ok (.iconst 5, 1) ∧ 5 + 1 = 6 ∧ Int32.ofInt 5 = 5 := ⟨by decide +kernel, rfl, by decide⟩
theorem i0_6 : decode m0.2.1 6 = .ok (.irem, 1) ∧ 6 + 1 = 7 := ⟨by decide +kernel, rfl⟩
theorem i0_7 : decode m0.2.1 7 = .ok (.iadd, 1) ∧ 7 + 1 = 8 := ⟨by decide +kernel, rfl⟩
theorem i0_8 : decode m0.2.1 8 = .ok (.istore_n 3, 1) ∧ 8 + 1 = 9 := ⟨by decide +kernel, rfl⟩
theorem i0_9 : decode m0.2.1 9 = .ok (.iload_n 2, 1) ∧ 9 + 1 = 10 := ⟨by decide +kernel, rfl⟩
theorem i0_10 : decode m0.2.1 10 = .ok (.iconst 1, 1) ∧ 10 + 1 = 11 ∧ Int32.ofInt 1 = 1 := ⟨by decide +kernel, rfl, by decide⟩
theorem i0_11 : decode m0.2.1 11 = .ok (.iand, 1) ∧ 11 + 1 = 12 := ⟨by decide +kernel, rfl⟩
theorem i0_12 : decode m0.2.1 12 = .ok (.ifCond .eq 7, 3) ∧ 12 + 3 = 15 ∧ 0 ≤ ((12 : Nat) : Int) + 7 ∧ (((12 : Nat) : Int) + 7).toNat = 19 := ⟨by decide +kernel, rfl, by decide, by decide⟩
theorem i0_15 : decode m0.2.1 15 = .ok (.iconst 1, 1) ∧ 15 + 1 = 16 ∧ Int32.ofInt 1 = 1 := ⟨by decide +kernel, rfl, by decide⟩
theorem i0_16 : decode m0.2.1 16 = .ok (.goto 4, 3) ∧ 16 + 3 = 19 ∧ 0 ≤ ((16 : Nat) : Int) + 4 ∧ (((16 : Nat) : Int) + 4).toNat = 20 := ⟨by decide +kernel, rfl, by decide, by decide⟩
theorem i0_19 : decode m0.2.1 19 = .ok (.iconst 0, 1) ∧ 19 + 1 = 20 ∧ Int32.ofInt 0 = 0 := ⟨by decide +kernel, rfl, by decide⟩
theorem i0_20 : decode m0.2.1 20 = .ok (.istore 4, 2) ∧ 20 + 2 = 22 := ⟨by decide +kernel, rfl⟩
theorem i0_22 : decode m0.2.1 22 = .ok (.iload_n 3, 1) ∧ 22 + 1 = 23 := ⟨by decide +kernel, rfl⟩
theorem i0_23 : decode m0.2.1 23 = .ok (.newarray .int, 2) ∧ 23 + 2 = 25 := ⟨by decide +kernel, rfl⟩
theorem i0_25 : decode m0.2.1 25 = .ok (.astore 5, 2) ∧ 25 + 2 = 27 := ⟨by decide +kernel, rfl⟩
theorem i0_27 : decode m0.2.1 27 = .ok (.iload_n 3, 1) ∧ 27 + 1 = 28 := ⟨by decide +kernel, rfl⟩
theorem i0_28 : decode m0.2.1 28 = .ok (.iconst 1, 1) ∧ 28 + 1 = 29 ∧ Int32.ofInt 1 = 1 := ⟨by decide +kernel, rfl, by decide⟩
theorem i0_29 : decode m0.2.1 29 = .ok (.if_icmp .le 14, 3) ∧ 29 + 3 = 32 ∧ 0 ≤ ((29 : Nat) : Int) + 14 ∧ (((29 : Nat) : Int) + 14).toNat = 43 := ⟨by decide +kernel, rfl, by decide, by decide⟩
theorem i0_32 : decode m0.2.1 32 = .ok (.aload 5, 2) ∧ 32 + 2 = 34 := ⟨by decide +kernel, rfl⟩
theorem i0_34 : decode m0.2.1 34 = .ok (.iconst 0, 1) ∧ 34 + 1 = 35 ∧ Int32.ofInt 0 = 0 := ⟨by decide +kernel, rfl, by decide⟩
theorem i0_35 : decode m0.2.1 35 = .ok (.iload_n 1, 1) ∧ 35 + 1 = 36 := ⟨by decide +kernel, rfl⟩
theorem i0_36 : decode m0.2.1 36 = .ok (.iconst 0, 1) ∧ 36 + 1 = 37 ∧ Int32.ofInt 0 = 0 := ⟨by decide +kernel, rfl, by decide⟩
theorem i0_37 : decode m0.2.1 37 = .ok (.iload 4, 2) ∧ 37 + 2 = 39 := ⟨by decide +kernel, rfl⟩
theorem i0_39 : decode m0.2.1 39 = .ok (.invokestatic 18, 3) ∧ 39 + 3 = 42 := ⟨by decide +kernel, rfl⟩
theorem i0_42 : decode m0.2.1 42 = .ok (.iastore, 1) ∧ 42 + 1 = 43 := ⟨by decide +kernel, rfl⟩
theorem i0_43 : decode m0.2.1 43 = .ok (.iload_n 3, 1) ∧ 43 + 1 = 44 := ⟨by decide +kernel, rfl⟩
theorem i0_44 : decode m0.2.1 44 = .ok (.iconst 2, 1) ∧ 44 + 1 = 45 ∧ Int32.ofInt 2 = 2 := ⟨by decide +kernel, rfl, by decide⟩
theorem i0_45 : decode m0.2.1 45 = .ok (.if_icmp .le 14, 3) ∧ 45 + 3 = 48 ∧ 0 ≤ ((45 : Nat) : Int) + 14 ∧ (((45 : Nat) : Int) + 14).toNat = 59 := ⟨by decide +kernel, rfl, by decide, by decide⟩
theorem i0_48 : decode m0.2.1 48 = .ok (.aload 5, 2) ∧ 48 + 2 = 50 := ⟨by decide +kernel, rfl⟩
theorem i0_50 : decode m0.2.1 50 = .ok (.iconst 1, 1) ∧ 50 + 1 = 51 ∧ Int32.ofInt 1 = 1 := ⟨by decide +kernel, rfl, by decide⟩
theorem i0_51 : decode m0.2.1 51 = .ok (.iload_n 1, 1) ∧ 51 + 1 = 52 := ⟨by decide +kernel, rfl⟩
theorem i0_52 : decode m0.2.1 52 = .ok (.iconst 1, 1) ∧ 52 + 1 = 53 ∧ Int32.ofInt 1 = 1 := ⟨by decide +kernel, rfl, by decide⟩
theorem i0_53 : decode m0.2.1 53 = .ok (.iload 4, 2) ∧ 53 + 2 = 55 := ⟨by decide +kernel, rfl⟩
theorem i0_55 : decode m0.2.1 55 = .ok (.invokestatic 18, 3) ∧ 55 + 3 = 58 := ⟨by decide +kernel, rfl⟩
theorem i0_58 : decode m0.2.1 58 = .ok (.iastore, 1) ∧ 58 + 1 = 59 := ⟨by decide +kernel, rfl⟩
theorem i0_59 : decode m0.2.1 59 = .ok (.iload_n 3, 1) ∧ 59 + 1 = 60 := ⟨by decide +kernel, rfl⟩
theorem i0_60 : decode m0.2.1 60 = .ok (.iconst 3, 1) ∧ 60 + 1 = 61 ∧ Int32.ofInt 3 = 3 := ⟨by decide +kernel, rfl, by decide⟩
theorem i0_61 : decode m0.2.1 61 = .ok (.if_icmp .le 14, 3) ∧ 61 + 3 = 64 ∧ 0 ≤ ((61 : Nat) : Int) + 14 ∧ (((61 : Nat) : Int) + 14).toNat = 75 := ⟨by decide +kernel, rfl, by decide, by decide⟩
theorem i0_64 : decode m0.2.1 64 = .ok (.aload 5, 2) ∧ 64 + 2 = 66 := ⟨by decide +kernel, rfl⟩
theorem i0_66 : decode m0.2.1 66 = .ok (.iconst 2, 1) ∧ 66 + 1 = 67 ∧ Int32.ofInt 2 = 2 := ⟨by decide +kernel, rfl, by decide⟩
theorem i0_67 : decode m0.2.1 67 = .ok (.iload_n 1, 1) ∧ 67 + 1 = 68 := ⟨by decide +kernel, rfl⟩
theorem i0_68 : decode m0.2.1 68 = .ok (.iconst 2, 1) ∧ 68 + 1 = 69 ∧ Int32.ofInt 2 = 2 := ⟨by decide +kernel, rfl, by decide⟩
theorem i0_69 : decode m0.2.1 69 = .ok (.iload 4, 2) ∧ 69 + 2 = 71 := ⟨by decide +kernel, rfl⟩
theorem i0_71 : decode m0.2.1 71 = .ok (.invokestatic 18, 3) ∧ 71 + 3 = 74 := ⟨by decide +kernel, rfl⟩
theorem i0_74 : decode m0.2.1 74 = .ok (.iastore, 1) ∧ 74 + 1 = 75 := ⟨by decide +kernel, rfl⟩
theorem i0_75 : decode m0.2.1 75 = .ok (.iload_n 3, 1) ∧ 75 + 1 = 76 := ⟨by decide +kernel, rfl⟩
theorem i0_76 : decode m0.2.1 76 = .ok (.iconst 4, 1) ∧ 76 + 1 = 77 ∧ Int32.ofInt 4 = 4 := ⟨by decide +kernel, rfl, by decide⟩
theorem i0_77 : decode m0.2.1 77 = .ok (.if_icmp .le 14, 3) ∧ 77 + 3 = 80 ∧ 0 ≤ ((77 : Nat) : Int) + 14 ∧ (((77 : Nat) : Int) + 14).toNat = 91 := ⟨by decide +kernel, rfl, by decide, by decide⟩
theorem i0_80 : decode m0.2.1 80 = .ok (.aload 5, 2) ∧ 80 + 2 = 82 := ⟨by decide +kernel, rfl⟩
theorem i0_82 : decode m0.2.1 82 = .ok (.iconst 3, 1) ∧ 82 + 1 = 83 ∧ Int32.ofInt 3 = 3 := ⟨by decide +kernel, rfl, by decide⟩
theorem i0_83 : decode m0.2.1 83 = .ok (.iload_n 1, 1) ∧ 83 + 1 = 84 := ⟨by decide +kernel, rfl⟩
theorem i0_84 : decode m0.2.1 84 = .ok (.iconst 3, 1) ∧ 84 + 1 = 85 ∧ Int32.ofInt 3 = 3 := ⟨by decide +kernel, rfl, by decide⟩
theorem i0_85 : decode m0.2.1 85 = .ok (.iload 4, 2) ∧ 85 + 2 = 87 := ⟨by decide +kernel, rfl⟩
theorem i0_87 : decode m0.2.1 87 = .ok (.invokestatic 18, 3) ∧ 87 + 3 = 90 := ⟨by decide +kernel, rfl⟩
theorem i0_90 : decode m0.2.1 90 = .ok (.iastore, 1) ∧ 90 + 1 = 91 := ⟨by decide +kernel, rfl⟩
theorem i0_91 : decode m0.2.1 91 = .ok (.aload 5, 2) ∧ 91 + 2 = 93 := ⟨by decide +kernel, rfl⟩
theorem i0_93 : decode m0.2.1 93 = .ok (.iload_n 3, 1) ∧ 93 + 1 = 94 := ⟨by decide +kernel, rfl⟩
theorem i0_94 : decode m0.2.1 94 = .ok (.iconst 1, 1) ∧ 94 + 1 = 95 ∧ Int32.ofInt 1 = 1 := ⟨by decide +kernel, rfl, by decide⟩
theorem i0_95 : decode m0.2.1 95 = .ok (.isub, 1) ∧ 95 + 1 = 96 := ⟨by decide +kernel, rfl⟩
theorem i0_96 : decode m0.2.1 96 = .ok (.iload 4, 2) ∧ 96 + 2 = 98 := ⟨by decide +kernel, rfl⟩
theorem i0_98 : decode m0.2.1 98 = .ok (.ifCond .eq 7, 3) ∧ 98 + 3 = 101 ∧ 0 ≤ ((98 : Nat) : Int) + 7 ∧ (((98 : Nat) : Int) + 7).toNat = 105 := ⟨by decide +kernel, rfl, by decide, by decide⟩
theorem i0_101 : decode m0.2.1 101 = .ok (.iconst 0, 1) ∧ 101 + 1 = 102 ∧ Int32.ofInt 0 = 0 := ⟨by decide +kernel, rfl, by decide⟩
theorem i0_102 : decode m0.2.1 102 = .ok (.goto 4, 3) ∧ 102 + 3 = 105 ∧ 0 ≤ ((102 : Nat) : Int) + 4 ∧ (((102 : Nat) : Int) + 4).toNat = 106 := ⟨by decide +kernel, rfl, by decide, by decide⟩
theorem i0_105 : decode m0.2.1 105 = .ok (.iconst 4, 1) ∧ 105 + 1 = 106 ∧ Int32.ofInt 4 = 4 := ⟨by decide +kernel, rfl, by decide⟩
theorem i0_106 : decode m0.2.1 106 = .ok (.iastore, 1) ∧ 106 + 1 = 107 := ⟨by decide +kernel, rfl⟩
theorem i0_107 : decode m0.2.1 107 = .ok (.aload 5, 2) ∧ 107 + 2 = 109 := ⟨by decide +kernel, rfl⟩
theorem i0_109 : decode m0.2.1 109 = .ok (.iconst 5, 1) ∧ 109 + 1 = 110 ∧ Int32.ofInt 5 = 5 := ⟨by decide +kernel, rfl, by decide⟩
theorem i0_110 : decode m0.2.1 110 = .ok (.invokestatic 22, 3) ∧ 110 + 3 = 113 := ⟨by decide +kernel, rfl⟩
theorem i0_113 : decode m0.2.1 113 = .ok (.astore 6, 2) ∧ 113 + 2 = 115 := ⟨by decide +kernel, rfl⟩
theorem i0_115 : decode m0.2.1 115 = .ok (.aload 5, 2) ∧ 115 + 2 = 117 := ⟨by decide +kernel, rfl⟩
theorem i0_117 : decode m0.2.1 117 = .ok (.aload 6, 2) ∧ 117 + 2 = 119 := ⟨by decide +kernel, rfl⟩
theorem i0_119 : decode m0.2.1 119 = .ok (.invokestatic 28, 3) ∧ 119 + 3 = 122 := ⟨by decide +kernel, rfl⟩
theorem i0_122 : decode m0.2.1 122 = .ok (.astore 7, 2) ∧ 122 + 2 = 124 := ⟨by decide +kernel, rfl⟩
theorem i0_124 : decode m0.2.1 124 = .ok (.aload 7, 2) ∧ 124 + 2 = 126 := ⟨by decide +kernel, rfl⟩
theorem i0_126 : decode m0.2.1 126 = .ok (.arraylength, 1) ∧ 126 + 1 = 127 := ⟨by decide +kernel, rfl⟩
theorem i0_127 : decode m0.2.1 127 = .ok (.iload_n 3, 1) ∧ 127 + 1 = 128 := ⟨by decide +kernel, rfl⟩
theorem i0_128 : decode m0.2.1 128 = .ok (.if_icmp .eq 5, 3) ∧ 128 + 3 = 131 ∧ 0 ≤ ((128 : Nat) : Int) + 5 ∧ (((128 : Nat) : Int) + 5).toNat = 133 := ⟨by decide +kernel, rfl, by decide, by decide⟩
theorem i0_131 : decode m0.2.1 131 = .ok (.iconst 0, 1) ∧ 131 + 1 = 132 ∧ Int32.ofInt 0 = 0 := ⟨by decide +kernel, rfl, by decide⟩
theorem i0_132 : decode m0.2.1 132 = .ok (.ireturn, 1) := by decide +kernel
theorem i0_133 : decode m0.2.1 133 = .ok (.aload 7, 2) ∧ 133 + 2 = 135 := ⟨by decide +kernel, rfl⟩
theorem i0_135 : decode m0.2.1 135 = .ok (.iconst 0, 1) ∧ 135 + 1 = 136 ∧ Int32.ofInt 0 = 0 := ⟨by decide +kernel, rfl, by decide⟩
theorem i0_136 : decode m0.2.1 136 = .ok (.iaload, 1) ∧ 136 + 1 = 137 := ⟨by decide +kernel, rfl⟩
theorem i0_137 : decode m0.2.1 137 = .ok (.ifCond .eq 5, 3) ∧ 137 + 3 = 140 ∧ 0 ≤ ((137 : Nat) : Int) + 5 ∧ (((137 : Nat) : Int) + 5).toNat = 142 := ⟨by decide +kernel, rfl, by decide, by decide⟩
theorem i0_140 : decode m0.2.1 140 = .ok (.iconst 0, 1) ∧ 140 + 1 = 141 ∧ Int32.ofInt 0 = 0 := ⟨by decide +kernel, rfl, by decide⟩
theorem i0_141 : decode m0.2.1 141 = .ok (.ireturn, 1) := by decide +kernel
theorem i0_142 : decode m0.2.1 142 = .ok (.aload 5, 2) ∧ 142 + 2 = 144 := ⟨by decide +kernel, rfl⟩
theorem i0_144 : decode m0.2.1 144 = .ok (.aload 6, 2) ∧ 144 + 2 = 146 := ⟨by decide +kernel, rfl⟩
theorem i0_146 : decode m0.2.1 146 = .ok (.aload 7, 2) ∧ 146 + 2 = 148 := ⟨by decide +kernel, rfl⟩
theorem i0_148 : decode m0.2.1 148 = .ok (.iconst 1, 1) ∧ 148 + 1 = 149 ∧ Int32.ofInt 1 = 1 := ⟨by decide +kernel, rfl, by decide⟩
theorem i0_149 : decode m0.2.1 149 = .ok (.invokestatic 32, 3) ∧ 149 + 3 = 152 := ⟨by decide +kernel, rfl⟩
theorem i0_152 : decode m0.2.1 152 = .ok (.ifCond .eq 46, 3) ∧ 152 + 3 = 155 ∧ 0 ≤ ((152 : Nat) : Int) + 46 ∧ (((152 : Nat) : Int) + 46).toNat = 198 := ⟨by decide +kernel, rfl, by decide, by decide⟩
theorem i0_155 : decode m0.2.1 155 = .ok (.aload 5, 2) ∧ 155 + 2 = 157 := ⟨by decide +kernel, rfl⟩
theorem i0_157 : decode m0.2.1 157 = .ok (.aload 6, 2) ∧ 157 + 2 = 159 := ⟨by decide +kernel, rfl⟩
theorem i0_159 : decode m0.2.1 159 = .ok (.aload 7, 2) ∧ 159 + 2 = 161 := ⟨by decide +kernel, rfl⟩
theorem i0_161 : decode m0.2.1 161 = .ok (.iconst 2, 1) ∧ 161 + 1 = 162 ∧ Int32.ofInt 2 = 2 := ⟨by decide +kernel, rfl, by decide⟩
theorem i0_162 : decode m0.2.1 162 = .ok (.invokestatic 32, 3) ∧ 162 + 3 = 165 := ⟨by decide +kernel, rfl⟩
theorem i0_165 : decode m0.2.1 165 = .ok (.ifCond .eq 33, 3) ∧ 165 + 3 = 168 ∧ 0 ≤ ((165 : Nat) : Int) + 33 ∧ (((165 : Nat) : Int) + 33).toNat = 198 := ⟨by decide +kernel, rfl, by decide, by decide⟩
theorem i0_168 : decode m0.2.1 168 = .ok (.aload 5, 2) ∧ 168 + 2 = 170 := ⟨by decide +kernel, rfl⟩
theorem i0_170 : decode m0.2.1 170 = .ok (.aload 6, 2) ∧ 170 + 2 = 172 := ⟨by decide +kernel, rfl⟩
theorem i0_172 : decode m0.2.1 172 = .ok (.aload 7, 2) ∧ 172 + 2 = 174 := ⟨by decide +kernel, rfl⟩
theorem i0_174 : decode m0.2.1 174 = .ok (.iconst 3, 1) ∧ 174 + 1 = 175 ∧ Int32.ofInt 3 = 3 := ⟨by decide +kernel, rfl, by decide⟩
theorem i0_175 : decode m0.2.1 175 = .ok (.invokestatic 32, 3) ∧ 175 + 3 = 178 := ⟨by decide +kernel, rfl⟩
theorem i0_178 : decode m0.2.1 178 = .ok (.ifCond .eq 20, 3) ∧ 178 + 3 = 181 ∧ 0 ≤ ((178 : Nat) : Int) + 20 ∧ (((178 : Nat) : Int) + 20).toNat = 198 := ⟨by decide +kernel, rfl, by decide, by decide⟩
theorem i0_181 : decode m0.2.1 181 = .ok (.aload 5, 2) ∧ 181 + 2 = 183 := ⟨by decide +kernel, rfl⟩
theorem i0_183 : decode m0.2.1 183 = .ok (.aload 6, 2) ∧ 183 + 2 = 185 := ⟨by decide +kernel, rfl⟩
theorem i0_185 : decode m0.2.1 185 = .ok (.aload 7, 2) ∧ 185 + 2 = 187 := ⟨by decide +kernel, rfl⟩
theorem i0_187 : decode m0.2.1 187 = .ok (.iconst 4, 1) ∧ 187 + 1 = 188 ∧ Int32.ofInt 4 = 4 := ⟨by decide +kernel, rfl, by decide⟩
theorem i0_188 : decode m0.2.1 188 = .ok (.invokestatic 32, 3) ∧ 188 + 3 = 191 := ⟨by decide +kernel, rfl⟩
theorem i0_191 : decode m0.2.1 191 = .ok (.ifCond .eq 7, 3) ∧ 191 + 3 = 194 ∧ 0 ≤ ((191 : Nat) : Int) + 7 ∧ (((191 : Nat) : Int) + 7).toNat = 198 := ⟨by decide +kernel, rfl, by decide, by decide⟩
theorem i0_194 : decode m0.2.1 194 = .ok (.iconst 1, 1) ∧ 194 + 1 = 195 ∧ Int32.ofInt 1 = 1 := ⟨by decide +kernel, rfl, by decide⟩
theorem i0_195 : decode m0.2.1 195 = .ok (.goto 4, 3) ∧ 195 + 3 = 198 ∧ 0 ≤ ((195 : Nat) : Int) + 4 ∧ (((195 : Nat) : Int) + 4).toNat = 199 := ⟨by decide +kernel, rfl, by decide, by decide⟩
theorem i0_198 : decode m0.2.1 198 = .ok (.iconst 0, 1) ∧ 198 + 1 = 199 ∧ Int32.ofInt 0 = 0 := ⟨by decide +kernel, rfl, by decide⟩
theorem i0_199 : decode m0.2.1 199 = .ok (.ireturn, 1) := by decide +kernel
theorem i1_0 : decode m1.2.1 0 = .ok (.aload_n 0, 1) ∧ 0 + 1 = 1 := ⟨by decide +kernel, rfl⟩
theorem i1_1 : decode m1.2.1 1 = .ok (.arraylength, 1) ∧ 1 + 1 = 2 := ⟨by decide +kernel, rfl⟩
theorem i1_2 : decode m1.2.1 2 = .ok (.istore_n 2, 1) ∧ 2 + 1 = 3 := ⟨by decide +kernel, rfl⟩
theorem i1_3 : decode m1.2.1 3 = .ok (.iload_n 2, 1) ∧ 3 + 1 = 4 := ⟨by decide +kernel, rfl⟩
theorem i1_4 : decode m1.2.1 4 = .ok (.newarray .int, 2) ∧ 4 + 2 = 6 := ⟨by decide +kernel, rfl⟩
theorem i1_6 : decode m1.2.1 6 = .ok (.astore_n 3, 1) ∧ 6 + 1 = 7 := ⟨by decide +kernel, rfl⟩
theorem i1_7 : decode m1.2.1 7 = .ok (.aload_n 0, 1) ∧ 7 + 1 = 8 := ⟨by decide +kernel, rfl⟩
theorem i1_8 : decode m1.2.1 8 = .ok (.iload_n 2, 1) ∧ 8 + 1 = 9 := ⟨by decide +kernel, rfl⟩
theorem i1_9 : decode m1.2.1 9 = .ok (.invokestatic 7, 3) ∧ 9 + 3 = 12 := ⟨by decide +kernel, rfl⟩
theorem i1_12 : decode m1.2.1 12 = .ok (.astore 4, 2) ∧ 12 + 2 = 14 := ⟨by decide +kernel, rfl⟩
theorem i1_14 : decode m1.2.1 14 = .ok (.iload_n 2, 1) ∧ 14 + 1 = 15 := ⟨by decide +kernel, rfl⟩
theorem i1_15 : decode m1.2.1 15 = .ok (.newarray .int, 2) ∧ 15 + 2 = 17 := ⟨by decide +kernel, rfl⟩
theorem i1_17 : decode m1.2.1 17 = .ok (.astore 5, 2) ∧ 17 + 2 = 19 := ⟨by decide +kernel, rfl⟩
theorem i1_19 : decode m1.2.1 19 = .ok (.iload_n 1, 1) ∧ 19 + 1 = 20 := ⟨by decide +kernel, rfl⟩
theorem i1_20 : decode m1.2.1 20 = .ok (.iload_n 2, 1) ∧ 20 + 1 = 21 := ⟨by decide +kernel, rfl⟩
theorem i1_21 : decode m1.2.1 21 = .ok (.invokestatic 13, 3) ∧ 21 + 3 = 24 := ⟨by decide +kernel, rfl⟩
theorem i1_24 : decode m1.2.1 24 = .ok (.iconst 1, 1) ∧ 24 + 1 = 25 ∧ Int32.ofInt 1 = 1 := ⟨by decide +kernel, rfl, by decide⟩
theorem i1_25 : decode m1.2.1 25 = .ok (.iadd, 1) ∧ 25 + 1 = 26 := ⟨by decide +kernel, rfl⟩
theorem i1_26 : decode m1.2.1 26 = .ok (.newarray .int, 2) ∧ 26 + 2 = 28 := ⟨by decide +kernel, rfl⟩
theorem i1_28 : decode m1.2.1 28 = .ok (.astore 6, 2) ∧ 28 + 2 = 30 := ⟨by decide +kernel, rfl⟩
theorem i1_30 : decode m1.2.1 30 = .ok (.iload_n 1, 1) ∧ 30 + 1 = 31 := ⟨by decide +kernel, rfl⟩
theorem i1_31 : decode m1.2.1 31 = .ok (.istore 7, 2) ∧ 31 + 2 = 33 := ⟨by decide +kernel, rfl⟩
theorem i1_33 : decode m1.2.1 33 = .ok (.iconst 0, 1) ∧ 33 + 1 = 34 ∧ Int32.ofInt 0 = 0 := ⟨by decide +kernel, rfl, by decide⟩
theorem i1_34 : decode m1.2.1 34 = .ok (.istore 8, 2) ∧ 34 + 2 = 36 := ⟨by decide +kernel, rfl⟩
theorem i1_36 : decode m1.2.1 36 = .ok (.iload 8, 2) ∧ 36 + 2 = 38 := ⟨by decide +kernel, rfl⟩
theorem i1_38 : decode m1.2.1 38 = .ok (.iload_n 2, 1) ∧ 38 + 1 = 39 := ⟨by decide +kernel, rfl⟩
theorem i1_39 : decode m1.2.1 39 = .ok (.if_icmp .ge 15, 3) ∧ 39 + 3 = 42 ∧ 0 ≤ ((39 : Nat) : Int) + 15 ∧ (((39 : Nat) : Int) + 15).toNat = 54 := ⟨by decide +kernel, rfl, by decide, by decide⟩
theorem i1_42 : decode m1.2.1 42 = .ok (.aload_n 3, 1) ∧ 42 + 1 = 43 := ⟨by decide +kernel, rfl⟩
theorem i1_43 : decode m1.2.1 43 = .ok (.iload 8, 2) ∧ 43 + 2 = 45 := ⟨by decide +kernel, rfl⟩
theorem i1_45 : decode m1.2.1 45 = .ok (.iload 8, 2) ∧ 45 + 2 = 47 := ⟨by decide +kernel, rfl⟩
theorem i1_47 : decode m1.2.1 47 = .ok (.iastore, 1) ∧ 47 + 1 = 48 := ⟨by decide +kernel, rfl⟩
theorem i1_48 : decode m1.2.1 48 = .ok (.iinc 8 1, 3) ∧ 48 + 3 = 51 ∧ Int32.ofInt 1 = 1 := ⟨by decide +kernel, rfl, by decide⟩
theorem i1_51 : decode m1.2.1 51 = .ok (.goto (-15), 3) ∧ 51 + 3 = 54 ∧ 0 ≤ ((51 : Nat) : Int) + (-15) ∧ (((51 : Nat) : Int) + (-15)).toNat = 36 := ⟨by decide +kernel, rfl, by decide, by decide⟩
theorem i1_54 : decode m1.2.1 54 = .ok (.aload_n 3, 1) ∧ 54 + 1 = 55 := ⟨by decide +kernel, rfl⟩
theorem i1_55 : decode m1.2.1 55 = .ok (.aload 4, 2) ∧ 55 + 2 = 57 := ⟨by decide +kernel, rfl⟩
theorem i1_57 : decode m1.2.1 57 = .ok (.aload 5, 2) ∧ 57 + 2 = 59 := ⟨by decide +kernel, rfl⟩
theorem i1_59 : decode m1.2.1 59 = .ok (.aload 6, 2) ∧ 59 + 2 = 61 := ⟨by decide +kernel, rfl⟩
theorem i1_61 : decode m1.2.1 61 = .ok (.iload 7, 2) ∧ 61 + 2 = 63 := ⟨by decide +kernel, rfl⟩
theorem i1_63 : decode m1.2.1 63 = .ok (.invokestatic 19, 3) ∧ 63 + 3 = 66 := ⟨by decide +kernel, rfl⟩
theorem i1_66 : decode m1.2.1 66 = .ok (.iconst 1, 1) ∧ 66 + 1 = 67 ∧ Int32.ofInt 1 = 1 := ⟨by decide +kernel, rfl, by decide⟩
theorem i1_67 : decode m1.2.1 67 = .ok (.istore 8, 2) ∧ 67 + 2 = 69 := ⟨by decide +kernel, rfl⟩
theorem i1_69 : decode m1.2.1 69 = .ok (.iload_n 2, 1) ∧ 69 + 1 = 70 := ⟨by decide +kernel, rfl⟩
theorem i1_70 : decode m1.2.1 70 = .ok (.iconst 1, 1) ∧ 70 + 1 = 71 ∧ Int32.ofInt 1 = 1 := ⟨by decide +kernel, rfl, by decide⟩
theorem i1_71 : decode m1.2.1 71 = .ok (.if_icmp .le 244, 3) ∧ 71 + 3 = 74 ∧ 0 ≤ ((71 : Nat) : Int) + 244 ∧ (((71 : Nat) : Int) + 244).toNat = 315 := ⟨by decide +kernel, rfl, by decide, by decide⟩
theorem i1_74 : decode m1.2.1 74 = .ok (.iconst 0, 1) ∧ 74 + 1 = 75 ∧ Int32.ofInt 0 = 0 := ⟨by decide +kernel, rfl, by decide⟩
theorem i1_75 : decode m1.2.1 75 = .ok (.istore 9, 2) ∧ 75 + 2 = 77 := ⟨by decide +kernel, rfl⟩
theorem i1_77 : decode m1.2.1 77 = .ok (.iload_n 2, 1) ∧ 77 + 1 = 78 := ⟨by decide +kernel, rfl⟩
theorem i1_78 : decode m1.2.1 78 = .ok (.iload 8, 2) ∧ 78 + 2 = 80 := ⟨by decide +kernel, rfl⟩
theorem i1_80 : decode m1.2.1 80 = .ok (.isub, 1) ∧ 80 + 1 = 81 := ⟨by decide +kernel, rfl⟩
theorem i1_81 : decode m1.2.1 81 = .ok (.iconst 0, 1) ∧ 81 + 1 = 82 ∧ Int32.ofInt 0 = 0 := ⟨by decide +kernel, rfl, by decide⟩
theorem i1_82 : decode m1.2.1 82 = .ok (.invokestatic 13, 3) ∧ 82 + 3 = 85 := ⟨by decide +kernel, rfl⟩
theorem i1_85 : decode m1.2.1 85 = .ok (.istore 10, 2) ∧ 85 + 2 = 87 := ⟨by decide +kernel, rfl⟩
theorem i1_87 : decode m1.2.1 87 = .ok (.iload 10, 2) ∧ 87 + 2 = 89 := ⟨by decide +kernel, rfl⟩
theorem i1_89 : decode m1.2.1 89 = .ok (.iload_n 2, 1) ∧ 89 + 1 = 90 := ⟨by decide +kernel, rfl⟩
theorem i1_90 : decode m1.2.1 90 = .ok (.if_icmp .ge 19, 3) ∧ 90 + 3 = 93 ∧ 0 ≤ ((90 : Nat) : Int) + 19 ∧ (((90 : Nat) : Int) + 19).toNat = 109 := ⟨by decide +kernel, rfl, by decide, by decide⟩
theorem i1_93 : decode m1.2.1 93 = .ok (.aload 5, 2) ∧ 93 + 2 = 95 := ⟨by decide +kernel, rfl⟩
theorem i1_95 : decode m1.2.1 95 = .ok (.iload 9, 2) ∧ 95 + 2 = 97 := ⟨by decide +kernel, rfl⟩
theorem i1_97 : decode m1.2.1 97 = .ok (.iinc 9 1, 3) ∧ 97 + 3 = 100 ∧ Int32.ofInt 1 = 1 := ⟨by decide +kernel, rfl, by decide⟩
theorem i1_100 : decode m1.2.1 100 = .ok (.iload 10, 2) ∧ 100 + 2 = 102 := ⟨by decide +kernel, rfl⟩
theorem i1_102 : decode m1.2.1 102 = .ok (.iastore, 1) ∧ 102 + 1 = 103 := ⟨by decide +kernel, rfl⟩
theorem i1_103 : decode m1.2.1 103 = .ok (.iinc 10 1, 3) ∧ 103 + 3 = 106 ∧ Int32.ofInt 1 = 1 := ⟨by decide +kernel, rfl, by decide⟩
theorem i1_106 : decode m1.2.1 106 = .ok (.goto (-19), 3) ∧ 106 + 3 = 109 ∧ 0 ≤ ((106 : Nat) : Int) + (-19) ∧ (((106 : Nat) : Int) + (-19)).toNat = 87 := ⟨by decide +kernel, rfl, by decide, by decide⟩
theorem i1_109 : decode m1.2.1 109 = .ok (.aload_n 3, 1) ∧ 109 + 1 = 110 := ⟨by decide +kernel, rfl⟩
theorem i1_110 : decode m1.2.1 110 = .ok (.astore 10, 2) ∧ 110 + 2 = 112 := ⟨by decide +kernel, rfl⟩
theorem i1_112 : decode m1.2.1 112 = .ok (.aload 10, 2) ∧ 112 + 2 = 114 := ⟨by decide +kernel, rfl⟩
theorem i1_114 : decode m1.2.1 114 = .ok (.arraylength, 1) ∧ 114 + 1 = 115 := ⟨by decide +kernel, rfl⟩
theorem i1_115 : decode m1.2.1 115 = .ok (.istore 11, 2) ∧ 115 + 2 = 117 := ⟨by decide +kernel, rfl⟩
theorem i1_117 : decode m1.2.1 117 = .ok (.iconst 0, 1) ∧ 117 + 1 = 118 ∧ Int32.ofInt 0 = 0 := ⟨by decide +kernel, rfl, by decide⟩
theorem i1_118 : decode m1.2.1 118 = .ok (.istore 12, 2) ∧ 118 + 2 = 120 := ⟨by decide +kernel, rfl⟩
theorem i1_120 : decode m1.2.1 120 = .ok (.iload 12, 2) ∧ 120 + 2 = 122 := ⟨by decide +kernel, rfl⟩
theorem i1_122 : decode m1.2.1 122 = .ok (.iload 11, 2) ∧ 122 + 2 = 124 := ⟨by decide +kernel, rfl⟩
theorem i1_124 : decode m1.2.1 124 = .ok (.if_icmp .ge 36, 3) ∧ 124 + 3 = 127 ∧ 0 ≤ ((124 : Nat) : Int) + 36 ∧ (((124 : Nat) : Int) + 36).toNat = 160 := ⟨by decide +kernel, rfl, by decide, by decide⟩
theorem i1_127 : decode m1.2.1 127 = .ok (.aload 10, 2) ∧ 127 + 2 = 129 := ⟨by decide +kernel, rfl⟩
theorem i1_129 : decode m1.2.1 129 = .ok (.iload 12, 2) ∧ 129 + 2 = 131 := ⟨by decide +kernel, rfl⟩
theorem i1_131 : decode m1.2.1 131 = .ok (.iaload, 1) ∧ 131 + 1 = 132 := ⟨by decide +kernel, rfl⟩
theorem i1_132 : decode m1.2.1 132 = .ok (.istore 13, 2) ∧ 132 + 2 = 134 := ⟨by decide +kernel, rfl⟩
theorem i1_134 : decode m1.2.1 134 = .ok (.iload 13, 2) ∧ 134 + 2 = 136 := ⟨by decide +kernel, rfl⟩
theorem i1_136 : decode m1.2.1 136 = .ok (.iload 8, 2) ∧ 136 + 2 = 138 := ⟨by decide +kernel, rfl⟩
theorem i1_138 : decode m1.2.1 138 = .ok (.if_icmp .lt 16, 3) ∧ 138 + 3 = 141 ∧ 0 ≤ ((138 : Nat) : Int) + 16 ∧ (((138 : Nat) : Int) + 16).toNat = 154 := ⟨by decide +kernel, rfl, by decide, by decide⟩
theorem i1_141 : decode m1.2.1 141 = .ok (.aload 5, 2) ∧ 141 + 2 = 143 := ⟨by decide +kernel, rfl⟩
theorem i1_143 : decode m1.2.1 143 = .ok (.iload 9, 2) ∧ 143 + 2 = 145 := ⟨by decide +kernel, rfl⟩
theorem i1_145 : decode m1.2.1 145 = .ok (.iinc 9 1, 3) ∧ 145 + 3 = 148 ∧ Int32.ofInt 1 = 1 := ⟨by decide +kernel, rfl, by decide⟩
theorem i1_148 : decode m1.2.1 148 = .ok (.iload 13, 2) ∧ 148 + 2 = 150 := ⟨by decide +kernel, rfl⟩
theorem i1_150 : decode m1.2.1 150 = .ok (.iload 8, 2) ∧ 150 + 2 = 152 := ⟨by decide +kernel, rfl⟩
theorem i1_152 : decode m1.2.1 152 = .ok (.isub, 1) ∧ 152 + 1 = 153 := ⟨by decide +kernel, rfl⟩
theorem i1_153 : decode m1.2.1 153 = .ok (.iastore, 1) ∧ 153 + 1 = 154 := ⟨by decide +kernel, rfl⟩
theorem i1_154 : decode m1.2.1 154 = .ok (.iinc 12 1, 3) ∧ 154 + 3 = 157 ∧ Int32.ofInt 1 = 1 := ⟨by decide +kernel, rfl, by decide⟩
theorem i1_157 : decode m1.2.1 157 = .ok (.goto (-37), 3) ∧ 157 + 3 = 160 ∧ 0 ≤ ((157 : Nat) : Int) + (-37) ∧ (((157 : Nat) : Int) + (-37)).toNat = 120 := ⟨by decide +kernel, rfl, by decide, by decide⟩
theorem i1_160 : decode m1.2.1 160 = .ok (.aload 5, 2) ∧ 160 + 2 = 162 := ⟨by decide +kernel, rfl⟩
theorem i1_162 : decode m1.2.1 162 = .ok (.iconst 0, 1) ∧ 162 + 1 = 163 ∧ Int32.ofInt 0 = 0 := ⟨by decide +kernel, rfl, by decide⟩
theorem i1_163 : decode m1.2.1 163 = .ok (.aload_n 3, 1) ∧ 163 + 1 = 164 := ⟨by decide +kernel, rfl⟩
theorem i1_164 : decode m1.2.1 164 = .ok (.iconst 0, 1) ∧ 164 + 1 = 165 ∧ Int32.ofInt 0 = 0 := ⟨by decide +kernel, rfl, by decide⟩
theorem i1_165 : decode m1.2.1 165 = .ok (.iload_n 2, 1) ∧ 165 + 1 = 166 := ⟨by decide +kernel, rfl⟩
theorem i1_166 : decode m1.2.1 166 = .ok (.invokestatic 25, 3) ∧ 166 + 3 = 169 := ⟨by decide +kernel, rfl⟩
theorem i1_169 : decode m1.2.1 169 = .ok (.aload_n 3, 1) ∧ 169 + 1 = 170 := ⟨by decide +kernel, rfl⟩
theorem i1_170 : decode m1.2.1 170 = .ok (.aload 4, 2) ∧ 170 + 2 = 172 := ⟨by decide +kernel, rfl⟩
theorem i1_172 : decode m1.2.1 172 = .ok (.aload 5, 2) ∧ 172 + 2 = 174 := ⟨by decide +kernel, rfl⟩
theorem i1_174 : decode m1.2.1 174 = .ok (.aload 6, 2) ∧ 174 + 2 = 176 := ⟨by decide +kernel, rfl⟩
theorem i1_176 : decode m1.2.1 176 = .ok (.iload 7, 2) ∧ 176 + 2 = 178 := ⟨by decide +kernel, rfl⟩
theorem i1_178 : decode m1.2.1 178 = .ok (.invokestatic 19, 3) ∧ 178 + 3 = 181 := ⟨by decide +kernel, rfl⟩
theorem i1_181 : decode m1.2.1 181 = .ok (.aload 5, 2) ∧ 181 + 2 = 183 := ⟨by decide +kernel, rfl⟩
theorem i1_183 : decode m1.2.1 183 = .ok (.aload_n 3, 1) ∧ 183 + 1 = 184 := ⟨by decide +kernel, rfl⟩
theorem i1_184 : decode m1.2.1 184 = .ok (.iconst 0, 1) ∧ 184 + 1 = 185 ∧ Int32.ofInt 0 = 0 := ⟨by decide +kernel, rfl, by decide⟩
theorem i1_185 : decode m1.2.1 185 = .ok (.iaload, 1) ∧ 185 + 1 = 186 := ⟨by decide +kernel, rfl⟩
theorem i1_186 : decode m1.2.1 186 = .ok (.iconst 0, 1) ∧ 186 + 1 = 187 ∧ Int32.ofInt 0 = 0 := ⟨by decide +kernel, rfl, by decide⟩
theorem i1_187 : decode m1.2.1 187 = .ok (.iastore, 1) ∧ 187 + 1 = 188 := ⟨by decide +kernel, rfl⟩
theorem i1_188 : decode m1.2.1 188 = .ok (.iconst 1, 1) ∧ 188 + 1 = 189 ∧ Int32.ofInt 1 = 1 := ⟨by decide +kernel, rfl, by decide⟩
theorem i1_189 : decode m1.2.1 189 = .ok (.istore 7, 2) ∧ 189 + 2 = 191 := ⟨by decide +kernel, rfl⟩
theorem i1_191 : decode m1.2.1 191 = .ok (.iconst 1, 1) ∧ 191 + 1 = 192 ∧ Int32.ofInt 1 = 1 := ⟨by decide +kernel, rfl, by decide⟩
theorem i1_192 : decode m1.2.1 192 = .ok (.istore 10, 2) ∧ 192 + 2 = 194 := ⟨by decide +kernel, rfl⟩
theorem i1_194 : decode m1.2.1 194 = .ok (.iload 10, 2) ∧ 194 + 2 = 196 := ⟨by decide +kernel, rfl⟩
theorem i1_196 : decode m1.2.1 196 = .ok (.iload_n 2, 1) ∧ 196 + 1 = 197 := ⟨by decide +kernel, rfl⟩
theorem i1_197 : decode m1.2.1 197 = .ok (.if_icmp .ge 88, 3) ∧ 197 + 3 = 200 ∧ 0 ≤ ((197 : Nat) : Int) + 88 ∧ (((197 : Nat) : Int) + 88).toNat = 285 := ⟨by decide +kernel, rfl, by decide, by decide⟩
theorem i1_200 : decode m1.2.1 200 = .ok (.aload_n 3, 1) ∧ 200 + 1 = 201 := ⟨by decide +kernel, rfl⟩
theorem i1_201 : decode m1.2.1 201 = .ok (.iload 10, 2) ∧ 201 + 2 = 203 := ⟨by decide +kernel, rfl⟩
theorem i1_203 : decode m1.2.1 203 = .ok (.iconst 1, 1) ∧ 203 + 1 = 204 ∧ Int32.ofInt 1 = 1 := ⟨by decide +kernel, rfl, by decide⟩
theorem i1_204 : decode m1.2.1 204 = .ok (.isub, 1) ∧ 204 + 1 = 205 := ⟨by decide +kernel, rfl⟩
theorem i1_205 : decode m1.2.1 205 = .ok (.iaload, 1) ∧ 205 + 1 = 206 := ⟨by decide +kernel, rfl⟩
theorem i1_206 : decode m1.2.1 206 = .ok (.istore 11, 2) ∧ 206 + 2 = 208 := ⟨by decide +kernel, rfl⟩
theorem i1_208 : decode m1.2.1 208 = .ok (.aload_n 3, 1) ∧ 208 + 1 = 209 := ⟨by decide +kernel, rfl⟩
theorem i1_209 : decode m1.2.1 209 = .ok (.iload 10, 2) ∧ 209 + 2 = 211 := ⟨by decide +kernel, rfl⟩
theorem i1_211 : decode m1.2.1 211 = .ok (.iaload, 1) ∧ 211 + 1 = 212 := ⟨by decide +kernel, rfl⟩
theorem i1_212 : decode m1.2.1 212 = .ok (.istore 12, 2) ∧ 212 + 2 = 214 := ⟨by decide +kernel, rfl⟩
theorem i1_214 : decode m1.2.1 214 = .ok (.aload 4, 2) ∧ 214 + 2 = 216 := ⟨by decide +kernel, rfl⟩
theorem i1_216 : decode m1.2.1 216 = .ok (.iload 11, 2) ∧ 216 + 2 = 218 := ⟨by decide +kernel, rfl⟩
theorem i1_218 : decode m1.2.1 218 = .ok (.iaload, 1) ∧ 218 + 1 = 219 := ⟨by decide +kernel, rfl⟩
theorem i1_219 : decode m1.2.1 219 = .ok (.aload 4, 2) ∧ 219 + 2 = 221 := ⟨by decide +kernel, rfl⟩
theorem i1_221 : decode m1.2.1 221 = .ok (.iload 12, 2) ∧ 221 + 2 = 223 := ⟨by decide +kernel, rfl⟩
theorem i1_223 : decode m1.2.1 223 = .ok (.iaload, 1) ∧ 223 + 1 = 224 := ⟨by decide +kernel, rfl⟩
theorem i1_224 : decode m1.2.1 224 = .ok (.if_icmp .ne 30, 3) ∧ 224 + 3 = 227 ∧ 0 ≤ ((224 : Nat) : Int) + 30 ∧ (((224 : Nat) : Int) + 30).toNat = 254 := ⟨by decide +kernel, rfl, by decide, by decide⟩
theorem i1_227 : decode m1.2.1 227 = .ok (.aload 4, 2) ∧ 227 + 2 = 229 := ⟨by decide +kernel, rfl⟩
theorem i1_229 : decode m1.2.1 229 = .ok (.iload 11, 2) ∧ 229 + 2 = 231 := ⟨by decide +kernel, rfl⟩
theorem i1_231 : decode m1.2.1 231 = .ok (.iload 8, 2) ∧ 231 + 2 = 233 := ⟨by decide +kernel, rfl⟩
theorem i1_233 : decode m1.2.1 233 = .ok (.iadd, 1) ∧ 233 + 1 = 234 := ⟨by decide +kernel, rfl⟩
theorem i1_234 : decode m1.2.1 234 = .ok (.invokestatic 31, 3) ∧ 234 + 3 = 237 := ⟨by decide +kernel, rfl⟩
theorem i1_237 : decode m1.2.1 237 = .ok (.aload 4, 2) ∧ 237 + 2 = 239 := ⟨by decide +kernel, rfl⟩
theorem i1_239 : decode m1.2.1 239 = .ok (.iload 12, 2) ∧ 239 + 2 = 241 := ⟨by decide +kernel, rfl⟩
theorem i1_241 : decode m1.2.1 241 = .ok (.iload 8, 2) ∧ 241 + 2 = 243 := ⟨by decide +kernel, rfl⟩
theorem i1_243 : decode m1.2.1 243 = .ok (.iadd, 1) ∧ 243 + 1 = 244 := ⟨by decide +kernel, rfl⟩
theorem i1_244 : decode m1.2.1 244 = .ok (.invokestatic 31, 3) ∧ 244 + 3 = 247 := ⟨by decide +kernel, rfl⟩
theorem i1_247 : decode m1.2.1 247 = .ok (.if_icmp .ne 7, 3) ∧ 247 + 3 = 250 ∧ 0 ≤ ((247 : Nat) : Int) + 7 ∧ (((247 : Nat) : Int) + 7).toNat = 254 := ⟨by decide +kernel, rfl, by decide, by decide⟩
theorem i1_250 : decode m1.2.1 250 = .ok (.iconst 1, 1) ∧ 250 + 1 = 251 ∧ Int32.ofInt 1 = 1 := ⟨by decide +kernel, rfl, by decide⟩
theorem i1_251 : decode m1.2.1 251 = .ok (.goto 4, 3) ∧ 251 + 3 = 254 ∧ 0 ≤ ((251 : Nat) : Int) + 4 ∧ (((251 : Nat) : Int) + 4).toNat = 255 := ⟨by decide +kernel, rfl, by decide, by decide⟩
theorem i1_254 : decode m1.2.1 254 = .ok (.iconst 0, 1) ∧ 254 + 1 = 255 ∧ Int32.ofInt 0 = 0 := ⟨by decide +kernel, rfl, by decide⟩
theorem i1_255 : decode m1.2.1 255 = .ok (.istore 13, 2) ∧ 255 + 2 = 257 := ⟨by decide +kernel, rfl⟩
theorem i1_257 : decode m1.2.1 257 = .ok (.aload 5, 2) ∧ 257 + 2 = 259 := ⟨by decide +kernel, rfl⟩
theorem i1_259 : decode m1.2.1 259 = .ok (.iload 12, 2) ∧ 259 + 2 = 261 := ⟨by decide +kernel, rfl⟩
theorem i1_261 : decode m1.2.1 261 = .ok (.iload 13, 2) ∧ 261 + 2 = 263 := ⟨by decide +kernel, rfl⟩
theorem i1_263 : decode m1.2.1 263 = .ok (.ifCond .eq 10, 3) ∧ 263 + 3 = 266 ∧ 0 ≤ ((263 : Nat) : Int) + 10 ∧ (((263 : Nat) : Int) + 10).toNat = 273 := ⟨by decide +kernel, rfl, by decide, by decide⟩
theorem i1_266 : decode m1.2.1 266 = .ok (.iload 7, 2) ∧ 266 + 2 = 268 := ⟨by decide +kernel, rfl⟩
theorem i1_268 : decode m1.2.1 268 = .ok (.iconst 1, 1) ∧ 268 + 1 = 269 ∧ Int32.ofInt 1 = 1 := ⟨by decide +kernel, rfl, by decide⟩
theorem i1_269 : decode m1.2.1 269 = .ok (.isub, 1) ∧ 269 + 1 = 270 := ⟨by decide +kernel, rfl⟩
theorem i1_270 : decode m1.2.1 270 = .ok (.goto 8, 3) ∧ 270 + 3 = 273 ∧ 0 ≤ ((270 : Nat) : Int) + 8 ∧ (((270 : Nat) : Int) + 8).toNat = 278 := ⟨by decide +kernel, rfl, by decide, by decide⟩
theorem i1_273 : decode m1.2.1 273 = .ok (.iload 7, 2) ∧ 273 + 2 = 275 := ⟨by decide +kernel, rfl⟩
theorem i1_275 : decode m1.2.1 275 = .ok (.iinc 7 1, 3) ∧ 275 + 3 = 278 ∧ Int32.ofInt 1 = 1 := ⟨by decide +kernel, rfl, by decide⟩
theorem i1_278 : decode m1.2.1 278 = .ok (.iastore, 1) ∧ 278 + 1 = 279 := ⟨by decide +kernel, rfl⟩
theorem i1_279 : decode m1.2.1 279 = .ok (.iinc 10 1, 3) ∧ 279 + 3 = 282 ∧ Int32.ofInt 1 = 1 := ⟨by decide +kernel, rfl, by decide⟩
theorem i1_282 : decode m1.2.1 282 = .ok (.goto (-88), 3) ∧ 282 + 3 = 285 ∧ 0 ≤ ((282 : Nat) : Int) + (-88) ∧ (((282 : Nat) : Int) + (-88)).toNat = 194 := ⟨by decide +kernel, rfl, by decide, by decide⟩
theorem i1_285 : decode m1.2.1 285 = .ok (.aload 4, 2) ∧ 285 + 2 = 287 := ⟨by decide +kernel, rfl⟩
theorem i1_287 : decode m1.2.1 287 = .ok (.astore 10, 2) ∧ 287 + 2 = 289 := ⟨by decide +kernel, rfl⟩
theorem i1_289 : decode m1.2.1 289 = .ok (.aload 5, 2) ∧ 289 + 2 = 291 := ⟨by decide +kernel, rfl⟩
theorem i1_291 : decode m1.2.1 291 = .ok (.astore 4, 2) ∧ 291 + 2 = 293 := ⟨by decide +kernel, rfl⟩
theorem i1_293 : decode m1.2.1 293 = .ok (.aload 10, 2) ∧ 293 + 2 = 295 := ⟨by decide +kernel, rfl⟩
theorem i1_295 : decode m1.2.1 295 = .ok (.astore 5, 2) ∧ 295 + 2 = 297 := ⟨by decide +kernel, rfl⟩
theorem i1_297 : decode m1.2.1 297 = .ok (.iload 7, 2) ∧ 297 + 2 = 299 := ⟨by decide +kernel, rfl⟩
theorem i1_299 : decode m1.2.1 299 = .ok (.iload_n 2, 1) ∧ 299 + 1 = 300 := ⟨by decide +kernel, rfl⟩
theorem i1_300 : decode m1.2.1 300 = .ok (.if_icmp .ne 6, 3) ∧ 300 + 3 = 303 ∧ 0 ≤ ((300 : Nat) : Int) + 6 ∧ (((300 : Nat) : Int) + 6).toNat = 306 := ⟨by decide +kernel, rfl, by decide, by decide⟩
theorem i1_303 : decode m1.2.1 303 = .ok (.goto 12, 3) ∧ 303 + 3 = 306 ∧ 0 ≤ ((303 : Nat) : Int) + 12 ∧ (((303 : Nat) : Int) + 12).toNat = 315 := ⟨by decide +kernel, rfl, by decide, by decide⟩
theorem i1_306 : decode m1.2.1 306 = .ok (.iload 8, 2) ∧ 306 + 2 = 308 := ⟨by decide +kernel, rfl⟩
theorem i1_308 : decode m1.2.1 308 = .ok (.iconst 2, 1) ∧ 308 + 1 = 309 ∧ Int32.ofInt 2 = 2 := ⟨by decide +kernel, rfl, by decide⟩
theorem i1_309 : decode m1.2.1 309 = .ok (.imul, 1) ∧ 309 + 1 = 310 := ⟨by decide +kernel, rfl⟩
theorem i1_310 : decode m1.2.1 310 = .ok (.istore 8, 2) ∧ 310 + 2 = 312 := ⟨by decide +kernel, rfl⟩
theorem i1_312 : decode m1.2.1 312 = .ok (.goto (-243), 3) ∧ 312 + 3 = 315 ∧ 0 ≤ ((312 : Nat) : Int) + (-243) ∧ (((312 : Nat) : Int) + (-243)).toNat = 69 := ⟨by decide +kernel, rfl, by decide, by decide⟩
theorem i1_315 : decode m1.2.1 315 = .ok (.aload_n 3, 1) ∧ 315 + 1 = 316 := ⟨by decide +kernel, rfl⟩
theorem i1_316 : decode m1.2.1 316 = .ok (.areturn, 1) := by decide +kernel
theorem i2_0 : decode m2.2.1 0 = .ok (.iload_n 1, 1) ∧ 0 + 1 = 1 := ⟨by decide +kernel, rfl⟩
theorem i2_1 : decode m2.2.1 1 = .ok (.aload_n 0, 1) ∧ 1 + 1 = 2 := ⟨by decide +kernel, rfl⟩
theorem i2_2 : decode m2.2.1 2 = .ok (.arraylength, 1) ∧ 2 + 1 = 3 := ⟨by decide +kernel, rfl⟩
theorem i2_3 : decode m2.2.1 3 = .ok (.if_icmp .ne 11, 3) ∧ 3 + 3 = 6 ∧ 0 ≤ ((3 : Nat) : Int) + 11 ∧ (((3 : Nat) : Int) + 11).toNat = 14 := ⟨by decide +kernel, rfl, by decide, by decide⟩
theorem i2_6 : decode m2.2.1 6 = .ok (.aload_n 0, 1) ∧ 6 + 1 = 7 := ⟨by decide +kernel, rfl⟩
theorem i2_7 : decode m2.2.1 7 = .ok (.invokevirtual 316, 3) ∧ 7 + 3 = 10 := ⟨by decide +kernel, rfl⟩
theorem i2_10 : decode m2.2.1 10 = .ok (.checkcast 317, 3) ∧ 10 + 3 = 13 := ⟨by decide +kernel, rfl⟩
theorem i2_13 : decode m2.2.1 13 = .ok (.areturn, 1) := by decide +kernel
theorem i2_14 : decode m2.2.1 14 = .ok (.iload_n 1, 1) ∧ 14 + 1 = 15 := ⟨by decide +kernel, rfl⟩
theorem i2_15 : decode m2.2.1 15 = .ok (.newarray .int, 2) ∧ 15 + 2 = 17 := ⟨by decide +kernel, rfl⟩
theorem i2_17 : decode m2.2.1 17 = .ok (.astore_n 2, 1) ∧ 17 + 1 = 18 := ⟨by decide +kernel, rfl⟩
theorem i2_18 : decode m2.2.1 18 = .ok (.aload_n 0, 1) ∧ 18 + 1 = 19 := ⟨by decide +kernel, rfl⟩
theorem i2_19 : decode m2.2.1 19 = .ok (.iconst 0, 1) ∧ 19 + 1 = 20 ∧ Int32.ofInt 0 = 0 := ⟨by decide +kernel, rfl, by decide⟩
theorem i2_20 : decode m2.2.1 20 = .ok (.aload_n 2, 1) ∧ 20 + 1 = 21 := ⟨by decide +kernel, rfl⟩
theorem i2_21 : decode m2.2.1 21 = .ok (.iconst 0, 1) ∧ 21 + 1 = 22 ∧ Int32.ofInt 0 = 0 := ⟨by decide +kernel, rfl, by decide⟩
theorem i2_22 : decode m2.2.1 22 = .ok (.aload_n 0, 1) ∧ 22 + 1 = 23 := ⟨by decide +kernel, rfl⟩
theorem i2_23 : decode m2.2.1 23 = .ok (.arraylength, 1) ∧ 23 + 1 = 24 := ⟨by decide +kernel, rfl⟩
theorem i2_24 : decode m2.2.1 24 = .ok (.iload_n 1, 1) ∧ 24 + 1 = 25 := ⟨by decide +kernel, rfl⟩
theorem i2_25 : decode m2.2.1 25 = .ok (.invokestatic 304, 3) ∧ 25 + 3 = 28 := ⟨by decide +kernel, rfl⟩
theorem i2_28 : decode m2.2.1 28 = .ok (.invokestatic 150, 3) ∧ 28 + 3 = 31 := ⟨by decide +kernel, rfl⟩
theorem i2_31 : decode m2.2.1 31 = .ok (.aload_n 2, 1) ∧ 31 + 1 = 32 := ⟨by decide +kernel, rfl⟩
theorem i2_32 : decode m2.2.1 32 = .ok (.areturn, 1) := by decide +kernel
theorem i3_0 : decode m3.2.1 0 = .ok (.iload_n 0, 1) ∧ 0 + 1 = 1 := ⟨by decide +kernel, rfl⟩
theorem i3_1 : decode m3.2.1 1 = .ok (.iload_n 1, 1) ∧ 1 + 1 = 2 := ⟨by decide +kernel, rfl⟩
theorem i3_2 : decode m3.2.1 2 = .ok (.if_icmp .lt 7, 3) ∧ 2 + 3 = 5 ∧ 0 ≤ ((2 : Nat) : Int) + 7 ∧ (((2 : Nat) : Int) + 7).toNat = 9 := ⟨by decide +kernel, rfl, by decide, by decide⟩
theorem i3_5 : decode m3.2.1 5 = .ok (.iload_n 0, 1) ∧ 5 + 1 = 6 := ⟨by decide +kernel, rfl⟩
theorem i3_6 : decode m3.2.1 6 = .ok (.goto 4, 3) ∧ 6 + 3 = 9 ∧ 0 ≤ ((6 : Nat) : Int) + 4 ∧ (((6 : Nat) : Int) + 4).toNat = 10 := ⟨by decide +kernel, rfl, by decide, by decide⟩
theorem i3_9 : decode m3.2.1 9 = .ok (.iload_n 1, 1) ∧ 9 + 1 = 10 := ⟨by decide +kernel, rfl⟩
theorem i3_10 : decode m3.2.1 10 = .ok (.ireturn, 1) := by decide +kernel
theorem i4_0 : decode m4.2.1 0 = .ok (.aload_n 3, 1) ∧ 0 + 1 = 1 := ⟨by decide +kernel, rfl⟩
theorem i4_1 : decode m4.2.1 1 = .ok (.iconst 0, 1) ∧ 1 + 1 = 2 ∧ Int32.ofInt 0 = 0 := ⟨by decide +kernel, rfl, by decide⟩
theorem i4_2 : decode m4.2.1 2 = .ok (.iload 4, 2) ∧ 2 + 2 = 4 := ⟨by decide +kernel, rfl⟩
theorem i4_4 : decode m4.2.1 4 = .ok (.iconst 1, 1) ∧ 4 + 1 = 5 ∧ Int32.ofInt 1 = 1 := ⟨by decide +kernel, rfl, by decide⟩
theorem i4_5 : decode m4.2.1 5 = .ok (.iadd, 1) ∧ 5 + 1 = 6 := ⟨by decide +kernel, rfl⟩
theorem i4_6 : decode m4.2.1 6 = .ok (.iconst 0, 1) ∧ 6 + 1 = 7 ∧ Int32.ofInt 0 = 0 := ⟨by decide +kernel, rfl, by decide⟩
theorem i4_7 : decode m4.2.1 7 = .ok (.invokestatic 35, 3) ∧ 7 + 3 = 10 := ⟨by decide +kernel, rfl⟩
theorem i4_10 : decode m4.2.1 10 = .ok (.aload_n 0, 1) ∧ 10 + 1 = 11 := ⟨by decide +kernel, rfl⟩
theorem i4_11 : decode m4.2.1 11 = .ok (.astore 5, 2) ∧ 11 + 2 = 13 := ⟨by decide +kernel, rfl⟩
theorem i4_13 : decode m4.2.1 13 = .ok (.aload 5, 2) ∧ 13 + 2 = 15 := ⟨by decide +kernel, rfl⟩
theorem i4_15 : decode m4.2.1 15 = .ok (.arraylength, 1) ∧ 15 + 1 = 16 := ⟨by decide +kernel, rfl⟩
theorem i4_16 : decode m4.2.1 16 = .ok (.istore 6, 2) ∧ 16 + 2 = 18 := ⟨by decide +kernel, rfl⟩
theorem i4_18 : decode m4.2.1 18 = .ok (.iconst 0, 1) ∧ 18 + 1 = 19 ∧ Int32.ofInt 0 = 0 := ⟨by decide +kernel, rfl, by decide⟩
theorem i4_19 : decode m4.2.1 19 = .ok (.istore 7, 2) ∧ 19 + 2 = 21 := ⟨by decide +kernel, rfl⟩
theorem i4_21 : decode m4.2.1 21 = .ok (.iload 7, 2) ∧ 21 + 2 = 23 := ⟨by decide +kernel, rfl⟩
theorem i4_23 : decode m4.2.1 23 = .ok (.iload 6, 2) ∧ 23 + 2 = 25 := ⟨by decide +kernel, rfl⟩
theorem i4_25 : decode m4.2.1 25 = .ok (.if_icmp .ge 28, 3) ∧ 25 + 3 = 28 ∧ 0 ≤ ((25 : Nat) : Int) + 28 ∧ (((25 : Nat) : Int) + 28).toNat = 53 := ⟨by decide +kernel, rfl, by decide, by decide⟩
theorem i4_28 : decode m4.2.1 28 = .ok (.aload 5, 2) ∧ 28 + 2 = 30 := ⟨by decide +kernel, rfl⟩
theorem i4_30 : decode m4.2.1 30 = .ok (.iload 7, 2) ∧ 30 + 2 = 32 := ⟨by decide +kernel, rfl⟩
theorem i4_32 : decode m4.2.1 32 = .ok (.iaload, 1) ∧ 32 + 1 = 33 := ⟨by decide +kernel, rfl⟩
theorem i4_33 : decode m4.2.1 33 = .ok (.istore 8, 2) ∧ 33 + 2 = 35 := ⟨by decide +kernel, rfl⟩
theorem i4_35 : decode m4.2.1 35 = .ok (.aload_n 3, 1) ∧ 35 + 1 = 36 := ⟨by decide +kernel, rfl⟩
theorem i4_36 : decode m4.2.1 36 = .ok (.aload_n 1, 1) ∧ 36 + 1 = 37 := ⟨by decide +kernel, rfl⟩
theorem i4_37 : decode m4.2.1 37 = .ok (.iload 8, 2) ∧ 37 + 2 = 39 := ⟨by decide +kernel, rfl⟩
theorem i4_39 : decode m4.2.1 39 = .ok (.iaload, 1) ∧ 39 + 1 = 40 := ⟨by decide +kernel, rfl⟩
theorem i4_40 : decode m4.2.1 40 = .ok (.iconst 1, 1) ∧ 40 + 1 = 41 ∧ Int32.ofInt 1 = 1 := ⟨by decide +kernel, rfl, by decide⟩
theorem i4_41 : decode m4.2.1 41 = .ok (.iadd, 1) ∧ 41 + 1 = 42 := ⟨by decide +kernel, rfl⟩
theorem i4_42 : decode m4.2.1 42 = .ok (.dup2, 1) ∧ 42 + 1 = 43 := ⟨by decide +kernel, rfl⟩
theorem i4_43 : decode m4.2.1 43 = .ok (.iaload, 1) ∧ 43 + 1 = 44 := ⟨by decide +kernel, rfl⟩
theorem i4_44 : decode m4.2.1 44 = .ok (.iconst 1, 1) ∧ 44 + 1 = 45 ∧ Int32.ofInt 1 = 1 := ⟨by decide +kernel, rfl, by decide⟩
theorem i4_45 : decode m4.2.1 45 = .ok (.iadd, 1) ∧ 45 + 1 = 46 := ⟨by decide +kernel, rfl⟩
theorem i4_46 : decode m4.2.1 46 = .ok (.iastore, 1) ∧ 46 + 1 = 47 := ⟨by decide +kernel, rfl⟩
theorem i4_47 : decode m4.2.1 47 = .ok (.iinc 7 1, 3) ∧ 47 + 3 = 50 ∧ Int32.ofInt 1 = 1 := ⟨by decide +kernel, rfl, by decide⟩
theorem i4_50 : decode m4.2.1 50 = .ok (.goto (-29), 3) ∧ 50 + 3 = 53 ∧ 0 ≤ ((50 : Nat) : Int) + (-29) ∧ (((50 : Nat) : Int) + (-29)).toNat = 21 := ⟨by decide +kernel, rfl, by decide, by decide⟩
theorem i4_53 : decode m4.2.1 53 = .ok (.iconst 1, 1) ∧ 53 + 1 = 54 ∧ Int32.ofInt 1 = 1 := ⟨by decide +kernel, rfl, by decide⟩
theorem i4_54 : decode m4.2.1 54 = .ok (.istore 5, 2) ∧ 54 + 2 = 56 := ⟨by decide +kernel, rfl⟩
theorem i4_56 : decode m4.2.1 56 = .ok (.iload 5, 2) ∧ 56 + 2 = 58 := ⟨by decide +kernel, rfl⟩
theorem i4_58 : decode m4.2.1 58 = .ok (.iload 4, 2) ∧ 58 + 2 = 60 := ⟨by decide +kernel, rfl⟩
theorem i4_60 : decode m4.2.1 60 = .ok (.if_icmp .gt 22, 3) ∧ 60 + 3 = 63 ∧ 0 ≤ ((60 : Nat) : Int) + 22 ∧ (((60 : Nat) : Int) + 22).toNat = 82 := ⟨by decide +kernel, rfl, by decide, by decide⟩
theorem i4_63 : decode m4.2.1 63 = .ok (.aload_n 3, 1) ∧ 63 + 1 = 64 := ⟨by decide +kernel, rfl⟩
theorem i4_64 : decode m4.2.1 64 = .ok (.iload 5, 2) ∧ 64 + 2 = 66 := ⟨by decide +kernel, rfl⟩
theorem i4_66 : decode m4.2.1 66 = .ok (.dup2, 1) ∧ 66 + 1 = 67 := ⟨by decide +kernel, rfl⟩
theorem i4_67 : decode m4.2.1 67 = .ok (.iaload, 1) ∧ 67 + 1 = 68 := ⟨by decide +kernel, rfl⟩
theorem i4_68 : decode m4.2.1 68 = .ok (.aload_n 3, 1) ∧ 68 + 1 = 69 := ⟨by decide +kernel, rfl⟩
theorem i4_69 : decode m4.2.1 69 = .ok (.iload 5, 2) ∧ 69 + 2 = 71 := ⟨by decide +kernel, rfl⟩
theorem i4_71 : decode m4.2.1 71 = .ok (.iconst 1, 1) ∧ 71 + 1 = 72 ∧ Int32.ofInt 1 = 1 := ⟨by decide +kernel, rfl, by decide⟩
theorem i4_72 : decode m4.2.1 72 = .ok (.isub, 1) ∧ 72 + 1 = 73 := ⟨by decide +kernel, rfl⟩
theorem i4_73 : decode m4.2.1 73 = .ok (.iaload, 1) ∧ 73 + 1 = 74 := ⟨by decide +kernel, rfl⟩
theorem i4_74 : decode m4.2.1 74 = .ok (.iadd, 1) ∧ 74 + 1 = 75 := ⟨by decide +kernel, rfl⟩
theorem i4_75 : decode m4.2.1 75 = .ok (.iastore, 1) ∧ 75 + 1 = 76 := ⟨by decide +kernel, rfl⟩
theorem i4_76 : decode m4.2.1 76 = .ok (.iinc 5 1, 3) ∧ 76 + 3 = 79 ∧ Int32.ofInt 1 = 1 := ⟨by decide +kernel, rfl, by decide⟩
theorem i4_79 : decode m4.2.1 79 = .ok (.goto (-23), 3) ∧ 79 + 3 = 82 ∧ 0 ≤ ((79 : Nat) : Int) + (-23) ∧ (((79 : Nat) : Int) + (-23)).toNat = 56 := ⟨by decide +kernel, rfl, by decide, by decide⟩
theorem i4_82 : decode m4.2.1 82 = .ok (.aload_n 0, 1) ∧ 82 + 1 = 83 := ⟨by decide +kernel, rfl⟩
theorem i4_83 : decode m4.2.1 83 = .ok (.astore 5, 2) ∧ 83 + 2 = 85 := ⟨by decide +kernel, rfl⟩
theorem i4_85 : decode m4.2.1 85 = .ok (.aload 5, 2) ∧ 85 + 2 = 87 := ⟨by decide +kernel, rfl⟩
theorem i4_87 : decode m4.2.1 87 = .ok (.arraylength, 1) ∧ 87 + 1 = 88 := ⟨by decide +kernel, rfl⟩
theorem i4_88 : decode m4.2.1 88 = .ok (.istore 6, 2) ∧ 88 + 2 = 90 := ⟨by decide +kernel, rfl⟩
theorem i4_90 : decode m4.2.1 90 = .ok (.iconst 0, 1) ∧ 90 + 1 = 91 ∧ Int32.ofInt 0 = 0 := ⟨by decide +kernel, rfl, by decide⟩
theorem i4_91 : decode m4.2.1 91 = .ok (.istore 7, 2) ∧ 91 + 2 = 93 := ⟨by decide +kernel, rfl⟩
theorem i4_93 : decode m4.2.1 93 = .ok (.iload 7, 2) ∧ 93 + 2 = 95 := ⟨by decide +kernel, rfl⟩
theorem i4_95 : decode m4.2.1 95 = .ok (.iload 6, 2) ∧ 95 + 2 = 97 := ⟨by decide +kernel, rfl⟩
theorem i4_97 : decode m4.2.1 97 = .ok (.if_icmp .ge 31, 3) ∧ 97 + 3 = 100 ∧ 0 ≤ ((97 : Nat) : Int) + 31 ∧ (((97 : Nat) : Int) + 31).toNat = 128 := ⟨by decide +kernel, rfl, by decide, by decide⟩
theorem i4_100 : decode m4.2.1 100 = .ok (.aload 5, 2) ∧ 100 + 2 = 102 := ⟨by decide +kernel, rfl⟩
theorem i4_102 : decode m4.2.1 102 = .ok (.iload 7, 2) ∧ 102 + 2 = 104 := ⟨by decide +kernel, rfl⟩
theorem i4_104 : decode m4.2.1 104 = .ok (.iaload, 1) ∧ 104 + 1 = 105 := ⟨by decide +kernel, rfl⟩
theorem i4_105 : decode m4.2.1 105 = .ok (.istore 8, 2) ∧ 105 + 2 = 107 := ⟨by decide +kernel, rfl⟩
theorem i4_107 : decode m4.2.1 107 = .ok (.aload_n 2, 1) ∧ 107 + 1 = 108 := ⟨by decide +kernel, rfl⟩
theorem i4_108 : decode m4.2.1 108 = .ok (.aload_n 3, 1) ∧ 108 + 1 = 109 := ⟨by decide +kernel, rfl⟩
theorem i4_109 : decode m4.2.1 109 = .ok (.aload_n 1, 1) ∧ 109 + 1 = 110 := ⟨by decide +kernel, rfl⟩
theorem i4_110 : decode m4.2.1 110 = .ok (.iload 8, 2) ∧ 110 + 2 = 112 := ⟨by decide +kernel, rfl⟩
theorem i4_112 : decode m4.2.1 112 = .ok (.iaload, 1) ∧ 112 + 1 = 113 := ⟨by decide +kernel, rfl⟩
theorem i4_113 : decode m4.2.1 113 = .ok (.dup2, 1) ∧ 113 + 1 = 114 := ⟨by decide +kernel, rfl⟩
theorem i4_114 : decode m4.2.1 114 = .ok (.iaload, 1) ∧ 114 + 1 = 115 := ⟨by decide +kernel, rfl⟩
theorem i4_115 : decode m4.2.1 115 = .ok (.dup_x2, 1) ∧ 115 + 1 = 116 := ⟨by decide +kernel, rfl⟩
theorem i4_116 : decode m4.2.1 116 = .ok (.iconst 1, 1) ∧ 116 + 1 = 117 ∧ Int32.ofInt 1 = 1 := ⟨by decide +kernel, rfl, by decide⟩
theorem i4_117 : decode m4.2.1 117 = .ok (.iadd, 1) ∧ 117 + 1 = 118 := ⟨by decide +kernel, rfl⟩
theorem i4_118 : decode m4.2.1 118 = .ok (.iastore, 1) ∧ 118 + 1 = 119 := ⟨by decide +kernel, rfl⟩
theorem i4_119 : decode m4.2.1 119 = .ok (.iload 8, 2) ∧ 119 + 2 = 121 := ⟨by decide +kernel, rfl⟩
theorem i4_121 : decode m4.2.1 121 = .ok (.iastore, 1) ∧ 121 + 1 = 122 := ⟨by decide +kernel, rfl⟩
theorem i4_122 : decode m4.2.1 122 = .ok (.iinc 7 1, 3) ∧ 122 + 3 = 125 ∧ Int32.ofInt 1 = 1 := ⟨by decide +kernel, rfl, by decide⟩
theorem i4_125 : decode m4.2.1 125 = .ok (.goto (-32), 3) ∧ 125 + 3 = 128 ∧ 0 ≤ ((125 : Nat) : Int) + (-32) ∧ (((125 : Nat) : Int) + (-32)).toNat = 93 := ⟨by decide +kernel, rfl, by decide, by decide⟩
theorem i4_128 : decode m4.2.1 128 = .ok (.aload_n 2, 1) ∧ 128 + 1 = 129 := ⟨by decide +kernel, rfl⟩
theorem i4_129 : decode m4.2.1 129 = .ok (.iconst 0, 1) ∧ 129 + 1 = 130 ∧ Int32.ofInt 0 = 0 := ⟨by decide +kernel, rfl, by decide⟩
theorem i4_130 : decode m4.2.1 130 = .ok (.aload_n 0, 1) ∧ 130 + 1 = 131 := ⟨by decide +kernel, rfl⟩
theorem i4_131 : decode m4.2.1 131 = .ok (.iconst 0, 1) ∧ 131 + 1 = 132 ∧ Int32.ofInt 0 = 0 := ⟨by decide +kernel, rfl, by decide⟩
theorem i4_132 : decode m4.2.1 132 = .ok (.aload_n 0, 1) ∧ 132 + 1 = 133 := ⟨by decide +kernel, rfl⟩
theorem i4_133 : decode m4.2.1 133 = .ok (.arraylength, 1) ∧ 133 + 1 = 134 := ⟨by decide +kernel, rfl⟩
theorem i4_134 : decode m4.2.1 134 = .ok (.invokestatic 25, 3) ∧ 134 + 3 = 137 := ⟨by decide +kernel, rfl⟩
theorem i4_137 : decode m4.2.1 137 = .ok (.return_, 1) := by decide +kernel
theorem i5_0 : decode m5.2.1 0 = .ok (.aload_n 0, 1) ∧ 0 + 1 = 1 := ⟨by decide +kernel, rfl⟩
theorem i5_1 : decode m5.2.1 1 = .ok (.arraylength, 1) ∧ 1 + 1 = 2 := ⟨by decide +kernel, rfl⟩
theorem i5_2 : decode m5.2.1 2 = .ok (.iload_n 1, 1) ∧ 2 + 1 = 3 := ⟨by decide +kernel, rfl⟩
theorem i5_3 : decode m5.2.1 3 = .ok (.iload_n 2, 1) ∧ 3 + 1 = 4 := ⟨by decide +kernel, rfl⟩
theorem i5_4 : decode m5.2.1 4 = .ok (.invokestatic 13, 3) ∧ 4 + 3 = 7 := ⟨by decide +kernel, rfl⟩
theorem i5_7 : decode m5.2.1 7 = .ok (.iload_n 1, 1) ∧ 7 + 1 = 8 := ⟨by decide +kernel, rfl⟩
theorem i5_8 : decode m5.2.1 8 = .ok (.istore 4, 2) ∧ 8 + 2 = 10 := ⟨by decide +kernel, rfl⟩
theorem i5_10 : decode m5.2.1 10 = .ok (.iload 4, 2) ∧ 10 + 2 = 12 := ⟨by decide +kernel, rfl⟩
theorem i5_12 : decode m5.2.1 12 = .ok (.iload_n 2, 1) ∧ 12 + 1 = 13 := ⟨by decide +kernel, rfl⟩
theorem i5_13 : decode m5.2.1 13 = .ok (.if_icmp .ge 14, 3) ∧ 13 + 3 = 16 ∧ 0 ≤ ((13 : Nat) : Int) + 14 ∧ (((13 : Nat) : Int) + 14).toNat = 27 := ⟨by decide +kernel, rfl, by decide, by decide⟩
theorem i5_16 : decode m5.2.1 16 = .ok (.aload_n 0, 1) ∧ 16 + 1 = 17 := ⟨by decide +kernel, rfl⟩
theorem i5_17 : decode m5.2.1 17 = .ok (.iload 4, 2) ∧ 17 + 2 = 19 := ⟨by decide +kernel, rfl⟩
theorem i5_19 : decode m5.2.1 19 = .ok (.iload_n 3, 1) ∧ 19 + 1 = 20 := ⟨by decide +kernel, rfl⟩
theorem i5_20 : decode m5.2.1 20 = .ok (.iastore, 1) ∧ 20 + 1 = 21 := ⟨by decide +kernel, rfl⟩
theorem i5_21 : decode m5.2.1 21 = .ok (.iinc 4 1, 3) ∧ 21 + 3 = 24 ∧ Int32.ofInt 1 = 1 := ⟨by decide +kernel, rfl, by decide⟩
theorem i5_24 : decode m5.2.1 24 = .ok (.goto (-14), 3) ∧ 24 + 3 = 27 ∧ 0 ≤ ((24 : Nat) : Int) + (-14) ∧ (((24 : Nat) : Int) + (-14)).toNat = 10 := ⟨by decide +kernel, rfl, by decide, by decide⟩
theorem i5_27 : decode m5.2.1 27 = .ok (.return_, 1) := by decide +kernel
theorem i6_0 : decode m6.2.1 0 = .ok (.iload_n 1, 1) ∧ 0 + 1 = 1 := ⟨by decide +kernel, rfl⟩
theorem i6_1 : decode m6.2.1 1 = .ok (.iload_n 2, 1) ∧ 1 + 1 = 2 := ⟨by decide +kernel, rfl⟩
theorem i6_2 : decode m6.2.1 2 = .ok (.if_icmp .le 44, 3) ∧ 2 + 3 = 5 ∧ 0 ≤ ((2 : Nat) : Int) + 44 ∧ (((2 : Nat) : Int) + 44).toNat = 46 := ⟨by decide +kernel, rfl, by decide, by decide⟩
theorem i6_5 : decode m6.2.1 5 = .ok (.new 43, 3) ∧ 5 + 3 = 8 := ⟨by decide +kernel, rfl⟩
theorem i6_8 : decode m6.2.1 8 = .ok (.dup, 1) ∧ 8 + 1 = 9 := ⟨by decide +kernel, rfl⟩
theorem i6_9 : decode m6.2.1 9 = .ok (.new 45, 3) ∧ 9 + 3 = 12 := ⟨by decide +kernel, rfl⟩
theorem i6_12 : decode m6.2.1 12 = .ok (.dup, 1) ∧ 12 + 1 = 13 := ⟨by decide +kernel, rfl⟩
theorem i6_13 : decode m6.2.1 13 = .ok (.invokespecial 47, 3) ∧ 13 + 3 = 16 := ⟨by decide +kernel, rfl⟩
theorem i6_16 : decode m6.2.1 16 = .ok (.ldc 48, 2) ∧ 16 + 2 = 18 := ⟨by decide +kernel, rfl⟩
theorem i6_18 : decode m6.2.1 18 = .ok (.invokevirtual 50, 3) ∧ 18 + 3 = 21 := ⟨by decide +kernel, rfl⟩
theorem i6_21 : decode m6.2.1 21 = .ok (.iload_n 1, 1) ∧ 21 + 1 = 22 := ⟨by decide +kernel, rfl⟩
theorem i6_22 : decode m6.2.1 22 = .ok (.invokevirtual 54, 3) ∧ 22 + 3 = 25 := ⟨by decide +kernel, rfl⟩
theorem i6_25 : decode m6.2.1 25 = .ok (.ldc 57, 2) ∧ 25 + 2 = 27 := ⟨by decide +kernel, rfl⟩
theorem i6_27 : decode m6.2.1 27 = .ok (.invokevirtual 50, 3) ∧ 27 + 3 = 30 := ⟨by decide +kernel, rfl⟩
theorem i6_30 : decode m6.2.1 30 = .ok (.iload_n 2, 1) ∧ 30 + 1 = 31 := ⟨by decide +kernel, rfl⟩
theorem i6_31 : decode m6.2.1 31 = .ok (.invokevirtual 54, 3) ∧ 31 + 3 = 34 := ⟨by decide +kernel, rfl⟩
theorem i6_34 : decode m6.2.1 34 = .ok (.ldc 59, 2) ∧ 34 + 2 = 36 := ⟨by decide +kernel, rfl⟩
theorem i6_36 : decode m6.2.1 36 = .ok (.invokevirtual 50, 3) ∧ 36 + 3 = 39 := ⟨by decide +kernel, rfl⟩
theorem i6_39 : decode m6.2.1 39 = .ok (.invokevirtual 61, 3) ∧ 39 + 3 = 42 := ⟨by decide +kernel, rfl⟩
theorem i6_42 : decode m6.2.1 42 = .ok (.invokespecial 65, 3) ∧ 42 + 3 = 45 := ⟨by decide +kernel, rfl⟩
theorem i6_45 : decode m6.2.1 45 = .ok (.athrow, 1) ∧ 45 + 1 = 46 := ⟨by decide +kernel, rfl⟩
theorem i6_46 : decode m6.2.1 46 = .ok (.iload_n 1, 1) ∧ 46 + 1 = 47 := ⟨by decide +kernel, rfl⟩
theorem i6_47 : decode m6.2.1 47 = .ok (.ifCond .ge 12, 3) ∧ 47 + 3 = 50 ∧ 0 ≤ ((47 : Nat) : Int) + 12 ∧ (((47 : Nat) : Int) + 12).toNat = 59 := ⟨by decide +kernel, rfl, by decide, by decide⟩
theorem i6_50 : decode m6.2.1 50 = .ok (.new 68, 3) ∧ 50 + 3 = 53 := ⟨by decide +kernel, rfl⟩
theorem i6_53 : decode m6.2.1 53 = .ok (.dup, 1) ∧ 53 + 1 = 54 := ⟨by decide +kernel, rfl⟩
theorem i6_54 : decode m6.2.1 54 = .ok (.iload_n 1, 1) ∧ 54 + 1 = 55 := ⟨by decide +kernel, rfl⟩
theorem i6_55 : decode m6.2.1 55 = .ok (.invokespecial 70, 3) ∧ 55 + 3 = 58 := ⟨by decide +kernel, rfl⟩
theorem i6_58 : decode m6.2.1 58 = .ok (.athrow, 1) ∧ 58 + 1 = 59 := ⟨by decide +kernel, rfl⟩
theorem i6_59 : decode m6.2.1 59 = .ok (.iload_n 2, 1) ∧ 59 + 1 = 60 := ⟨by decide +kernel, rfl⟩
theorem i6_60 : decode m6.2.1 60 = .ok (.iload_n 0, 1) ∧ 60 + 1 = 61 := ⟨by decide +kernel, rfl⟩
theorem i6_61 : decode m6.2.1 61 = .ok (.if_icmp .le 12, 3) ∧ 61 + 3 = 64 ∧ 0 ≤ ((61 : Nat) : Int) + 12 ∧ (((61 : Nat) : Int) + 12).toNat = 73 := ⟨by decide +kernel, rfl, by decide, by decide⟩
theorem i6_64 : decode m6.2.1 64 = .ok (.new 68, 3) ∧ 64 + 3 = 67 := ⟨by decide +kernel, rfl⟩
theorem i6_67 : decode m6.2.1 67 = .ok (.dup, 1) ∧ 67 + 1 = 68 := ⟨by decide +kernel, rfl⟩
theorem i6_68 : decode m6.2.1 68 = .ok (.iload_n 2, 1) ∧ 68 + 1 = 69 := ⟨by decide +kernel, rfl⟩
theorem i6_69 : decode m6.2.1 69 = .ok (.invokespecial 70, 3) ∧ 69 + 3 = 72 := ⟨by decide +kernel, rfl⟩
theorem i6_72 : decode m6.2.1 72 = .ok (.athrow, 1) ∧ 72 + 1 = 73 := ⟨by decide +kernel, rfl⟩
theorem i6_73 : decode m6.2.1 73 = .ok (.return_, 1) := by decide +kernel
theorem i7_0 : decode m7.2.1 0 = .ok (.aload_n 0, 1) ∧ 0 + 1 = 1 := ⟨by decide +kernel, rfl⟩
theorem i7_1 : decode m7.2.1 1 = .ok (.arraylength, 1) ∧ 1 + 1 = 2 := ⟨by decide +kernel, rfl⟩
theorem i7_2 : decode m7.2.1 2 = .ok (.istore_n 2, 1) ∧ 2 + 1 = 3 := ⟨by decide +kernel, rfl⟩
theorem i7_3 : decode m7.2.1 3 = .ok (.iload_n 2, 1) ∧ 3 + 1 = 4 := ⟨by decide +kernel, rfl⟩
theorem i7_4 : decode m7.2.1 4 = .ok (.newarray .int, 2) ∧ 4 + 2 = 6 := ⟨by decide +kernel, rfl⟩
theorem i7_6 : decode m7.2.1 6 = .ok (.astore_n 3, 1) ∧ 6 + 1 = 7 := ⟨by decide +kernel, rfl⟩
theorem i7_7 : decode m7.2.1 7 = .ok (.iconst 0, 1) ∧ 7 + 1 = 8 ∧ Int32.ofInt 0 = 0 := ⟨by decide +kernel, rfl, by decide⟩
theorem i7_8 : decode m7.2.1 8 = .ok (.istore 4, 2) ∧ 8 + 2 = 10 := ⟨by decide +kernel, rfl⟩
theorem i7_10 : decode m7.2.1 10 = .ok (.iload 4, 2) ∧ 10 + 2 = 12 := ⟨by decide +kernel, rfl⟩
theorem i7_12 : decode m7.2.1 12 = .ok (.iload_n 2, 1) ∧ 12 + 1 = 13 := ⟨by decide +kernel, rfl⟩
theorem i7_13 : decode m7.2.1 13 = .ok (.if_icmp .ge 17, 3) ∧ 13 + 3 = 16 ∧ 0 ≤ ((13 : Nat) : Int) + 17 ∧ (((13 : Nat) : Int) + 17).toNat = 30 := ⟨by decide +kernel, rfl, by decide, by decide⟩
theorem i7_16 : decode m7.2.1 16 = .ok (.aload_n 3, 1) ∧ 16 + 1 = 17 := ⟨by decide +kernel, rfl⟩
theorem i7_17 : decode m7.2.1 17 = .ok (.aload_n 1, 1) ∧ 17 + 1 = 18 := ⟨by decide +kernel, rfl⟩
theorem i7_18 : decode m7.2.1 18 = .ok (.iload 4, 2) ∧ 18 + 2 = 20 := ⟨by decide +kernel, rfl⟩
theorem i7_20 : decode m7.2.1 20 = .ok (.iaload, 1) ∧ 20 + 1 = 21 := ⟨by decide +kernel, rfl⟩
theorem i7_21 : decode m7.2.1 21 = .ok (.iload 4, 2) ∧ 21 + 2 = 23 := ⟨by decide +kernel, rfl⟩
theorem i7_23 : decode m7.2.1 23 = .ok (.iastore, 1) ∧ 23 + 1 = 24 := ⟨by decide +kernel, rfl⟩
theorem i7_24 : decode m7.2.1 24 = .ok (.iinc 4 1, 3) ∧ 24 + 3 = 27 ∧ Int32.ofInt 1 = 1 := ⟨by decide +kernel, rfl, by decide⟩
theorem i7_27 : decode m7.2.1 27 = .ok (.goto (-17), 3) ∧ 27 + 3 = 30 ∧ 0 ≤ ((27 : Nat) : Int) + (-17) ∧ (((27 : Nat) : Int) + (-17)).toNat = 10 := ⟨by decide +kernel, rfl, by decide, by decide⟩
theorem i7_30 : decode m7.2.1 30 = .ok (.iload_n 2, 1) ∧ 30 + 1 = 31 := ⟨by decide +kernel, rfl⟩
theorem i7_31 : decode m7.2.1 31 = .ok (.newarray .int, 2) ∧ 31 + 2 = 33 := ⟨by decide +kernel, rfl⟩
theorem i7_33 : decode m7.2.1 33 = .ok (.astore 4, 2) ∧ 33 + 2 = 35 := ⟨by decide +kernel, rfl⟩
theorem i7_35 : decode m7.2.1 35 = .ok (.iconst 0, 1) ∧ 35 + 1 = 36 ∧ Int32.ofInt 0 = 0 := ⟨by decide +kernel, rfl, by decide⟩
theorem i7_36 : decode m7.2.1 36 = .ok (.istore 5, 2) ∧ 36 + 2 = 38 := ⟨by decide +kernel, rfl⟩
theorem i7_38 : decode m7.2.1 38 = .ok (.iconst 0, 1) ∧ 38 + 1 = 39 ∧ Int32.ofInt 0 = 0 := ⟨by decide +kernel, rfl, by decide⟩
theorem i7_39 : decode m7.2.1 39 = .ok (.istore 6, 2) ∧ 39 + 2 = 41 := ⟨by decide +kernel, rfl⟩
theorem i7_41 : decode m7.2.1 41 = .ok (.iload 6, 2) ∧ 41 + 2 = 43 := ⟨by decide +kernel, rfl⟩
theorem i7_43 : decode m7.2.1 43 = .ok (.iload_n 2, 1) ∧ 43 + 1 = 44 := ⟨by decide +kernel, rfl⟩
theorem i7_44 : decode m7.2.1 44 = .ok (.if_icmp .ge 90, 3) ∧ 44 + 3 = 47 ∧ 0 ≤ ((44 : Nat) : Int) + 90 ∧ (((44 : Nat) : Int) + 90).toNat = 134 := ⟨by decide +kernel, rfl, by decide, by decide⟩
theorem i7_47 : decode m7.2.1 47 = .ok (.aload_n 3, 1) ∧ 47 + 1 = 48 := ⟨by decide +kernel, rfl⟩
theorem i7_48 : decode m7.2.1 48 = .ok (.iload 6, 2) ∧ 48 + 2 = 50 := ⟨by decide +kernel, rfl⟩
theorem i7_50 : decode m7.2.1 50 = .ok (.iaload, 1) ∧ 50 + 1 = 51 := ⟨by decide +kernel, rfl⟩
theorem i7_51 : decode m7.2.1 51 = .ok (.istore 7, 2) ∧ 51 + 2 = 53 := ⟨by decide +kernel, rfl⟩
theorem i7_53 : decode m7.2.1 53 = .ok (.iload 7, 2) ∧ 53 + 2 = 55 := ⟨by decide +kernel, rfl⟩
theorem i7_55 : decode m7.2.1 55 = .ok (.ifCond .ne 9, 3) ∧ 55 + 3 = 58 ∧ 0 ≤ ((55 : Nat) : Int) + 9 ∧ (((55 : Nat) : Int) + 9).toNat = 64 := ⟨by decide +kernel, rfl, by decide, by decide⟩
theorem i7_58 : decode m7.2.1 58 = .ok (.iconst 0, 1) ∧ 58 + 1 = 59 ∧ Int32.ofInt 0 = 0 := ⟨by decide +kernel, rfl, by decide⟩
theorem i7_59 : decode m7.2.1 59 = .ok (.istore 5, 2) ∧ 59 + 2 = 61 := ⟨by decide +kernel, rfl⟩
theorem i7_61 : decode m7.2.1 61 = .ok (.goto 67, 3) ∧ 61 + 3 = 64 ∧ 0 ≤ ((61 : Nat) : Int) + 67 ∧ (((61 : Nat) : Int) + 67).toNat = 128 := ⟨by decide +kernel, rfl, by decide, by decide⟩
theorem i7_64 : decode m7.2.1 64 = .ok (.aload_n 1, 1) ∧ 64 + 1 = 65 := ⟨by decide +kernel, rfl⟩
theorem i7_65 : decode m7.2.1 65 = .ok (.iload 7, 2) ∧ 65 + 2 = 67 := ⟨by decide +kernel, rfl⟩
theorem i7_67 : decode m7.2.1 67 = .ok (.iconst 1, 1) ∧ 67 + 1 = 68 ∧ Int32.ofInt 1 = 1 := ⟨by decide +kernel, rfl, by decide⟩
theorem i7_68 : decode m7.2.1 68 = .ok (.isub, 1) ∧ 68 + 1 = 69 := ⟨by decide +kernel, rfl⟩
theorem i7_69 : decode m7.2.1 69 = .ok (.iaload, 1) ∧ 69 + 1 = 70 := ⟨by decide +kernel, rfl⟩
theorem i7_70 : decode m7.2.1 70 = .ok (.istore 8, 2) ∧ 70 + 2 = 72 := ⟨by decide +kernel, rfl⟩
theorem i7_72 : decode m7.2.1 72 = .ok (.iload 6, 2) ∧ 72 + 2 = 74 := ⟨by decide +kernel, rfl⟩
theorem i7_74 : decode m7.2.1 74 = .ok (.iload 5, 2) ∧ 74 + 2 = 76 := ⟨by decide +kernel, rfl⟩
theorem i7_76 : decode m7.2.1 76 = .ok (.iadd, 1) ∧ 76 + 1 = 77 := ⟨by decide +kernel, rfl⟩
theorem i7_77 : decode m7.2.1 77 = .ok (.iload_n 2, 1) ∧ 77 + 1 = 78 := ⟨by decide +kernel, rfl⟩
theorem i7_78 : decode m7.2.1 78 = .ok (.if_icmp .ge 35, 3) ∧ 78 + 3 = 81 ∧ 0 ≤ ((78 : Nat) : Int) + 35 ∧ (((78 : Nat) : Int) + 35).toNat = 113 := ⟨by decide +kernel, rfl, by decide, by decide⟩
theorem i7_81 : decode m7.2.1 81 = .ok (.iload 8, 2) ∧ 81 + 2 = 83 := ⟨by decide +kernel, rfl⟩
theorem i7_83 : decode m7.2.1 83 = .ok (.iload 5, 2) ∧ 83 + 2 = 85 := ⟨by decide +kernel, rfl⟩
theorem i7_85 : decode m7.2.1 85 = .ok (.iadd, 1) ∧ 85 + 1 = 86 := ⟨by decide +kernel, rfl⟩
theorem i7_86 : decode m7.2.1 86 = .ok (.iload_n 2, 1) ∧ 86 + 1 = 87 := ⟨by decide +kernel, rfl⟩
theorem i7_87 : decode m7.2.1 87 = .ok (.if_icmp .ge 26, 3) ∧ 87 + 3 = 90 ∧ 0 ≤ ((87 : Nat) : Int) + 26 ∧ (((87 : Nat) : Int) + 26).toNat = 113 := ⟨by decide +kernel, rfl, by decide, by decide⟩
theorem i7_90 : decode m7.2.1 90 = .ok (.aload_n 0, 1) ∧ 90 + 1 = 91 := ⟨by decide +kernel, rfl⟩
theorem i7_91 : decode m7.2.1 91 = .ok (.iload 6, 2) ∧ 91 + 2 = 93 := ⟨by decide +kernel, rfl⟩
theorem i7_93 : decode m7.2.1 93 = .ok (.iload 5, 2) ∧ 93 + 2 = 95 := ⟨by decide +kernel, rfl⟩
theorem i7_95 : decode m7.2.1 95 = .ok (.iadd, 1) ∧ 95 + 1 = 96 := ⟨by decide +kernel, rfl⟩
theorem i7_96 : decode m7.2.1 96 = .ok (.iaload, 1) ∧ 96 + 1 = 97 := ⟨by decide +kernel, rfl⟩
theorem i7_97 : decode m7.2.1 97 = .ok (.aload_n 0, 1) ∧ 97 + 1 = 98 := ⟨by decide +kernel, rfl⟩
theorem i7_98 : decode m7.2.1 98 = .ok (.iload 8, 2) ∧ 98 + 2 = 100 := ⟨by decide +kernel, rfl⟩
theorem i7_100 : decode m7.2.1 100 = .ok (.iload 5, 2) ∧ 100 + 2 = 102 := ⟨by decide +kernel, rfl⟩
theorem i7_102 : decode m7.2.1 102 = .ok (.iadd, 1) ∧ 102 + 1 = 103 := ⟨by decide +kernel, rfl⟩
theorem i7_103 : decode m7.2.1 103 = .ok (.iaload, 1) ∧ 103 + 1 = 104 := ⟨by decide +kernel, rfl⟩
theorem i7_104 : decode m7.2.1 104 = .ok (.if_icmp .ne 9, 3) ∧ 104 + 3 = 107 ∧ 0 ≤ ((104 : Nat) : Int) + 9 ∧ (((104 : Nat) : Int) + 9).toNat = 113 := ⟨by decide +kernel, rfl, by decide, by decide⟩
theorem i7_107 : decode m7.2.1 107 = .ok (.iinc 5 1, 3) ∧ 107 + 3 = 110 ∧ Int32.ofInt 1 = 1 := ⟨by decide +kernel, rfl, by decide⟩
theorem i7_110 : decode m7.2.1 110 = .ok (.goto (-38), 3) ∧ 110 + 3 = 113 ∧ 0 ≤ ((110 : Nat) : Int) + (-38) ∧ (((110 : Nat) : Int) + (-38)).toNat = 72 := ⟨by decide +kernel, rfl, by decide, by decide⟩
theorem i7_113 : decode m7.2.1 113 = .ok (.aload 4, 2) ∧ 113 + 2 = 115 := ⟨by decide +kernel, rfl⟩
theorem i7_115 : decode m7.2.1 115 = .ok (.iload 7, 2) ∧ 115 + 2 = 117 := ⟨by decide +kernel, rfl⟩
theorem i7_117 : decode m7.2.1 117 = .ok (.iload 5, 2) ∧ 117 + 2 = 119 := ⟨by decide +kernel, rfl⟩
theorem i7_119 : decode m7.2.1 119 = .ok (.iastore, 1) ∧ 119 + 1 = 120 := ⟨by decide +kernel, rfl⟩
theorem i7_120 : decode m7.2.1 120 = .ok (.iload 5, 2) ∧ 120 + 2 = 122 := ⟨by decide +kernel, rfl⟩
theorem i7_122 : decode m7.2.1 122 = .ok (.ifCond .le 6, 3) ∧ 122 + 3 = 125 ∧ 0 ≤ ((122 : Nat) : Int) + 6 ∧ (((122 : Nat) : Int) + 6).toNat = 128 := ⟨by decide +kernel, rfl, by decide, by decide⟩
theorem i7_125 : decode m7.2.1 125 = .ok (.iinc 5 (-1), 3) ∧ 125 + 3 = 128 ∧ Int32.ofInt (-1) = (-1) := ⟨by decide +kernel, rfl, by decide⟩
theorem i7_128 : decode m7.2.1 128 = .ok (.iinc 6 1, 3) ∧ 128 + 3 = 131 ∧ Int32.ofInt 1 = 1 := ⟨by decide +kernel, rfl, by decide⟩
theorem i7_131 : decode m7.2.1 131 = .ok (.goto (-90), 3) ∧ 131 + 3 = 134 ∧ 0 ≤ ((131 : Nat) : Int) + (-90) ∧ (((131 : Nat) : Int) + (-90)).toNat = 41 := ⟨by decide +kernel, rfl, by decide, by decide⟩
theorem i7_134 : decode m7.2.1 134 = .ok (.aload 4, 2) ∧ 134 + 2 = 136 := ⟨by decide +kernel, rfl⟩
theorem i7_136 : decode m7.2.1 136 = .ok (.areturn, 1) := by decide +kernel
theorem i8_0 : decode m8.2.1 0 = .ok (.iload_n 3, 1) ∧ 0 + 1 = 1 := ⟨by decide +kernel, rfl⟩
theorem i8_1 : decode m8.2.1 1 = .ok (.aload_n 0, 1) ∧ 1 + 1 = 2 := ⟨by decide +kernel, rfl⟩
theorem i8_2 : decode m8.2.1 2 = .ok (.arraylength, 1) ∧ 2 + 1 = 3 := ⟨by decide +kernel, rfl⟩
theorem i8_3 : decode m8.2.1 3 = .ok (.if_icmp .lt 5, 3) ∧ 3 + 3 = 6 ∧ 0 ≤ ((3 : Nat) : Int) + 5 ∧ (((3 : Nat) : Int) + 5).toNat = 8 := ⟨by decide +kernel, rfl, by decide, by decide⟩
theorem i8_6 : decode m8.2.1 6 = .ok (.iconst 1, 1) ∧ 6 + 1 = 7 ∧ Int32.ofInt 1 = 1 := ⟨by decide +kernel, rfl, by decide⟩
theorem i8_7 : decode m8.2.1 7 = .ok (.ireturn, 1) := by decide +kernel
theorem i8_8 : decode m8.2.1 8 = .ok (.aload_n 2, 1) ∧ 8 + 1 = 9 := ⟨by decide +kernel, rfl⟩
theorem i8_9 : decode m8.2.1 9 = .ok (.iload_n 3, 1) ∧ 9 + 1 = 10 := ⟨by decide +kernel, rfl⟩
theorem i8_10 : decode m8.2.1 10 = .ok (.iaload, 1) ∧ 10 + 1 = 11 := ⟨by decide +kernel, rfl⟩
theorem i8_11 : decode m8.2.1 11 = .ok (.aload_n 0, 1) ∧ 11 + 1 = 12 := ⟨by decide +kernel, rfl⟩
theorem i8_12 : decode m8.2.1 12 = .ok (.aload_n 1, 1) ∧ 12 + 1 = 13 := ⟨by decide +kernel, rfl⟩
theorem i8_13 : decode m8.2.1 13 = .ok (.iload_n 3, 1) ∧ 13 + 1 = 14 := ⟨by decide +kernel, rfl⟩
theorem i8_14 : decode m8.2.1 14 = .ok (.iconst 1, 1) ∧ 14 + 1 = 15 ∧ Int32.ofInt 1 = 1 := ⟨by decide +kernel, rfl, by decide⟩
theorem i8_15 : decode m8.2.1 15 = .ok (.isub, 1) ∧ 15 + 1 = 16 := ⟨by decide +kernel, rfl⟩
theorem i8_16 : decode m8.2.1 16 = .ok (.iaload, 1) ∧ 16 + 1 = 17 := ⟨by decide +kernel, rfl⟩
theorem i8_17 : decode m8.2.1 17 = .ok (.aload_n 1, 1) ∧ 17 + 1 = 18 := ⟨by decide +kernel, rfl⟩
theorem i8_18 : decode m8.2.1 18 = .ok (.iload_n 3, 1) ∧ 18 + 1 = 19 := ⟨by decide +kernel, rfl⟩
theorem i8_19 : decode m8.2.1 19 = .ok (.iaload, 1) ∧ 19 + 1 = 20 := ⟨by decide +kernel, rfl⟩
theorem i8_20 : decode m8.2.1 20 = .ok (.invokestatic 13, 3) ∧ 20 + 3 = 23 := ⟨by decide +kernel, rfl⟩
theorem i8_23 : decode m8.2.1 23 = .ok (.if_icmp .ne 7, 3) ∧ 23 + 3 = 26 ∧ 0 ≤ ((23 : Nat) : Int) + 7 ∧ (((23 : Nat) : Int) + 7).toNat = 30 := ⟨by decide +kernel, rfl, by decide, by decide⟩
theorem i8_26 : decode m8.2.1 26 = .ok (.iconst 1, 1) ∧ 26 + 1 = 27 ∧ Int32.ofInt 1 = 1 := ⟨by decide +kernel, rfl, by decide⟩
theorem i8_27 : decode m8.2.1 27 = .ok (.goto 4, 3) ∧ 27 + 3 = 30 ∧ 0 ≤ ((27 : Nat) : Int) + 4 ∧ (((27 : Nat) : Int) + 4).toNat = 31 := ⟨by decide +kernel, rfl, by decide, by decide⟩
theorem i8_30 : decode m8.2.1 30 = .ok (.iconst 0, 1) ∧ 30 + 1 = 31 ∧ Int32.ofInt 0 = 0 := ⟨by decide +kernel, rfl, by decide⟩
theorem i8_31 : decode m8.2.1 31 = .ok (.ireturn, 1) := by decide +kernel
theorem i9_0 : decode m9.2.1 0 = .ok (.iload_n 0, 1) ∧ 0 + 1 = 1 := ⟨by decide +kernel, rfl⟩
theorem i9_1 : decode m9.2.1 1 = .ok (.iconst 2, 1) ∧ 1 + 1 = 2 ∧ Int32.ofInt 2 = 2 := ⟨by decide +kernel, rfl, by decide⟩
theorem i9_2 : decode m9.2.1 2 = .ok (.iload_n 1, 1) ∧ 2 + 1 = 3 := ⟨by decide +kernel, rfl⟩
theorem i9_3 : decode m9.2.1 3 = .ok (.imul, 1) ∧ 3 + 1 = 4 := ⟨by decide +kernel, rfl⟩
theorem i9_4 : decode m9.2.1 4 = .ok (.ishr, 1) ∧ 4 + 1 = 5 := ⟨by decide +kernel, rfl⟩
theorem i9_5 : decode m9.2.1 5 = .ok (.iconst 3, 1) ∧ 5 + 1 = 6 ∧ Int32.ofInt 3 = 3 := ⟨by decide +kernel, rfl, by decide⟩
theorem i9_6 : decode m9.2.1 6 = .ok (.iand, 1) ∧ 6 + 1 = 7 := ⟨by decide +kernel, rfl⟩
theorem i9_7 : decode m9.2.1 7 = .ok (.istore_n 3, 1) ∧ 7 + 1 = 8 := ⟨by decide +kernel, rfl⟩
theorem i9_8 : decode m9.2.1 8 = .ok (.iload_n 2, 1) ∧ 8 + 1 = 9 := ⟨by decide +kernel, rfl⟩
theorem i9_9 : decode m9.2.1 9 = .ok (.ifCond .eq 9, 3) ∧ 9 + 3 = 12 ∧ 0 ≤ ((9 : Nat) : Int) + 9 ∧ (((9 : Nat) : Int) + 9).toNat = 18 := ⟨by decide +kernel, rfl, by decide, by decide⟩
theorem i9_12 : decode m9.2.1 12 = .ok (.iload_n 3, 1) ∧ 12 + 1 = 13 := ⟨by decide +kernel, rfl⟩
theorem i9_13 : decode m9.2.1 13 = .ok (.iconst 1, 1) ∧ 13 + 1 = 14 ∧ Int32.ofInt 1 = 1 := ⟨by decide +kernel, rfl, by decide⟩
theorem i9_14 : decode m9.2.1 14 = .ok (.iadd, 1) ∧ 14 + 1 = 15 := ⟨by decide +kernel, rfl⟩
theorem i9_15 : decode m9.2.1 15 = .ok (.goto 4, 3) ∧ 15 + 3 = 18 ∧ 0 ≤ ((15 : Nat) : Int) + 4 ∧ (((15 : Nat) : Int) + 4).toNat = 19 := ⟨by decide +kernel, rfl, by decide, by decide⟩
theorem i9_18 : decode m9.2.1 18 = .ok (.iload_n 3, 1) ∧ 18 + 1 = 19 := ⟨by decide +kernel, rfl⟩
theorem i9_19 : decode m9.2.1 19 = .ok (.ireturn, 1) := by decide +kernel
theorem i10_0 : decode m10.2.1 0 = .ok (.aload_n 0, 1) ∧ 0 + 1 = 1 := ⟨by decide +kernel, rfl⟩
theorem i10_1 : decode m10.2.1 1 = .ok (.iload_n 1, 1) ∧ 1 + 1 = 2 := ⟨by decide +kernel, rfl⟩
theorem i10_2 : decode m10.2.1 2 = .ok (.iload_n 2, 1) ∧ 2 + 1 = 3 := ⟨by decide +kernel, rfl⟩
theorem i10_3 : decode m10.2.1 3 = .ok (.iconst 0, 1) ∧ 3 + 1 = 4 ∧ Int32.ofInt 0 = 0 := ⟨by decide +kernel, rfl, by decide⟩
theorem i10_4 : decode m10.2.1 4 = .ok (.invokestatic 7, 3) ∧ 4 + 3 = 7 := ⟨by decide +kernel, rfl⟩
theorem i10_7 : decode m10.2.1 7 = .ok (.ifCond .ne 5, 3) ∧ 7 + 3 = 10 ∧ 0 ≤ ((7 : Nat) : Int) + 5 ∧ (((7 : Nat) : Int) + 5).toNat = 12 := ⟨by decide +kernel, rfl, by decide, by decide⟩
theorem i10_10 : decode m10.2.1 10 = .ok (.iconst 0, 1) ∧ 10 + 1 = 11 ∧ Int32.ofInt 0 = 0 := ⟨by decide +kernel, rfl, by decide⟩
theorem i10_11 : decode m10.2.1 11 = .ok (.ireturn, 1) := by decide +kernel
theorem i10_12 : decode m10.2.1 12 = .ok (.aload_n 0, 1) ∧ 12 + 1 = 13 := ⟨by decide +kernel, rfl⟩
theorem i10_13 : decode m10.2.1 13 = .ok (.iload_n 1, 1) ∧ 13 + 1 = 14 := ⟨by decide +kernel, rfl⟩
theorem i10_14 : decode m10.2.1 14 = .ok (.iload_n 2, 1) ∧ 14 + 1 = 15 := ⟨by decide +kernel, rfl⟩
theorem i10_15 : decode m10.2.1 15 = .ok (.iconst 1, 1) ∧ 15 + 1 = 16 ∧ Int32.ofInt 1 = 1 := ⟨by decide +kernel, rfl, by decide⟩
theorem i10_16 : decode m10.2.1 16 = .ok (.invokestatic 7, 3) ∧ 16 + 3 = 19 := ⟨by decide +kernel, rfl⟩
theorem i10_19 : decode m10.2.1 19 = .ok (.ifCond .ne 5, 3) ∧ 19 + 3 = 22 ∧ 0 ≤ ((19 : Nat) : Int) + 5 ∧ (((19 : Nat) : Int) + 5).toNat = 24 := ⟨by decide +kernel, rfl, by decide, by decide⟩
theorem i10_22 : decode m10.2.1 22 = .ok (.iconst 1, 1) ∧ 22 + 1 = 23 ∧ Int32.ofInt 1 = 1 := ⟨by decide +kernel, rfl, by decide⟩
theorem i10_23 : decode m10.2.1 23 = .ok (.ireturn, 1) := by decide +kernel
theorem i10_24 : decode m10.2.1 24 = .ok (.aload_n 0, 1) ∧ 24 + 1 = 25 := ⟨by decide +kernel, rfl⟩
theorem i10_25 : decode m10.2.1 25 = .ok (.iload_n 1, 1) ∧ 25 + 1 = 26 := ⟨by decide +kernel, rfl⟩
theorem i10_26 : decode m10.2.1 26 = .ok (.iload_n 2, 1) ∧ 26 + 1 = 27 := ⟨by decide +kernel, rfl⟩
theorem i10_27 : decode m10.2.1 27 = .ok (.iconst 2, 1) ∧ 27 + 1 = 28 ∧ Int32.ofInt 2 = 2 := ⟨by decide +kernel, rfl, by decide⟩
theorem i10_28 : decode m10.2.1 28 = .ok (.invokestatic 7, 3) ∧ 28 + 3 = 31 := ⟨by decide +kernel, rfl⟩
theorem i10_31 : decode m10.2.1 31 = .ok (.ifCond .ne 5, 3) ∧ 31 + 3 = 34 ∧ 0 ≤ ((31 : Nat) : Int) + 5 ∧ (((31 : Nat) : Int) + 5).toNat = 36 := ⟨by decide +kernel, rfl, by decide, by decide⟩
theorem i10_34 : decode m10.2.1 34 = .ok (.iconst 2, 1) ∧ 34 + 1 = 35 ∧ Int32.ofInt 2 = 2 := ⟨by decide +kernel, rfl, by decide⟩
theorem i10_35 : decode m10.2.1 35 = .ok (.ireturn, 1) := by decide +kernel
theorem i10_36 : decode m10.2.1 36 = .ok (.aload_n 0, 1) ∧ 36 + 1 = 37 := ⟨by decide +kernel, rfl⟩
theorem i10_37 : decode m10.2.1 37 = .ok (.iload_n 1, 1) ∧ 37 + 1 = 38 := ⟨by decide +kernel, rfl⟩
theorem i10_38 : decode m10.2.1 38 = .ok (.iload_n 2, 1) ∧ 38 + 1 = 39 := ⟨by decide +kernel, rfl⟩
theorem i10_39 : decode m10.2.1 39 = .ok (.iconst 3, 1) ∧ 39 + 1 = 40 ∧ Int32.ofInt 3 = 3 := ⟨by decide +kernel, rfl, by decide⟩
theorem i10_40 : decode m10.2.1 40 = .ok (.invokestatic 7, 3) ∧ 40 + 3 = 43 := ⟨by decide +kernel, rfl⟩
theorem i10_43 : decode m10.2.1 43 = .ok (.ifCond .ne 5, 3) ∧ 43 + 3 = 46 ∧ 0 ≤ ((43 : Nat) : Int) + 5 ∧ (((43 : Nat) : Int) + 5).toNat = 48 := ⟨by decide +kernel, rfl, by decide, by decide⟩
theorem i10_46 : decode m10.2.1 46 = .ok (.iconst 3, 1) ∧ 46 + 1 = 47 ∧ Int32.ofInt 3 = 3 := ⟨by decide +kernel, rfl, by decide⟩
theorem i10_47 : decode m10.2.1 47 = .ok (.ireturn, 1) := by decide +kernel
theorem i10_48 : decode m10.2.1 48 = .ok (.aload_n 0, 1) ∧ 48 + 1 = 49 := ⟨by decide +kernel, rfl⟩
theorem i10_49 : decode m10.2.1 49 = .ok (.iload_n 1, 1) ∧ 49 + 1 = 50 := ⟨by decide +kernel, rfl⟩
theorem i10_50 : decode m10.2.1 50 = .ok (.iload_n 2, 1) ∧ 50 + 1 = 51 := ⟨by decide +kernel, rfl⟩
theorem i10_51 : decode m10.2.1 51 = .ok (.iconst 4, 1) ∧ 51 + 1 = 52 ∧ Int32.ofInt 4 = 4 := ⟨by decide +kernel, rfl, by decide⟩
theorem i10_52 : decode m10.2.1 52 = .ok (.invokestatic 7, 3) ∧ 52 + 3 = 55 := ⟨by decide +kernel, rfl⟩
theorem i10_55 : decode m10.2.1 55 = .ok (.ifCond .ne 5, 3) ∧ 55 + 3 = 58 ∧ 0 ≤ ((55 : Nat) : Int) + 5 ∧ (((55 : Nat) : Int) + 5).toNat = 60 := ⟨by decide +kernel, rfl, by decide, by decide⟩
theorem i10_58 : decode m10.2.1 58 = .ok (.iconst 4, 1) ∧ 58 + 1 = 59 ∧ Int32.ofInt 4 = 4 := ⟨by decide +kernel, rfl, by decide⟩
theorem i10_59 : decode m10.2.1 59 = .ok (.ireturn, 1) := by decide +kernel
theorem i10_60 : decode m10.2.1 60 = .ok (.iconst 5, 1) ∧ 60 + 1 = 61 ∧ Int32.ofInt 5 = 5 := ⟨by decide +kernel, rfl, by decide⟩
theorem i10_61 : decode m10.2.1 61 = .ok (.ireturn, 1) := by decide +kernel
theorem i11_0 : decode m11.2.1 0 = .ok (.aload_n 0, 1) ∧ 0 + 1 = 1 := ⟨by decide +kernel, rfl⟩
theorem i11_1 : decode m11.2.1 1 = .ok (.arraylength, 1) ∧ 1 + 1 = 2 := ⟨by decide +kernel, rfl⟩
theorem i11_2 : decode m11.2.1 2 = .ok (.istore 4, 2) ∧ 2 + 2 = 4 := ⟨by decide +kernel, rfl⟩
theorem i11_4 : decode m11.2.1 4 = .ok (.iload_n 1, 1) ∧ 4 + 1 = 5 := ⟨by decide +kernel, rfl⟩
theorem i11_5 : decode m11.2.1 5 = .ok (.iload_n 3, 1) ∧ 5 + 1 = 6 := ⟨by decide +kernel, rfl⟩
theorem i11_6 : decode m11.2.1 6 = .ok (.iadd, 1) ∧ 6 + 1 = 7 := ⟨by decide +kernel, rfl⟩
theorem i11_7 : decode m11.2.1 7 = .ok (.iload 4, 2) ∧ 7 + 2 = 9 := ⟨by decide +kernel, rfl⟩
theorem i11_9 : decode m11.2.1 9 = .ok (.if_icmp .ge 28, 3) ∧ 9 + 3 = 12 ∧ 0 ≤ ((9 : Nat) : Int) + 28 ∧ (((9 : Nat) : Int) + 28).toNat = 37 := ⟨by decide +kernel, rfl, by decide, by decide⟩
theorem i11_12 : decode m11.2.1 12 = .ok (.iload_n 2, 1) ∧ 12 + 1 = 13 := ⟨by decide +kernel, rfl⟩
theorem i11_13 : decode m11.2.1 13 = .ok (.iload_n 3, 1) ∧ 13 + 1 = 14 := ⟨by decide +kernel, rfl⟩
theorem i11_14 : decode m11.2.1 14 = .ok (.iadd, 1) ∧ 14 + 1 = 15 := ⟨by decide +kernel, rfl⟩
theorem i11_15 : decode m11.2.1 15 = .ok (.iload 4, 2) ∧ 15 + 2 = 17 := ⟨by decide +kernel, rfl⟩
theorem i11_17 : decode m11.2.1 17 = .ok (.if_icmp .ge 20, 3) ∧ 17 + 3 = 20 ∧ 0 ≤ ((17 : Nat) : Int) + 20 ∧ (((17 : Nat) : Int) + 20).toNat = 37 := ⟨by decide +kernel, rfl, by decide, by decide⟩
theorem i11_20 : decode m11.2.1 20 = .ok (.aload_n 0, 1) ∧ 20 + 1 = 21 := ⟨by decide +kernel, rfl⟩
theorem i11_21 : decode m11.2.1 21 = .ok (.iload_n 1, 1) ∧ 21 + 1 = 22 := ⟨by decide +kernel, rfl⟩
theorem i11_22 : decode m11.2.1 22 = .ok (.iload_n 3, 1) ∧ 22 + 1 = 23 := ⟨by decide +kernel, rfl⟩
theorem i11_23 : decode m11.2.1 23 = .ok (.iadd, 1) ∧ 23 + 1 = 24 := ⟨by decide +kernel, rfl⟩
theorem i11_24 : decode m11.2.1 24 = .ok (.iaload, 1) ∧ 24 + 1 = 25 := ⟨by decide +kernel, rfl⟩
theorem i11_25 : decode m11.2.1 25 = .ok (.aload_n 0, 1) ∧ 25 + 1 = 26 := ⟨by decide +kernel, rfl⟩
theorem i11_26 : decode m11.2.1 26 = .ok (.iload_n 2, 1) ∧ 26 + 1 = 27 := ⟨by decide +kernel, rfl⟩
theorem i11_27 : decode m11.2.1 27 = .ok (.iload_n 3, 1) ∧ 27 + 1 = 28 := ⟨by decide +kernel, rfl⟩
theorem i11_28 : decode m11.2.1 28 = .ok (.iadd, 1) ∧ 28 + 1 = 29 := ⟨by decide +kernel, rfl⟩
theorem i11_29 : decode m11.2.1 29 = .ok (.iaload, 1) ∧ 29 + 1 = 30 := ⟨by decide +kernel, rfl⟩
theorem i11_30 : decode m11.2.1 30 = .ok (.if_icmp .ne 7, 3) ∧ 30 + 3 = 33 ∧ 0 ≤ ((30 : Nat) : Int) + 7 ∧ (((30 : Nat) : Int) + 7).toNat = 37 := ⟨by decide +kernel, rfl, by decide, by decide⟩
theorem i11_33 : decode m11.2.1 33 = .ok (.iconst 1, 1) ∧ 33 + 1 = 34 ∧ Int32.ofInt 1 = 1 := ⟨by decide +kernel, rfl, by decide⟩
theorem i11_34 : decode m11.2.1 34 = .ok (.goto 4, 3) ∧ 34 + 3 = 37 ∧ 0 ≤ ((34 : Nat) : Int) + 4 ∧ (((34 : Nat) : Int) + 4).toNat = 38 := ⟨by decide +kernel, rfl, by decide, by decide⟩
theorem i11_37 : decode m11.2.1 37 = .ok (.iconst 0, 1) ∧ 37 + 1 = 38 ∧ Int32.ofInt 0 = 0 := ⟨by decide +kernel, rfl, by decide⟩
theorem i11_38 : decode m11.2.1 38 = .ok (.ireturn, 1) := by decide +kernel
theorem i12_0 : decode m12.2.1 0 = .ok (.iload_n 1, 1) ∧ 0 + 1 = 1 := ⟨by decide +kernel, rfl⟩
theorem i12_1 : decode m12.2.1 1 = .ok (.aload_n 0, 1) ∧ 1 + 1 = 2 := ⟨by decide +kernel, rfl⟩
theorem i12_2 : decode m12.2.1 2 = .ok (.arraylength, 1) ∧ 2 + 1 = 3 := ⟨by decide +kernel, rfl⟩
theorem i12_3 : decode m12.2.1 3 = .ok (.if_icmp .ge 9, 3) ∧ 3 + 3 = 6 ∧ 0 ≤ ((3 : Nat) : Int) + 9 ∧ (((3 : Nat) : Int) + 9).toNat = 12 := ⟨by decide +kernel, rfl, by decide, by decide⟩
theorem i12_6 : decode m12.2.1 6 = .ok (.aload_n 0, 1) ∧ 6 + 1 = 7 := ⟨by decide +kernel, rfl⟩
theorem i12_7 : decode m12.2.1 7 = .ok (.iload_n 1, 1) ∧ 7 + 1 = 8 := ⟨by decide +kernel, rfl⟩
theorem i12_8 : decode m12.2.1 8 = .ok (.iaload, 1) ∧ 8 + 1 = 9 := ⟨by decide +kernel, rfl⟩
theorem i12_9 : decode m12.2.1 9 = .ok (.goto 4, 3) ∧ 9 + 3 = 12 ∧ 0 ≤ ((9 : Nat) : Int) + 4 ∧ (((9 : Nat) : Int) + 4).toNat = 13 := ⟨by decide +kernel, rfl, by decide, by decide⟩
theorem i12_12 : decode m12.2.1 12 = .ok (.iconst (-1), 1) ∧ 12 + 1 = 13 ∧ Int32.ofInt (-1) = (-1) := ⟨by decide +kernel, rfl, by decide⟩
theorem i12_13 : decode m12.2.1 13 = .ok (.ireturn, 1) := by decide +kernel
theorem s0_2 {l : Launch} {Z : State} {a0 : Array Value} {n0 : Nat} {ls : List Slot} {st : List Value} {H H' : List Ob} {v : Option Value} (hw : HW Z a0) (kk : Runs K l Z n0 m0 4 ls (.int 2147483647 :: st) H v H') : Runs K l Z n0 m0 2 ls st H v H' := r_ldc i0_2 (hw _ (List.mem_of_getElem? (i := 0) rfl)) kk
theorem s0_23 {l : Launch} {Z : State} {a0 : Array Value} {n0 : Nat} {ls : List Slot} {st : List Value} {H H' H1 : List Ob} {v : Option Value} (hw : HW Z a0) {a : Nat} {n : Int32} {o : List Value} (hn : ¬ n < 0) (h8 : n.toNatClampNeg * 8 ≤ 536870912) (ho : List.replicate n.toNatClampNeg (.int 0) = o) (ha : H.length = a) (hH : H ++ [.inr (.int, o)] = H1) (kk : Runs K l Z n0 m0 25 ls (.ref a :: st) H1 v H') : Runs K l Z n0 m0 23 ls (.int n :: st) H v H' := r_newA i0_23 (hw _ (List.mem_of_getElem? (i := 1) rfl)) hn h8 ho ha hH kk
theorem s0_39 {l : Launch} {Z : State} {a0 : Array Value} {n0 : Nat} {ls : List Slot} {st : List Value} {H H' H1 : List Ob} {v : Option Value} (hw : HW Z a0) {x0 x1 x2 : Value} {w : Value} (M : Meets K l Z n0 m9 [x0, x1, x2] H (some w) H1) (hls : ls.length = 8) (hlo : (st.map fun v => v.category).sum ≤ 60) (kk : Runs K l Z n0 m0 42 ls (w :: st) H1 v H') : Runs K l Z n0 m0 39 ls (x2 :: x1 :: x0 :: st) H v H' := r_static (mj := m9) (as := [x0, x1, x2]) (rest := st) i0_39 (hw _ (List.mem_of_getElem? (i := 43) rfl)) (hw _ (List.mem_of_getElem? (i := 44) rfl)) (hw _ (List.mem_of_getElem? (i := 41) rfl)) (hw _ (List.mem_of_getElem? (i := 45) rfl)) (by decide) (lenOf pd9 rfl) (by decide) rfl hls (by show _ + (4 + 11) + 0 ≤ 75; omega) M kk
theorem s0_55 {l : Launch} {Z : State} {a0 : Array Value} {n0 : Nat} {ls : List Slot} {st : List Value} {H H' H1 : List Ob} {v : Option Value} (hw : HW Z a0) {x0 x1 x2 : Value} {w : Value} (M : Meets K l Z n0 m9 [x0, x1, x2] H (some w) H1) (hls : ls.length = 8) (hlo : (st.map fun v => v.category).sum ≤ 60) (kk : Runs K l Z n0 m0 58 ls (w :: st) H1 v H') : Runs K l Z n0 m0 55 ls (x2 :: x1 :: x0 :: st) H v H' := r_static (mj := m9) (as := [x0, x1, x2]) (rest := st) i0_55 (hw _ (List.mem_of_getElem? (i := 43) rfl)) (hw _ (List.mem_of_getElem? (i := 44) rfl)) (hw _ (List.mem_of_getElem? (i := 41) rfl)) (hw _ (List.mem_of_getElem? (i := 45) rfl)) (by decide) (lenOf pd9 rfl) (by decide) rfl hls (by show _ + (4 + 11) + 0 ≤ 75; omega) M kk
theorem s0_71 {l : Launch} {Z : State} {a0 : Array Value} {n0 : Nat} {ls : List Slot} {st : List Value} {H H' H1 : List Ob} {v : Option Value} (hw : HW Z a0) {x0 x1 x2 : Value} {w : Value} (M : Meets K l Z n0 m9 [x0, x1, x2] H (some w) H1) (hls : ls.length = 8) (hlo : (st.map fun v => v.category).sum ≤ 60) (kk : Runs K l Z n0 m0 74 ls (w :: st) H1 v H') : Runs K l Z n0 m0 71 ls (x2 :: x1 :: x0 :: st) H v H' := r_static (mj := m9) (as := [x0, x1, x2]) (rest := st) i0_71 (hw _ (List.mem_of_getElem? (i := 43) rfl)) (hw _ (List.mem_of_getElem? (i := 44) rfl)) (hw _ (List.mem_of_getElem? (i := 41) rfl)) (hw _ (List.mem_of_getElem? (i := 45) rfl)) (by decide) (lenOf pd9 rfl) (by decide) rfl hls (by show _ + (4 + 11) + 0 ≤ 75; omega) M kk
theorem s0_87 {l : Launch} {Z : State} {a0 : Array Value} {n0 : Nat} {ls : List Slot} {st : List Value} {H H' H1 : List Ob} {v : Option Value} (hw : HW Z a0) {x0 x1 x2 : Value} {w : Value} (M : Meets K l Z n0 m9 [x0, x1, x2] H (some w) H1) (hls : ls.length = 8) (hlo : (st.map fun v => v.category).sum ≤ 60) (kk : Runs K l Z n0 m0 90 ls (w :: st) H1 v H') : Runs K l Z n0 m0 87 ls (x2 :: x1 :: x0 :: st) H v H' := r_static (mj := m9) (as := [x0, x1, x2]) (rest := st) i0_87 (hw _ (List.mem_of_getElem? (i := 43) rfl)) (hw _ (List.mem_of_getElem? (i := 44) rfl)) (hw _ (List.mem_of_getElem? (i := 41) rfl)) (hw _ (List.mem_of_getElem? (i := 45) rfl)) (by decide) (lenOf pd9 rfl) (by decide) rfl hls (by show _ + (4 + 11) + 0 ≤ 75; omega) M kk
theorem s0_110 {l : Launch} {Z : State} {a0 : Array Value} {n0 : Nat} {ls : List Slot} {st : List Value} {H H' H1 : List Ob} {v : Option Value} (hw : HW Z a0) {x0 x1 : Value} {w : Value} (M : Meets K l Z n0 m1 [x0, x1] H (some w) H1) (hls : ls.length = 8) (hlo : (st.map fun v => v.category).sum ≤ 0) (kk : Runs K l Z n0 m0 113 ls (w :: st) H1 v H') : Runs K l Z n0 m0 110 ls (x1 :: x0 :: st) H v H' := r_static (mj := m1) (as := [x0, x1]) (rest := st) i0_110 (hw _ (List.mem_of_getElem? (i := 2) rfl)) (hw _ (List.mem_of_getElem? (i := 3) rfl)) (hw _ (List.mem_of_getElem? (i := 4) rfl)) (hw _ (List.mem_of_getElem? (i := 5) rfl)) (by decide) (lenOf pd1 rfl) (by decide) rfl hls (by show _ + (14 + 11) + 50 ≤ 75; omega) M kk
theorem s0_119 {l : Launch} {Z : State} {a0 : Array Value} {n0 : Nat} {ls : List Slot} {st : List Value} {H H' H1 : List Ob} {v : Option Value} (hw : HW Z a0) {x0 x1 : Value} {w : Value} (M : Meets K l Z n0 m7 [x0, x1] H (some w) H1) (hls : ls.length = 8) (hlo : (st.map fun v => v.category).sum ≤ 55) (kk : Runs K l Z n0 m0 122 ls (w :: st) H1 v H') : Runs K l Z n0 m0 119 ls (x1 :: x0 :: st) H v H' := r_static (mj := m7) (as := [x0, x1]) (rest := st) i0_119 (hw _ (List.mem_of_getElem? (i := 36) rfl)) (hw _ (List.mem_of_getElem? (i := 37) rfl)) (hw _ (List.mem_of_getElem? (i := 4) rfl)) (hw _ (List.mem_of_getElem? (i := 38) rfl)) (by decide) (lenOf pd7 rfl) (by decide) rfl hls (by show _ + (9 + 11) + 0 ≤ 75; omega) M kk
theorem s0_149 {l : Launch} {Z : State} {a0 : Array Value} {n0 : Nat} {ls : List Slot} {st : List Value} {H H' H1 : List Ob} {v : Option Value} (hw : HW Z a0) {x0 x1 x2 x3 : Value} {w : Value} (M : Meets K l Z n0 m8 [x0, x1, x2, x3] H (some w) H1) (hls : ls.length = 8) (hlo : (st.map fun v => v.category).sum ≤ 29) (kk : Runs K l Z n0 m0 152 ls (w :: st) H1 v H') : Runs K l Z n0 m0 149 ls (x3 :: x2 :: x1 :: x0 :: st) H v H' := r_static (mj := m8) (as := [x0, x1, x2, x3]) (rest := st) i0_149 (hw _ (List.mem_of_getElem? (i := 39) rfl)) (hw _ (List.mem_of_getElem? (i := 40) rfl)) (hw _ (List.mem_of_getElem? (i := 41) rfl)) (hw _ (List.mem_of_getElem? (i := 42) rfl)) (by decide) (lenOf pd8 rfl) (by decide) rfl hls (by show _ + (4 + 11) + 31 ≤ 75; omega) M kk
theorem s0_162 {l : Launch} {Z : State} {a0 : Array Value} {n0 : Nat} {ls : List Slot} {st : List Value} {H H' H1 : List Ob} {v : Option Value} (hw : HW Z a0) {x0 x1 x2 x3 : Value} {w : Value} (M : Meets K l Z n0 m8 [x0, x1, x2, x3] H (some w) H1) (hls : ls.length = 8) (hlo : (st.map fun v => v.category).sum ≤ 29) (kk : Runs K l Z n0 m0 165 ls (w :: st) H1 v H') : Runs K l Z n0 m0 162 ls (x3 :: x2 :: x1 :: x0 :: st) H v H' := r_static (mj := m8) (as := [x0, x1, x2, x3]) (rest := st) i0_162 (hw _ (List.mem_of_getElem? (i := 39) rfl)) (hw _ (List.mem_of_getElem? (i := 40) rfl)) (hw _ (List.mem_of_getElem? (i := 41) rfl)) (hw _ (List.mem_of_getElem? (i := 42) rfl)) (by decide) (lenOf pd8 rfl) (by decide) rfl hls (by show _ + (4 + 11) + 31 ≤ 75; omega) M kk
theorem s0_175 {l : Launch} {Z : State} {a0 : Array Value} {n0 : Nat} {ls : List Slot} {st : List Value} {H H' H1 : List Ob} {v : Option Value} (hw : HW Z a0) {x0 x1 x2 x3 : Value} {w : Value} (M : Meets K l Z n0 m8 [x0, x1, x2, x3] H (some w) H1) (hls : ls.length = 8) (hlo : (st.map fun v => v.category).sum ≤ 29) (kk : Runs K l Z n0 m0 178 ls (w :: st) H1 v H') : Runs K l Z n0 m0 175 ls (x3 :: x2 :: x1 :: x0 :: st) H v H' := r_static (mj := m8) (as := [x0, x1, x2, x3]) (rest := st) i0_175 (hw _ (List.mem_of_getElem? (i := 39) rfl)) (hw _ (List.mem_of_getElem? (i := 40) rfl)) (hw _ (List.mem_of_getElem? (i := 41) rfl)) (hw _ (List.mem_of_getElem? (i := 42) rfl)) (by decide) (lenOf pd8 rfl) (by decide) rfl hls (by show _ + (4 + 11) + 31 ≤ 75; omega) M kk
theorem s0_188 {l : Launch} {Z : State} {a0 : Array Value} {n0 : Nat} {ls : List Slot} {st : List Value} {H H' H1 : List Ob} {v : Option Value} (hw : HW Z a0) {x0 x1 x2 x3 : Value} {w : Value} (M : Meets K l Z n0 m8 [x0, x1, x2, x3] H (some w) H1) (hls : ls.length = 8) (hlo : (st.map fun v => v.category).sum ≤ 29) (kk : Runs K l Z n0 m0 191 ls (w :: st) H1 v H') : Runs K l Z n0 m0 188 ls (x3 :: x2 :: x1 :: x0 :: st) H v H' := r_static (mj := m8) (as := [x0, x1, x2, x3]) (rest := st) i0_188 (hw _ (List.mem_of_getElem? (i := 39) rfl)) (hw _ (List.mem_of_getElem? (i := 40) rfl)) (hw _ (List.mem_of_getElem? (i := 41) rfl)) (hw _ (List.mem_of_getElem? (i := 42) rfl)) (by decide) (lenOf pd8 rfl) (by decide) rfl hls (by show _ + (4 + 11) + 31 ≤ 75; omega) M kk
theorem s1_4 {l : Launch} {Z : State} {a0 : Array Value} {n0 : Nat} {ls : List Slot} {st : List Value} {H H' H1 : List Ob} {v : Option Value} (hw : HW Z a0) {a : Nat} {n : Int32} {o : List Value} (hn : ¬ n < 0) (h8 : n.toNatClampNeg * 8 ≤ 536870912) (ho : List.replicate n.toNatClampNeg (.int 0) = o) (ha : H.length = a) (hH : H ++ [.inr (.int, o)] = H1) (kk : Runs K l Z n0 m1 6 ls (.ref a :: st) H1 v H') : Runs K l Z n0 m1 4 ls (.int n :: st) H v H' := r_newA i1_4 (hw _ (List.mem_of_getElem? (i := 1) rfl)) hn h8 ho ha hH kk
theorem s1_9 {l : Launch} {Z : State} {a0 : Array Value} {n0 : Nat} {ls : List Slot} {st : List Value} {H H' H1 : List Ob} {v : Option Value} (hw : HW Z a0) {x0 x1 : Value} {w : Value} (M : Meets K l Z n0 m2 [x0, x1] H (some w) H1) (hls : ls.length = 14) (hlo : (st.map fun v => v.category).sum ≤ 22) (kk : Runs K l Z n0 m1 12 ls (w :: st) H1 v H') : Runs K l Z n0 m1 9 ls (x1 :: x0 :: st) H v H' := r_static (mj := m2) (as := [x0, x1]) (rest := st) i1_9 (hw _ (List.mem_of_getElem? (i := 6) rfl)) (hw _ (List.mem_of_getElem? (i := 7) rfl)) (hw _ (List.mem_of_getElem? (i := 8) rfl)) (hw _ (List.mem_of_getElem? (i := 9) rfl)) (by decide) (lenOf pd2 rfl) (by decide) rfl hls (by show _ + (3 + 11) + 14 ≤ 50; omega) M kk
theorem s1_15 {l : Launch} {Z : State} {a0 : Array Value} {n0 : Nat} {ls : List Slot} {st : List Value} {H H' H1 : List Ob} {v : Option Value} (hw : HW Z a0) {a : Nat} {n : Int32} {o : List Value} (hn : ¬ n < 0) (h8 : n.toNatClampNeg * 8 ≤ 536870912) (ho : List.replicate n.toNatClampNeg (.int 0) = o) (ha : H.length = a) (hH : H ++ [.inr (.int, o)] = H1) (kk : Runs K l Z n0 m1 17 ls (.ref a :: st) H1 v H') : Runs K l Z n0 m1 15 ls (.int n :: st) H v H' := r_newA i1_15 (hw _ (List.mem_of_getElem? (i := 1) rfl)) hn h8 ho ha hH kk
theorem s1_21 {l : Launch} {Z : State} {a0 : Array Value} {n0 : Nat} {ls : List Slot} {st : List Value} {H H' H1 : List Ob} {v : Option Value} (hw : HW Z a0) {x0 x1 : Value} {w : Value} (M : Meets K l Z n0 m3 [x0, x1] H (some w) H1) (hls : ls.length = 14) (hlo : (st.map fun v => v.category).sum ≤ 37) (kk : Runs K l Z n0 m1 24 ls (w :: st) H1 v H') : Runs K l Z n0 m1 21 ls (x1 :: x0 :: st) H v H' := r_static (mj := m3) (as := [x0, x1]) (rest := st) i1_21 (hw _ (List.mem_of_getElem? (i := 19) rfl)) (hw _ (List.mem_of_getElem? (i := 20) rfl)) (hw _ (List.mem_of_getElem? (i := 21) rfl)) (hw _ (List.mem_of_getElem? (i := 22) rfl)) (by decide) (lenOf pd3 rfl) (by decide) rfl hls (by show _ + (2 + 11) + 0 ≤ 50; omega) M kk
theorem s1_26 {l : Launch} {Z : State} {a0 : Array Value} {n0 : Nat} {ls : List Slot} {st : List Value} {H H' H1 : List Ob} {v : Option Value} (hw : HW Z a0) {a : Nat} {n : Int32} {o : List Value} (hn : ¬ n < 0) (h8 : n.toNatClampNeg * 8 ≤ 536870912) (ho : List.replicate n.toNatClampNeg (.int 0) = o) (ha : H.length = a) (hH : H ++ [.inr (.int, o)] = H1) (kk : Runs K l Z n0 m1 28 ls (.ref a :: st) H1 v H') : Runs K l Z n0 m1 26 ls (.int n :: st) H v H' := r_newA i1_26 (hw _ (List.mem_of_getElem? (i := 1) rfl)) hn h8 ho ha hH kk
theorem s1_63 {l : Launch} {Z : State} {a0 : Array Value} {n0 : Nat} {ls : List Slot} {st : List Value} {H H' H1 : List Ob} {v : Option Value} (hw : HW Z a0) {x0 x1 x2 x3 x4 : Value} (M : Meets K l Z n0 m4 [x0, x1, x2, x3, x4] H none H1) (hls : ls.length = 14) (hlo : (st.map fun v => v.category).sum ≤ 0) (kk : Runs K l Z n0 m1 66 ls st H1 v H') : Runs K l Z n0 m1 63 ls (x4 :: x3 :: x2 :: x1 :: x0 :: st) H v H' := r_static (mj := m4) (as := [x0, x1, x2, x3, x4]) (rest := st) i1_63 (hw _ (List.mem_of_getElem? (i := 23) rfl)) (hw _ (List.mem_of_getElem? (i := 24) rfl)) (hw _ (List.mem_of_getElem? (i := 4) rfl)) (hw _ (List.mem_of_getElem? (i := 25) rfl)) (by decide) (lenOf pd4 rfl) (by decide) rfl hls (by show _ + (9 + 11) + 30 ≤ 50; omega) M kk
theorem s1_82 {l : Launch} {Z : State} {a0 : Array Value} {n0 : Nat} {ls : List Slot} {st : List Value} {H H' H1 : List Ob} {v : Option Value} (hw : HW Z a0) {x0 x1 : Value} {w : Value} (M : Meets K l Z n0 m3 [x0, x1] H (some w) H1) (hls : ls.length = 14) (hlo : (st.map fun v => v.category).sum ≤ 37) (kk : Runs K l Z n0 m1 85 ls (w :: st) H1 v H') : Runs K l Z n0 m1 82 ls (x1 :: x0 :: st) H v H' := r_static (mj := m3) (as := [x0, x1]) (rest := st) i1_82 (hw _ (List.mem_of_getElem? (i := 19) rfl)) (hw _ (List.mem_of_getElem? (i := 20) rfl)) (hw _ (List.mem_of_getElem? (i := 21) rfl)) (hw _ (List.mem_of_getElem? (i := 22) rfl)) (by decide) (lenOf pd3 rfl) (by decide) rfl hls (by show _ + (2 + 11) + 0 ≤ 50; omega) M kk
theorem s1_166 {l : Launch} {Z : State} {a0 : Array Value} {n0 : Nat} {ls : List Slot} {st : List Value} {H H' H1 : List Ob} {v : Option Value} (hw : HW Z a0) {a b : Nat} {ty : FieldType} {vs wd wd' : List Value} {sp dp nn : Int32} {spN dpN nN : Nat} (hty : refKind ty = false) (ho : H[a]? = some (.inr (ty, vs))) (ho' : H[b]? = some (.inr (ty, wd))) (h1 : Ix sp spN) (h2 : Ix dp dpN) (h3 : Ix nn nN) (h4 : spN + nN ≤ vs.length) (h5 : dpN + nN ≤ wd.length) (hwd : wd.take dpN ++ (vs.drop spN).take nN ++ wd.drop (dpN + nN) = wd') (hH : H.set b (.inr (ty, wd')) = H1) (hls : ls.length = 14) (hlo : (st.map fun v => v.category).sum ≤ 32) (kk : Runs K l Z n0 m1 169 ls st H1 v H') : Runs K l Z n0 m1 166 ls (.int nn :: .int dp :: .ref b :: .int sp :: .ref a :: st) H v H' := r_acopy i1_166 (hw _ (List.mem_of_getElem? (i := 32) rfl)) (hw _ (List.mem_of_getElem? (i := 35) rfl)) (hw _ (List.mem_of_getElem? (i := 33) rfl)) (hw _ (List.mem_of_getElem? (i := 34) rfl)) hty ho ho' h1 h2 h3 h4 h5 hwd hH hls (by decide) (Nat.add_le_add_right hlo 18) kk
theorem s1_178 {l : Launch} {Z : State} {a0 : Array Value} {n0 : Nat} {ls : List Slot} {st : List Value} {H H' H1 : List Ob} {v : Option Value} (hw : HW Z a0) {x0 x1 x2 x3 x4 : Value} (M : Meets K l Z n0 m4 [x0, x1, x2, x3, x4] H none H1) (hls : ls.length = 14) (hlo : (st.map fun v => v.category).sum ≤ 0) (kk : Runs K l Z n0 m1 181 ls st H1 v H') : Runs K l Z n0 m1 178 ls (x4 :: x3 :: x2 :: x1 :: x0 :: st) H v H' := r_static (mj := m4) (as := [x0, x1, x2, x3, x4]) (rest := st) i1_178 (hw _ (List.mem_of_getElem? (i := 23) rfl)) (hw _ (List.mem_of_getElem? (i := 24) rfl)) (hw _ (List.mem_of_getElem? (i := 4) rfl)) (hw _ (List.mem_of_getElem? (i := 25) rfl)) (by decide) (lenOf pd4 rfl) (by decide) rfl hls (by show _ + (9 + 11) + 30 ≤ 50; omega) M kk
theorem s1_234 {l : Launch} {Z : State} {a0 : Array Value} {n0 : Nat} {ls : List Slot} {st : List Value} {H H' H1 : List Ob} {v : Option Value} (hw : HW Z a0) {x0 x1 : Value} {w : Value} (M : Meets K l Z n0 m12 [x0, x1] H (some w) H1) (hls : ls.length = 14) (hlo : (st.map fun v => v.category).sum ≤ 37) (kk : Runs K l Z n0 m1 237 ls (w :: st) H1 v H') : Runs K l Z n0 m1 234 ls (x1 :: x0 :: st) H v H' := r_static (mj := m12) (as := [x0, x1]) (rest := st) i1_234 (hw _ (List.mem_of_getElem? (i := 52) rfl)) (hw _ (List.mem_of_getElem? (i := 53) rfl)) (hw _ (List.mem_of_getElem? (i := 4) rfl)) (hw _ (List.mem_of_getElem? (i := 54) rfl)) (by decide) (lenOf pd12 rfl) (by decide) rfl hls (by show _ + (2 + 11) + 0 ≤ 50; omega) M kk
theorem s1_244 {l : Launch} {Z : State} {a0 : Array Value} {n0 : Nat} {ls : List Slot} {st : List Value} {H H' H1 : List Ob} {v : Option Value} (hw : HW Z a0) {x0 x1 : Value} {w : Value} (M : Meets K l Z n0 m12 [x0, x1] H (some w) H1) (hls : ls.length = 14) (hlo : (st.map fun v => v.category).sum ≤ 37) (kk : Runs K l Z n0 m1 247 ls (w :: st) H1 v H') : Runs K l Z n0 m1 244 ls (x1 :: x0 :: st) H v H' := r_static (mj := m12) (as := [x0, x1]) (rest := st) i1_244 (hw _ (List.mem_of_getElem? (i := 52) rfl)) (hw _ (List.mem_of_getElem? (i := 53) rfl)) (hw _ (List.mem_of_getElem? (i := 4) rfl)) (hw _ (List.mem_of_getElem? (i := 54) rfl)) (by decide) (lenOf pd12 rfl) (by decide) rfl hls (by show _ + (2 + 11) + 0 ≤ 50; omega) M kk
theorem s2_7 {l : Launch} {Z : State} {a0 : Array Value} {n0 : Nat} {ls : List Slot} {st : List Value} {H H' H1 : List Ob} {v : Option Value} (hw : HW Z a0) {a b : Nat} {vs : List Value} (ho : H[a]? = some (.inr (.int, vs))) (ha : H.length = b) (hH : H ++ [.inr (.int, vs)] = H1) (hls : ls.length = 3) (hlo : (st.map fun v => v.category).sum ≤ 0) (kk : Runs K l Z n0 m2 10 ls (.ref b :: st) H1 v H') : Runs K l Z n0 m2 7 ls (.ref a :: st) H v H' := r_clone (ty := .int) (ad := "[I") i2_7 (by decide) (hw _ (List.mem_of_getElem? (i := 10) rfl)) (hw _ (List.mem_of_getElem? (i := 11) rfl)) (hw _ (List.mem_of_getElem? (i := 15) rfl)) (hw _ (List.mem_of_getElem? (i := 13) rfl)) (hw _ (List.mem_of_getElem? (i := 14) rfl)) (hw _ (List.mem_of_getElem? (i := 16) rfl)) ho ha hH hls (by decide) (Nat.add_le_add_right hlo 14) kk
theorem s2_10 {l : Launch} {Z : State} {a0 : Array Value} {n0 : Nat} {ls : List Slot} {st : List Value} {H H' : List Ob} {v : Option Value} (hw : HW Z a0) {a : Nat} {vs : List Value} (ho : H[a]? = some (.inr (.int, vs))) (kk : Runs K l Z n0 m2 13 ls (.ref a :: st) H v H') : Runs K l Z n0 m2 10 ls (.ref a :: st) H v H' := r_castA (ty := .int) (ad := "[I") i2_10 (by decide) (hw _ (List.mem_of_getElem? (i := 17) rfl)) ho kk
theorem s2_15 {l : Launch} {Z : State} {a0 : Array Value} {n0 : Nat} {ls : List Slot} {st : List Value} {H H' H1 : List Ob} {v : Option Value} (hw : HW Z a0) {a : Nat} {n : Int32} {o : List Value} (hn : ¬ n < 0) (h8 : n.toNatClampNeg * 8 ≤ 536870912) (ho : List.replicate n.toNatClampNeg (.int 0) = o) (ha : H.length = a) (hH : H ++ [.inr (.int, o)] = H1) (kk : Runs K l Z n0 m2 17 ls (.ref a :: st) H1 v H') : Runs K l Z n0 m2 15 ls (.int n :: st) H v H' := r_newA i2_15 (hw _ (List.mem_of_getElem? (i := 1) rfl)) hn h8 ho ha hH kk
-- 2_25 .invokestatic 304: no link word
-- 2_28 .invokestatic 150: no link word
theorem s4_7 {l : Launch} {Z : State} {a0 : Array Value} {n0 : Nat} {ls : List Slot} {st : List Value} {H H' H1 : List Ob} {v : Option Value} (hw : HW Z a0) {x0 x1 x2 x3 : Value} (M : Meets K l Z n0 m5 [x0, x1, x2, x3] H none H1) (hls : ls.length = 9) (hlo : (st.map fun v => v.category).sum ≤ 0) (kk : Runs K l Z n0 m4 10 ls st H1 v H') : Runs K l Z n0 m4 7 ls (x3 :: x2 :: x1 :: x0 :: st) H v H' := r_static (mj := m5) (as := [x0, x1, x2, x3]) (rest := st) i4_7 (hw _ (List.mem_of_getElem? (i := 26) rfl)) (hw _ (List.mem_of_getElem? (i := 27) rfl)) (hw _ (List.mem_of_getElem? (i := 8) rfl)) (hw _ (List.mem_of_getElem? (i := 28) rfl)) (by decide) (lenOf pd5 rfl) (by decide) rfl hls (by show _ + (5 + 11) + 14 ≤ 30; omega) M kk
theorem s4_134 {l : Launch} {Z : State} {a0 : Array Value} {n0 : Nat} {ls : List Slot} {st : List Value} {H H' H1 : List Ob} {v : Option Value} (hw : HW Z a0) {a b : Nat} {ty : FieldType} {vs wd wd' : List Value} {sp dp nn : Int32} {spN dpN nN : Nat} (hty : refKind ty = false) (ho : H[a]? = some (.inr (ty, vs))) (ho' : H[b]? = some (.inr (ty, wd))) (h1 : Ix sp spN) (h2 : Ix dp dpN) (h3 : Ix nn nN) (h4 : spN + nN ≤ vs.length) (h5 : dpN + nN ≤ wd.length) (hwd : wd.take dpN ++ (vs.drop spN).take nN ++ wd.drop (dpN + nN) = wd') (hH : H.set b (.inr (ty, wd')) = H1) (hls : ls.length = 9) (hlo : (st.map fun v => v.category).sum ≤ 12) (kk : Runs K l Z n0 m4 137 ls st H1 v H') : Runs K l Z n0 m4 134 ls (.int nn :: .int dp :: .ref b :: .int sp :: .ref a :: st) H v H' := r_acopy i4_134 (hw _ (List.mem_of_getElem? (i := 32) rfl)) (hw _ (List.mem_of_getElem? (i := 35) rfl)) (hw _ (List.mem_of_getElem? (i := 33) rfl)) (hw _ (List.mem_of_getElem? (i := 34) rfl)) hty ho ho' h1 h2 h3 h4 h5 hwd hH hls (by decide) (Nat.add_le_add_right hlo 18) kk
theorem s5_4 {l : Launch} {Z : State} {a0 : Array Value} {n0 : Nat} {ls : List Slot} {st : List Value} {H H' H1 : List Ob} {v : Option Value} (hw : HW Z a0) {x0 x1 x2 : Value} (M : Meets K l Z n0 m6 [x0, x1, x2] H none H1) (hls : ls.length = 5) (hlo : (st.map fun v => v.category).sum ≤ 0) (kk : Runs K l Z n0 m5 7 ls st H1 v H') : Runs K l Z n0 m5 4 ls (x2 :: x1 :: x0 :: st) H v H' := r_static (mj := m6) (as := [x0, x1, x2]) (rest := st) i5_4 (hw _ (List.mem_of_getElem? (i := 29) rfl)) (hw _ (List.mem_of_getElem? (i := 30) rfl)) (hw _ (List.mem_of_getElem? (i := 8) rfl)) (hw _ (List.mem_of_getElem? (i := 31) rfl)) (by decide) (lenOf pd6 rfl) (by decide) rfl hls (by show _ + (3 + 11) + 0 ≤ 14; omega) M kk
-- 6_5 .new 43: no link word
-- 6_9 .new 45: no link word
-- 6_13 .invokespecial 47: no link word
-- 6_16 .ldc 48: no link word
-- 6_18 .invokevirtual 50: no link word
-- 6_22 .invokevirtual 54: no link word
-- 6_25 .ldc 57: no link word
-- 6_27 .invokevirtual 50: no link word
-- 6_31 .invokevirtual 54: no link word
-- 6_34 .ldc 59: no link word
-- 6_36 .invokevirtual 50: no link word
-- 6_39 .invokevirtual 61: no link word
-- 6_42 .invokespecial 65: no link word
-- 6_50 .new 68: no link word
-- 6_55 .invokespecial 70: no link word
-- 6_64 .new 68: no link word
-- 6_69 .invokespecial 70: no link word
theorem s7_4 {l : Launch} {Z : State} {a0 : Array Value} {n0 : Nat} {ls : List Slot} {st : List Value} {H H' H1 : List Ob} {v : Option Value} (hw : HW Z a0) {a : Nat} {n : Int32} {o : List Value} (hn : ¬ n < 0) (h8 : n.toNatClampNeg * 8 ≤ 536870912) (ho : List.replicate n.toNatClampNeg (.int 0) = o) (ha : H.length = a) (hH : H ++ [.inr (.int, o)] = H1) (kk : Runs K l Z n0 m7 6 ls (.ref a :: st) H1 v H') : Runs K l Z n0 m7 4 ls (.int n :: st) H v H' := r_newA i7_4 (hw _ (List.mem_of_getElem? (i := 1) rfl)) hn h8 ho ha hH kk
theorem s7_31 {l : Launch} {Z : State} {a0 : Array Value} {n0 : Nat} {ls : List Slot} {st : List Value} {H H' H1 : List Ob} {v : Option Value} (hw : HW Z a0) {a : Nat} {n : Int32} {o : List Value} (hn : ¬ n < 0) (h8 : n.toNatClampNeg * 8 ≤ 536870912) (ho : List.replicate n.toNatClampNeg (.int 0) = o) (ha : H.length = a) (hH : H ++ [.inr (.int, o)] = H1) (kk : Runs K l Z n0 m7 33 ls (.ref a :: st) H1 v H') : Runs K l Z n0 m7 31 ls (.int n :: st) H v H' := r_newA i7_31 (hw _ (List.mem_of_getElem? (i := 1) rfl)) hn h8 ho ha hH kk
theorem s8_20 {l : Launch} {Z : State} {a0 : Array Value} {n0 : Nat} {ls : List Slot} {st : List Value} {H H' H1 : List Ob} {v : Option Value} (hw : HW Z a0) {x0 x1 x2 : Value} {w : Value} (M : Meets K l Z n0 m10 [x0, x1, x2] H (some w) H1) (hls : ls.length = 4) (hlo : (st.map fun v => v.category).sum ≤ 1) (kk : Runs K l Z n0 m8 23 ls (w :: st) H1 v H') : Runs K l Z n0 m8 20 ls (x2 :: x1 :: x0 :: st) H v H' := r_static (mj := m10) (as := [x0, x1, x2]) (rest := st) i8_20 (hw _ (List.mem_of_getElem? (i := 46) rfl)) (hw _ (List.mem_of_getElem? (i := 47) rfl)) (hw _ (List.mem_of_getElem? (i := 41) rfl)) (hw _ (List.mem_of_getElem? (i := 48) rfl)) (by decide) (lenOf pd10 rfl) (by decide) rfl hls (by show _ + (3 + 11) + 16 ≤ 31; omega) M kk
theorem s10_4 {l : Launch} {Z : State} {a0 : Array Value} {n0 : Nat} {ls : List Slot} {st : List Value} {H H' H1 : List Ob} {v : Option Value} (hw : HW Z a0) {x0 x1 x2 x3 : Value} {w : Value} (M : Meets K l Z n0 m11 [x0, x1, x2, x3] H (some w) H1) (hls : ls.length = 3) (hlo : (st.map fun v => v.category).sum ≤ 0) (kk : Runs K l Z n0 m10 7 ls (w :: st) H1 v H') : Runs K l Z n0 m10 4 ls (x3 :: x2 :: x1 :: x0 :: st) H v H' := r_static (mj := m11) (as := [x0, x1, x2, x3]) (rest := st) i10_4 (hw _ (List.mem_of_getElem? (i := 49) rfl)) (hw _ (List.mem_of_getElem? (i := 50) rfl)) (hw _ (List.mem_of_getElem? (i := 41) rfl)) (hw _ (List.mem_of_getElem? (i := 51) rfl)) (by decide) (lenOf pd11 rfl) (by decide) rfl hls (by show _ + (5 + 11) + 0 ≤ 16; omega) M kk
theorem s10_16 {l : Launch} {Z : State} {a0 : Array Value} {n0 : Nat} {ls : List Slot} {st : List Value} {H H' H1 : List Ob} {v : Option Value} (hw : HW Z a0) {x0 x1 x2 x3 : Value} {w : Value} (M : Meets K l Z n0 m11 [x0, x1, x2, x3] H (some w) H1) (hls : ls.length = 3) (hlo : (st.map fun v => v.category).sum ≤ 0) (kk : Runs K l Z n0 m10 19 ls (w :: st) H1 v H') : Runs K l Z n0 m10 16 ls (x3 :: x2 :: x1 :: x0 :: st) H v H' := r_static (mj := m11) (as := [x0, x1, x2, x3]) (rest := st) i10_16 (hw _ (List.mem_of_getElem? (i := 49) rfl)) (hw _ (List.mem_of_getElem? (i := 50) rfl)) (hw _ (List.mem_of_getElem? (i := 41) rfl)) (hw _ (List.mem_of_getElem? (i := 51) rfl)) (by decide) (lenOf pd11 rfl) (by decide) rfl hls (by show _ + (5 + 11) + 0 ≤ 16; omega) M kk
theorem s10_28 {l : Launch} {Z : State} {a0 : Array Value} {n0 : Nat} {ls : List Slot} {st : List Value} {H H' H1 : List Ob} {v : Option Value} (hw : HW Z a0) {x0 x1 x2 x3 : Value} {w : Value} (M : Meets K l Z n0 m11 [x0, x1, x2, x3] H (some w) H1) (hls : ls.length = 3) (hlo : (st.map fun v => v.category).sum ≤ 0) (kk : Runs K l Z n0 m10 31 ls (w :: st) H1 v H') : Runs K l Z n0 m10 28 ls (x3 :: x2 :: x1 :: x0 :: st) H v H' := r_static (mj := m11) (as := [x0, x1, x2, x3]) (rest := st) i10_28 (hw _ (List.mem_of_getElem? (i := 49) rfl)) (hw _ (List.mem_of_getElem? (i := 50) rfl)) (hw _ (List.mem_of_getElem? (i := 41) rfl)) (hw _ (List.mem_of_getElem? (i := 51) rfl)) (by decide) (lenOf pd11 rfl) (by decide) rfl hls (by show _ + (5 + 11) + 0 ≤ 16; omega) M kk
theorem s10_40 {l : Launch} {Z : State} {a0 : Array Value} {n0 : Nat} {ls : List Slot} {st : List Value} {H H' H1 : List Ob} {v : Option Value} (hw : HW Z a0) {x0 x1 x2 x3 : Value} {w : Value} (M : Meets K l Z n0 m11 [x0, x1, x2, x3] H (some w) H1) (hls : ls.length = 3) (hlo : (st.map fun v => v.category).sum ≤ 0) (kk : Runs K l Z n0 m10 43 ls (w :: st) H1 v H') : Runs K l Z n0 m10 40 ls (x3 :: x2 :: x1 :: x0 :: st) H v H' := r_static (mj := m11) (as := [x0, x1, x2, x3]) (rest := st) i10_40 (hw _ (List.mem_of_getElem? (i := 49) rfl)) (hw _ (List.mem_of_getElem? (i := 50) rfl)) (hw _ (List.mem_of_getElem? (i := 41) rfl)) (hw _ (List.mem_of_getElem? (i := 51) rfl)) (by decide) (lenOf pd11 rfl) (by decide) rfl hls (by show _ + (5 + 11) + 0 ≤ 16; omega) M kk
theorem s10_52 {l : Launch} {Z : State} {a0 : Array Value} {n0 : Nat} {ls : List Slot} {st : List Value} {H H' H1 : List Ob} {v : Option Value} (hw : HW Z a0) {x0 x1 x2 x3 : Value} {w : Value} (M : Meets K l Z n0 m11 [x0, x1, x2, x3] H (some w) H1) (hls : ls.length = 3) (hlo : (st.map fun v => v.category).sum ≤ 0) (kk : Runs K l Z n0 m10 55 ls (w :: st) H1 v H') : Runs K l Z n0 m10 52 ls (x3 :: x2 :: x1 :: x0 :: st) H v H' := r_static (mj := m11) (as := [x0, x1, x2, x3]) (rest := st) i10_52 (hw _ (List.mem_of_getElem? (i := 49) rfl)) (hw _ (List.mem_of_getElem? (i := 50) rfl)) (hw _ (List.mem_of_getElem? (i := 41) rfl)) (hw _ (List.mem_of_getElem? (i := 51) rfl)) (by decide) (lenOf pd11 rfl) (by decide) rfl hls (by show _ + (5 + 11) + 0 ≤ 16; omega) M kk
abbrev EV : Type := Nat ⊕ Option Nat
abbrev RR : Type := Option (Option EV × List (List Nat))
abbrev Sx : Type := List EV → List EV → List (List Nat) → RR
def fn (n : Nat) (κ : Nat → RR) : RR := Nat.rec (motive := fun _ => RR) (κ 0) (fun m _ => κ (Nat.succ m)) n
def atK {α : Type} (L : List α) (k : Nat) (κ : α → RR) : RR := Nat.rec (motive := fun _ => List α → RR) (fun L => List.casesOn (motive := fun _ => RR) L none (fun x _ => κ x)) (fun _ g L => List.casesOn (motive := fun _ => RR) L none (fun _ t => g t)) k L
def setK {α : Type} (L : List α) (k : Nat) (x : α) (κ : List α → RR) : RR := Nat.rec (motive := fun _ => List α → (List α → RR) → RR) (fun L κ => List.casesOn (motive := fun _ => RR) L none (fun _ t => κ (x :: t))) (fun _ g L κ => List.casesOn (motive := fun _ => RR) L none (fun y t => g t (fun t' => κ (y :: t')))) k L κ
def appK {α : Type} : List α → α → (List α → RR) → RR
  | [], x, κ => κ [x]
  | y :: t, x, κ => appK t x (fun t' => κ (y :: t'))
def repK (n : Nat) : (List Nat → RR) → RR := Nat.rec (motive := fun _ => (List Nat → RR) → RR) (fun κ => κ []) (fun _ g κ => g (fun t => κ (0 :: t))) n
def lenK {α : Type} : List α → (Nat → RR) → RR
  | [], κ => κ 0
  | _ :: t, κ => lenK t (fun n => κ (Nat.succ n))
def unK {α : Type} (L : List α) (κ : α → List α → RR) : RR := List.casesOn (motive := fun _ => RR) L none (fun x t => κ x t)
def cpK (n : Nat) : List Nat → List Nat → (List Nat → RR) → RR := Nat.rec (motive := fun _ => List Nat → List Nat → (List Nat → RR) → RR) (fun _ B κ => κ B) (fun _ g A B κ => unK A fun a A => unK B fun _ B => g A B (fun B' => κ (a :: B'))) n
def isI (x : EV) (κ : Nat → RR) : RR := Sum.casesOn (motive := fun _ => RR) x κ (fun _ => none)
def isR (x : EV) (κ : Nat → RR) : RR := Sum.casesOn (motive := fun _ => RR) x (fun _ => none) (fun o => Option.casesOn (motive := fun _ => RR) o none κ)
def nu (x : EV) (κ : RR) : RR := Sum.casesOn (motive := fun _ => RR) x (fun _ => κ) (fun o => Option.casesOn (motive := fun _ => RR) o none (fun _ => κ))
def takeK (k : Nat) : List EV → List EV → (List EV → List EV → RR) → RR := Nat.rec (motive := fun _ => List EV → List EV → (List EV → List EV → RR) → RR) (fun S as κ => κ as S) (fun _ g S as κ => unK S fun x S => nu x (g S (x :: as) κ)) k
def padK (n : Nat) (as : List EV) (κ : List EV → RR) : RR := Nat.rec (motive := fun _ => List EV → (List EV → RR) → RR) (fun _ κ => κ []) (fun _ g as κ => List.casesOn (motive := fun _ => RR) as (g [] (fun t => κ (.inr none :: t))) (fun a as => g as (fun t => κ (a :: t)))) n as κ
def gd (b : Bool) (x : RR) : RR := cond b x none
def oIld (k : Nat) (κ : Sx) : Sx := fun L S H => atK L k fun x => isI x fun x => κ L (.inl x :: S) H
def oAld (k : Nat) (κ : Sx) : Sx := fun L S H => atK L k fun x => isR x fun x => κ L (.inr (some x) :: S) H
def oIst (k : Nat) (κ : Sx) : Sx := fun L S H => unK S fun x S => isI x fun x => setK L k (.inl x) fun L => κ L S H
def oAst (k : Nat) (κ : Sx) : Sx := fun L S H => unK S fun x S => isR x fun x => setK L k (.inr (some x)) fun L => κ L S H
def oCon (x : Nat) (κ : Sx) : Sx := fun L S H => κ L (.inl x :: S) H
def oAdd (κ : Sx) : Sx := fun L S H => unK S fun y S => isI y fun y => unK S fun x S => isI x fun x => fn (Nat.add x y) fun z => κ L (.inl z :: S) H
def oSub (κ : Sx) : Sx := fun L S H => unK S fun y S => isI y fun y => unK S fun x S => isI x fun x => gd (Nat.ble y x) (fn (Nat.sub x y) fun z => κ L (.inl z :: S) H)
def oMul (κ : Sx) : Sx := fun L S H => unK S fun y S => isI y fun y => unK S fun x S => isI x fun x => fn (Nat.mul x y) fun z => κ L (.inl z :: S) H
def oInc (k c : Nat) (κ : Sx) : Sx := fun L S H => atK L k fun x => isI x fun x => fn (Nat.add x c) fun z => setK L k (.inl z) fun L => κ L S H
def oDec (k : Nat) (κ : Sx) : Sx := fun L S H => atK L k fun x => isI x fun x => gd (Nat.ble 1 x) (fn (Nat.sub x 1) fun z => setK L k (.inl z) fun L => κ L S H)
def oLen (κ : Sx) : Sx := fun L S H => unK S fun a S => isR a fun a => atK H a fun A => lenK A fun z => κ L (.inl z :: S) H
def oNew (κ : Sx) : Sx := fun L S H => unK S fun n S => isI n fun n => gd (Nat.ble n 100) (repK n fun A => lenK H fun z => appK H A fun H => κ L (.inr (some z) :: S) H)
def oLd (κ : Sx) : Sx := fun L S H => unK S fun x S => isI x fun x => unK S fun a S => isR a fun a => gd (Nat.ble x 100) (atK H a fun A => atK A x fun v => κ L (.inl v :: S) H)
def oSt (κ : Sx) : Sx := fun L S H => unK S fun v S => isI v fun v => unK S fun x S => isI x fun x => unK S fun a S => isR a fun a => gd (Nat.ble x 100) (atK H a fun A => setK A x v fun A => setK H a A fun H => κ L S H)
def oDup2 (κ : Sx) : Sx := fun L S H => unK S fun x S => unK S fun y S => κ L (x :: y :: x :: y :: S) H
def oDupX2 (κ : Sx) : Sx := fun L S H => unK S fun x S => unK S fun y S => unK S fun z S => κ L (x :: y :: z :: x :: S) H
def oEq (t f : Sx) : Sx := fun L S H => unK S fun y S => isI y fun y => unK S fun x S => isI x fun x => gd (and (Nat.ble x 4294967295) (Nat.ble y 4294967295)) (cond (Nat.beq x y) (t L S H) (f L S H))
def oLt (t f : Sx) : Sx := fun L S H => unK S fun y S => isI y fun y => unK S fun x S => isI x fun x => gd (and (Nat.ble x 2147483647) (Nat.ble y 2147483647)) (cond (Nat.ble y x) (f L S H) (t L S H))
def oGt (t f : Sx) : Sx := fun L S H => unK S fun y S => isI y fun y => unK S fun x S => isI x fun x => gd (and (Nat.ble x 2147483647) (Nat.ble y 2147483647)) (cond (Nat.ble x y) (f L S H) (t L S H))
def oZ (t f : Sx) : Sx := fun L S H => unK S fun x S => isI x fun x => gd (Nat.ble x 2147483647) (cond (Nat.beq x 0) (t L S H) (f L S H))
def oZge (t : Sx) : Sx := fun L S H => unK S fun x S => isI x fun x => gd (Nat.ble x 2147483647) (t L S H)
def toR (r : RR) (κ : EV → List (List Nat) → RR) : RR := Option.casesOn (motive := fun _ => RR) r none (fun p => Prod.casesOn (motive := fun _ => RR) p (fun o H => Option.casesOn (motive := fun _ => RR) o none (fun w => κ w H)))
def toV (r : RR) (κ : List (List Nat) → RR) : RR := Option.casesOn (motive := fun _ => RR) r none (fun p => Prod.casesOn (motive := fun _ => RR) p (fun o H => Option.casesOn (motive := fun _ => RR) o (κ H) (fun _ => none)))
def oCallR (f : Sx) (mx k q : Nat) (κ : Sx) : Sx := fun L S H => takeK k S [] fun as S => lenK S fun z => gd (Nat.ble z q) (padK mx as fun L' => toR (f L' [] H) fun w H => κ L (w :: S) H)
def oCallV (f : Sx) (mx k q : Nat) (κ : Sx) : Sx := fun L S H => takeK k S [] fun as S => lenK S fun z => gd (Nat.ble z q) (padK mx as fun L' => toV (f L' [] H) fun H => κ L S H)
def oCopy (q : Nat) (κ : Sx) : Sx := fun L S H => unK S fun n S => isI n fun n => unK S fun d S => isI d fun d => unK S fun b S => isR b fun b => unK S fun s S => isI s fun s => unK S fun a S => isR a fun a => lenK S fun z => gd (and (Nat.ble z q) (and (Nat.ble n 100) (and (Nat.beq d 0) (Nat.beq s 0)))) (atK H a fun A => atK H b fun B => cpK n A B fun B => setK H b B fun H => κ L S H)
def oClone (q : Nat) (κ : Sx) : Sx := fun L S H => unK S fun a S => isR a fun a => lenK S fun z => gd (Nat.ble z q) (atK H a fun A => lenK H fun z => appK H A fun H => κ L (.inr (some z) :: S) H)
def oCast (κ : Sx) : Sx := fun L S H => unK S fun a S => isR a fun a => atK H a fun _ => κ L (.inr (some a) :: S) H
def oIret : Sx := fun _ S H => unK S fun x _ => isI x fun x => some (some (.inl x), H)
def oZret : Sx := fun _ S H => unK S fun x _ => isI x fun x => gd (Nat.ble x 1) (some (some (.inl x), H))
def oAret : Sx := fun _ S H => unK S fun x _ => isR x fun x => some (some (.inr (some x)), H)
def oVret : Sx := fun _ S H => List.casesOn (motive := fun _ => RR) S (some (none, H)) (fun _ _ => none)
def ev (code : (Nat → Nat → Sx) → Nat → Nat → Sx) (n : Nat) : Nat → Nat → Sx := Nat.rec (motive := fun _ => Nat → Nat → Sx) (fun _ _ _ _ _ => none) (fun _ ih => code ih) n
def b1_0 (ih : Nat → Nat → Sx) : Sx := (oAld 0 (oLen (oIst 2 (oIld 2 (oNew (oAst 3 (oAld 0 (oIld 2 (oCallR (ih 2 0) 3 2 22 (oAst 4 (oIld 2 (oNew (oAst 5 (oIld 1 (oIld 2 (oCallR (ih 3 0) 2 2 37 (oCon 1 (oAdd (oNew (oAst 6 (oIld 1 (oIst 7 (oCon 0 (oIst 8 (ih 1 36)))))))))))))))))))))))))
def b1_36 (ih : Nat → Nat → Sx) : Sx := (oIld 8 (oIld 2 (oLt (oAld 3 (oIld 8 (oIld 8 (oSt (oInc 8 1 (ih 1 36)))))) (ih 1 54))))
def b1_54 (ih : Nat → Nat → Sx) : Sx := (oAld 3 (oAld 4 (oAld 5 (oAld 6 (oIld 7 (oCallV (ih 4 0) 9 5 0 (oCon 1 (oIst 8 (ih 1 69)))))))))
def b1_69 (ih : Nat → Nat → Sx) : Sx := (oIld 2 (oCon 1 (oGt (oCon 0 (oIst 9 (oIld 2 (oIld 8 (oSub (oCon 0 (oCallR (ih 3 0) 2 2 37 (oIst 10 (ih 1 87))))))))) (ih 1 315))))
def b1_87 (ih : Nat → Nat → Sx) : Sx := (oIld 10 (oIld 2 (oLt (oAld 5 (oIld 9 (oInc 9 1 (oIld 10 (oSt (oInc 10 1 (ih 1 87))))))) (ih 1 109))))
def b1_109 (ih : Nat → Nat → Sx) : Sx := (oAld 3 (oAst 10 (oAld 10 (oLen (oIst 11 (oCon 0 (oIst 12 (ih 1 120))))))))
def b1_120 (ih : Nat → Nat → Sx) : Sx := (oIld 12 (oIld 11 (oLt (oAld 10 (oIld 12 (oLd (oIst 13 (oIld 13 (oIld 8 (oLt (ih 1 154) (oAld 5 (oIld 9 (oInc 9 1 (oIld 13 (oIld 8 (oSub (oSt (ih 1 154))))))))))))))) (ih 1 160))))
def b1_154 (ih : Nat → Nat → Sx) : Sx := (oInc 12 1 (ih 1 120))
def b1_160 (ih : Nat → Nat → Sx) : Sx := (oAld 5 (oCon 0 (oAld 3 (oCon 0 (oIld 2 (oCopy 32 (oAld 3 (oAld 4 (oAld 5 (oAld 6 (oIld 7 (oCallV (ih 4 0) 9 5 0 (oAld 5 (oAld 3 (oCon 0 (oLd (oCon 0 (oSt (oCon 1 (oIst 7 (oCon 1 (oIst 10 (ih 1 194)))))))))))))))))))))))
def b1_194 (ih : Nat → Nat → Sx) : Sx := (oIld 10 (oIld 2 (oLt (oAld 3 (oIld 10 (oCon 1 (oSub (oLd (oIst 11 (oAld 3 (oIld 10 (oLd (oIst 12 (oAld 4 (oIld 11 (oLd (oAld 4 (oIld 12 (oLd (oEq (oAld 4 (oIld 11 (oIld 8 (oAdd (oCallR (ih 12 0) 2 2 37 (oAld 4 (oIld 12 (oIld 8 (oAdd (oCallR (ih 12 0) 2 2 37 (oEq (oCon 1 (ih 1 255)) (ih 1 254)))))))))))) (ih 1 254)))))))))))))))))) (ih 1 285))))
def b1_254 (ih : Nat → Nat → Sx) : Sx := (oCon 0 (ih 1 255))
def b1_255 (ih : Nat → Nat → Sx) : Sx := (oIst 13 (oAld 5 (oIld 12 (oIld 13 (oZ (ih 1 273) (oIld 7 (oCon 1 (oSub (ih 1 278)))))))))
def b1_273 (ih : Nat → Nat → Sx) : Sx := (oIld 7 (oInc 7 1 (ih 1 278)))
def b1_278 (ih : Nat → Nat → Sx) : Sx := (oSt (oInc 10 1 (ih 1 194)))
def b1_285 (ih : Nat → Nat → Sx) : Sx := (oAld 4 (oAst 10 (oAld 5 (oAst 4 (oAld 10 (oAst 5 (oIld 7 (oIld 2 (oEq (ih 1 315) (ih 1 306))))))))))
def b1_306 (ih : Nat → Nat → Sx) : Sx := (oIld 8 (oCon 2 (oMul (oIst 8 (ih 1 69)))))
def b1_315 (ih : Nat → Nat → Sx) : Sx := (oAld 3 oAret)
def tab1 (ih : Nat → Nat → Sx) (pc : Nat) : Sx := (cond (Nat.beq pc 160) (b1_160 ih) (cond (Nat.ble pc 160) (cond (Nat.beq pc 87) (b1_87 ih) (cond (Nat.ble pc 87) (cond (Nat.beq pc 54) (b1_54 ih) (cond (Nat.ble pc 54) (cond (Nat.beq pc 36) (b1_36 ih) (cond (Nat.ble pc 36) (cond (Nat.beq pc 0) (b1_0 ih) (cond (Nat.ble pc 0) (fun _ _ _ => none) (fun _ _ _ => none))) (fun _ _ _ => none))) (cond (Nat.beq pc 69) (b1_69 ih) (cond (Nat.ble pc 69) (fun _ _ _ => none) (fun _ _ _ => none))))) (cond (Nat.beq pc 120) (b1_120 ih) (cond (Nat.ble pc 120) (cond (Nat.beq pc 109) (b1_109 ih) (cond (Nat.ble pc 109) (fun _ _ _ => none) (fun _ _ _ => none))) (cond (Nat.beq pc 154) (b1_154 ih) (cond (Nat.ble pc 154) (fun _ _ _ => none) (fun _ _ _ => none))))))) (cond (Nat.beq pc 278) (b1_278 ih) (cond (Nat.ble pc 278) (cond (Nat.beq pc 255) (b1_255 ih) (cond (Nat.ble pc 255) (cond (Nat.beq pc 254) (b1_254 ih) (cond (Nat.ble pc 254) (cond (Nat.beq pc 194) (b1_194 ih) (cond (Nat.ble pc 194) (fun _ _ _ => none) (fun _ _ _ => none))) (fun _ _ _ => none))) (cond (Nat.beq pc 273) (b1_273 ih) (cond (Nat.ble pc 273) (fun _ _ _ => none) (fun _ _ _ => none))))) (cond (Nat.beq pc 306) (b1_306 ih) (cond (Nat.ble pc 306) (cond (Nat.beq pc 285) (b1_285 ih) (cond (Nat.ble pc 285) (fun _ _ _ => none) (fun _ _ _ => none))) (cond (Nat.beq pc 315) (b1_315 ih) (cond (Nat.ble pc 315) (fun _ _ _ => none) (fun _ _ _ => none)))))))))
def b4_0 (ih : Nat → Nat → Sx) : Sx := (oAld 3 (oCon 0 (oIld 4 (oCon 1 (oAdd (oCon 0 (oCallV (ih 5 0) 5 4 0 (oAld 0 (oAst 5 (oAld 5 (oLen (oIst 6 (oCon 0 (oIst 7 (ih 4 21)))))))))))))))
def b4_21 (ih : Nat → Nat → Sx) : Sx := (oIld 7 (oIld 6 (oLt (oAld 5 (oIld 7 (oLd (oIst 8 (oAld 3 (oAld 1 (oIld 8 (oLd (oCon 1 (oAdd (oDup2 (oLd (oCon 1 (oAdd (oSt (oInc 7 1 (ih 4 21))))))))))))))))) (ih 4 53))))
def b4_53 (ih : Nat → Nat → Sx) : Sx := (oCon 1 (oIst 5 (ih 4 56)))
def b4_56 (ih : Nat → Nat → Sx) : Sx := (oIld 5 (oIld 4 (oGt (ih 4 82) (oAld 3 (oIld 5 (oDup2 (oLd (oAld 3 (oIld 5 (oCon 1 (oSub (oLd (oAdd (oSt (oInc 5 1 (ih 4 56))))))))))))))))
def b4_82 (ih : Nat → Nat → Sx) : Sx := (oAld 0 (oAst 5 (oAld 5 (oLen (oIst 6 (oCon 0 (oIst 7 (ih 4 93))))))))
def b4_93 (ih : Nat → Nat → Sx) : Sx := (oIld 7 (oIld 6 (oLt (oAld 5 (oIld 7 (oLd (oIst 8 (oAld 2 (oAld 3 (oAld 1 (oIld 8 (oLd (oDup2 (oLd (oDupX2 (oCon 1 (oAdd (oSt (oIld 8 (oSt (oInc 7 1 (ih 4 93))))))))))))))))))) (ih 4 128))))
def b4_128 (ih : Nat → Nat → Sx) : Sx := (oAld 2 (oCon 0 (oAld 0 (oCon 0 (oAld 0 (oLen (oCopy 12 oVret)))))))
def tab4 (ih : Nat → Nat → Sx) (pc : Nat) : Sx := (cond (Nat.beq pc 56) (b4_56 ih) (cond (Nat.ble pc 56) (cond (Nat.beq pc 21) (b4_21 ih) (cond (Nat.ble pc 21) (cond (Nat.beq pc 0) (b4_0 ih) (cond (Nat.ble pc 0) (fun _ _ _ => none) (fun _ _ _ => none))) (cond (Nat.beq pc 53) (b4_53 ih) (cond (Nat.ble pc 53) (fun _ _ _ => none) (fun _ _ _ => none))))) (cond (Nat.beq pc 93) (b4_93 ih) (cond (Nat.ble pc 93) (cond (Nat.beq pc 82) (b4_82 ih) (cond (Nat.ble pc 82) (fun _ _ _ => none) (fun _ _ _ => none))) (cond (Nat.beq pc 128) (b4_128 ih) (cond (Nat.ble pc 128) (fun _ _ _ => none) (fun _ _ _ => none)))))))
def b5_0 (ih : Nat → Nat → Sx) : Sx := (oAld 0 (oLen (oIld 1 (oIld 2 (oCallV (ih 6 0) 3 3 0 (oIld 1 (oIst 4 (ih 5 10))))))))
def b5_10 (ih : Nat → Nat → Sx) : Sx := (oIld 4 (oIld 2 (oLt (oAld 0 (oIld 4 (oIld 3 (oSt (oInc 4 1 (ih 5 10)))))) (ih 5 27))))
def b5_27 (ih : Nat → Nat → Sx) : Sx := oVret
def tab5 (ih : Nat → Nat → Sx) (pc : Nat) : Sx := (cond (Nat.beq pc 10) (b5_10 ih) (cond (Nat.ble pc 10) (cond (Nat.beq pc 0) (b5_0 ih) (cond (Nat.ble pc 0) (fun _ _ _ => none) (fun _ _ _ => none))) (cond (Nat.beq pc 27) (b5_27 ih) (cond (Nat.ble pc 27) (fun _ _ _ => none) (fun _ _ _ => none)))))
def b6_0 (ih : Nat → Nat → Sx) : Sx := (oIld 1 (oIld 2 (oGt (fun _ _ _ => none) (ih 6 46))))
def b6_46 (ih : Nat → Nat → Sx) : Sx := (oIld 1 (oZge (ih 6 59)))
def b6_59 (ih : Nat → Nat → Sx) : Sx := (oIld 2 (oIld 0 (oGt (fun _ _ _ => none) (ih 6 73))))
def b6_73 (ih : Nat → Nat → Sx) : Sx := oVret
def tab6 (ih : Nat → Nat → Sx) (pc : Nat) : Sx := (cond (Nat.beq pc 59) (b6_59 ih) (cond (Nat.ble pc 59) (cond (Nat.beq pc 46) (b6_46 ih) (cond (Nat.ble pc 46) (cond (Nat.beq pc 0) (b6_0 ih) (cond (Nat.ble pc 0) (fun _ _ _ => none) (fun _ _ _ => none))) (fun _ _ _ => none))) (cond (Nat.beq pc 73) (b6_73 ih) (cond (Nat.ble pc 73) (fun _ _ _ => none) (fun _ _ _ => none)))))
def b2_0 (ih : Nat → Nat → Sx) : Sx := (oIld 1 (oAld 0 (oLen (oEq (oAld 0 (oClone 0 (oCast oAret))) (ih 2 14)))))
def tab2 (ih : Nat → Nat → Sx) (pc : Nat) : Sx := (cond (Nat.beq pc 0) (b2_0 ih) (cond (Nat.ble pc 0) (fun _ _ _ => none) (fun _ _ _ => none)))
def b3_0 (ih : Nat → Nat → Sx) : Sx := (oIld 0 (oIld 1 (oLt (ih 3 9) (oIld 0 (ih 3 10)))))
def b3_9 (ih : Nat → Nat → Sx) : Sx := (oIld 1 (ih 3 10))
def b3_10 (ih : Nat → Nat → Sx) : Sx := oIret
def tab3 (ih : Nat → Nat → Sx) (pc : Nat) : Sx := (cond (Nat.beq pc 9) (b3_9 ih) (cond (Nat.ble pc 9) (cond (Nat.beq pc 0) (b3_0 ih) (cond (Nat.ble pc 0) (fun _ _ _ => none) (fun _ _ _ => none))) (cond (Nat.beq pc 10) (b3_10 ih) (cond (Nat.ble pc 10) (fun _ _ _ => none) (fun _ _ _ => none)))))
def b7_0 (ih : Nat → Nat → Sx) : Sx := (oAld 0 (oLen (oIst 2 (oIld 2 (oNew (oAst 3 (oCon 0 (oIst 4 (ih 7 10)))))))))
def b7_10 (ih : Nat → Nat → Sx) : Sx := (oIld 4 (oIld 2 (oLt (oAld 3 (oAld 1 (oIld 4 (oLd (oIld 4 (oSt (oInc 4 1 (ih 7 10)))))))) (ih 7 30))))
def b7_30 (ih : Nat → Nat → Sx) : Sx := (oIld 2 (oNew (oAst 4 (oCon 0 (oIst 5 (oCon 0 (oIst 6 (ih 7 41))))))))
def b7_41 (ih : Nat → Nat → Sx) : Sx := (oIld 6 (oIld 2 (oLt (oAld 3 (oIld 6 (oLd (oIst 7 (oIld 7 (oZ (oCon 0 (oIst 5 (ih 7 128))) (ih 7 64))))))) (ih 7 134))))
def b7_64 (ih : Nat → Nat → Sx) : Sx := (oAld 1 (oIld 7 (oCon 1 (oSub (oLd (oIst 8 (ih 7 72)))))))
def b7_72 (ih : Nat → Nat → Sx) : Sx := (oIld 6 (oIld 5 (oAdd (oIld 2 (oLt (oIld 8 (oIld 5 (oAdd (oIld 2 (oLt (oAld 0 (oIld 6 (oIld 5 (oAdd (oLd (oAld 0 (oIld 8 (oIld 5 (oAdd (oLd (oEq (oInc 5 1 (ih 7 72)) (ih 7 113)))))))))))) (ih 7 113)))))) (ih 7 113))))))
def b7_113 (ih : Nat → Nat → Sx) : Sx := (oAld 4 (oIld 7 (oIld 5 (oSt (oIld 5 (oZ (ih 7 128) (oDec 5 (ih 7 128))))))))
def b7_128 (ih : Nat → Nat → Sx) : Sx := (oInc 6 1 (ih 7 41))
def b7_134 (ih : Nat → Nat → Sx) : Sx := (oAld 4 oAret)
def tab7 (ih : Nat → Nat → Sx) (pc : Nat) : Sx := (cond (Nat.beq pc 64) (b7_64 ih) (cond (Nat.ble pc 64) (cond (Nat.beq pc 30) (b7_30 ih) (cond (Nat.ble pc 30) (cond (Nat.beq pc 10) (b7_10 ih) (cond (Nat.ble pc 10) (cond (Nat.beq pc 0) (b7_0 ih) (cond (Nat.ble pc 0) (fun _ _ _ => none) (fun _ _ _ => none))) (fun _ _ _ => none))) (cond (Nat.beq pc 41) (b7_41 ih) (cond (Nat.ble pc 41) (fun _ _ _ => none) (fun _ _ _ => none))))) (cond (Nat.beq pc 128) (b7_128 ih) (cond (Nat.ble pc 128) (cond (Nat.beq pc 113) (b7_113 ih) (cond (Nat.ble pc 113) (cond (Nat.beq pc 72) (b7_72 ih) (cond (Nat.ble pc 72) (fun _ _ _ => none) (fun _ _ _ => none))) (fun _ _ _ => none))) (cond (Nat.beq pc 134) (b7_134 ih) (cond (Nat.ble pc 134) (fun _ _ _ => none) (fun _ _ _ => none)))))))
def b8_0 (ih : Nat → Nat → Sx) : Sx := (oIld 3 (oAld 0 (oLen (oLt (ih 8 8) (oCon 1 oZret)))))
def b8_8 (ih : Nat → Nat → Sx) : Sx := (oAld 2 (oIld 3 (oLd (oAld 0 (oAld 1 (oIld 3 (oCon 1 (oSub (oLd (oAld 1 (oIld 3 (oLd (oCallR (ih 10 0) 3 3 1 (oEq (oCon 1 (ih 8 31)) (ih 8 30)))))))))))))))
def b8_30 (ih : Nat → Nat → Sx) : Sx := (oCon 0 (ih 8 31))
def b8_31 (ih : Nat → Nat → Sx) : Sx := oZret
def tab8 (ih : Nat → Nat → Sx) (pc : Nat) : Sx := (cond (Nat.beq pc 30) (b8_30 ih) (cond (Nat.ble pc 30) (cond (Nat.beq pc 8) (b8_8 ih) (cond (Nat.ble pc 8) (cond (Nat.beq pc 0) (b8_0 ih) (cond (Nat.ble pc 0) (fun _ _ _ => none) (fun _ _ _ => none))) (fun _ _ _ => none))) (cond (Nat.beq pc 31) (b8_31 ih) (cond (Nat.ble pc 31) (fun _ _ _ => none) (fun _ _ _ => none)))))
def b10_0 (ih : Nat → Nat → Sx) : Sx := (oAld 0 (oIld 1 (oIld 2 (oCon 0 (oCallR (ih 11 0) 5 4 0 (oZ (oCon 0 oIret) (ih 10 12)))))))
def b10_12 (ih : Nat → Nat → Sx) : Sx := (oAld 0 (oIld 1 (oIld 2 (oCon 1 (oCallR (ih 11 0) 5 4 0 (oZ (oCon 1 oIret) (ih 10 24)))))))
def b10_24 (ih : Nat → Nat → Sx) : Sx := (oAld 0 (oIld 1 (oIld 2 (oCon 2 (oCallR (ih 11 0) 5 4 0 (oZ (oCon 2 oIret) (ih 10 36)))))))
def b10_36 (ih : Nat → Nat → Sx) : Sx := (oAld 0 (oIld 1 (oIld 2 (oCon 3 (oCallR (ih 11 0) 5 4 0 (oZ (oCon 3 oIret) (ih 10 48)))))))
def b10_48 (ih : Nat → Nat → Sx) : Sx := (oAld 0 (oIld 1 (oIld 2 (oCon 4 (oCallR (ih 11 0) 5 4 0 (oZ (oCon 4 oIret) (ih 10 60)))))))
def b10_60 (ih : Nat → Nat → Sx) : Sx := (oCon 5 oIret)
def tab10 (ih : Nat → Nat → Sx) (pc : Nat) : Sx := (cond (Nat.beq pc 36) (b10_36 ih) (cond (Nat.ble pc 36) (cond (Nat.beq pc 12) (b10_12 ih) (cond (Nat.ble pc 12) (cond (Nat.beq pc 0) (b10_0 ih) (cond (Nat.ble pc 0) (fun _ _ _ => none) (fun _ _ _ => none))) (cond (Nat.beq pc 24) (b10_24 ih) (cond (Nat.ble pc 24) (fun _ _ _ => none) (fun _ _ _ => none))))) (cond (Nat.beq pc 60) (b10_60 ih) (cond (Nat.ble pc 60) (cond (Nat.beq pc 48) (b10_48 ih) (cond (Nat.ble pc 48) (fun _ _ _ => none) (fun _ _ _ => none))) (fun _ _ _ => none)))))
def b11_0 (ih : Nat → Nat → Sx) : Sx := (oAld 0 (oLen (oIst 4 (oIld 1 (oIld 3 (oAdd (oIld 4 (oLt (oIld 2 (oIld 3 (oAdd (oIld 4 (oLt (oAld 0 (oIld 1 (oIld 3 (oAdd (oLd (oAld 0 (oIld 2 (oIld 3 (oAdd (oLd (oEq (oCon 1 (ih 11 38)) (ih 11 37)))))))))))) (ih 11 37)))))) (ih 11 37)))))))))
def b11_37 (ih : Nat → Nat → Sx) : Sx := (oCon 0 (ih 11 38))
def b11_38 (ih : Nat → Nat → Sx) : Sx := oZret
def tab11 (ih : Nat → Nat → Sx) (pc : Nat) : Sx := (cond (Nat.beq pc 37) (b11_37 ih) (cond (Nat.ble pc 37) (cond (Nat.beq pc 0) (b11_0 ih) (cond (Nat.ble pc 0) (fun _ _ _ => none) (fun _ _ _ => none))) (cond (Nat.beq pc 38) (b11_38 ih) (cond (Nat.ble pc 38) (fun _ _ _ => none) (fun _ _ _ => none)))))
def b12_0 (ih : Nat → Nat → Sx) : Sx := (oIld 1 (oAld 0 (oLen (oLt (oAld 0 (oIld 1 (oLd (ih 12 13)))) (ih 12 12)))))
def b12_12 (ih : Nat → Nat → Sx) : Sx := (oCon 4294967295 (ih 12 13))
def b12_13 (ih : Nat → Nat → Sx) : Sx := oIret
def tab12 (ih : Nat → Nat → Sx) (pc : Nat) : Sx := (cond (Nat.beq pc 12) (b12_12 ih) (cond (Nat.ble pc 12) (cond (Nat.beq pc 0) (b12_0 ih) (cond (Nat.ble pc 0) (fun _ _ _ => none) (fun _ _ _ => none))) (cond (Nat.beq pc 13) (b12_13 ih) (cond (Nat.ble pc 13) (fun _ _ _ => none) (fun _ _ _ => none)))))
def codeOf (ih : Nat → Nat → Sx) (j pc : Nat) : Sx := cond (Nat.beq j 1) (tab1 ih pc) (cond (Nat.beq j 4) (tab4 ih pc) (cond (Nat.beq j 5) (tab5 ih pc) (cond (Nat.beq j 6) (tab6 ih pc) (cond (Nat.beq j 2) (tab2 ih pc) (cond (Nat.beq j 3) (tab3 ih pc) (cond (Nat.beq j 7) (tab7 ih pc) (cond (Nat.beq j 8) (tab8 ih pc) (cond (Nat.beq j 10) (tab10 ih pc) (cond (Nat.beq j 11) (tab11 ih pc) (cond (Nat.beq j 12) (tab12 ih pc) (fun _ _ _ => none)))))))))))
def cS : EV → Slot
  | .inl x => .val (.int x.toInt32)
  | .inr (some a) => .val (.ref a)
  | .inr none => .unset
def cV : EV → Value
  | .inl x => .int x.toInt32
  | .inr (some a) => .ref a
  | .inr none => .null
def cO (A : List Nat) : Ob := .inr (.int, A.map (fun x => .int x.toInt32))
def Snd (l : Launch) (Z : State) (n0 : Nat) (m : MI) (pc : Nat) (f : Sx) : Prop := ∀ (L S : List EV) (H : List (List Nat)) (v : Option EV) (H' : List (List Nat)), L.length = m.2.2.1 → f L S H = some (v, H') → Runs K l Z n0 m pc (L.map cS) (S.map cV) (H.map cO) (v.map cV) (H'.map cO)
theorem fn_eq (n : Nat) (κ : Nat → RR) : fn n κ = κ n := by cases n <;> rfl
theorem unK_some {α : Type} {L : List α} {κ : α → List α → RR} {r} (h : unK L κ = some r) : ∃ x t, L = x :: t ∧ κ x t = some r := by
  cases L with
  | nil => cases h
  | cons x t => exact ⟨x, t, rfl, h⟩
theorem isI_some {x : EV} {κ : Nat → RR} {r} (h : isI x κ = some r) : ∃ n, x = .inl n ∧ κ n = some r := by
  match x, h with
  | .inl n, h => exact ⟨n, rfl, h⟩
  | .inr none, h => cases h
  | .inr (some n), h => cases h
theorem isR_some {x : EV} {κ : Nat → RR} {r} (h : isR x κ = some r) : ∃ n, x = .inr (some n) ∧ κ n = some r := by
  match x, h with
  | .inl n, h => cases h
  | .inr none, h => cases h
  | .inr (some n), h => exact ⟨n, rfl, h⟩
theorem atK_some {α : Type} {κ : α → RR} {r} : ∀ {L : List α} {k : Nat}, atK L k κ = some r → ∃ x, L[k]? = some x ∧ κ x = some r
  | [], 0, h => by cases h
  | [], _ + 1, h => by cases h
  | x :: t, 0, h => ⟨x, rfl, h⟩
  | x :: t, k + 1, h => by
    obtain ⟨y, h1, h2⟩ := atK_some (L := t) (k := k) h
    exact ⟨y, by simpa using h1, h2⟩
theorem setK_some {α : Type} {x : α} {r} : ∀ {L : List α} {k : Nat} {κ : List α → RR}, setK L k x κ = some r → k < L.length ∧ κ (L.set k x) = some r
  | [], 0, _, h => by cases h
  | [], _ + 1, _, h => by cases h
  | y :: t, 0, κ, h => ⟨Nat.zero_lt_succ _, h⟩
  | y :: t, k + 1, κ, h => by
    obtain ⟨h1, h2⟩ := setK_some (L := t) (k := k) (κ := fun t' => κ (y :: t')) h
    exact ⟨Nat.succ_lt_succ h1, h2⟩
theorem appK_eq {α : Type} (x : α) : ∀ (L : List α) (κ : List α → RR), appK L x κ = κ (L ++ [x])
  | [], _ => rfl
  | y :: t, κ => appK_eq x t (fun t' => κ (y :: t'))
theorem repK_eq : ∀ (n : Nat) (κ : List Nat → RR), repK n κ = κ (List.replicate n 0)
  | 0, _ => rfl
  | n + 1, κ => repK_eq n (fun t => κ (0 :: t))
theorem lenK_eq {α : Type} : ∀ (L : List α) (κ : Nat → RR), lenK L κ = κ L.length
  | [], _ => rfl
  | _ :: t, κ => lenK_eq t (fun n => κ (Nat.succ n))
theorem cpK_some {r} : ∀ {n : Nat} {A B : List Nat} {κ : List Nat → RR}, cpK n A B κ = some r → n ≤ A.length ∧ n ≤ B.length ∧ κ (A.take n ++ B.drop n) = some r
  | 0, A, B, κ, h => ⟨Nat.zero_le _, Nat.zero_le _, h⟩
  | n + 1, A, B, κ, h => by
    obtain ⟨a, A', rfl, h⟩ := unK_some (h : unK A (fun a A => unK B fun _ B => cpK n A B (fun B' => κ (a :: B'))) = some r)
    obtain ⟨b, B', rfl, h⟩ := unK_some h
    obtain ⟨h1, h2, h3⟩ := cpK_some (n := n) h
    exact ⟨Nat.succ_le_succ h1, Nat.succ_le_succ h2, h3⟩
theorem nu_some {x : EV} {κ : RR} {r} (h : nu x κ = some r) : x ≠ .inr none ∧ κ = some r := by
  match x, h with
  | .inl n, h => exact ⟨(fun z => nomatch z), h⟩
  | .inr (some n), h => exact ⟨(fun z => nomatch z), h⟩
  | .inr none, h => cases h
theorem takeK_some {r} : ∀ {k : Nat} {S as : List EV} {κ : List EV → List EV → RR}, takeK k S as κ = some r → ∃ ys S', ys.length = k ∧ S = ys ++ S' ∧ (∀ y ∈ ys, y ≠ .inr none) ∧ κ (ys.reverse ++ as) S' = some r
  | 0, S, as, κ, h => ⟨[], S, rfl, rfl, fun y hy => by simp at hy, h⟩
  | k + 1, S, as, κ, h => by
    obtain ⟨x, S', rfl, h⟩ := unK_some (h : unK S (fun x S => nu x (takeK k S (x :: as) κ)) = some r)
    obtain ⟨hx, h⟩ := nu_some h
    obtain ⟨ys, S'', h1, rfl, h2, h3⟩ := takeK_some (k := k) h
    refine ⟨x :: ys, S'', by simp [h1], rfl, fun y hy => ?_, by simpa using h3⟩
    rcases List.mem_cons.mp hy with rfl | z
    · exact hx
    · exact h2 y z
theorem padK_eq : ∀ (n : Nat) (as : List EV) (κ : List EV → RR), as.length ≤ n → padK n as κ = κ (as ++ List.replicate (n - as.length) (.inr none))
  | 0, as, κ, h => by
    obtain rfl := List.eq_nil_of_length_eq_zero (Nat.le_zero.mp h)
    rfl
  | n + 1, [], κ, h => by
    show padK n [] (fun t => κ (.inr none :: t)) = _
    rw [padK_eq n [] _ (Nat.zero_le _)]
    rfl
  | n + 1, a :: as, κ, h => by
    show padK n as (fun t => κ (a :: t)) = _
    rw [padK_eq n as _ (Nat.le_of_succ_le_succ h)]
    simp
theorem gd_some {b : Bool} {x : RR} {r} (h : gd b x = some r) : b = true ∧ x = some r := by
  cases b with
  | true => exact ⟨rfl, h⟩
  | false => cases h
theorem toR_some {r : RR} {κ : EV → List (List Nat) → RR} {q} (h : toR r κ = some q) : ∃ w H, r = some (some w, H) ∧ κ w H = some q := by
  match r, h with
  | none, h => cases h
  | some (none, H), h => cases h
  | some (some w, H), h => exact ⟨w, H, rfl, h⟩
theorem toV_some {r : RR} {κ : List (List Nat) → RR} {q} (h : toV r κ = some q) : ∃ H, r = some (none, H) ∧ κ H = some q := by
  match r, h with
  | none, h => cases h
  | some (some w, H), h => cases h
  | some (none, H), h => exact ⟨H, rfl, h⟩
theorem cat_cV (x : EV) : (cV x).category = 1 := by
  match x with
  | .inl _ => rfl
  | .inr none => rfl
  | .inr (some _) => rfl
theorem cats_cV : ∀ S : List EV, ((S.map cV).map fun v => v.category).sum = S.length
  | [] => rfl
  | x :: S => by simp only [List.map_cons, List.sum_cons, cat_cV, cats_cV S, List.length_cons]; omega
theorem ble_of {a b : Nat} (h : Nat.ble a b = true) : a ≤ b := Nat.le_of_ble_eq_true h
theorem nble_of {a b : Nat} (h : Nat.ble a b = false) : b < a := Nat.lt_of_not_le (fun z => by rw [Nat.ble_eq_true_of_le z] at h; cases h)
theorem nbeq_of {a b : Nat} (h : Nat.beq a b = false) : a ≠ b := fun z => by rw [z, Nat.beq_refl] at h; cases h
theorem ti_inj32 {a b : Nat} (ha : a ≤ 4294967295) (hb : b ≤ 4294967295) (h : a.toInt32 = b.toInt32) : a = b := by
  have q : BitVec.ofNat 32 a = BitVec.ofNat 32 b := congrArg Int32.toBitVec h
  have q2 := congrArg BitVec.toNat q
  rw [BitVec.toNat_ofNat, BitVec.toNat_ofNat, Nat.mod_eq_of_lt (by omega), Nat.mod_eq_of_lt (by omega)] at q2
  exact q2
theorem ti_addA (a b : Nat) : (Nat.add a b).toInt32 = a.toInt32 + b.toInt32 := Int32.ofNat_add a b
theorem ti_mulA (a b : Nat) : (Nat.mul a b).toInt32 = a.toInt32 * b.toInt32 := Int32.ofNat_mul a b
theorem ti_subA (a b : Nat) (h : b ≤ a) : (Nat.sub a b).toInt32 = a.toInt32 - b.toInt32 := by
  have q := ti_addA (a - b) b
  rw [show Nat.add (a - b) b = a from Nat.sub_add_cancel h] at q
  rw [q, Int32.add_sub_cancel]; rfl
theorem loc_cS {L : List EV} {k : Nat} {x : EV} (h : L[k]? = some x) : (L.map cS)[k]? = some (cS x) := by rw [List.getElem?_map, h]; rfl
theorem heap_cO {H : List (List Nat)} {a : Nat} {A : List Nat} (h : H[a]? = some A) : (H.map cO)[a]? = some (.inr (.int, A.map (fun x => .int x.toInt32))) := by rw [List.getElem?_map, h]; rfl
theorem P1_cS {L : List EV} {k : Nat} (h : k < L.length) : P1 (L.map cS) k = true := by
  unfold P1
  rw [loc_cS (List.getElem?_eq_getElem h)]
  match L[k] with
  | .inl _ => rfl
  | .inr none => rfl
  | .inr (some _) => rfl
theorem laid_cV : ∀ as : List EV, (∀ y ∈ as, y ≠ .inr none) → Jvm.Sym.laidSlots (as.map cV) = as.map cS
  | [], _ => rfl
  | x :: as, h => by
    simp only [List.map_cons, Jvm.Sym.laidSlots, cat_cV, laid_cV as (fun y hy => h y (List.mem_cons_of_mem _ hy))]
    match x, h with
    | .inr none, h => exact absurd rfl (h _ (List.mem_cons_self ..))
    | .inl n, _ => rfl
    | .inr (some n), _ => rfl
section Sound
variable {l : Launch} {Z : State} {n0 : Nat} {m : MI} {pc np tp : Nat} {κ κ' : Sx}
theorem snd_none : Snd l Z n0 m pc (fun _ _ _ => none) := fun _ _ _ _ _ _ e => nomatch e
theorem snd_iload {k : Nat} (hd : decode m.2.1 pc = .ok (.iload k, 2) ∧ pc + 2 = np) (h : Snd l Z n0 m np κ) : Snd l Z n0 m pc (oIld k κ) := by
  intro L S H v H' hL e0
  obtain ⟨x, hx, e1⟩ := atK_some e0
  obtain ⟨n, rfl, e2⟩ := isI_some e1
  exact r_iload hd (loc_cS hx) (h L (.inl n :: S) H v H' hL e2)
theorem snd_iload_n {k : Fin 4} {k' : Nat} (hd : decode m.2.1 pc = .ok (.iload_n k, 1) ∧ pc + 1 = np) (hk : k.val = k') (h : Snd l Z n0 m np κ) : Snd l Z n0 m pc (oIld k' κ) := by
  subst hk
  intro L S H v H' hL e0
  obtain ⟨x, hx, e1⟩ := atK_some e0
  obtain ⟨n, rfl, e2⟩ := isI_some e1
  exact r_iloadN hd (loc_cS hx) (h L (.inl n :: S) H v H' hL e2)
theorem snd_aload {k : Nat} (hd : decode m.2.1 pc = .ok (.aload k, 2) ∧ pc + 2 = np) (h : Snd l Z n0 m np κ) : Snd l Z n0 m pc (oAld k κ) := by
  intro L S H v H' hL e0
  obtain ⟨x, hx, e1⟩ := atK_some e0
  obtain ⟨n, rfl, e2⟩ := isR_some e1
  exact r_aload hd (loc_cS hx) rfl (h L (.inr (some n) :: S) H v H' hL e2)
theorem snd_aload_n {k : Fin 4} {k' : Nat} (hd : decode m.2.1 pc = .ok (.aload_n k, 1) ∧ pc + 1 = np) (hk : k.val = k') (h : Snd l Z n0 m np κ) : Snd l Z n0 m pc (oAld k' κ) := by
  subst hk
  intro L S H v H' hL e0
  obtain ⟨x, hx, e1⟩ := atK_some e0
  obtain ⟨n, rfl, e2⟩ := isR_some e1
  exact r_aloadN hd (loc_cS hx) rfl (h L (.inr (some n) :: S) H v H' hL e2)
theorem snd_istore {k : Nat} (hd : decode m.2.1 pc = .ok (.istore k, 2) ∧ pc + 2 = np) (h : Snd l Z n0 m np κ) : Snd l Z n0 m pc (oIst k κ) := by
  intro L S H v H' hL e0
  obtain ⟨x, S, rfl, e1⟩ := unK_some e0
  obtain ⟨n, rfl, e2⟩ := isI_some e1
  obtain ⟨hk, e3⟩ := setK_some e2
  exact r_istore hd (P1_cS hk) (by rw [List.map_set]; rfl) (h _ S H v H' (by rw [List.length_set]; exact hL) e3)
theorem snd_istore_n {k : Fin 4} {k' : Nat} (hd : decode m.2.1 pc = .ok (.istore_n k, 1) ∧ pc + 1 = np) (hk : k.val = k') (h : Snd l Z n0 m np κ) : Snd l Z n0 m pc (oIst k' κ) := by
  subst hk
  intro L S H v H' hL e0
  obtain ⟨x, S, rfl, e1⟩ := unK_some e0
  obtain ⟨n, rfl, e2⟩ := isI_some e1
  obtain ⟨hk, e3⟩ := setK_some e2
  exact r_istoreN hd (P1_cS hk) (by rw [List.map_set]; rfl) (h _ S H v H' (by rw [List.length_set]; exact hL) e3)
theorem snd_astore {k : Nat} (hd : decode m.2.1 pc = .ok (.astore k, 2) ∧ pc + 2 = np) (h : Snd l Z n0 m np κ) : Snd l Z n0 m pc (oAst k κ) := by
  intro L S H v H' hL e0
  obtain ⟨x, S, rfl, e1⟩ := unK_some e0
  obtain ⟨n, rfl, e2⟩ := isR_some e1
  obtain ⟨hk, e3⟩ := setK_some e2
  exact r_astore hd (P1_cS hk) rfl (by rw [List.map_set]; rfl) (h _ S H v H' (by rw [List.length_set]; exact hL) e3)
theorem snd_astore_n {k : Fin 4} {k' : Nat} (hd : decode m.2.1 pc = .ok (.astore_n k, 1) ∧ pc + 1 = np) (hk : k.val = k') (h : Snd l Z n0 m np κ) : Snd l Z n0 m pc (oAst k' κ) := by
  subst hk
  intro L S H v H' hL e0
  obtain ⟨x, S, rfl, e1⟩ := unK_some e0
  obtain ⟨n, rfl, e2⟩ := isR_some e1
  obtain ⟨hk, e3⟩ := setK_some e2
  exact r_astoreN hd (P1_cS hk) rfl (by rw [List.map_set]; rfl) (h _ S H v H' (by rw [List.length_set]; exact hL) e3)
theorem snd_iconst {i : Int} {x : Int32} {c : Nat} (hd : decode m.2.1 pc = .ok (.iconst i, 1) ∧ pc + 1 = np ∧ Int32.ofInt i = x) (hc : x = c.toInt32) (h : Snd l Z n0 m np κ) : Snd l Z n0 m pc (oCon c κ) := by
  subst hc
  intro L S H v H' hL e0
  exact r_iconst hd (h L (.inl c :: S) H v H' hL e0)
theorem snd_bipush {i : Int} {x : Int32} {c : Nat} (hd : decode m.2.1 pc = .ok (.bipush i, 2) ∧ pc + 2 = np ∧ (Int8.ofInt i).toInt32 = x) (hc : x = c.toInt32) (h : Snd l Z n0 m np κ) : Snd l Z n0 m pc (oCon c κ) := by
  subst hc
  intro L S H v H' hL e0
  exact r_bipush hd (h L (.inl c :: S) H v H' hL e0)
theorem snd_iadd (hd : decode m.2.1 pc = .ok (.iadd, 1) ∧ pc + 1 = np) (h : Snd l Z n0 m np κ) : Snd l Z n0 m pc (oAdd κ) := by
  intro L S H v H' hL e0
  obtain ⟨y, S, rfl, e1⟩ := unK_some e0
  obtain ⟨y, rfl, e2⟩ := isI_some e1
  obtain ⟨x, S, rfl, e3⟩ := unK_some e2
  obtain ⟨x, rfl, e4⟩ := isI_some e3
  rw [fn_eq] at e4
  refine r_iadd hd ?_
  have k := h L (.inl (Nat.add x y) :: S) H v H' hL e4
  rw [List.map_cons, show cV (.inl (Nat.add x y)) = .int (x.toInt32 + y.toInt32) from congrArg Value.int (ti_addA x y)] at k
  exact k
theorem snd_imul (hd : decode m.2.1 pc = .ok (.imul, 1) ∧ pc + 1 = np) (h : Snd l Z n0 m np κ) : Snd l Z n0 m pc (oMul κ) := by
  intro L S H v H' hL e0
  obtain ⟨y, S, rfl, e1⟩ := unK_some e0
  obtain ⟨y, rfl, e2⟩ := isI_some e1
  obtain ⟨x, S, rfl, e3⟩ := unK_some e2
  obtain ⟨x, rfl, e4⟩ := isI_some e3
  rw [fn_eq] at e4
  refine r_imul hd ?_
  have k := h L (.inl (Nat.mul x y) :: S) H v H' hL e4
  rw [List.map_cons, show cV (.inl (Nat.mul x y)) = .int (x.toInt32 * y.toInt32) from congrArg Value.int (ti_mulA x y)] at k
  exact k
theorem snd_isub (hd : decode m.2.1 pc = .ok (.isub, 1) ∧ pc + 1 = np) (h : Snd l Z n0 m np κ) : Snd l Z n0 m pc (oSub κ) := by
  intro L S H v H' hL e0
  obtain ⟨y, S, rfl, e1⟩ := unK_some e0
  obtain ⟨y, rfl, e2⟩ := isI_some e1
  obtain ⟨x, S, rfl, e3⟩ := unK_some e2
  obtain ⟨x, rfl, e4⟩ := isI_some e3
  obtain ⟨g, e5⟩ := gd_some e4
  rw [fn_eq] at e5
  refine r_isub hd ?_
  have k := h L (.inl (Nat.sub x y) :: S) H v H' hL e5
  rw [List.map_cons, show cV (.inl (Nat.sub x y)) = .int (x.toInt32 - y.toInt32) from congrArg Value.int (ti_subA x y (ble_of g))] at k
  exact k
theorem snd_inc {k c : Nat} {i : Int} {y : Int32} (hd : decode m.2.1 pc = .ok (.iinc k i, 3) ∧ pc + 3 = np ∧ Int32.ofInt i = y) (hc : y = c.toInt32) (h : Snd l Z n0 m np κ) : Snd l Z n0 m pc (oInc k c κ) := by
  subst hc
  intro L S H v H' hL e0
  obtain ⟨x, hx, e1⟩ := atK_some e0
  obtain ⟨x, rfl, e2⟩ := isI_some e1
  rw [fn_eq] at e2
  obtain ⟨hk, e3⟩ := setK_some e2
  refine r_iinc hd (loc_cS hx) ?_ (h _ S H v H' (by rw [List.length_set]; exact hL) e3)
  rw [List.map_set, show cS (.inl (Nat.add x c)) = .val (.int (x.toInt32 + c.toInt32)) from congrArg (fun z => Slot.val (Value.int z)) (ti_addA x c)]
theorem snd_dec {k : Nat} {i : Int} (hd : decode m.2.1 pc = .ok (.iinc k i, 3) ∧ pc + 3 = np ∧ Int32.ofInt i = -1) (h : Snd l Z n0 m np κ) : Snd l Z n0 m pc (oDec k κ) := by
  intro L S H v H' hL e0
  obtain ⟨x, hx, e1⟩ := atK_some e0
  obtain ⟨x, rfl, e2⟩ := isI_some e1
  obtain ⟨g, e3⟩ := gd_some e2
  rw [fn_eq] at e3
  obtain ⟨hk, e4⟩ := setK_some e3
  refine r_iinc hd (loc_cS hx) ?_ (h _ S H v H' (by rw [List.length_set]; exact hL) e4)
  rw [List.map_set, show cS (.inl (Nat.sub x 1)) = .val (.int (x.toInt32 + -1)) from congrArg (fun z => Slot.val (Value.int z)) ((ti_subA x 1 (ble_of g)).trans (Int32.sub_eq_add_neg _ _))]
theorem snd_len (hd : decode m.2.1 pc = .ok (.arraylength, 1) ∧ pc + 1 = np) (h : Snd l Z n0 m np κ) : Snd l Z n0 m pc (oLen κ) := by
  intro L S H v H' hL e0
  obtain ⟨a, S, rfl, e1⟩ := unK_some e0
  obtain ⟨a, rfl, e2⟩ := isR_some e1
  obtain ⟨A, hA, e3⟩ := atK_some e2
  rw [lenK_eq] at e3
  exact r_len hd (heap_cO hA) (by rw [List.length_map]) (h L (.inl A.length :: S) H v H' hL e3)
theorem snd_new (site : ∀ {ls : List Slot} {st : List Value} {H : List Ob} {v : Option Value} {H' : List Ob} {n : Int32}, ¬ n < 0 → n.toNatClampNeg * 8 ≤ 536870912 → Runs K l Z n0 m np ls (.ref H.length :: st) (H ++ [.inr (.int, List.replicate n.toNatClampNeg (.int 0))]) v H' → Runs K l Z n0 m pc ls (.int n :: st) H v H') (h : Snd l Z n0 m np κ) : Snd l Z n0 m pc (oNew κ) := by
  intro L S H v H' hL e0
  obtain ⟨n, S, rfl, e1⟩ := unK_some e0
  obtain ⟨n, rfl, e2⟩ := isI_some e1
  obtain ⟨g, e3⟩ := gd_some e2
  have g := ble_of g
  rw [repK_eq, lenK_eq, appK_eq] at e3
  have j := ti_ix (show n < 2 ^ 31 by omega)
  refine site j.1 (by rw [j.2]; omega) ?_
  have k := h L (.inr (some H.length) :: S) (H ++ [List.replicate n 0]) v H' hL e3
  rw [List.map_append] at k
  rw [j.2, List.length_map]
  have q : cO (List.replicate n 0) = .inr (.int, List.replicate n (.int 0)) := by
    unfold cO; rw [List.map_replicate]; rfl
  rw [show List.map cO [List.replicate n 0] = [.inr (.int, List.replicate n (.int 0))] from congrArg (fun z => [z]) q] at k
  exact k
theorem snd_ld (hd : decode m.2.1 pc = .ok (.iaload, 1) ∧ pc + 1 = np) (h : Snd l Z n0 m np κ) : Snd l Z n0 m pc (oLd κ) := by
  intro L S H v H' hL e0
  obtain ⟨x, S, rfl, e1⟩ := unK_some e0
  obtain ⟨x, rfl, e2⟩ := isI_some e1
  obtain ⟨a, S, rfl, e3⟩ := unK_some e2
  obtain ⟨a, rfl, e4⟩ := isR_some e3
  obtain ⟨g, e5⟩ := gd_some e4
  have g := ble_of g
  obtain ⟨A, hA, e6⟩ := atK_some e5
  obtain ⟨y, hy, e7⟩ := atK_some e6
  exact r_iaload hd (heap_cO hA) (ti_ix (show x < 2 ^ 31 by omega)) (by rw [List.getElem?_map, hy]; rfl) (h L (.inl y :: S) H v H' hL e7)
theorem snd_st (hd : decode m.2.1 pc = .ok (.iastore, 1) ∧ pc + 1 = np) (h : Snd l Z n0 m np κ) : Snd l Z n0 m pc (oSt κ) := by
  intro L S H v H' hL e0
  obtain ⟨w, S, rfl, e1⟩ := unK_some e0
  obtain ⟨w, rfl, e2⟩ := isI_some e1
  obtain ⟨x, S, rfl, e3⟩ := unK_some e2
  obtain ⟨x, rfl, e4⟩ := isI_some e3
  obtain ⟨a, S, rfl, e5⟩ := unK_some e4
  obtain ⟨a, rfl, e6⟩ := isR_some e5
  obtain ⟨g, e7⟩ := gd_some e6
  have g := ble_of g
  obtain ⟨A, hA, e8⟩ := atK_some e7
  obtain ⟨hx, e9⟩ := setK_some e8
  obtain ⟨ha, e10⟩ := setK_some e9
  refine r_iastore hd (heap_cO hA) (ti_ix (show x < 2 ^ 31 by omega)) (by rw [List.length_map]; exact hx) rfl ?_ (h L S _ v H' hL e10)
  rw [List.map_set]
  unfold cO
  rw [List.map_set]
theorem snd_dup2 (hd : decode m.2.1 pc = .ok (.dup2, 1) ∧ pc + 1 = np) (h : Snd l Z n0 m np κ) : Snd l Z n0 m pc (oDup2 κ) := by
  intro L S H v H' hL e0
  obtain ⟨x, S, rfl, e1⟩ := unK_some e0
  obtain ⟨y, S, rfl, e2⟩ := unK_some e1
  exact r_dup2 hd (cat_cV x) (cat_cV y) (h L (x :: y :: x :: y :: S) H v H' hL e2)
theorem snd_dupx2 (hd : decode m.2.1 pc = .ok (.dup_x2, 1) ∧ pc + 1 = np) (h : Snd l Z n0 m np κ) : Snd l Z n0 m pc (oDupX2 κ) := by
  intro L S H v H' hL e0
  obtain ⟨x, S, rfl, e1⟩ := unK_some e0
  obtain ⟨y, S, rfl, e2⟩ := unK_some e1
  obtain ⟨z, S, rfl, e3⟩ := unK_some e2
  exact r_dupX2 hd (cat_cV x) (cat_cV y) (cat_cV z) (h L (x :: y :: z :: x :: S) H v H' hL e3)
theorem snd_ceq {o : Int} (hd : decode m.2.1 pc = .ok (.if_icmp .eq o, 3) ∧ pc + 3 = np ∧ 0 ≤ (pc : Int) + o ∧ ((pc : Int) + o).toNat = tp) (h1 : Snd l Z n0 m tp κ) (h2 : Snd l Z n0 m np κ') : Snd l Z n0 m pc (oEq κ κ') := by
  intro L S H v H' hL e0
  obtain ⟨y, S, rfl, e1⟩ := unK_some e0
  obtain ⟨y, rfl, e2⟩ := isI_some e1
  obtain ⟨x, S, rfl, e3⟩ := unK_some e2
  obtain ⟨x, rfl, e4⟩ := isI_some e3
  obtain ⟨g, e5⟩ := gd_some e4
  rw [Bool.and_eq_true] at g
  have g1 := ble_of g.1
  have g2 := ble_of g.2
  cases q : Nat.beq x y with
  | true => rw [q] at e5; exact r_icT hd (XT.ii_eq_t (by rw [Nat.eq_of_beq_eq_true q])) (h1 L S H v H' hL e5)
  | false => rw [q] at e5; exact r_icF hd (XT.ii_eq_f (fun z => nbeq_of q (ti_inj32 g1 g2 z))) (h2 L S H v H' hL e5)
theorem snd_cne {o : Int} (hd : decode m.2.1 pc = .ok (.if_icmp .ne o, 3) ∧ pc + 3 = np ∧ 0 ≤ (pc : Int) + o ∧ ((pc : Int) + o).toNat = tp) (h1 : Snd l Z n0 m np κ) (h2 : Snd l Z n0 m tp κ') : Snd l Z n0 m pc (oEq κ κ') := by
  intro L S H v H' hL e0
  obtain ⟨y, S, rfl, e1⟩ := unK_some e0
  obtain ⟨y, rfl, e2⟩ := isI_some e1
  obtain ⟨x, S, rfl, e3⟩ := unK_some e2
  obtain ⟨x, rfl, e4⟩ := isI_some e3
  obtain ⟨g, e5⟩ := gd_some e4
  rw [Bool.and_eq_true] at g
  have g1 := ble_of g.1
  have g2 := ble_of g.2
  cases q : Nat.beq x y with
  | true => rw [q] at e5; exact r_icF hd (XT.ii_ne_f (by rw [Nat.eq_of_beq_eq_true q])) (h1 L S H v H' hL e5)
  | false => rw [q] at e5; exact r_icT hd (XT.ii_ne_t (fun z => nbeq_of q (ti_inj32 g1 g2 z))) (h2 L S H v H' hL e5)
theorem snd_clt {o : Int} (hd : decode m.2.1 pc = .ok (.if_icmp .lt o, 3) ∧ pc + 3 = np ∧ 0 ≤ (pc : Int) + o ∧ ((pc : Int) + o).toNat = tp) (h1 : Snd l Z n0 m tp κ) (h2 : Snd l Z n0 m np κ') : Snd l Z n0 m pc (oLt κ κ') := by
  intro L S H v H' hL e0
  obtain ⟨y, S, rfl, e1⟩ := unK_some e0
  obtain ⟨y, rfl, e2⟩ := isI_some e1
  obtain ⟨x, S, rfl, e3⟩ := unK_some e2
  obtain ⟨x, rfl, e4⟩ := isI_some e3
  obtain ⟨g, e5⟩ := gd_some e4
  rw [Bool.and_eq_true] at g
  have g1 := ble_of g.1
  have g2 := ble_of g.2
  cases q : Nat.ble y x with
  | true => rw [q] at e5; exact r_icF hd (XT.ii_lt_f (fun z => by have := (ti_lt (by omega) (by omega)).mp z; have := ble_of q; omega)) (h2 L S H v H' hL e5)
  | false => rw [q] at e5; exact r_icT hd (XT.ii_lt_t ((ti_lt (by omega) (by omega)).mpr (nble_of q))) (h1 L S H v H' hL e5)
theorem snd_cge {o : Int} (hd : decode m.2.1 pc = .ok (.if_icmp .ge o, 3) ∧ pc + 3 = np ∧ 0 ≤ (pc : Int) + o ∧ ((pc : Int) + o).toNat = tp) (h1 : Snd l Z n0 m np κ) (h2 : Snd l Z n0 m tp κ') : Snd l Z n0 m pc (oLt κ κ') := by
  intro L S H v H' hL e0
  obtain ⟨y, S, rfl, e1⟩ := unK_some e0
  obtain ⟨y, rfl, e2⟩ := isI_some e1
  obtain ⟨x, S, rfl, e3⟩ := unK_some e2
  obtain ⟨x, rfl, e4⟩ := isI_some e3
  obtain ⟨g, e5⟩ := gd_some e4
  rw [Bool.and_eq_true] at g
  have g1 := ble_of g.1
  have g2 := ble_of g.2
  cases q : Nat.ble y x with
  | true => rw [q] at e5; exact r_icT hd (XT.ii_ge_t (fun z => by have := (ti_lt (by omega) (by omega)).mp z; have := ble_of q; omega)) (h2 L S H v H' hL e5)
  | false => rw [q] at e5; exact r_icF hd (XT.ii_ge_f ((ti_lt (by omega) (by omega)).mpr (nble_of q))) (h1 L S H v H' hL e5)
theorem snd_cgt {o : Int} (hd : decode m.2.1 pc = .ok (.if_icmp .gt o, 3) ∧ pc + 3 = np ∧ 0 ≤ (pc : Int) + o ∧ ((pc : Int) + o).toNat = tp) (h1 : Snd l Z n0 m tp κ) (h2 : Snd l Z n0 m np κ') : Snd l Z n0 m pc (oGt κ κ') := by
  intro L S H v H' hL e0
  obtain ⟨y, S, rfl, e1⟩ := unK_some e0
  obtain ⟨y, rfl, e2⟩ := isI_some e1
  obtain ⟨x, S, rfl, e3⟩ := unK_some e2
  obtain ⟨x, rfl, e4⟩ := isI_some e3
  obtain ⟨g, e5⟩ := gd_some e4
  rw [Bool.and_eq_true] at g
  have g1 := ble_of g.1
  have g2 := ble_of g.2
  cases q : Nat.ble x y with
  | true => rw [q] at e5; exact r_icF hd (XT.ii_gt_f (fun z => by have := (ti_lt (by omega) (by omega)).mp z; have := ble_of q; omega)) (h2 L S H v H' hL e5)
  | false => rw [q] at e5; exact r_icT hd (XT.ii_gt_t ((ti_lt (by omega) (by omega)).mpr (nble_of q))) (h1 L S H v H' hL e5)
theorem snd_cle {o : Int} (hd : decode m.2.1 pc = .ok (.if_icmp .le o, 3) ∧ pc + 3 = np ∧ 0 ≤ (pc : Int) + o ∧ ((pc : Int) + o).toNat = tp) (h1 : Snd l Z n0 m np κ) (h2 : Snd l Z n0 m tp κ') : Snd l Z n0 m pc (oGt κ κ') := by
  intro L S H v H' hL e0
  obtain ⟨y, S, rfl, e1⟩ := unK_some e0
  obtain ⟨y, rfl, e2⟩ := isI_some e1
  obtain ⟨x, S, rfl, e3⟩ := unK_some e2
  obtain ⟨x, rfl, e4⟩ := isI_some e3
  obtain ⟨g, e5⟩ := gd_some e4
  rw [Bool.and_eq_true] at g
  have g1 := ble_of g.1
  have g2 := ble_of g.2
  cases q : Nat.ble x y with
  | true => rw [q] at e5; exact r_icT hd (XT.ii_le_t (fun z => by have := (ti_lt (by omega) (by omega)).mp z; have := ble_of q; omega)) (h2 L S H v H' hL e5)
  | false => rw [q] at e5; exact r_icF hd (XT.ii_le_f ((ti_lt (by omega) (by omega)).mpr (nble_of q))) (h1 L S H v H' hL e5)
theorem snd_zeq {o : Int} (hd : decode m.2.1 pc = .ok (.ifCond .eq o, 3) ∧ pc + 3 = np ∧ 0 ≤ (pc : Int) + o ∧ ((pc : Int) + o).toNat = tp) (h1 : Snd l Z n0 m tp κ) (h2 : Snd l Z n0 m np κ') : Snd l Z n0 m pc (oZ κ κ') := by
  intro L S H v H' hL e0
  obtain ⟨x, S, rfl, e1⟩ := unK_some e0
  obtain ⟨x, rfl, e2⟩ := isI_some e1
  obtain ⟨g, e3⟩ := gd_some e2
  have g1 := ble_of g
  cases q : Nat.beq x 0 with
  | true => rw [q] at e3; exact r_ifT hd (XT.i0_eq_t (by rw [Nat.eq_of_beq_eq_true q]; rfl)) (h1 L S H v H' hL e3)
  | false => rw [q] at e3; exact r_ifF hd (XT.i0_eq_f (fun z => nbeq_of q (ti_inj32 (b := 0) (by omega) (by omega) z))) (h2 L S H v H' hL e3)
theorem snd_zne {o : Int} (hd : decode m.2.1 pc = .ok (.ifCond .ne o, 3) ∧ pc + 3 = np ∧ 0 ≤ (pc : Int) + o ∧ ((pc : Int) + o).toNat = tp) (h1 : Snd l Z n0 m np κ) (h2 : Snd l Z n0 m tp κ') : Snd l Z n0 m pc (oZ κ κ') := by
  intro L S H v H' hL e0
  obtain ⟨x, S, rfl, e1⟩ := unK_some e0
  obtain ⟨x, rfl, e2⟩ := isI_some e1
  obtain ⟨g, e3⟩ := gd_some e2
  have g1 := ble_of g
  cases q : Nat.beq x 0 with
  | true => rw [q] at e3; exact r_ifF hd (XT.i0_ne_f (by rw [Nat.eq_of_beq_eq_true q]; rfl)) (h1 L S H v H' hL e3)
  | false => rw [q] at e3; exact r_ifT hd (XT.i0_ne_t (fun z => nbeq_of q (ti_inj32 (b := 0) (by omega) (by omega) z))) (h2 L S H v H' hL e3)
theorem snd_zle {o : Int} (hd : decode m.2.1 pc = .ok (.ifCond .le o, 3) ∧ pc + 3 = np ∧ 0 ≤ (pc : Int) + o ∧ ((pc : Int) + o).toNat = tp) (h1 : Snd l Z n0 m tp κ) (h2 : Snd l Z n0 m np κ') : Snd l Z n0 m pc (oZ κ κ') := by
  intro L S H v H' hL e0
  obtain ⟨x, S, rfl, e1⟩ := unK_some e0
  obtain ⟨x, rfl, e2⟩ := isI_some e1
  obtain ⟨g, e3⟩ := gd_some e2
  have g1 := ble_of g
  cases q : Nat.beq x 0 with
  | true => rw [q] at e3; exact r_ifT hd (XT.i0_le_t (by rw [Nat.eq_of_beq_eq_true q]; decide)) (h1 L S H v H' hL e3)
  | false => rw [q] at e3; exact r_ifF hd (XT.i0_le_f ((ti_lt (a := 0) (by omega) (by omega)).mpr (Nat.pos_of_ne_zero (nbeq_of q)))) (h2 L S H v H' hL e3)
theorem snd_zge {o : Int} (hd : decode m.2.1 pc = .ok (.ifCond .ge o, 3) ∧ pc + 3 = np ∧ 0 ≤ (pc : Int) + o ∧ ((pc : Int) + o).toNat = tp) (ht : Snd l Z n0 m tp κ) : Snd l Z n0 m pc (oZge κ) := by
  intro L S H v H' hL e0
  obtain ⟨x, S, rfl, e1⟩ := unK_some e0
  obtain ⟨x, rfl, e2⟩ := isI_some e1
  obtain ⟨g, e3⟩ := gd_some e2
  have g := ble_of g
  exact r_ifT hd (XT.i0_ge_t (ti_ix (show x < 2 ^ 31 by omega)).1) (ht L S H v H' hL e3)
theorem snd_goto {o : Int} (hd : decode m.2.1 pc = .ok (.goto o, 3) ∧ pc + 3 = np ∧ 0 ≤ (pc : Int) + o ∧ ((pc : Int) + o).toNat = tp) (h : Snd l Z n0 m tp κ) : Snd l Z n0 m pc κ := fun L S H v H' hL e => r_goto hd (h L S H v H' hL e)
theorem snd_iret (hd : decode m.2.1 pc = .ok (.ireturn, 1)) (hr : m.2.2.2.1 = some .int) : Snd l Z n0 m pc oIret := by
  intro L S H v H' hL e0
  obtain ⟨x, S, rfl, e1⟩ := unK_some e0
  obtain ⟨x, rfl, e2⟩ := isI_some e1
  cases e2
  exact r_ireturn hd hr
theorem snd_zret (hd : decode m.2.1 pc = .ok (.ireturn, 1)) (hr : m.2.2.2.1 = some .boolean) : Snd l Z n0 m pc oZret := by
  intro L S H v H' hL e0
  obtain ⟨x, S, rfl, e1⟩ := unK_some e0
  obtain ⟨x, rfl, e2⟩ := isI_some e1
  obtain ⟨g, e3⟩ := gd_some e2
  have g := ble_of g
  cases e3
  refine r_zreturn hd hr ?_
  match x, g with
  | 0, _ => exact Or.inl rfl
  | 1, _ => exact Or.inr rfl
theorem snd_aret {t : FieldType} (hd : decode m.2.1 pc = .ok (.areturn, 1)) (hr : m.2.2.2.1 = some (.array t)) : Snd l Z n0 m pc oAret := by
  intro L S H v H' hL e0
  obtain ⟨x, S, rfl, e1⟩ := unK_some e0
  obtain ⟨x, rfl, e2⟩ := isR_some e1
  cases e2
  exact r_areturn hd hr rfl rfl
theorem snd_vret (hd : decode m.2.1 pc = .ok (.return_, 1)) (hr : m.2.2.2.1 = none) : Snd l Z n0 m pc oVret := by
  intro L S H v H' hL e0
  cases S with
  | nil => cases e0; exact r_return hd hr
  | cons x S => cases e0
theorem snd_cast (site : ∀ {ls : List Slot} {st : List Value} {H : List Ob} {v : Option Value} {H' : List Ob} {a : Nat} {vs : List Value}, H[a]? = some (.inr (.int, vs)) → Runs K l Z n0 m np ls (.ref a :: st) H v H' → Runs K l Z n0 m pc ls (.ref a :: st) H v H') (h : Snd l Z n0 m np κ) : Snd l Z n0 m pc (oCast κ) := by
  intro L S H v H' hL e0
  obtain ⟨a, S, rfl, e1⟩ := unK_some e0
  obtain ⟨a, rfl, e2⟩ := isR_some e1
  obtain ⟨A, hA, e3⟩ := atK_some e2
  exact site (heap_cO hA) (h L (.inr (some a) :: S) H v H' hL e3)
theorem snd_clone {q : Nat} (site : ∀ {ls : List Slot} {st : List Value} {H : List Ob} {v : Option Value} {H' : List Ob} {a : Nat} {vs : List Value}, H[a]? = some (.inr (.int, vs)) → ls.length = m.2.2.1 → (st.map fun v => v.category).sum ≤ q → Runs K l Z n0 m np ls (.ref H.length :: st) (H ++ [.inr (.int, vs)]) v H' → Runs K l Z n0 m pc ls (.ref a :: st) H v H') (h : Snd l Z n0 m np κ) : Snd l Z n0 m pc (oClone q κ) := by
  intro L S H v H' hL e0
  obtain ⟨a, S, rfl, e1⟩ := unK_some e0
  obtain ⟨a, rfl, e2⟩ := isR_some e1
  rw [lenK_eq] at e2
  obtain ⟨g, e3⟩ := gd_some e2
  obtain ⟨A, hA, e4⟩ := atK_some e3
  rw [lenK_eq, appK_eq] at e4
  refine site (heap_cO hA) (by rw [List.length_map]; exact hL) (by rw [cats_cV]; exact ble_of g) ?_
  have k := h L (.inr (some H.length) :: S) (H ++ [A]) v H' hL e4
  rw [List.map_append] at k
  rw [List.length_map]
  exact k
theorem snd_copy {q : Nat} (site : ∀ {ls : List Slot} {st : List Value} {H : List Ob} {v : Option Value} {H' : List Ob} {a b : Nat} {vs wd : List Value} {n : Int32} {nN : Nat}, H[a]? = some (.inr (.int, vs)) → H[b]? = some (.inr (.int, wd)) → Ix n nN → nN ≤ vs.length → nN ≤ wd.length → ls.length = m.2.2.1 → (st.map fun v => v.category).sum ≤ q → Runs K l Z n0 m np ls st (H.set b (.inr (.int, vs.take nN ++ wd.drop nN))) v H' → Runs K l Z n0 m pc ls (.int n :: .int 0 :: .ref b :: .int 0 :: .ref a :: st) H v H') (h : Snd l Z n0 m np κ) : Snd l Z n0 m pc (oCopy q κ) := by
  intro L S H v H' hL e0
  obtain ⟨n, S, rfl, e1⟩ := unK_some e0
  obtain ⟨n, rfl, e2⟩ := isI_some e1
  obtain ⟨d, S, rfl, e3⟩ := unK_some e2
  obtain ⟨d, rfl, e4⟩ := isI_some e3
  obtain ⟨b, S, rfl, e5⟩ := unK_some e4
  obtain ⟨b, rfl, e6⟩ := isR_some e5
  obtain ⟨s, S, rfl, e7⟩ := unK_some e6
  obtain ⟨s, rfl, e8⟩ := isI_some e7
  obtain ⟨a, S, rfl, e9⟩ := unK_some e8
  obtain ⟨a, rfl, e10⟩ := isR_some e9
  rw [lenK_eq] at e10
  obtain ⟨g, e11⟩ := gd_some e10
  rw [Bool.and_eq_true, Bool.and_eq_true, Bool.and_eq_true] at g
  obtain ⟨g1, g2, g3, g4⟩ := g
  have g1 := ble_of g1
  have g2 := ble_of g2
  obtain rfl := Nat.eq_of_beq_eq_true g3
  obtain rfl := Nat.eq_of_beq_eq_true g4
  obtain ⟨A, hA, e12⟩ := atK_some e11
  obtain ⟨B, hB, e13⟩ := atK_some e12
  obtain ⟨h1, h2, e14⟩ := cpK_some e13
  obtain ⟨hb, e15⟩ := setK_some e14
  refine site (heap_cO hA) (heap_cO hB) (ti_ix (show n < 2 ^ 31 by omega)) (by rw [List.length_map]; exact h1) (by rw [List.length_map]; exact h2) (by rw [List.length_map]; exact hL) (by rw [cats_cV]; exact g1) ?_
  have k := h L S _ v H' hL e15
  rw [List.map_set] at k
  unfold cO at k
  rw [List.map_append, List.map_take, List.map_drop] at k
  exact k
theorem own_meets {mj : MI} {f : Sx} {mx : Nat} {as : List EV} {H : List (List Nat)} {v : Option EV} {H' : List (List Nat)} (hp : plainFor mj.1 = true) (hx : mj.2.2.1 = mx) (hv : mj.2.2.2.1 = none → v = none) (hl : as.length ≤ mx) (hu : ∀ y ∈ as, y ≠ .inr none) (hf : Snd l Z n0 mj 0 f) (e : f (as ++ List.replicate (mx - as.length) (.inr none)) [] H = some (v, H')) : Meets K l Z n0 mj (as.map cV) (H.map cO) (v.map cV) (H'.map cO) := by
  refine meets hp rfl (fun z => by rw [hv z]; rfl) ?_
  have k := hf _ [] H v H' (by rw [List.length_append, List.length_replicate, hx]; omega) e
  rw [laid_cV as hu, List.length_map, hx]
  rw [List.map_append, List.map_replicate] at k
  exact k
theorem snd_callR {mj : MI} {f : Sx} {mx k q : Nat} (hp : plainFor mj.1 = true) (hx : mj.2.2.1 = mx) (hr : mj.2.2.2.1.isSome = true) (hkm : k ≤ mx) (site : ∀ {ls : List Slot} {st : List Value} {H : List Ob} {v : Option Value} {H' H1 : List Ob} {as : List Value} {w : Value}, as.length = k → ls.length = m.2.2.1 → (st.map fun v => v.category).sum ≤ q → Meets K l Z n0 mj as H (some w) H1 → Runs K l Z n0 m np ls (w :: st) H1 v H' → Runs K l Z n0 m pc ls (as.reverse ++ st) H v H') (hf : Snd l Z n0 mj 0 f) (h : Snd l Z n0 m np κ) : Snd l Z n0 m pc (oCallR f mx k q κ) := by
  intro L S H v H' hL e0
  obtain ⟨ys, S, h1, rfl, h2, e1⟩ := takeK_some e0
  rw [lenK_eq] at e1
  obtain ⟨g, e2⟩ := gd_some e1
  have hl : ys.reverse.length = k := by rw [List.length_reverse]; exact h1
  rw [List.append_nil, padK_eq _ _ _ (by omega)] at e2
  obtain ⟨w, H1, e1, e3⟩ := toR_some e2
  have M := own_meets hp hx (fun z => by rw [z] at hr; cases hr) (by omega) (fun y hy => h2 y (List.mem_reverse.mp hy)) hf e1
  have k := site (by rw [List.length_map]; exact hl) (by rw [List.length_map]; exact hL) (by rw [cats_cV]; exact ble_of g) M (h L (w :: S) H1 v H' hL e3)
  rw [← List.map_reverse, List.reverse_reverse, ← List.map_append] at k
  exact k
theorem snd_callV {mj : MI} {f : Sx} {mx k q : Nat} (hp : plainFor mj.1 = true) (hx : mj.2.2.1 = mx) (_hr : mj.2.2.2.1 = none) (hkm : k ≤ mx) (site : ∀ {ls : List Slot} {st : List Value} {H : List Ob} {v : Option Value} {H' H1 : List Ob} {as : List Value}, as.length = k → ls.length = m.2.2.1 → (st.map fun v => v.category).sum ≤ q → Meets K l Z n0 mj as H none H1 → Runs K l Z n0 m np ls st H1 v H' → Runs K l Z n0 m pc ls (as.reverse ++ st) H v H') (hf : Snd l Z n0 mj 0 f) (h : Snd l Z n0 m np κ) : Snd l Z n0 m pc (oCallV f mx k q κ) := by
  intro L S H v H' hL e0
  obtain ⟨ys, S, h1, rfl, h2, e1⟩ := takeK_some e0
  rw [lenK_eq] at e1
  obtain ⟨g, e2⟩ := gd_some e1
  have hl : ys.reverse.length = k := by rw [List.length_reverse]; exact h1
  rw [List.append_nil, padK_eq _ _ _ (by omega)] at e2
  obtain ⟨H1, e1, e3⟩ := toV_some e2
  have M := own_meets hp hx (fun _ => rfl) (by omega) (fun y hy => h2 y (List.mem_reverse.mp hy)) hf e1
  have k := site (by rw [List.length_map]; exact hl) (by rw [List.length_map]; exact hL) (by rw [cats_cV]; exact ble_of g) M (h L S H1 v H' hL e3)
  rw [← List.map_reverse, List.reverse_reverse, ← List.map_append] at k
  exact k
end Sound
theorem snd_node {l : Launch} {Z : State} {n0 : Nat} {m : MI} {pc p : Nat} {f A B : Sx} (hf : Snd l Z n0 m p f) (ha : Snd l Z n0 m pc A) (hb : Snd l Z n0 m pc B) : Snd l Z n0 m pc (cond (Nat.beq pc p) f (cond (Nat.ble pc p) A B)) := by
  cases e : Nat.beq pc p with
  | true => obtain rfl := Nat.eq_of_beq_eq_true e; exact hf
  | false => cases Nat.ble pc p with
    | true => exact ha
    | false => exact hb
def mOf : Nat → MI
  | 1 => m1
  | 2 => m2
  | 3 => m3
  | 4 => m4
  | 5 => m5
  | 6 => m6
  | 7 => m7
  | 8 => m8
  | 10 => m10
  | 11 => m11
  | 12 => m12
  | _ => m0
theorem b1_0_ok {l : Launch} {Z : State} {a0 : Array Value} {n0 : Nat} (hw : HW Z a0) (ih : Nat → Nat → Sx) (hh : ∀ j pc, Snd l Z n0 (mOf j) pc (ih j pc)) : Snd l Z n0 m1 0 (b1_0 ih) :=
  (snd_aload_n i1_0 rfl (snd_len i1_1 (snd_istore_n i1_2 rfl (snd_iload_n i1_3 rfl (snd_new (fun hn h8 kk => s1_4 hw hn h8 rfl rfl rfl kk) (snd_astore_n i1_6 rfl (snd_aload_n i1_7 rfl (snd_iload_n i1_8 rfl (snd_callR pf2 rfl rfl (leB rfl) (fun {ls st H v H' H1 as w} hk hls hlo M kk => match as, hk, M with | [x0, x1], _, M => s1_9 hw M hls hlo kk) (hh 2 0) (snd_astore i1_12 (snd_iload_n i1_14 rfl (snd_new (fun hn h8 kk => s1_15 hw hn h8 rfl rfl rfl kk) (snd_astore i1_17 (snd_iload_n i1_19 rfl (snd_iload_n i1_20 rfl (snd_callR pf3 rfl rfl (leB rfl) (fun {ls st H v H' H1 as w} hk hls hlo M kk => match as, hk, M with | [x0, x1], _, M => s1_21 hw M hls hlo kk) (hh 3 0) (snd_iconst i1_24 (by decide) (snd_iadd i1_25 (snd_new (fun hn h8 kk => s1_26 hw hn h8 rfl rfl rfl kk) (snd_astore i1_28 (snd_iload_n i1_30 rfl (snd_istore i1_31 (snd_iconst i1_33 (by decide) (snd_istore i1_34 (hh 1 36)))))))))))))))))))))))))
theorem b1_36_ok {l : Launch} {Z : State} {a0 : Array Value} {n0 : Nat} (hw : HW Z a0) (ih : Nat → Nat → Sx) (hh : ∀ j pc, Snd l Z n0 (mOf j) pc (ih j pc)) : Snd l Z n0 m1 36 (b1_36 ih) :=
  (snd_iload i1_36 (snd_iload_n i1_38 rfl (snd_cge i1_39 (snd_aload_n i1_42 rfl (snd_iload i1_43 (snd_iload i1_45 (snd_st i1_47 (snd_inc i1_48 (by decide) (snd_goto i1_51 (hh 1 36))))))) (hh 1 54))))
theorem b1_54_ok {l : Launch} {Z : State} {a0 : Array Value} {n0 : Nat} (hw : HW Z a0) (ih : Nat → Nat → Sx) (hh : ∀ j pc, Snd l Z n0 (mOf j) pc (ih j pc)) : Snd l Z n0 m1 54 (b1_54 ih) :=
  (snd_aload_n i1_54 rfl (snd_aload i1_55 (snd_aload i1_57 (snd_aload i1_59 (snd_iload i1_61 (snd_callV pf4 rfl rfl (leB rfl) (fun {ls st H v H' H1 as} hk hls hlo M kk => match as, hk, M with | [x0, x1, x2, x3, x4], _, M => s1_63 hw M hls hlo kk) (hh 4 0) (snd_iconst i1_66 (by decide) (snd_istore i1_67 (hh 1 69)))))))))
theorem b1_69_ok {l : Launch} {Z : State} {a0 : Array Value} {n0 : Nat} (hw : HW Z a0) (ih : Nat → Nat → Sx) (hh : ∀ j pc, Snd l Z n0 (mOf j) pc (ih j pc)) : Snd l Z n0 m1 69 (b1_69 ih) :=
  (snd_iload_n i1_69 rfl (snd_iconst i1_70 (by decide) (snd_cle i1_71 (snd_iconst i1_74 (by decide) (snd_istore i1_75 (snd_iload_n i1_77 rfl (snd_iload i1_78 (snd_isub i1_80 (snd_iconst i1_81 (by decide) (snd_callR pf3 rfl rfl (leB rfl) (fun {ls st H v H' H1 as w} hk hls hlo M kk => match as, hk, M with | [x0, x1], _, M => s1_82 hw M hls hlo kk) (hh 3 0) (snd_istore i1_85 (hh 1 87))))))))) (hh 1 315))))
theorem b1_87_ok {l : Launch} {Z : State} {a0 : Array Value} {n0 : Nat} (hw : HW Z a0) (ih : Nat → Nat → Sx) (hh : ∀ j pc, Snd l Z n0 (mOf j) pc (ih j pc)) : Snd l Z n0 m1 87 (b1_87 ih) :=
  (snd_iload i1_87 (snd_iload_n i1_89 rfl (snd_cge i1_90 (snd_aload i1_93 (snd_iload i1_95 (snd_inc i1_97 (by decide) (snd_iload i1_100 (snd_st i1_102 (snd_inc i1_103 (by decide) (snd_goto i1_106 (hh 1 87)))))))) (hh 1 109))))
theorem b1_109_ok {l : Launch} {Z : State} {a0 : Array Value} {n0 : Nat} (hw : HW Z a0) (ih : Nat → Nat → Sx) (hh : ∀ j pc, Snd l Z n0 (mOf j) pc (ih j pc)) : Snd l Z n0 m1 109 (b1_109 ih) :=
  (snd_aload_n i1_109 rfl (snd_astore i1_110 (snd_aload i1_112 (snd_len i1_114 (snd_istore i1_115 (snd_iconst i1_117 (by decide) (snd_istore i1_118 (hh 1 120))))))))
theorem b1_120_ok {l : Launch} {Z : State} {a0 : Array Value} {n0 : Nat} (hw : HW Z a0) (ih : Nat → Nat → Sx) (hh : ∀ j pc, Snd l Z n0 (mOf j) pc (ih j pc)) : Snd l Z n0 m1 120 (b1_120 ih) :=
  (snd_iload i1_120 (snd_iload i1_122 (snd_cge i1_124 (snd_aload i1_127 (snd_iload i1_129 (snd_ld i1_131 (snd_istore i1_132 (snd_iload i1_134 (snd_iload i1_136 (snd_clt i1_138 (hh 1 154) (snd_aload i1_141 (snd_iload i1_143 (snd_inc i1_145 (by decide) (snd_iload i1_148 (snd_iload i1_150 (snd_isub i1_152 (snd_st i1_153 (hh 1 154))))))))))))))) (hh 1 160))))
theorem b1_154_ok {l : Launch} {Z : State} {a0 : Array Value} {n0 : Nat} (hw : HW Z a0) (ih : Nat → Nat → Sx) (hh : ∀ j pc, Snd l Z n0 (mOf j) pc (ih j pc)) : Snd l Z n0 m1 154 (b1_154 ih) :=
  (snd_inc i1_154 (by decide) (snd_goto i1_157 (hh 1 120)))
theorem b1_160_ok {l : Launch} {Z : State} {a0 : Array Value} {n0 : Nat} (hw : HW Z a0) (ih : Nat → Nat → Sx) (hh : ∀ j pc, Snd l Z n0 (mOf j) pc (ih j pc)) : Snd l Z n0 m1 160 (b1_160 ih) :=
  (snd_aload i1_160 (snd_iconst i1_162 (by decide) (snd_aload_n i1_163 rfl (snd_iconst i1_164 (by decide) (snd_iload_n i1_165 rfl (snd_copy (fun ho ho' hn h1 h2 hls hlo kk => s1_166 hw rfl ho ho' (spN := 0) (dpN := 0) ⟨by decide, by decide⟩ ⟨by decide, by decide⟩ hn (by omega) (by omega) (by rw [List.take_zero, List.nil_append, List.drop_zero, Nat.zero_add]) rfl hls hlo kk) (snd_aload_n i1_169 rfl (snd_aload i1_170 (snd_aload i1_172 (snd_aload i1_174 (snd_iload i1_176 (snd_callV pf4 rfl rfl (leB rfl) (fun {ls st H v H' H1 as} hk hls hlo M kk => match as, hk, M with | [x0, x1, x2, x3, x4], _, M => s1_178 hw M hls hlo kk) (hh 4 0) (snd_aload i1_181 (snd_aload_n i1_183 rfl (snd_iconst i1_184 (by decide) (snd_ld i1_185 (snd_iconst i1_186 (by decide) (snd_st i1_187 (snd_iconst i1_188 (by decide) (snd_istore i1_189 (snd_iconst i1_191 (by decide) (snd_istore i1_192 (hh 1 194)))))))))))))))))))))))
theorem b1_194_ok {l : Launch} {Z : State} {a0 : Array Value} {n0 : Nat} (hw : HW Z a0) (ih : Nat → Nat → Sx) (hh : ∀ j pc, Snd l Z n0 (mOf j) pc (ih j pc)) : Snd l Z n0 m1 194 (b1_194 ih) :=
  (snd_iload i1_194 (snd_iload_n i1_196 rfl (snd_cge i1_197 (snd_aload_n i1_200 rfl (snd_iload i1_201 (snd_iconst i1_203 (by decide) (snd_isub i1_204 (snd_ld i1_205 (snd_istore i1_206 (snd_aload_n i1_208 rfl (snd_iload i1_209 (snd_ld i1_211 (snd_istore i1_212 (snd_aload i1_214 (snd_iload i1_216 (snd_ld i1_218 (snd_aload i1_219 (snd_iload i1_221 (snd_ld i1_223 (snd_cne i1_224 (snd_aload i1_227 (snd_iload i1_229 (snd_iload i1_231 (snd_iadd i1_233 (snd_callR pf12 rfl rfl (leB rfl) (fun {ls st H v H' H1 as w} hk hls hlo M kk => match as, hk, M with | [x0, x1], _, M => s1_234 hw M hls hlo kk) (hh 12 0) (snd_aload i1_237 (snd_iload i1_239 (snd_iload i1_241 (snd_iadd i1_243 (snd_callR pf12 rfl rfl (leB rfl) (fun {ls st H v H' H1 as w} hk hls hlo M kk => match as, hk, M with | [x0, x1], _, M => s1_244 hw M hls hlo kk) (hh 12 0) (snd_cne i1_247 (snd_iconst i1_250 (by decide) (snd_goto i1_251 (hh 1 255))) (hh 1 254)))))))))))) (hh 1 254)))))))))))))))))) (hh 1 285))))
theorem b1_254_ok {l : Launch} {Z : State} {a0 : Array Value} {n0 : Nat} (hw : HW Z a0) (ih : Nat → Nat → Sx) (hh : ∀ j pc, Snd l Z n0 (mOf j) pc (ih j pc)) : Snd l Z n0 m1 254 (b1_254 ih) :=
  (snd_iconst i1_254 (by decide) (hh 1 255))
theorem b1_255_ok {l : Launch} {Z : State} {a0 : Array Value} {n0 : Nat} (hw : HW Z a0) (ih : Nat → Nat → Sx) (hh : ∀ j pc, Snd l Z n0 (mOf j) pc (ih j pc)) : Snd l Z n0 m1 255 (b1_255 ih) :=
  (snd_istore i1_255 (snd_aload i1_257 (snd_iload i1_259 (snd_iload i1_261 (snd_zeq i1_263 (hh 1 273) (snd_iload i1_266 (snd_iconst i1_268 (by decide) (snd_isub i1_269 (snd_goto i1_270 (hh 1 278))))))))))
theorem b1_273_ok {l : Launch} {Z : State} {a0 : Array Value} {n0 : Nat} (hw : HW Z a0) (ih : Nat → Nat → Sx) (hh : ∀ j pc, Snd l Z n0 (mOf j) pc (ih j pc)) : Snd l Z n0 m1 273 (b1_273 ih) :=
  (snd_iload i1_273 (snd_inc i1_275 (by decide) (hh 1 278)))
theorem b1_278_ok {l : Launch} {Z : State} {a0 : Array Value} {n0 : Nat} (hw : HW Z a0) (ih : Nat → Nat → Sx) (hh : ∀ j pc, Snd l Z n0 (mOf j) pc (ih j pc)) : Snd l Z n0 m1 278 (b1_278 ih) :=
  (snd_st i1_278 (snd_inc i1_279 (by decide) (snd_goto i1_282 (hh 1 194))))
theorem b1_285_ok {l : Launch} {Z : State} {a0 : Array Value} {n0 : Nat} (hw : HW Z a0) (ih : Nat → Nat → Sx) (hh : ∀ j pc, Snd l Z n0 (mOf j) pc (ih j pc)) : Snd l Z n0 m1 285 (b1_285 ih) :=
  (snd_aload i1_285 (snd_astore i1_287 (snd_aload i1_289 (snd_astore i1_291 (snd_aload i1_293 (snd_astore i1_295 (snd_iload i1_297 (snd_iload_n i1_299 rfl (snd_cne i1_300 (snd_goto i1_303 (hh 1 315)) (hh 1 306))))))))))
theorem b1_306_ok {l : Launch} {Z : State} {a0 : Array Value} {n0 : Nat} (hw : HW Z a0) (ih : Nat → Nat → Sx) (hh : ∀ j pc, Snd l Z n0 (mOf j) pc (ih j pc)) : Snd l Z n0 m1 306 (b1_306 ih) :=
  (snd_iload i1_306 (snd_iconst i1_308 (by decide) (snd_imul i1_309 (snd_istore i1_310 (snd_goto i1_312 (hh 1 69))))))
theorem b1_315_ok {l : Launch} {Z : State} {a0 : Array Value} {n0 : Nat} (hw : HW Z a0) (ih : Nat → Nat → Sx) (hh : ∀ j pc, Snd l Z n0 (mOf j) pc (ih j pc)) : Snd l Z n0 m1 315 (b1_315 ih) :=
  (snd_aload_n i1_315 rfl (snd_aret i1_316 rfl))
theorem tab1_ok {l : Launch} {Z : State} {a0 : Array Value} {n0 : Nat} (hw : HW Z a0) : ∀ (ih : Nat → Nat → Sx) (_ : ∀ j pc, Snd l Z n0 (mOf j) pc (ih j pc)) (pc : Nat), Snd l Z n0 m1 pc (tab1 ih pc) := fun ih hh pc =>
  (snd_node (b1_160_ok hw ih hh) (snd_node (b1_87_ok hw ih hh) (snd_node (b1_54_ok hw ih hh) (snd_node (b1_36_ok hw ih hh) (snd_node (b1_0_ok hw ih hh) snd_none snd_none) snd_none) (snd_node (b1_69_ok hw ih hh) snd_none snd_none)) (snd_node (b1_120_ok hw ih hh) (snd_node (b1_109_ok hw ih hh) snd_none snd_none) (snd_node (b1_154_ok hw ih hh) snd_none snd_none))) (snd_node (b1_278_ok hw ih hh) (snd_node (b1_255_ok hw ih hh) (snd_node (b1_254_ok hw ih hh) (snd_node (b1_194_ok hw ih hh) snd_none snd_none) snd_none) (snd_node (b1_273_ok hw ih hh) snd_none snd_none)) (snd_node (b1_306_ok hw ih hh) (snd_node (b1_285_ok hw ih hh) snd_none snd_none) (snd_node (b1_315_ok hw ih hh) snd_none snd_none))))
theorem b4_0_ok {l : Launch} {Z : State} {a0 : Array Value} {n0 : Nat} (hw : HW Z a0) (ih : Nat → Nat → Sx) (hh : ∀ j pc, Snd l Z n0 (mOf j) pc (ih j pc)) : Snd l Z n0 m4 0 (b4_0 ih) :=
  (snd_aload_n i4_0 rfl (snd_iconst i4_1 (by decide) (snd_iload i4_2 (snd_iconst i4_4 (by decide) (snd_iadd i4_5 (snd_iconst i4_6 (by decide) (snd_callV pf5 rfl rfl (leB rfl) (fun {ls st H v H' H1 as} hk hls hlo M kk => match as, hk, M with | [x0, x1, x2, x3], _, M => s4_7 hw M hls hlo kk) (hh 5 0) (snd_aload_n i4_10 rfl (snd_astore i4_11 (snd_aload i4_13 (snd_len i4_15 (snd_istore i4_16 (snd_iconst i4_18 (by decide) (snd_istore i4_19 (hh 4 21)))))))))))))))
theorem b4_21_ok {l : Launch} {Z : State} {a0 : Array Value} {n0 : Nat} (hw : HW Z a0) (ih : Nat → Nat → Sx) (hh : ∀ j pc, Snd l Z n0 (mOf j) pc (ih j pc)) : Snd l Z n0 m4 21 (b4_21 ih) :=
  (snd_iload i4_21 (snd_iload i4_23 (snd_cge i4_25 (snd_aload i4_28 (snd_iload i4_30 (snd_ld i4_32 (snd_istore i4_33 (snd_aload_n i4_35 rfl (snd_aload_n i4_36 rfl (snd_iload i4_37 (snd_ld i4_39 (snd_iconst i4_40 (by decide) (snd_iadd i4_41 (snd_dup2 i4_42 (snd_ld i4_43 (snd_iconst i4_44 (by decide) (snd_iadd i4_45 (snd_st i4_46 (snd_inc i4_47 (by decide) (snd_goto i4_50 (hh 4 21)))))))))))))))))) (hh 4 53))))
theorem b4_53_ok {l : Launch} {Z : State} {a0 : Array Value} {n0 : Nat} (hw : HW Z a0) (ih : Nat → Nat → Sx) (hh : ∀ j pc, Snd l Z n0 (mOf j) pc (ih j pc)) : Snd l Z n0 m4 53 (b4_53 ih) :=
  (snd_iconst i4_53 (by decide) (snd_istore i4_54 (hh 4 56)))
theorem b4_56_ok {l : Launch} {Z : State} {a0 : Array Value} {n0 : Nat} (hw : HW Z a0) (ih : Nat → Nat → Sx) (hh : ∀ j pc, Snd l Z n0 (mOf j) pc (ih j pc)) : Snd l Z n0 m4 56 (b4_56 ih) :=
  (snd_iload i4_56 (snd_iload i4_58 (snd_cgt i4_60 (hh 4 82) (snd_aload_n i4_63 rfl (snd_iload i4_64 (snd_dup2 i4_66 (snd_ld i4_67 (snd_aload_n i4_68 rfl (snd_iload i4_69 (snd_iconst i4_71 (by decide) (snd_isub i4_72 (snd_ld i4_73 (snd_iadd i4_74 (snd_st i4_75 (snd_inc i4_76 (by decide) (snd_goto i4_79 (hh 4 56)))))))))))))))))
theorem b4_82_ok {l : Launch} {Z : State} {a0 : Array Value} {n0 : Nat} (hw : HW Z a0) (ih : Nat → Nat → Sx) (hh : ∀ j pc, Snd l Z n0 (mOf j) pc (ih j pc)) : Snd l Z n0 m4 82 (b4_82 ih) :=
  (snd_aload_n i4_82 rfl (snd_astore i4_83 (snd_aload i4_85 (snd_len i4_87 (snd_istore i4_88 (snd_iconst i4_90 (by decide) (snd_istore i4_91 (hh 4 93))))))))
theorem b4_93_ok {l : Launch} {Z : State} {a0 : Array Value} {n0 : Nat} (hw : HW Z a0) (ih : Nat → Nat → Sx) (hh : ∀ j pc, Snd l Z n0 (mOf j) pc (ih j pc)) : Snd l Z n0 m4 93 (b4_93 ih) :=
  (snd_iload i4_93 (snd_iload i4_95 (snd_cge i4_97 (snd_aload i4_100 (snd_iload i4_102 (snd_ld i4_104 (snd_istore i4_105 (snd_aload_n i4_107 rfl (snd_aload_n i4_108 rfl (snd_aload_n i4_109 rfl (snd_iload i4_110 (snd_ld i4_112 (snd_dup2 i4_113 (snd_ld i4_114 (snd_dupx2 i4_115 (snd_iconst i4_116 (by decide) (snd_iadd i4_117 (snd_st i4_118 (snd_iload i4_119 (snd_st i4_121 (snd_inc i4_122 (by decide) (snd_goto i4_125 (hh 4 93)))))))))))))))))))) (hh 4 128))))
theorem b4_128_ok {l : Launch} {Z : State} {a0 : Array Value} {n0 : Nat} (hw : HW Z a0) (ih : Nat → Nat → Sx) (hh : ∀ j pc, Snd l Z n0 (mOf j) pc (ih j pc)) : Snd l Z n0 m4 128 (b4_128 ih) :=
  (snd_aload_n i4_128 rfl (snd_iconst i4_129 (by decide) (snd_aload_n i4_130 rfl (snd_iconst i4_131 (by decide) (snd_aload_n i4_132 rfl (snd_len i4_133 (snd_copy (fun ho ho' hn h1 h2 hls hlo kk => s4_134 hw rfl ho ho' (spN := 0) (dpN := 0) ⟨by decide, by decide⟩ ⟨by decide, by decide⟩ hn (by omega) (by omega) (by rw [List.take_zero, List.nil_append, List.drop_zero, Nat.zero_add]) rfl hls hlo kk) (snd_vret i4_137 rfl))))))))
theorem tab4_ok {l : Launch} {Z : State} {a0 : Array Value} {n0 : Nat} (hw : HW Z a0) : ∀ (ih : Nat → Nat → Sx) (_ : ∀ j pc, Snd l Z n0 (mOf j) pc (ih j pc)) (pc : Nat), Snd l Z n0 m4 pc (tab4 ih pc) := fun ih hh pc =>
  (snd_node (b4_56_ok hw ih hh) (snd_node (b4_21_ok hw ih hh) (snd_node (b4_0_ok hw ih hh) snd_none snd_none) (snd_node (b4_53_ok hw ih hh) snd_none snd_none)) (snd_node (b4_93_ok hw ih hh) (snd_node (b4_82_ok hw ih hh) snd_none snd_none) (snd_node (b4_128_ok hw ih hh) snd_none snd_none)))
theorem b5_0_ok {l : Launch} {Z : State} {a0 : Array Value} {n0 : Nat} (hw : HW Z a0) (ih : Nat → Nat → Sx) (hh : ∀ j pc, Snd l Z n0 (mOf j) pc (ih j pc)) : Snd l Z n0 m5 0 (b5_0 ih) :=
  (snd_aload_n i5_0 rfl (snd_len i5_1 (snd_iload_n i5_2 rfl (snd_iload_n i5_3 rfl (snd_callV pf6 rfl rfl (leB rfl) (fun {ls st H v H' H1 as} hk hls hlo M kk => match as, hk, M with | [x0, x1, x2], _, M => s5_4 hw M hls hlo kk) (hh 6 0) (snd_iload_n i5_7 rfl (snd_istore i5_8 (hh 5 10))))))))
theorem b5_10_ok {l : Launch} {Z : State} {a0 : Array Value} {n0 : Nat} (hw : HW Z a0) (ih : Nat → Nat → Sx) (hh : ∀ j pc, Snd l Z n0 (mOf j) pc (ih j pc)) : Snd l Z n0 m5 10 (b5_10 ih) :=
  (snd_iload i5_10 (snd_iload_n i5_12 rfl (snd_cge i5_13 (snd_aload_n i5_16 rfl (snd_iload i5_17 (snd_iload_n i5_19 rfl (snd_st i5_20 (snd_inc i5_21 (by decide) (snd_goto i5_24 (hh 5 10))))))) (hh 5 27))))
theorem b5_27_ok {l : Launch} {Z : State} {a0 : Array Value} {n0 : Nat} (hw : HW Z a0) (ih : Nat → Nat → Sx) (hh : ∀ j pc, Snd l Z n0 (mOf j) pc (ih j pc)) : Snd l Z n0 m5 27 (b5_27 ih) :=
  (snd_vret i5_27 rfl)
theorem tab5_ok {l : Launch} {Z : State} {a0 : Array Value} {n0 : Nat} (hw : HW Z a0) : ∀ (ih : Nat → Nat → Sx) (_ : ∀ j pc, Snd l Z n0 (mOf j) pc (ih j pc)) (pc : Nat), Snd l Z n0 m5 pc (tab5 ih pc) := fun ih hh pc =>
  (snd_node (b5_10_ok hw ih hh) (snd_node (b5_0_ok hw ih hh) snd_none snd_none) (snd_node (b5_27_ok hw ih hh) snd_none snd_none))
theorem b6_0_ok {l : Launch} {Z : State} {a0 : Array Value} {n0 : Nat} (hw : HW Z a0) (ih : Nat → Nat → Sx) (hh : ∀ j pc, Snd l Z n0 (mOf j) pc (ih j pc)) : Snd l Z n0 m6 0 (b6_0 ih) :=
  (snd_iload_n i6_0 rfl (snd_iload_n i6_1 rfl (snd_cle i6_2 snd_none (hh 6 46))))
theorem b6_46_ok {l : Launch} {Z : State} {a0 : Array Value} {n0 : Nat} (hw : HW Z a0) (ih : Nat → Nat → Sx) (hh : ∀ j pc, Snd l Z n0 (mOf j) pc (ih j pc)) : Snd l Z n0 m6 46 (b6_46 ih) :=
  (snd_iload_n i6_46 rfl (snd_zge i6_47 (hh 6 59)))
theorem b6_59_ok {l : Launch} {Z : State} {a0 : Array Value} {n0 : Nat} (hw : HW Z a0) (ih : Nat → Nat → Sx) (hh : ∀ j pc, Snd l Z n0 (mOf j) pc (ih j pc)) : Snd l Z n0 m6 59 (b6_59 ih) :=
  (snd_iload_n i6_59 rfl (snd_iload_n i6_60 rfl (snd_cle i6_61 snd_none (hh 6 73))))
theorem b6_73_ok {l : Launch} {Z : State} {a0 : Array Value} {n0 : Nat} (hw : HW Z a0) (ih : Nat → Nat → Sx) (hh : ∀ j pc, Snd l Z n0 (mOf j) pc (ih j pc)) : Snd l Z n0 m6 73 (b6_73 ih) :=
  (snd_vret i6_73 rfl)
theorem tab6_ok {l : Launch} {Z : State} {a0 : Array Value} {n0 : Nat} (hw : HW Z a0) : ∀ (ih : Nat → Nat → Sx) (_ : ∀ j pc, Snd l Z n0 (mOf j) pc (ih j pc)) (pc : Nat), Snd l Z n0 m6 pc (tab6 ih pc) := fun ih hh pc =>
  (snd_node (b6_59_ok hw ih hh) (snd_node (b6_46_ok hw ih hh) (snd_node (b6_0_ok hw ih hh) snd_none snd_none) snd_none) (snd_node (b6_73_ok hw ih hh) snd_none snd_none))
theorem b2_0_ok {l : Launch} {Z : State} {a0 : Array Value} {n0 : Nat} (hw : HW Z a0) (ih : Nat → Nat → Sx) (hh : ∀ j pc, Snd l Z n0 (mOf j) pc (ih j pc)) : Snd l Z n0 m2 0 (b2_0 ih) :=
  (snd_iload_n i2_0 rfl (snd_aload_n i2_1 rfl (snd_len i2_2 (snd_cne i2_3 (snd_aload_n i2_6 rfl (snd_clone (fun ho hls hlo kk => s2_7 hw ho rfl rfl hls hlo kk) (snd_cast (fun ho kk => s2_10 hw ho kk) (snd_aret i2_13 rfl)))) (hh 2 14)))))
theorem tab2_ok {l : Launch} {Z : State} {a0 : Array Value} {n0 : Nat} (hw : HW Z a0) : ∀ (ih : Nat → Nat → Sx) (_ : ∀ j pc, Snd l Z n0 (mOf j) pc (ih j pc)) (pc : Nat), Snd l Z n0 m2 pc (tab2 ih pc) := fun ih hh pc =>
  (snd_node (b2_0_ok hw ih hh) snd_none snd_none)
theorem b3_0_ok {l : Launch} {Z : State} {a0 : Array Value} {n0 : Nat} (hw : HW Z a0) (ih : Nat → Nat → Sx) (hh : ∀ j pc, Snd l Z n0 (mOf j) pc (ih j pc)) : Snd l Z n0 m3 0 (b3_0 ih) :=
  (snd_iload_n i3_0 rfl (snd_iload_n i3_1 rfl (snd_clt i3_2 (hh 3 9) (snd_iload_n i3_5 rfl (snd_goto i3_6 (hh 3 10))))))
theorem b3_9_ok {l : Launch} {Z : State} {a0 : Array Value} {n0 : Nat} (hw : HW Z a0) (ih : Nat → Nat → Sx) (hh : ∀ j pc, Snd l Z n0 (mOf j) pc (ih j pc)) : Snd l Z n0 m3 9 (b3_9 ih) :=
  (snd_iload_n i3_9 rfl (hh 3 10))
theorem b3_10_ok {l : Launch} {Z : State} {a0 : Array Value} {n0 : Nat} (hw : HW Z a0) (ih : Nat → Nat → Sx) (hh : ∀ j pc, Snd l Z n0 (mOf j) pc (ih j pc)) : Snd l Z n0 m3 10 (b3_10 ih) :=
  (snd_iret i3_10 rfl)
theorem tab3_ok {l : Launch} {Z : State} {a0 : Array Value} {n0 : Nat} (hw : HW Z a0) : ∀ (ih : Nat → Nat → Sx) (_ : ∀ j pc, Snd l Z n0 (mOf j) pc (ih j pc)) (pc : Nat), Snd l Z n0 m3 pc (tab3 ih pc) := fun ih hh pc =>
  (snd_node (b3_9_ok hw ih hh) (snd_node (b3_0_ok hw ih hh) snd_none snd_none) (snd_node (b3_10_ok hw ih hh) snd_none snd_none))
theorem b7_0_ok {l : Launch} {Z : State} {a0 : Array Value} {n0 : Nat} (hw : HW Z a0) (ih : Nat → Nat → Sx) (hh : ∀ j pc, Snd l Z n0 (mOf j) pc (ih j pc)) : Snd l Z n0 m7 0 (b7_0 ih) :=
  (snd_aload_n i7_0 rfl (snd_len i7_1 (snd_istore_n i7_2 rfl (snd_iload_n i7_3 rfl (snd_new (fun hn h8 kk => s7_4 hw hn h8 rfl rfl rfl kk) (snd_astore_n i7_6 rfl (snd_iconst i7_7 (by decide) (snd_istore i7_8 (hh 7 10)))))))))
theorem b7_10_ok {l : Launch} {Z : State} {a0 : Array Value} {n0 : Nat} (hw : HW Z a0) (ih : Nat → Nat → Sx) (hh : ∀ j pc, Snd l Z n0 (mOf j) pc (ih j pc)) : Snd l Z n0 m7 10 (b7_10 ih) :=
  (snd_iload i7_10 (snd_iload_n i7_12 rfl (snd_cge i7_13 (snd_aload_n i7_16 rfl (snd_aload_n i7_17 rfl (snd_iload i7_18 (snd_ld i7_20 (snd_iload i7_21 (snd_st i7_23 (snd_inc i7_24 (by decide) (snd_goto i7_27 (hh 7 10))))))))) (hh 7 30))))
theorem b7_30_ok {l : Launch} {Z : State} {a0 : Array Value} {n0 : Nat} (hw : HW Z a0) (ih : Nat → Nat → Sx) (hh : ∀ j pc, Snd l Z n0 (mOf j) pc (ih j pc)) : Snd l Z n0 m7 30 (b7_30 ih) :=
  (snd_iload_n i7_30 rfl (snd_new (fun hn h8 kk => s7_31 hw hn h8 rfl rfl rfl kk) (snd_astore i7_33 (snd_iconst i7_35 (by decide) (snd_istore i7_36 (snd_iconst i7_38 (by decide) (snd_istore i7_39 (hh 7 41))))))))
theorem b7_41_ok {l : Launch} {Z : State} {a0 : Array Value} {n0 : Nat} (hw : HW Z a0) (ih : Nat → Nat → Sx) (hh : ∀ j pc, Snd l Z n0 (mOf j) pc (ih j pc)) : Snd l Z n0 m7 41 (b7_41 ih) :=
  (snd_iload i7_41 (snd_iload_n i7_43 rfl (snd_cge i7_44 (snd_aload_n i7_47 rfl (snd_iload i7_48 (snd_ld i7_50 (snd_istore i7_51 (snd_iload i7_53 (snd_zne i7_55 (snd_iconst i7_58 (by decide) (snd_istore i7_59 (snd_goto i7_61 (hh 7 128)))) (hh 7 64))))))) (hh 7 134))))
theorem b7_64_ok {l : Launch} {Z : State} {a0 : Array Value} {n0 : Nat} (hw : HW Z a0) (ih : Nat → Nat → Sx) (hh : ∀ j pc, Snd l Z n0 (mOf j) pc (ih j pc)) : Snd l Z n0 m7 64 (b7_64 ih) :=
  (snd_aload_n i7_64 rfl (snd_iload i7_65 (snd_iconst i7_67 (by decide) (snd_isub i7_68 (snd_ld i7_69 (snd_istore i7_70 (hh 7 72)))))))
theorem b7_72_ok {l : Launch} {Z : State} {a0 : Array Value} {n0 : Nat} (hw : HW Z a0) (ih : Nat → Nat → Sx) (hh : ∀ j pc, Snd l Z n0 (mOf j) pc (ih j pc)) : Snd l Z n0 m7 72 (b7_72 ih) :=
  (snd_iload i7_72 (snd_iload i7_74 (snd_iadd i7_76 (snd_iload_n i7_77 rfl (snd_cge i7_78 (snd_iload i7_81 (snd_iload i7_83 (snd_iadd i7_85 (snd_iload_n i7_86 rfl (snd_cge i7_87 (snd_aload_n i7_90 rfl (snd_iload i7_91 (snd_iload i7_93 (snd_iadd i7_95 (snd_ld i7_96 (snd_aload_n i7_97 rfl (snd_iload i7_98 (snd_iload i7_100 (snd_iadd i7_102 (snd_ld i7_103 (snd_cne i7_104 (snd_inc i7_107 (by decide) (snd_goto i7_110 (hh 7 72))) (hh 7 113)))))))))))) (hh 7 113)))))) (hh 7 113))))))
theorem b7_113_ok {l : Launch} {Z : State} {a0 : Array Value} {n0 : Nat} (hw : HW Z a0) (ih : Nat → Nat → Sx) (hh : ∀ j pc, Snd l Z n0 (mOf j) pc (ih j pc)) : Snd l Z n0 m7 113 (b7_113 ih) :=
  (snd_aload i7_113 (snd_iload i7_115 (snd_iload i7_117 (snd_st i7_119 (snd_iload i7_120 (snd_zle i7_122 (hh 7 128) (snd_dec i7_125 (hh 7 128))))))))
theorem b7_128_ok {l : Launch} {Z : State} {a0 : Array Value} {n0 : Nat} (hw : HW Z a0) (ih : Nat → Nat → Sx) (hh : ∀ j pc, Snd l Z n0 (mOf j) pc (ih j pc)) : Snd l Z n0 m7 128 (b7_128 ih) :=
  (snd_inc i7_128 (by decide) (snd_goto i7_131 (hh 7 41)))
theorem b7_134_ok {l : Launch} {Z : State} {a0 : Array Value} {n0 : Nat} (hw : HW Z a0) (ih : Nat → Nat → Sx) (hh : ∀ j pc, Snd l Z n0 (mOf j) pc (ih j pc)) : Snd l Z n0 m7 134 (b7_134 ih) :=
  (snd_aload i7_134 (snd_aret i7_136 rfl))
theorem tab7_ok {l : Launch} {Z : State} {a0 : Array Value} {n0 : Nat} (hw : HW Z a0) : ∀ (ih : Nat → Nat → Sx) (_ : ∀ j pc, Snd l Z n0 (mOf j) pc (ih j pc)) (pc : Nat), Snd l Z n0 m7 pc (tab7 ih pc) := fun ih hh pc =>
  (snd_node (b7_64_ok hw ih hh) (snd_node (b7_30_ok hw ih hh) (snd_node (b7_10_ok hw ih hh) (snd_node (b7_0_ok hw ih hh) snd_none snd_none) snd_none) (snd_node (b7_41_ok hw ih hh) snd_none snd_none)) (snd_node (b7_128_ok hw ih hh) (snd_node (b7_113_ok hw ih hh) (snd_node (b7_72_ok hw ih hh) snd_none snd_none) snd_none) (snd_node (b7_134_ok hw ih hh) snd_none snd_none)))
theorem b8_0_ok {l : Launch} {Z : State} {a0 : Array Value} {n0 : Nat} (hw : HW Z a0) (ih : Nat → Nat → Sx) (hh : ∀ j pc, Snd l Z n0 (mOf j) pc (ih j pc)) : Snd l Z n0 m8 0 (b8_0 ih) :=
  (snd_iload_n i8_0 rfl (snd_aload_n i8_1 rfl (snd_len i8_2 (snd_clt i8_3 (hh 8 8) (snd_iconst i8_6 (by decide) (snd_zret i8_7 rfl))))))
theorem b8_8_ok {l : Launch} {Z : State} {a0 : Array Value} {n0 : Nat} (hw : HW Z a0) (ih : Nat → Nat → Sx) (hh : ∀ j pc, Snd l Z n0 (mOf j) pc (ih j pc)) : Snd l Z n0 m8 8 (b8_8 ih) :=
  (snd_aload_n i8_8 rfl (snd_iload_n i8_9 rfl (snd_ld i8_10 (snd_aload_n i8_11 rfl (snd_aload_n i8_12 rfl (snd_iload_n i8_13 rfl (snd_iconst i8_14 (by decide) (snd_isub i8_15 (snd_ld i8_16 (snd_aload_n i8_17 rfl (snd_iload_n i8_18 rfl (snd_ld i8_19 (snd_callR pf10 rfl rfl (leB rfl) (fun {ls st H v H' H1 as w} hk hls hlo M kk => match as, hk, M with | [x0, x1, x2], _, M => s8_20 hw M hls hlo kk) (hh 10 0) (snd_cne i8_23 (snd_iconst i8_26 (by decide) (snd_goto i8_27 (hh 8 31))) (hh 8 30)))))))))))))))
theorem b8_30_ok {l : Launch} {Z : State} {a0 : Array Value} {n0 : Nat} (hw : HW Z a0) (ih : Nat → Nat → Sx) (hh : ∀ j pc, Snd l Z n0 (mOf j) pc (ih j pc)) : Snd l Z n0 m8 30 (b8_30 ih) :=
  (snd_iconst i8_30 (by decide) (hh 8 31))
theorem b8_31_ok {l : Launch} {Z : State} {a0 : Array Value} {n0 : Nat} (hw : HW Z a0) (ih : Nat → Nat → Sx) (hh : ∀ j pc, Snd l Z n0 (mOf j) pc (ih j pc)) : Snd l Z n0 m8 31 (b8_31 ih) :=
  (snd_zret i8_31 rfl)
theorem tab8_ok {l : Launch} {Z : State} {a0 : Array Value} {n0 : Nat} (hw : HW Z a0) : ∀ (ih : Nat → Nat → Sx) (_ : ∀ j pc, Snd l Z n0 (mOf j) pc (ih j pc)) (pc : Nat), Snd l Z n0 m8 pc (tab8 ih pc) := fun ih hh pc =>
  (snd_node (b8_30_ok hw ih hh) (snd_node (b8_8_ok hw ih hh) (snd_node (b8_0_ok hw ih hh) snd_none snd_none) snd_none) (snd_node (b8_31_ok hw ih hh) snd_none snd_none))
theorem b10_0_ok {l : Launch} {Z : State} {a0 : Array Value} {n0 : Nat} (hw : HW Z a0) (ih : Nat → Nat → Sx) (hh : ∀ j pc, Snd l Z n0 (mOf j) pc (ih j pc)) : Snd l Z n0 m10 0 (b10_0 ih) :=
  (snd_aload_n i10_0 rfl (snd_iload_n i10_1 rfl (snd_iload_n i10_2 rfl (snd_iconst i10_3 (by decide) (snd_callR pf11 rfl rfl (leB rfl) (fun {ls st H v H' H1 as w} hk hls hlo M kk => match as, hk, M with | [x0, x1, x2, x3], _, M => s10_4 hw M hls hlo kk) (hh 11 0) (snd_zne i10_7 (snd_iconst i10_10 (by decide) (snd_iret i10_11 rfl)) (hh 10 12)))))))
theorem b10_12_ok {l : Launch} {Z : State} {a0 : Array Value} {n0 : Nat} (hw : HW Z a0) (ih : Nat → Nat → Sx) (hh : ∀ j pc, Snd l Z n0 (mOf j) pc (ih j pc)) : Snd l Z n0 m10 12 (b10_12 ih) :=
  (snd_aload_n i10_12 rfl (snd_iload_n i10_13 rfl (snd_iload_n i10_14 rfl (snd_iconst i10_15 (by decide) (snd_callR pf11 rfl rfl (leB rfl) (fun {ls st H v H' H1 as w} hk hls hlo M kk => match as, hk, M with | [x0, x1, x2, x3], _, M => s10_16 hw M hls hlo kk) (hh 11 0) (snd_zne i10_19 (snd_iconst i10_22 (by decide) (snd_iret i10_23 rfl)) (hh 10 24)))))))
theorem b10_24_ok {l : Launch} {Z : State} {a0 : Array Value} {n0 : Nat} (hw : HW Z a0) (ih : Nat → Nat → Sx) (hh : ∀ j pc, Snd l Z n0 (mOf j) pc (ih j pc)) : Snd l Z n0 m10 24 (b10_24 ih) :=
  (snd_aload_n i10_24 rfl (snd_iload_n i10_25 rfl (snd_iload_n i10_26 rfl (snd_iconst i10_27 (by decide) (snd_callR pf11 rfl rfl (leB rfl) (fun {ls st H v H' H1 as w} hk hls hlo M kk => match as, hk, M with | [x0, x1, x2, x3], _, M => s10_28 hw M hls hlo kk) (hh 11 0) (snd_zne i10_31 (snd_iconst i10_34 (by decide) (snd_iret i10_35 rfl)) (hh 10 36)))))))
theorem b10_36_ok {l : Launch} {Z : State} {a0 : Array Value} {n0 : Nat} (hw : HW Z a0) (ih : Nat → Nat → Sx) (hh : ∀ j pc, Snd l Z n0 (mOf j) pc (ih j pc)) : Snd l Z n0 m10 36 (b10_36 ih) :=
  (snd_aload_n i10_36 rfl (snd_iload_n i10_37 rfl (snd_iload_n i10_38 rfl (snd_iconst i10_39 (by decide) (snd_callR pf11 rfl rfl (leB rfl) (fun {ls st H v H' H1 as w} hk hls hlo M kk => match as, hk, M with | [x0, x1, x2, x3], _, M => s10_40 hw M hls hlo kk) (hh 11 0) (snd_zne i10_43 (snd_iconst i10_46 (by decide) (snd_iret i10_47 rfl)) (hh 10 48)))))))
theorem b10_48_ok {l : Launch} {Z : State} {a0 : Array Value} {n0 : Nat} (hw : HW Z a0) (ih : Nat → Nat → Sx) (hh : ∀ j pc, Snd l Z n0 (mOf j) pc (ih j pc)) : Snd l Z n0 m10 48 (b10_48 ih) :=
  (snd_aload_n i10_48 rfl (snd_iload_n i10_49 rfl (snd_iload_n i10_50 rfl (snd_iconst i10_51 (by decide) (snd_callR pf11 rfl rfl (leB rfl) (fun {ls st H v H' H1 as w} hk hls hlo M kk => match as, hk, M with | [x0, x1, x2, x3], _, M => s10_52 hw M hls hlo kk) (hh 11 0) (snd_zne i10_55 (snd_iconst i10_58 (by decide) (snd_iret i10_59 rfl)) (hh 10 60)))))))
theorem b10_60_ok {l : Launch} {Z : State} {a0 : Array Value} {n0 : Nat} (hw : HW Z a0) (ih : Nat → Nat → Sx) (hh : ∀ j pc, Snd l Z n0 (mOf j) pc (ih j pc)) : Snd l Z n0 m10 60 (b10_60 ih) :=
  (snd_iconst i10_60 (by decide) (snd_iret i10_61 rfl))
theorem tab10_ok {l : Launch} {Z : State} {a0 : Array Value} {n0 : Nat} (hw : HW Z a0) : ∀ (ih : Nat → Nat → Sx) (_ : ∀ j pc, Snd l Z n0 (mOf j) pc (ih j pc)) (pc : Nat), Snd l Z n0 m10 pc (tab10 ih pc) := fun ih hh pc =>
  (snd_node (b10_36_ok hw ih hh) (snd_node (b10_12_ok hw ih hh) (snd_node (b10_0_ok hw ih hh) snd_none snd_none) (snd_node (b10_24_ok hw ih hh) snd_none snd_none)) (snd_node (b10_60_ok hw ih hh) (snd_node (b10_48_ok hw ih hh) snd_none snd_none) snd_none))
theorem b11_0_ok {l : Launch} {Z : State} {a0 : Array Value} {n0 : Nat} (hw : HW Z a0) (ih : Nat → Nat → Sx) (hh : ∀ j pc, Snd l Z n0 (mOf j) pc (ih j pc)) : Snd l Z n0 m11 0 (b11_0 ih) :=
  (snd_aload_n i11_0 rfl (snd_len i11_1 (snd_istore i11_2 (snd_iload_n i11_4 rfl (snd_iload_n i11_5 rfl (snd_iadd i11_6 (snd_iload i11_7 (snd_cge i11_9 (snd_iload_n i11_12 rfl (snd_iload_n i11_13 rfl (snd_iadd i11_14 (snd_iload i11_15 (snd_cge i11_17 (snd_aload_n i11_20 rfl (snd_iload_n i11_21 rfl (snd_iload_n i11_22 rfl (snd_iadd i11_23 (snd_ld i11_24 (snd_aload_n i11_25 rfl (snd_iload_n i11_26 rfl (snd_iload_n i11_27 rfl (snd_iadd i11_28 (snd_ld i11_29 (snd_cne i11_30 (snd_iconst i11_33 (by decide) (snd_goto i11_34 (hh 11 38))) (hh 11 37)))))))))))) (hh 11 37)))))) (hh 11 37)))))))))
theorem b11_37_ok {l : Launch} {Z : State} {a0 : Array Value} {n0 : Nat} (hw : HW Z a0) (ih : Nat → Nat → Sx) (hh : ∀ j pc, Snd l Z n0 (mOf j) pc (ih j pc)) : Snd l Z n0 m11 37 (b11_37 ih) :=
  (snd_iconst i11_37 (by decide) (hh 11 38))
theorem b11_38_ok {l : Launch} {Z : State} {a0 : Array Value} {n0 : Nat} (hw : HW Z a0) (ih : Nat → Nat → Sx) (hh : ∀ j pc, Snd l Z n0 (mOf j) pc (ih j pc)) : Snd l Z n0 m11 38 (b11_38 ih) :=
  (snd_zret i11_38 rfl)
theorem tab11_ok {l : Launch} {Z : State} {a0 : Array Value} {n0 : Nat} (hw : HW Z a0) : ∀ (ih : Nat → Nat → Sx) (_ : ∀ j pc, Snd l Z n0 (mOf j) pc (ih j pc)) (pc : Nat), Snd l Z n0 m11 pc (tab11 ih pc) := fun ih hh pc =>
  (snd_node (b11_37_ok hw ih hh) (snd_node (b11_0_ok hw ih hh) snd_none snd_none) (snd_node (b11_38_ok hw ih hh) snd_none snd_none))
theorem b12_0_ok {l : Launch} {Z : State} {a0 : Array Value} {n0 : Nat} (hw : HW Z a0) (ih : Nat → Nat → Sx) (hh : ∀ j pc, Snd l Z n0 (mOf j) pc (ih j pc)) : Snd l Z n0 m12 0 (b12_0 ih) :=
  (snd_iload_n i12_0 rfl (snd_aload_n i12_1 rfl (snd_len i12_2 (snd_cge i12_3 (snd_aload_n i12_6 rfl (snd_iload_n i12_7 rfl (snd_ld i12_8 (snd_goto i12_9 (hh 12 13))))) (hh 12 12)))))
theorem b12_12_ok {l : Launch} {Z : State} {a0 : Array Value} {n0 : Nat} (hw : HW Z a0) (ih : Nat → Nat → Sx) (hh : ∀ j pc, Snd l Z n0 (mOf j) pc (ih j pc)) : Snd l Z n0 m12 12 (b12_12 ih) :=
  (snd_iconst i12_12 (by decide) (hh 12 13))
theorem b12_13_ok {l : Launch} {Z : State} {a0 : Array Value} {n0 : Nat} (hw : HW Z a0) (ih : Nat → Nat → Sx) (hh : ∀ j pc, Snd l Z n0 (mOf j) pc (ih j pc)) : Snd l Z n0 m12 13 (b12_13 ih) :=
  (snd_iret i12_13 rfl)
theorem tab12_ok {l : Launch} {Z : State} {a0 : Array Value} {n0 : Nat} (hw : HW Z a0) : ∀ (ih : Nat → Nat → Sx) (_ : ∀ j pc, Snd l Z n0 (mOf j) pc (ih j pc)) (pc : Nat), Snd l Z n0 m12 pc (tab12 ih pc) := fun ih hh pc =>
  (snd_node (b12_12_ok hw ih hh) (snd_node (b12_0_ok hw ih hh) snd_none snd_none) (snd_node (b12_13_ok hw ih hh) snd_none snd_none))
theorem snd_cond {l : Launch} {Z : State} {n0 : Nat} {m : MI} {pc j i : Nat} {A B : Sx} (ha : j = i → Snd l Z n0 m pc A) (hb : Snd l Z n0 m pc B) : Snd l Z n0 m pc (cond (Nat.beq j i) A B) := by
  cases e : Nat.beq j i with
  | true => exact ha (Nat.eq_of_beq_eq_true e)
  | false => exact hb
theorem ev_ok {l : Launch} {Z : State} {a0 : Array Value} {n0 : Nat} (hw : HW Z a0) : ∀ (n j pc : Nat), Snd l Z n0 (mOf j) pc (ev codeOf n j pc)
  | 0, _, _ => snd_none
  | n + 1, j, pc => by
    have ih := ev_ok (l := l) (n0 := n0) hw n
    show Snd l Z n0 (mOf j) pc (codeOf (ev codeOf n) j pc)
    unfold codeOf
    exact (snd_cond (fun e => by subst e; exact tab1_ok hw _ ih pc) (snd_cond (fun e => by subst e; exact tab4_ok hw _ ih pc) (snd_cond (fun e => by subst e; exact tab5_ok hw _ ih pc) (snd_cond (fun e => by subst e; exact tab6_ok hw _ ih pc) (snd_cond (fun e => by subst e; exact tab2_ok hw _ ih pc) (snd_cond (fun e => by subst e; exact tab3_ok hw _ ih pc) (snd_cond (fun e => by subst e; exact tab7_ok hw _ ih pc) (snd_cond (fun e => by subst e; exact tab8_ok hw _ ih pc) (snd_cond (fun e => by subst e; exact tab10_ok hw _ ih pc) (snd_cond (fun e => by subst e; exact tab11_ok hw _ ih pc) (snd_cond (fun e => by subst e; exact tab12_ok hw _ ih pc) snd_none)))))))))))
def ofR (r : RR) (κ : Nat → List (List Nat) → Bool) : Bool := Option.casesOn (motive := fun _ => Bool) r false (fun p => Prod.casesOn (motive := fun _ => Bool) p (fun o H => Option.casesOn (motive := fun _ => Bool) o false (fun w => Sum.casesOn (motive := fun _ => Bool) w (fun _ => false) (fun o => Option.casesOn (motive := fun _ => Bool) o false (fun a => κ a H)))))
def ofI (r : RR) (κ : List (List Nat) → Bool) : Bool := Option.casesOn (motive := fun _ => Bool) r false (fun p => Prod.casesOn (motive := fun _ => Bool) p (fun o H => Option.casesOn (motive := fun _ => Bool) o false (fun w => Sum.casesOn (motive := fun _ => Bool) w (fun x => and (Nat.beq x 1) (κ H)) (fun _ => false))))
theorem ofR_true {r : RR} {κ : Nat → List (List Nat) → Bool} (h : ofR r κ = true) : ∃ a H, r = some (some (.inr (some a)), H) ∧ κ a H = true := by
  match r, h with
  | none, h => cases h
  | some (none, H), h => cases h
  | some (some (.inl x), H), h => cases h
  | some (some (.inr none), H), h => cases h
  | some (some (.inr (some a)), H), h => exact ⟨a, H, rfl, h⟩
theorem ofI_true {r : RR} {κ : List (List Nat) → Bool} (h : ofI r κ = true) : ∃ H, r = some (some (.inl 1), H) ∧ κ H = true := by
  match r, h with
  | none, h => cases h
  | some (none, H), h => cases h
  | some (some (.inr x), H), h => cases h
  | some (some (.inl x), H), h =>
    obtain ⟨h1, h2⟩ := Bool.and_eq_true_iff.mp (h : and (Nat.beq x 1) (κ H) = true)
    obtain rfl := Nat.eq_of_beq_eq_true h1
    exact ⟨H, rfl, h2⟩
def first0 (s : List Nat) : List Nat → Bool
  | 0 :: t => Nat.beq (t.length + 1) s.length
  | _ => false
def chk (s : List Nat) : Bool :=
  ofR (ev codeOf 1000 1 0 [.inr (some 0), .inl 5, .inr none, .inr none, .inr none, .inr none, .inr none, .inr none, .inr none, .inr none, .inr none, .inr none, .inr none, .inr none] [] [s]) fun a H1 =>
  ofR (ev codeOf 1000 7 0 [.inr (some 0), .inr (some a), .inr none, .inr none, .inr none, .inr none, .inr none, .inr none, .inr none] [] H1) fun b H2 =>
  and (first0 s (H2.getD b [])) (ofI (ev codeOf 1000 8 0 [.inr (some 0), .inr (some a), .inr (some b), .inl 1] [] H2) fun H3 =>
  ofI (ev codeOf 1000 8 0 [.inr (some 0), .inr (some a), .inr (some b), .inl 2] [] H3) fun H4 =>
  ofI (ev codeOf 1000 8 0 [.inr (some 0), .inr (some a), .inr (some b), .inl 3] [] H4) fun H5 =>
  ofI (ev codeOf 1000 8 0 [.inr (some 0), .inr (some a), .inr (some b), .inl 4] [] H5) fun H6 =>
  and (Nat.ble H6.length 24) (Nat.ble ((H6.map List.length).sum) 192))
theorem szs_cO : ∀ H : List (List Nat), szs K (H.map cO) = (H.map List.length).sum
  | [] => rfl
  | A :: H => by
    show osz K (cO A) + szs K (H.map cO) = A.length + (H.map List.length).sum
    rw [szs_cO H]
    show (A.map _).length + _ = _
    rw [List.length_map]
theorem law_tail {l : Launch} {Z : State} {a0 : Array Value} {n0 : Nat} (hw : HW Z a0) (s : List Nat) (p0 p1 p2 fl : Int32) (h : chk s = true) : RunsB K l Z n0 m0 107 [.val (.int p0), .val (.int p1), .val (.int p2), .val (.int s.length.toInt32), .val (.int fl), .val (.ref 0), .unset, .unset] [] [cO s] (some (.int 1)) 24 192 := by
  obtain ⟨a, H1, e1, h⟩ := ofR_true h
  obtain ⟨b, H2, e2, h⟩ := ofR_true h
  obtain ⟨hf, h⟩ := Bool.and_eq_true_iff.mp h
  obtain ⟨H3, e3, h⟩ := ofI_true h
  obtain ⟨H4, e4, h⟩ := ofI_true h
  obtain ⟨H5, e5, h⟩ := ofI_true h
  obtain ⟨H6, e6, h⟩ := ofI_true h
  obtain ⟨h1, h2⟩ := Bool.and_eq_true_iff.mp h
  have E1 := ev_ok (l := l) (n0 := n0) hw 1000 1 0
  have E7 := ev_ok (l := l) (n0 := n0) hw 1000 7 0
  have E8 := ev_ok (l := l) (n0 := n0) hw 1000 8 0
  have M1 : Meets K l Z n0 m1 [.ref 0, .int 5] [cO s] (some (.ref a)) (H1.map cO) := own_meets (mx := 14) (as := [.inr (some 0), .inl 5]) (H := [s]) pf1 rfl (fun z => nomatch z) (leB rfl) (fun y hy => by
    simp only [List.mem_cons, List.not_mem_nil, or_false] at hy
    rcases hy with rfl | rfl <;> exact (fun z => nomatch z)) E1 e1
  have M2 : Meets K l Z n0 m7 [.ref 0, .ref a] (H1.map cO) (some (.ref b)) (H2.map cO) := own_meets (mx := 9) (as := [.inr (some 0), .inr (some a)]) pf7 rfl (fun z => nomatch z) (leB rfl) (fun y hy => by
    simp only [List.mem_cons, List.not_mem_nil, or_false] at hy
    rcases hy with rfl | rfl <;> exact (fun z => nomatch z)) E7 e2
  have N1 : Meets K l Z n0 m8 [.ref 0, .ref a, .ref b, .int 1] (H2.map cO) (some (.int 1)) (H3.map cO) := own_meets (mx := 4) (as := [.inr (some 0), .inr (some a), .inr (some b), .inl 1]) pf8 rfl (fun z => nomatch z) (leB rfl) (fun y hy => by
    simp only [List.mem_cons, List.not_mem_nil, or_false] at hy
    rcases hy with rfl | rfl | rfl | rfl <;> exact (fun z => nomatch z)) E8 e3
  have N2 : Meets K l Z n0 m8 [.ref 0, .ref a, .ref b, .int 2] (H3.map cO) (some (.int 1)) (H4.map cO) := own_meets (mx := 4) (as := [.inr (some 0), .inr (some a), .inr (some b), .inl 2]) pf8 rfl (fun z => nomatch z) (leB rfl) (fun y hy => by
    simp only [List.mem_cons, List.not_mem_nil, or_false] at hy
    rcases hy with rfl | rfl | rfl | rfl <;> exact (fun z => nomatch z)) E8 e4
  have N3 : Meets K l Z n0 m8 [.ref 0, .ref a, .ref b, .int 3] (H4.map cO) (some (.int 1)) (H5.map cO) := own_meets (mx := 4) (as := [.inr (some 0), .inr (some a), .inr (some b), .inl 3]) pf8 rfl (fun z => nomatch z) (leB rfl) (fun y hy => by
    simp only [List.mem_cons, List.not_mem_nil, or_false] at hy
    rcases hy with rfl | rfl | rfl | rfl <;> exact (fun z => nomatch z)) E8 e5
  have N4 : Meets K l Z n0 m8 [.ref 0, .ref a, .ref b, .int 4] (H5.map cO) (some (.int 1)) (H6.map cO) := own_meets (mx := 4) (as := [.inr (some 0), .inr (some a), .inr (some b), .inl 4]) pf8 rfl (fun z => nomatch z) (leB rfl) (fun y hy => by
    simp only [List.mem_cons, List.not_mem_nil, or_false] at hy
    rcases hy with rfl | rfl | rfl | rfl <;> exact (fun z => nomatch z)) E8 e6
  obtain ⟨t, hB, hl⟩ : ∃ t, H2[b]? = some (0 :: t) ∧ t.length + 1 = s.length := by
    rw [List.getD_eq_getElem?_getD] at hf
    cases q : H2[b]? with
    | none => rw [q] at hf; cases hf
    | some A =>
      rw [q] at hf
      match A, hf with
      | [], hf => cases hf
      | 0 :: t, hf => exact ⟨t, rfl, Nat.eq_of_beq_eq_true hf⟩
      | (x + 1) :: t, hf => cases hf
  have hO := heap_cO hB
  have hlen : (((0 :: t : List Nat).map (fun x => (.int x.toInt32 : Value))).length).toInt32 = s.length.toInt32 := by rw [List.length_map, ← hl]; rfl
  refine lift (fun _ kk => r_aload i0_107 rfl rfl kk) ?_
  refine lift (fun _ kk => r_iconst i0_109 kk) ?_
  refine lift (fun _ kk => s0_110 hw M1 rfl (leB rfl) kk) ?_
  refine lift (fun _ kk => r_astore (ls' := [_, _, _, _, _, _, _, _]) i0_113 rfl rfl rfl kk) ?_
  refine lift (fun _ kk => r_aload i0_115 rfl rfl kk) ?_
  refine lift (fun _ kk => r_aload i0_117 rfl rfl kk) ?_
  refine lift (fun _ kk => s0_119 hw M2 rfl (leB rfl) kk) ?_
  refine lift (fun _ kk => r_astore (ls' := [_, _, _, _, _, _, _, _]) i0_122 rfl rfl rfl kk) ?_
  refine lift (fun _ kk => r_aload i0_124 rfl rfl kk) ?_
  refine lift (fun _ kk => r_len (n := s.length.toInt32) i0_126 hO hlen kk) ?_
  refine lift (fun _ kk => r_iloadN i0_127 rfl kk) ?_
  refine lift (fun _ kk => r_icT i0_128 (XT.ii_eq_t rfl) kk) ?_
  refine lift (fun _ kk => r_aload i0_133 rfl rfl kk) ?_
  refine lift (fun _ kk => r_iconst i0_135 kk) ?_
  refine lift (fun _ kk => r_iaload (i := 0) i0_136 hO ⟨by decide, by decide⟩ rfl kk) ?_
  refine lift (fun _ kk => r_ifT i0_137 (XT.i0_eq_t rfl) kk) ?_
  refine lift (fun _ kk => r_aload i0_142 rfl rfl kk) ?_
  refine lift (fun _ kk => r_aload i0_144 rfl rfl kk) ?_
  refine lift (fun _ kk => r_aload i0_146 rfl rfl kk) ?_
  refine lift (fun _ kk => r_iconst i0_148 kk) ?_
  refine lift (fun _ kk => s0_149 hw N1 rfl (leB rfl) kk) ?_
  refine lift (fun _ kk => r_ifF i0_152 (XT.i0_eq_f (by decide)) kk) ?_
  refine lift (fun _ kk => r_aload i0_155 rfl rfl kk) ?_
  refine lift (fun _ kk => r_aload i0_157 rfl rfl kk) ?_
  refine lift (fun _ kk => r_aload i0_159 rfl rfl kk) ?_
  refine lift (fun _ kk => r_iconst i0_161 kk) ?_
  refine lift (fun _ kk => s0_162 hw N2 rfl (leB rfl) kk) ?_
  refine lift (fun _ kk => r_ifF i0_165 (XT.i0_eq_f (by decide)) kk) ?_
  refine lift (fun _ kk => r_aload i0_168 rfl rfl kk) ?_
  refine lift (fun _ kk => r_aload i0_170 rfl rfl kk) ?_
  refine lift (fun _ kk => r_aload i0_172 rfl rfl kk) ?_
  refine lift (fun _ kk => r_iconst i0_174 kk) ?_
  refine lift (fun _ kk => s0_175 hw N3 rfl (leB rfl) kk) ?_
  refine lift (fun _ kk => r_ifF i0_178 (XT.i0_eq_f (by decide)) kk) ?_
  refine lift (fun _ kk => r_aload i0_181 rfl rfl kk) ?_
  refine lift (fun _ kk => r_aload i0_183 rfl rfl kk) ?_
  refine lift (fun _ kk => r_aload i0_185 rfl rfl kk) ?_
  refine lift (fun _ kk => r_iconst i0_187 kk) ?_
  refine lift (fun _ kk => s0_188 hw N4 rfl (leB rfl) kk) ?_
  refine lift (fun _ kk => r_ifF i0_191 (XT.i0_eq_f (by decide)) kk) ?_
  refine lift (fun _ kk => r_iconst i0_194 kk) ?_
  refine lift (fun _ kk => r_goto i0_195 kk) ?_
  exact ⟨_, r_zreturn i0_199 rfl (by first | decide | simp), by rw [List.length_map]; exact ble_of h1, by rw [szs_cO]; exact ble_of h2⟩
theorem own_n (p : Int32) : ∃ k : Nat, k < 5 ∧ (p &&& 2147483647) % 5 = k.toInt32 := by
  have h := c_mask p 2147483647 31 (by decide) (by decide)
  have q := (c_irem (p &&& 2147483647) 5 5 (by decide)).1 (by omega)
  refine ⟨((p &&& 2147483647) % 5).toNatClampNeg, ?_, ti_of (by omega)⟩
  simp only [Int32.toNatClampNeg]; omega
theorem own_4 (x : Int32) : ∃ n : Nat, n < 4 ∧ x &&& 3 = n.toInt32 := by
  have h := c_mask x 3 2 (by decide) (by decide)
  refine ⟨(x &&& 3).toNatClampNeg, ?_, ti_of (by omega)⟩
  simp only [Int32.toNatClampNeg]; omega
def f9_0 (x0 : Int32) (x1 : Int32) (x2 : Int32) : Int32 := (if x2 = 0 then (x0 >>> ((2 * x1) &&& 31)) &&& 3 else ((x0 >>> ((2 * x1) &&& 31)) &&& 3) + 1)
set_option maxRecDepth 4000 in
theorem g9_0 {l : Launch} {Z : State} {a0 : Array Value} {n0 : Nat} (hw : HW Z a0) {H : List Ob} (x0 : Int32) (x1 : Int32) (x2 : Int32) : Runs K l Z n0 m9 0 [.val (.int x0), .val (.int x1), .val (.int x2), .unset] [] H (some (.int (f9_0 x0 x1 x2))) H := by
  unfold f9_0
  refine r_iloadN i9_0 rfl ?_
  refine r_iconst i9_1 ?_
  refine r_iloadN i9_2 rfl ?_
  refine r_imul i9_3 ?_
  refine r_ishr i9_4 ?_
  refine r_iconst i9_5 ?_
  refine r_iand i9_6 ?_
  refine r_istoreN (ls' := [_, _, _, _]) i9_7 rfl rfl ?_
  refine r_iloadN i9_8 rfl ?_
  by_cases h1 : x2 = 0
  · rw [if_pos h1]
    refine r_ifT i9_9 (XT.i0_eq_t h1) ?_
    refine r_iloadN i9_18 rfl ?_
    exact r_ireturn i9_19 rfl
  · rw [if_neg h1]
    refine r_ifF i9_9 (XT.i0_eq_f h1) ?_
    refine r_iloadN i9_12 rfl ?_
    refine r_iconst i9_13 ?_
    refine r_iadd i9_14 ?_
    refine r_goto i9_15 ?_
    exact r_ireturn i9_19 rfl
theorem c9 {l : Launch} {Z : State} {a0 : Array Value} {n0 : Nat} (hw : HW Z a0) {H : List Ob} (x0 : Int32) (x1 : Int32) (x2 : Int32) : Meets K l Z n0 m9 [.int x0, .int x1, .int x2] H (some (.int (f9_0 x0 x1 x2))) H := meets pf9 rfl (fun h => nomatch h) (g9_0 hw x0 x1 x2)
theorem own_v0 (p i : Int32) : ∃ k : Nat, k < 4 ∧ f9_0 p i 0 = k.toInt32 := by
  obtain ⟨k, hk, e⟩ := own_4 (p >>> ((2 * i) &&& 31))
  exact ⟨k, hk, by unfold f9_0; simpa using e⟩
theorem own_v1 (p i : Int32) : ∃ k : Nat, k < 4 ∧ f9_0 p i 1 = (k + 1).toInt32 := by
  obtain ⟨k, hk, e⟩ := own_4 (p >>> ((2 * i) &&& 31))
  refine ⟨k, hk, ?_⟩
  rw [← ti_succ (by omega), ← e]
  unfold f9_0
  simp
theorem all0_1 : chk [4] = true := by decide +kernel
theorem all0_2 : ∀ k0, k0 < 4 → chk [k0, 4] = true := by decide +kernel
theorem all0_3 : ∀ k0, k0 < 4 → ∀ k1, k1 < 4 → chk [k0, k1, 4] = true := by decide +kernel
theorem all0_4 : ∀ k0, k0 < 4 → ∀ k1, k1 < 4 → ∀ k2, k2 < 4 → chk [k0, k1, k2, 4] = true := by decide +kernel
theorem all0_5_0 : ∀ k1, k1 < 4 → ∀ k2, k2 < 4 → ∀ k3, k3 < 4 → chk [0, k1, k2, k3, 4] = true := by decide +kernel
theorem all0_5_1 : ∀ k1, k1 < 4 → ∀ k2, k2 < 4 → ∀ k3, k3 < 4 → chk [1, k1, k2, k3, 4] = true := by decide +kernel
theorem all0_5_2 : ∀ k1, k1 < 4 → ∀ k2, k2 < 4 → ∀ k3, k3 < 4 → chk [2, k1, k2, k3, 4] = true := by decide +kernel
theorem all0_5_3 : ∀ k1, k1 < 4 → ∀ k2, k2 < 4 → ∀ k3, k3 < 4 → chk [3, k1, k2, k3, 4] = true := by decide +kernel
theorem all0_5 : ∀ k0, k0 < 4 → ∀ k1, k1 < 4 → ∀ k2, k2 < 4 → ∀ k3, k3 < 4 → chk [k0, k1, k2, k3, 4] = true := by
  intro k0 h0
  match k0, h0 with
  | 0, _ => exact all0_5_0
  | 1, _ => exact all0_5_1
  | 2, _ => exact all0_5_2
  | 3, _ => exact all0_5_3
  | k + 4, h => exact absurd h (by omega)
theorem all1_1 : chk [0] = true := by decide +kernel
theorem all1_2 : ∀ k0, k0 < 4 → chk [k0 + 1, 0] = true := by decide +kernel
theorem all1_3 : ∀ k0, k0 < 4 → ∀ k1, k1 < 4 → chk [k0 + 1, k1 + 1, 0] = true := by decide +kernel
theorem all1_4 : ∀ k0, k0 < 4 → ∀ k1, k1 < 4 → ∀ k2, k2 < 4 → chk [k0 + 1, k1 + 1, k2 + 1, 0] = true := by decide +kernel
theorem all1_5_0 : ∀ k1, k1 < 4 → ∀ k2, k2 < 4 → ∀ k3, k3 < 4 → chk [0 + 1, k1 + 1, k2 + 1, k3 + 1, 0] = true := by decide +kernel
theorem all1_5_1 : ∀ k1, k1 < 4 → ∀ k2, k2 < 4 → ∀ k3, k3 < 4 → chk [1 + 1, k1 + 1, k2 + 1, k3 + 1, 0] = true := by decide +kernel
theorem all1_5_2 : ∀ k1, k1 < 4 → ∀ k2, k2 < 4 → ∀ k3, k3 < 4 → chk [2 + 1, k1 + 1, k2 + 1, k3 + 1, 0] = true := by decide +kernel
theorem all1_5_3 : ∀ k1, k1 < 4 → ∀ k2, k2 < 4 → ∀ k3, k3 < 4 → chk [3 + 1, k1 + 1, k2 + 1, k3 + 1, 0] = true := by decide +kernel
theorem all1_5 : ∀ k0, k0 < 4 → ∀ k1, k1 < 4 → ∀ k2, k2 < 4 → ∀ k3, k3 < 4 → chk [k0 + 1, k1 + 1, k2 + 1, k3 + 1, 0] = true := by
  intro k0 h0
  match k0, h0 with
  | 0, _ => exact all1_5_0
  | 1, _ => exact all1_5_1
  | 2, _ => exact all1_5_2
  | 3, _ => exact all1_5_3
  | k + 4, h => exact absurd h (by omega)
set_option maxHeartbeats 4000000 in
theorem law_runs {l : Launch} {Z : State} {a0 : Array Value} {n0 : Nat} (hw : HW Z a0) (p0 : Int32) (p1 : Int32) (p2 : Int32) : RunsB K l Z n0 m0 0 [.val (.int p0), .val (.int p1), .val (.int p2), .unset, .unset, .unset, .unset, .unset] [] [] (some (.int 1)) 24 192 := by
  refine lift (fun _ kk => r_iconst i0_0 kk) ?_
  refine lift (fun _ kk => r_iloadN i0_1 rfl kk) ?_
  refine lift (fun _ kk => s0_2 hw kk) ?_
  refine lift (fun _ kk => r_iand i0_4 kk) ?_
  refine lift (fun _ kk => r_iconst i0_5 kk) ?_
  refine lift (fun _ kk => r_irem i0_6 (by decide) kk) ?_
  obtain ⟨k, hk, e⟩ := own_n p0
  rw [e]
  match k, hk with
  | 0, _ =>
    refine lift (fun _ kk => r_iadd i0_7 kk) ?_
    rw [show (1 : Int32) + (0 : Nat).toInt32 = 1 from by decide]
    refine lift (fun _ kk => r_istoreN (ls' := [_, _, _, _, _, _, _, _]) i0_8 rfl rfl kk) ?_
    by_cases q : p2 &&& 1 = 0
    · refine lift (fun _ kk => r_iloadN i0_9 rfl kk) ?_
      refine lift (fun _ kk => r_iconst i0_10 kk) ?_
      refine lift (fun _ kk => r_iand i0_11 kk) ?_
      refine lift (fun _ kk => r_ifT i0_12 (XT.i0_eq_t q) kk) ?_
      refine lift (fun _ kk => r_iconst i0_19 kk) ?_
      refine lift (fun _ kk => r_istore (ls' := [_, _, _, _, _, _, _, _]) i0_20 rfl rfl kk) ?_
      refine lift (fun _ kk => r_iloadN i0_22 rfl kk) ?_
      refine lift (fun _ kk => s0_23 hw (a := 0) (o := [.int 0]) (H1 := [_]) (by decide) (by decide) rfl rfl rfl kk) ?_
      refine lift (fun _ kk => r_astore (ls' := [_, _, _, _, _, _, _, _]) i0_25 rfl rfl rfl kk) ?_
      refine lift (fun _ kk => r_iloadN i0_27 rfl kk) ?_
      refine lift (fun _ kk => r_iconst i0_28 kk) ?_
      refine lift (fun _ kk => r_icT i0_29 (XT.ii_le_t (by decide)) kk) ?_
      refine lift (fun _ kk => r_iloadN i0_43 rfl kk) ?_
      refine lift (fun _ kk => r_iconst i0_44 kk) ?_
      refine lift (fun _ kk => r_icT i0_45 (XT.ii_le_t (by decide)) kk) ?_
      refine lift (fun _ kk => r_iloadN i0_59 rfl kk) ?_
      refine lift (fun _ kk => r_iconst i0_60 kk) ?_
      refine lift (fun _ kk => r_icT i0_61 (XT.ii_le_t (by decide)) kk) ?_
      refine lift (fun _ kk => r_iloadN i0_75 rfl kk) ?_
      refine lift (fun _ kk => r_iconst i0_76 kk) ?_
      refine lift (fun _ kk => r_icT i0_77 (XT.ii_le_t (by decide)) kk) ?_
      refine lift (fun _ kk => r_aload i0_91 rfl rfl kk) ?_
      refine lift (fun _ kk => r_iloadN i0_93 rfl kk) ?_
      refine lift (fun _ kk => r_iconst i0_94 kk) ?_
      refine lift (fun _ kk => r_isub i0_95 kk) ?_
      refine lift (fun _ kk => r_iload i0_96 rfl kk) ?_
      refine lift (fun _ kk => r_ifT i0_98 (XT.i0_eq_t (by decide)) kk) ?_
      refine lift (fun _ kk => r_iconst i0_105 kk) ?_
      refine lift (fun _ kk => r_iastore (i := 0) (vs' := [_]) (H1 := [_]) i0_106 rfl ⟨by decide, by decide⟩ (ltB rfl) rfl rfl kk) ?_
      exact law_tail hw [4] p0 p1 p2 0 (all0_1)
    · refine lift (fun _ kk => r_iloadN i0_9 rfl kk) ?_
      refine lift (fun _ kk => r_iconst i0_10 kk) ?_
      refine lift (fun _ kk => r_iand i0_11 kk) ?_
      refine lift (fun _ kk => r_ifF i0_12 (XT.i0_eq_f q) kk) ?_
      refine lift (fun _ kk => r_iconst i0_15 kk) ?_
      refine lift (fun _ kk => r_goto i0_16 kk) ?_
      refine lift (fun _ kk => r_istore (ls' := [_, _, _, _, _, _, _, _]) i0_20 rfl rfl kk) ?_
      refine lift (fun _ kk => r_iloadN i0_22 rfl kk) ?_
      refine lift (fun _ kk => s0_23 hw (a := 0) (o := [.int 0]) (H1 := [_]) (by decide) (by decide) rfl rfl rfl kk) ?_
      refine lift (fun _ kk => r_astore (ls' := [_, _, _, _, _, _, _, _]) i0_25 rfl rfl rfl kk) ?_
      refine lift (fun _ kk => r_iloadN i0_27 rfl kk) ?_
      refine lift (fun _ kk => r_iconst i0_28 kk) ?_
      refine lift (fun _ kk => r_icT i0_29 (XT.ii_le_t (by decide)) kk) ?_
      refine lift (fun _ kk => r_iloadN i0_43 rfl kk) ?_
      refine lift (fun _ kk => r_iconst i0_44 kk) ?_
      refine lift (fun _ kk => r_icT i0_45 (XT.ii_le_t (by decide)) kk) ?_
      refine lift (fun _ kk => r_iloadN i0_59 rfl kk) ?_
      refine lift (fun _ kk => r_iconst i0_60 kk) ?_
      refine lift (fun _ kk => r_icT i0_61 (XT.ii_le_t (by decide)) kk) ?_
      refine lift (fun _ kk => r_iloadN i0_75 rfl kk) ?_
      refine lift (fun _ kk => r_iconst i0_76 kk) ?_
      refine lift (fun _ kk => r_icT i0_77 (XT.ii_le_t (by decide)) kk) ?_
      refine lift (fun _ kk => r_aload i0_91 rfl rfl kk) ?_
      refine lift (fun _ kk => r_iloadN i0_93 rfl kk) ?_
      refine lift (fun _ kk => r_iconst i0_94 kk) ?_
      refine lift (fun _ kk => r_isub i0_95 kk) ?_
      refine lift (fun _ kk => r_iload i0_96 rfl kk) ?_
      refine lift (fun _ kk => r_ifF i0_98 (XT.i0_eq_f (by decide)) kk) ?_
      refine lift (fun _ kk => r_iconst i0_101 kk) ?_
      refine lift (fun _ kk => r_goto i0_102 kk) ?_
      refine lift (fun _ kk => r_iastore (i := 0) (vs' := [_]) (H1 := [_]) i0_106 rfl ⟨by decide, by decide⟩ (ltB rfl) rfl rfl kk) ?_
      exact law_tail hw [0] p0 p1 p2 1 (all1_1)
  | 1, _ =>
    refine lift (fun _ kk => r_iadd i0_7 kk) ?_
    rw [show (1 : Int32) + (1 : Nat).toInt32 = 2 from by decide]
    refine lift (fun _ kk => r_istoreN (ls' := [_, _, _, _, _, _, _, _]) i0_8 rfl rfl kk) ?_
    by_cases q : p2 &&& 1 = 0
    · refine lift (fun _ kk => r_iloadN i0_9 rfl kk) ?_
      refine lift (fun _ kk => r_iconst i0_10 kk) ?_
      refine lift (fun _ kk => r_iand i0_11 kk) ?_
      refine lift (fun _ kk => r_ifT i0_12 (XT.i0_eq_t q) kk) ?_
      refine lift (fun _ kk => r_iconst i0_19 kk) ?_
      refine lift (fun _ kk => r_istore (ls' := [_, _, _, _, _, _, _, _]) i0_20 rfl rfl kk) ?_
      refine lift (fun _ kk => r_iloadN i0_22 rfl kk) ?_
      refine lift (fun _ kk => s0_23 hw (a := 0) (o := [.int 0, .int 0]) (H1 := [_]) (by decide) (by decide) rfl rfl rfl kk) ?_
      refine lift (fun _ kk => r_astore (ls' := [_, _, _, _, _, _, _, _]) i0_25 rfl rfl rfl kk) ?_
      refine lift (fun _ kk => r_iloadN i0_27 rfl kk) ?_
      refine lift (fun _ kk => r_iconst i0_28 kk) ?_
      refine lift (fun _ kk => r_icF i0_29 (XT.ii_le_f (by decide)) kk) ?_
      refine lift (fun _ kk => r_aload i0_32 rfl rfl kk) ?_
      refine lift (fun _ kk => r_iconst i0_34 kk) ?_
      refine lift (fun _ kk => r_iloadN i0_35 rfl kk) ?_
      refine lift (fun _ kk => r_iconst i0_36 kk) ?_
      refine lift (fun _ kk => r_iload i0_37 rfl kk) ?_
      refine lift (fun _ kk => s0_39 hw (H1 := [_]) (c9 hw _ _ _) rfl (leB rfl) kk) ?_
      refine lift (fun _ kk => r_iastore (i := 0) (vs' := [_, _]) (H1 := [_]) i0_42 rfl ⟨by decide, by decide⟩ (ltB rfl) rfl rfl kk) ?_
      refine lift (fun _ kk => r_iloadN i0_43 rfl kk) ?_
      refine lift (fun _ kk => r_iconst i0_44 kk) ?_
      refine lift (fun _ kk => r_icT i0_45 (XT.ii_le_t (by decide)) kk) ?_
      refine lift (fun _ kk => r_iloadN i0_59 rfl kk) ?_
      refine lift (fun _ kk => r_iconst i0_60 kk) ?_
      refine lift (fun _ kk => r_icT i0_61 (XT.ii_le_t (by decide)) kk) ?_
      refine lift (fun _ kk => r_iloadN i0_75 rfl kk) ?_
      refine lift (fun _ kk => r_iconst i0_76 kk) ?_
      refine lift (fun _ kk => r_icT i0_77 (XT.ii_le_t (by decide)) kk) ?_
      refine lift (fun _ kk => r_aload i0_91 rfl rfl kk) ?_
      refine lift (fun _ kk => r_iloadN i0_93 rfl kk) ?_
      refine lift (fun _ kk => r_iconst i0_94 kk) ?_
      refine lift (fun _ kk => r_isub i0_95 kk) ?_
      refine lift (fun _ kk => r_iload i0_96 rfl kk) ?_
      refine lift (fun _ kk => r_ifT i0_98 (XT.i0_eq_t (by decide)) kk) ?_
      refine lift (fun _ kk => r_iconst i0_105 kk) ?_
      refine lift (fun _ kk => r_iastore (i := 1) (vs' := [_, _]) (H1 := [_]) i0_106 rfl ⟨by decide, by decide⟩ (ltB rfl) rfl rfl kk) ?_
      obtain ⟨k0, h0, e0⟩ := own_v0 p1 0
      rw [e0]
      exact law_tail hw [k0, 4] p0 p1 p2 0 (all0_2 k0 h0)
    · refine lift (fun _ kk => r_iloadN i0_9 rfl kk) ?_
      refine lift (fun _ kk => r_iconst i0_10 kk) ?_
      refine lift (fun _ kk => r_iand i0_11 kk) ?_
      refine lift (fun _ kk => r_ifF i0_12 (XT.i0_eq_f q) kk) ?_
      refine lift (fun _ kk => r_iconst i0_15 kk) ?_
      refine lift (fun _ kk => r_goto i0_16 kk) ?_
      refine lift (fun _ kk => r_istore (ls' := [_, _, _, _, _, _, _, _]) i0_20 rfl rfl kk) ?_
      refine lift (fun _ kk => r_iloadN i0_22 rfl kk) ?_
      refine lift (fun _ kk => s0_23 hw (a := 0) (o := [.int 0, .int 0]) (H1 := [_]) (by decide) (by decide) rfl rfl rfl kk) ?_
      refine lift (fun _ kk => r_astore (ls' := [_, _, _, _, _, _, _, _]) i0_25 rfl rfl rfl kk) ?_
      refine lift (fun _ kk => r_iloadN i0_27 rfl kk) ?_
      refine lift (fun _ kk => r_iconst i0_28 kk) ?_
      refine lift (fun _ kk => r_icF i0_29 (XT.ii_le_f (by decide)) kk) ?_
      refine lift (fun _ kk => r_aload i0_32 rfl rfl kk) ?_
      refine lift (fun _ kk => r_iconst i0_34 kk) ?_
      refine lift (fun _ kk => r_iloadN i0_35 rfl kk) ?_
      refine lift (fun _ kk => r_iconst i0_36 kk) ?_
      refine lift (fun _ kk => r_iload i0_37 rfl kk) ?_
      refine lift (fun _ kk => s0_39 hw (H1 := [_]) (c9 hw _ _ _) rfl (leB rfl) kk) ?_
      refine lift (fun _ kk => r_iastore (i := 0) (vs' := [_, _]) (H1 := [_]) i0_42 rfl ⟨by decide, by decide⟩ (ltB rfl) rfl rfl kk) ?_
      refine lift (fun _ kk => r_iloadN i0_43 rfl kk) ?_
      refine lift (fun _ kk => r_iconst i0_44 kk) ?_
      refine lift (fun _ kk => r_icT i0_45 (XT.ii_le_t (by decide)) kk) ?_
      refine lift (fun _ kk => r_iloadN i0_59 rfl kk) ?_
      refine lift (fun _ kk => r_iconst i0_60 kk) ?_
      refine lift (fun _ kk => r_icT i0_61 (XT.ii_le_t (by decide)) kk) ?_
      refine lift (fun _ kk => r_iloadN i0_75 rfl kk) ?_
      refine lift (fun _ kk => r_iconst i0_76 kk) ?_
      refine lift (fun _ kk => r_icT i0_77 (XT.ii_le_t (by decide)) kk) ?_
      refine lift (fun _ kk => r_aload i0_91 rfl rfl kk) ?_
      refine lift (fun _ kk => r_iloadN i0_93 rfl kk) ?_
      refine lift (fun _ kk => r_iconst i0_94 kk) ?_
      refine lift (fun _ kk => r_isub i0_95 kk) ?_
      refine lift (fun _ kk => r_iload i0_96 rfl kk) ?_
      refine lift (fun _ kk => r_ifF i0_98 (XT.i0_eq_f (by decide)) kk) ?_
      refine lift (fun _ kk => r_iconst i0_101 kk) ?_
      refine lift (fun _ kk => r_goto i0_102 kk) ?_
      refine lift (fun _ kk => r_iastore (i := 1) (vs' := [_, _]) (H1 := [_]) i0_106 rfl ⟨by decide, by decide⟩ (ltB rfl) rfl rfl kk) ?_
      obtain ⟨k0, h0, e0⟩ := own_v1 p1 0
      rw [e0]
      exact law_tail hw [k0 + 1, 0] p0 p1 p2 1 (all1_2 k0 h0)
  | 2, _ =>
    refine lift (fun _ kk => r_iadd i0_7 kk) ?_
    rw [show (1 : Int32) + (2 : Nat).toInt32 = 3 from by decide]
    refine lift (fun _ kk => r_istoreN (ls' := [_, _, _, _, _, _, _, _]) i0_8 rfl rfl kk) ?_
    by_cases q : p2 &&& 1 = 0
    · refine lift (fun _ kk => r_iloadN i0_9 rfl kk) ?_
      refine lift (fun _ kk => r_iconst i0_10 kk) ?_
      refine lift (fun _ kk => r_iand i0_11 kk) ?_
      refine lift (fun _ kk => r_ifT i0_12 (XT.i0_eq_t q) kk) ?_
      refine lift (fun _ kk => r_iconst i0_19 kk) ?_
      refine lift (fun _ kk => r_istore (ls' := [_, _, _, _, _, _, _, _]) i0_20 rfl rfl kk) ?_
      refine lift (fun _ kk => r_iloadN i0_22 rfl kk) ?_
      refine lift (fun _ kk => s0_23 hw (a := 0) (o := [.int 0, .int 0, .int 0]) (H1 := [_]) (by decide) (by decide) rfl rfl rfl kk) ?_
      refine lift (fun _ kk => r_astore (ls' := [_, _, _, _, _, _, _, _]) i0_25 rfl rfl rfl kk) ?_
      refine lift (fun _ kk => r_iloadN i0_27 rfl kk) ?_
      refine lift (fun _ kk => r_iconst i0_28 kk) ?_
      refine lift (fun _ kk => r_icF i0_29 (XT.ii_le_f (by decide)) kk) ?_
      refine lift (fun _ kk => r_aload i0_32 rfl rfl kk) ?_
      refine lift (fun _ kk => r_iconst i0_34 kk) ?_
      refine lift (fun _ kk => r_iloadN i0_35 rfl kk) ?_
      refine lift (fun _ kk => r_iconst i0_36 kk) ?_
      refine lift (fun _ kk => r_iload i0_37 rfl kk) ?_
      refine lift (fun _ kk => s0_39 hw (H1 := [_]) (c9 hw _ _ _) rfl (leB rfl) kk) ?_
      refine lift (fun _ kk => r_iastore (i := 0) (vs' := [_, _, _]) (H1 := [_]) i0_42 rfl ⟨by decide, by decide⟩ (ltB rfl) rfl rfl kk) ?_
      refine lift (fun _ kk => r_iloadN i0_43 rfl kk) ?_
      refine lift (fun _ kk => r_iconst i0_44 kk) ?_
      refine lift (fun _ kk => r_icF i0_45 (XT.ii_le_f (by decide)) kk) ?_
      refine lift (fun _ kk => r_aload i0_48 rfl rfl kk) ?_
      refine lift (fun _ kk => r_iconst i0_50 kk) ?_
      refine lift (fun _ kk => r_iloadN i0_51 rfl kk) ?_
      refine lift (fun _ kk => r_iconst i0_52 kk) ?_
      refine lift (fun _ kk => r_iload i0_53 rfl kk) ?_
      refine lift (fun _ kk => s0_55 hw (H1 := [_]) (c9 hw _ _ _) rfl (leB rfl) kk) ?_
      refine lift (fun _ kk => r_iastore (i := 1) (vs' := [_, _, _]) (H1 := [_]) i0_58 rfl ⟨by decide, by decide⟩ (ltB rfl) rfl rfl kk) ?_
      refine lift (fun _ kk => r_iloadN i0_59 rfl kk) ?_
      refine lift (fun _ kk => r_iconst i0_60 kk) ?_
      refine lift (fun _ kk => r_icT i0_61 (XT.ii_le_t (by decide)) kk) ?_
      refine lift (fun _ kk => r_iloadN i0_75 rfl kk) ?_
      refine lift (fun _ kk => r_iconst i0_76 kk) ?_
      refine lift (fun _ kk => r_icT i0_77 (XT.ii_le_t (by decide)) kk) ?_
      refine lift (fun _ kk => r_aload i0_91 rfl rfl kk) ?_
      refine lift (fun _ kk => r_iloadN i0_93 rfl kk) ?_
      refine lift (fun _ kk => r_iconst i0_94 kk) ?_
      refine lift (fun _ kk => r_isub i0_95 kk) ?_
      refine lift (fun _ kk => r_iload i0_96 rfl kk) ?_
      refine lift (fun _ kk => r_ifT i0_98 (XT.i0_eq_t (by decide)) kk) ?_
      refine lift (fun _ kk => r_iconst i0_105 kk) ?_
      refine lift (fun _ kk => r_iastore (i := 2) (vs' := [_, _, _]) (H1 := [_]) i0_106 rfl ⟨by decide, by decide⟩ (ltB rfl) rfl rfl kk) ?_
      obtain ⟨k0, h0, e0⟩ := own_v0 p1 0
      obtain ⟨k1, h1, e1⟩ := own_v0 p1 1
      rw [e0, e1]
      exact law_tail hw [k0, k1, 4] p0 p1 p2 0 (all0_3 k0 h0 k1 h1)
    · refine lift (fun _ kk => r_iloadN i0_9 rfl kk) ?_
      refine lift (fun _ kk => r_iconst i0_10 kk) ?_
      refine lift (fun _ kk => r_iand i0_11 kk) ?_
      refine lift (fun _ kk => r_ifF i0_12 (XT.i0_eq_f q) kk) ?_
      refine lift (fun _ kk => r_iconst i0_15 kk) ?_
      refine lift (fun _ kk => r_goto i0_16 kk) ?_
      refine lift (fun _ kk => r_istore (ls' := [_, _, _, _, _, _, _, _]) i0_20 rfl rfl kk) ?_
      refine lift (fun _ kk => r_iloadN i0_22 rfl kk) ?_
      refine lift (fun _ kk => s0_23 hw (a := 0) (o := [.int 0, .int 0, .int 0]) (H1 := [_]) (by decide) (by decide) rfl rfl rfl kk) ?_
      refine lift (fun _ kk => r_astore (ls' := [_, _, _, _, _, _, _, _]) i0_25 rfl rfl rfl kk) ?_
      refine lift (fun _ kk => r_iloadN i0_27 rfl kk) ?_
      refine lift (fun _ kk => r_iconst i0_28 kk) ?_
      refine lift (fun _ kk => r_icF i0_29 (XT.ii_le_f (by decide)) kk) ?_
      refine lift (fun _ kk => r_aload i0_32 rfl rfl kk) ?_
      refine lift (fun _ kk => r_iconst i0_34 kk) ?_
      refine lift (fun _ kk => r_iloadN i0_35 rfl kk) ?_
      refine lift (fun _ kk => r_iconst i0_36 kk) ?_
      refine lift (fun _ kk => r_iload i0_37 rfl kk) ?_
      refine lift (fun _ kk => s0_39 hw (H1 := [_]) (c9 hw _ _ _) rfl (leB rfl) kk) ?_
      refine lift (fun _ kk => r_iastore (i := 0) (vs' := [_, _, _]) (H1 := [_]) i0_42 rfl ⟨by decide, by decide⟩ (ltB rfl) rfl rfl kk) ?_
      refine lift (fun _ kk => r_iloadN i0_43 rfl kk) ?_
      refine lift (fun _ kk => r_iconst i0_44 kk) ?_
      refine lift (fun _ kk => r_icF i0_45 (XT.ii_le_f (by decide)) kk) ?_
      refine lift (fun _ kk => r_aload i0_48 rfl rfl kk) ?_
      refine lift (fun _ kk => r_iconst i0_50 kk) ?_
      refine lift (fun _ kk => r_iloadN i0_51 rfl kk) ?_
      refine lift (fun _ kk => r_iconst i0_52 kk) ?_
      refine lift (fun _ kk => r_iload i0_53 rfl kk) ?_
      refine lift (fun _ kk => s0_55 hw (H1 := [_]) (c9 hw _ _ _) rfl (leB rfl) kk) ?_
      refine lift (fun _ kk => r_iastore (i := 1) (vs' := [_, _, _]) (H1 := [_]) i0_58 rfl ⟨by decide, by decide⟩ (ltB rfl) rfl rfl kk) ?_
      refine lift (fun _ kk => r_iloadN i0_59 rfl kk) ?_
      refine lift (fun _ kk => r_iconst i0_60 kk) ?_
      refine lift (fun _ kk => r_icT i0_61 (XT.ii_le_t (by decide)) kk) ?_
      refine lift (fun _ kk => r_iloadN i0_75 rfl kk) ?_
      refine lift (fun _ kk => r_iconst i0_76 kk) ?_
      refine lift (fun _ kk => r_icT i0_77 (XT.ii_le_t (by decide)) kk) ?_
      refine lift (fun _ kk => r_aload i0_91 rfl rfl kk) ?_
      refine lift (fun _ kk => r_iloadN i0_93 rfl kk) ?_
      refine lift (fun _ kk => r_iconst i0_94 kk) ?_
      refine lift (fun _ kk => r_isub i0_95 kk) ?_
      refine lift (fun _ kk => r_iload i0_96 rfl kk) ?_
      refine lift (fun _ kk => r_ifF i0_98 (XT.i0_eq_f (by decide)) kk) ?_
      refine lift (fun _ kk => r_iconst i0_101 kk) ?_
      refine lift (fun _ kk => r_goto i0_102 kk) ?_
      refine lift (fun _ kk => r_iastore (i := 2) (vs' := [_, _, _]) (H1 := [_]) i0_106 rfl ⟨by decide, by decide⟩ (ltB rfl) rfl rfl kk) ?_
      obtain ⟨k0, h0, e0⟩ := own_v1 p1 0
      obtain ⟨k1, h1, e1⟩ := own_v1 p1 1
      rw [e0, e1]
      exact law_tail hw [k0 + 1, k1 + 1, 0] p0 p1 p2 1 (all1_3 k0 h0 k1 h1)
  | 3, _ =>
    refine lift (fun _ kk => r_iadd i0_7 kk) ?_
    rw [show (1 : Int32) + (3 : Nat).toInt32 = 4 from by decide]
    refine lift (fun _ kk => r_istoreN (ls' := [_, _, _, _, _, _, _, _]) i0_8 rfl rfl kk) ?_
    by_cases q : p2 &&& 1 = 0
    · refine lift (fun _ kk => r_iloadN i0_9 rfl kk) ?_
      refine lift (fun _ kk => r_iconst i0_10 kk) ?_
      refine lift (fun _ kk => r_iand i0_11 kk) ?_
      refine lift (fun _ kk => r_ifT i0_12 (XT.i0_eq_t q) kk) ?_
      refine lift (fun _ kk => r_iconst i0_19 kk) ?_
      refine lift (fun _ kk => r_istore (ls' := [_, _, _, _, _, _, _, _]) i0_20 rfl rfl kk) ?_
      refine lift (fun _ kk => r_iloadN i0_22 rfl kk) ?_
      refine lift (fun _ kk => s0_23 hw (a := 0) (o := [.int 0, .int 0, .int 0, .int 0]) (H1 := [_]) (by decide) (by decide) rfl rfl rfl kk) ?_
      refine lift (fun _ kk => r_astore (ls' := [_, _, _, _, _, _, _, _]) i0_25 rfl rfl rfl kk) ?_
      refine lift (fun _ kk => r_iloadN i0_27 rfl kk) ?_
      refine lift (fun _ kk => r_iconst i0_28 kk) ?_
      refine lift (fun _ kk => r_icF i0_29 (XT.ii_le_f (by decide)) kk) ?_
      refine lift (fun _ kk => r_aload i0_32 rfl rfl kk) ?_
      refine lift (fun _ kk => r_iconst i0_34 kk) ?_
      refine lift (fun _ kk => r_iloadN i0_35 rfl kk) ?_
      refine lift (fun _ kk => r_iconst i0_36 kk) ?_
      refine lift (fun _ kk => r_iload i0_37 rfl kk) ?_
      refine lift (fun _ kk => s0_39 hw (H1 := [_]) (c9 hw _ _ _) rfl (leB rfl) kk) ?_
      refine lift (fun _ kk => r_iastore (i := 0) (vs' := [_, _, _, _]) (H1 := [_]) i0_42 rfl ⟨by decide, by decide⟩ (ltB rfl) rfl rfl kk) ?_
      refine lift (fun _ kk => r_iloadN i0_43 rfl kk) ?_
      refine lift (fun _ kk => r_iconst i0_44 kk) ?_
      refine lift (fun _ kk => r_icF i0_45 (XT.ii_le_f (by decide)) kk) ?_
      refine lift (fun _ kk => r_aload i0_48 rfl rfl kk) ?_
      refine lift (fun _ kk => r_iconst i0_50 kk) ?_
      refine lift (fun _ kk => r_iloadN i0_51 rfl kk) ?_
      refine lift (fun _ kk => r_iconst i0_52 kk) ?_
      refine lift (fun _ kk => r_iload i0_53 rfl kk) ?_
      refine lift (fun _ kk => s0_55 hw (H1 := [_]) (c9 hw _ _ _) rfl (leB rfl) kk) ?_
      refine lift (fun _ kk => r_iastore (i := 1) (vs' := [_, _, _, _]) (H1 := [_]) i0_58 rfl ⟨by decide, by decide⟩ (ltB rfl) rfl rfl kk) ?_
      refine lift (fun _ kk => r_iloadN i0_59 rfl kk) ?_
      refine lift (fun _ kk => r_iconst i0_60 kk) ?_
      refine lift (fun _ kk => r_icF i0_61 (XT.ii_le_f (by decide)) kk) ?_
      refine lift (fun _ kk => r_aload i0_64 rfl rfl kk) ?_
      refine lift (fun _ kk => r_iconst i0_66 kk) ?_
      refine lift (fun _ kk => r_iloadN i0_67 rfl kk) ?_
      refine lift (fun _ kk => r_iconst i0_68 kk) ?_
      refine lift (fun _ kk => r_iload i0_69 rfl kk) ?_
      refine lift (fun _ kk => s0_71 hw (H1 := [_]) (c9 hw _ _ _) rfl (leB rfl) kk) ?_
      refine lift (fun _ kk => r_iastore (i := 2) (vs' := [_, _, _, _]) (H1 := [_]) i0_74 rfl ⟨by decide, by decide⟩ (ltB rfl) rfl rfl kk) ?_
      refine lift (fun _ kk => r_iloadN i0_75 rfl kk) ?_
      refine lift (fun _ kk => r_iconst i0_76 kk) ?_
      refine lift (fun _ kk => r_icT i0_77 (XT.ii_le_t (by decide)) kk) ?_
      refine lift (fun _ kk => r_aload i0_91 rfl rfl kk) ?_
      refine lift (fun _ kk => r_iloadN i0_93 rfl kk) ?_
      refine lift (fun _ kk => r_iconst i0_94 kk) ?_
      refine lift (fun _ kk => r_isub i0_95 kk) ?_
      refine lift (fun _ kk => r_iload i0_96 rfl kk) ?_
      refine lift (fun _ kk => r_ifT i0_98 (XT.i0_eq_t (by decide)) kk) ?_
      refine lift (fun _ kk => r_iconst i0_105 kk) ?_
      refine lift (fun _ kk => r_iastore (i := 3) (vs' := [_, _, _, _]) (H1 := [_]) i0_106 rfl ⟨by decide, by decide⟩ (ltB rfl) rfl rfl kk) ?_
      obtain ⟨k0, h0, e0⟩ := own_v0 p1 0
      obtain ⟨k1, h1, e1⟩ := own_v0 p1 1
      obtain ⟨k2, h2, e2⟩ := own_v0 p1 2
      rw [e0, e1, e2]
      exact law_tail hw [k0, k1, k2, 4] p0 p1 p2 0 (all0_4 k0 h0 k1 h1 k2 h2)
    · refine lift (fun _ kk => r_iloadN i0_9 rfl kk) ?_
      refine lift (fun _ kk => r_iconst i0_10 kk) ?_
      refine lift (fun _ kk => r_iand i0_11 kk) ?_
      refine lift (fun _ kk => r_ifF i0_12 (XT.i0_eq_f q) kk) ?_
      refine lift (fun _ kk => r_iconst i0_15 kk) ?_
      refine lift (fun _ kk => r_goto i0_16 kk) ?_
      refine lift (fun _ kk => r_istore (ls' := [_, _, _, _, _, _, _, _]) i0_20 rfl rfl kk) ?_
      refine lift (fun _ kk => r_iloadN i0_22 rfl kk) ?_
      refine lift (fun _ kk => s0_23 hw (a := 0) (o := [.int 0, .int 0, .int 0, .int 0]) (H1 := [_]) (by decide) (by decide) rfl rfl rfl kk) ?_
      refine lift (fun _ kk => r_astore (ls' := [_, _, _, _, _, _, _, _]) i0_25 rfl rfl rfl kk) ?_
      refine lift (fun _ kk => r_iloadN i0_27 rfl kk) ?_
      refine lift (fun _ kk => r_iconst i0_28 kk) ?_
      refine lift (fun _ kk => r_icF i0_29 (XT.ii_le_f (by decide)) kk) ?_
      refine lift (fun _ kk => r_aload i0_32 rfl rfl kk) ?_
      refine lift (fun _ kk => r_iconst i0_34 kk) ?_
      refine lift (fun _ kk => r_iloadN i0_35 rfl kk) ?_
      refine lift (fun _ kk => r_iconst i0_36 kk) ?_
      refine lift (fun _ kk => r_iload i0_37 rfl kk) ?_
      refine lift (fun _ kk => s0_39 hw (H1 := [_]) (c9 hw _ _ _) rfl (leB rfl) kk) ?_
      refine lift (fun _ kk => r_iastore (i := 0) (vs' := [_, _, _, _]) (H1 := [_]) i0_42 rfl ⟨by decide, by decide⟩ (ltB rfl) rfl rfl kk) ?_
      refine lift (fun _ kk => r_iloadN i0_43 rfl kk) ?_
      refine lift (fun _ kk => r_iconst i0_44 kk) ?_
      refine lift (fun _ kk => r_icF i0_45 (XT.ii_le_f (by decide)) kk) ?_
      refine lift (fun _ kk => r_aload i0_48 rfl rfl kk) ?_
      refine lift (fun _ kk => r_iconst i0_50 kk) ?_
      refine lift (fun _ kk => r_iloadN i0_51 rfl kk) ?_
      refine lift (fun _ kk => r_iconst i0_52 kk) ?_
      refine lift (fun _ kk => r_iload i0_53 rfl kk) ?_
      refine lift (fun _ kk => s0_55 hw (H1 := [_]) (c9 hw _ _ _) rfl (leB rfl) kk) ?_
      refine lift (fun _ kk => r_iastore (i := 1) (vs' := [_, _, _, _]) (H1 := [_]) i0_58 rfl ⟨by decide, by decide⟩ (ltB rfl) rfl rfl kk) ?_
      refine lift (fun _ kk => r_iloadN i0_59 rfl kk) ?_
      refine lift (fun _ kk => r_iconst i0_60 kk) ?_
      refine lift (fun _ kk => r_icF i0_61 (XT.ii_le_f (by decide)) kk) ?_
      refine lift (fun _ kk => r_aload i0_64 rfl rfl kk) ?_
      refine lift (fun _ kk => r_iconst i0_66 kk) ?_
      refine lift (fun _ kk => r_iloadN i0_67 rfl kk) ?_
      refine lift (fun _ kk => r_iconst i0_68 kk) ?_
      refine lift (fun _ kk => r_iload i0_69 rfl kk) ?_
      refine lift (fun _ kk => s0_71 hw (H1 := [_]) (c9 hw _ _ _) rfl (leB rfl) kk) ?_
      refine lift (fun _ kk => r_iastore (i := 2) (vs' := [_, _, _, _]) (H1 := [_]) i0_74 rfl ⟨by decide, by decide⟩ (ltB rfl) rfl rfl kk) ?_
      refine lift (fun _ kk => r_iloadN i0_75 rfl kk) ?_
      refine lift (fun _ kk => r_iconst i0_76 kk) ?_
      refine lift (fun _ kk => r_icT i0_77 (XT.ii_le_t (by decide)) kk) ?_
      refine lift (fun _ kk => r_aload i0_91 rfl rfl kk) ?_
      refine lift (fun _ kk => r_iloadN i0_93 rfl kk) ?_
      refine lift (fun _ kk => r_iconst i0_94 kk) ?_
      refine lift (fun _ kk => r_isub i0_95 kk) ?_
      refine lift (fun _ kk => r_iload i0_96 rfl kk) ?_
      refine lift (fun _ kk => r_ifF i0_98 (XT.i0_eq_f (by decide)) kk) ?_
      refine lift (fun _ kk => r_iconst i0_101 kk) ?_
      refine lift (fun _ kk => r_goto i0_102 kk) ?_
      refine lift (fun _ kk => r_iastore (i := 3) (vs' := [_, _, _, _]) (H1 := [_]) i0_106 rfl ⟨by decide, by decide⟩ (ltB rfl) rfl rfl kk) ?_
      obtain ⟨k0, h0, e0⟩ := own_v1 p1 0
      obtain ⟨k1, h1, e1⟩ := own_v1 p1 1
      obtain ⟨k2, h2, e2⟩ := own_v1 p1 2
      rw [e0, e1, e2]
      exact law_tail hw [k0 + 1, k1 + 1, k2 + 1, 0] p0 p1 p2 1 (all1_4 k0 h0 k1 h1 k2 h2)
  | 4, _ =>
    refine lift (fun _ kk => r_iadd i0_7 kk) ?_
    rw [show (1 : Int32) + (4 : Nat).toInt32 = 5 from by decide]
    refine lift (fun _ kk => r_istoreN (ls' := [_, _, _, _, _, _, _, _]) i0_8 rfl rfl kk) ?_
    by_cases q : p2 &&& 1 = 0
    · refine lift (fun _ kk => r_iloadN i0_9 rfl kk) ?_
      refine lift (fun _ kk => r_iconst i0_10 kk) ?_
      refine lift (fun _ kk => r_iand i0_11 kk) ?_
      refine lift (fun _ kk => r_ifT i0_12 (XT.i0_eq_t q) kk) ?_
      refine lift (fun _ kk => r_iconst i0_19 kk) ?_
      refine lift (fun _ kk => r_istore (ls' := [_, _, _, _, _, _, _, _]) i0_20 rfl rfl kk) ?_
      refine lift (fun _ kk => r_iloadN i0_22 rfl kk) ?_
      refine lift (fun _ kk => s0_23 hw (a := 0) (o := [.int 0, .int 0, .int 0, .int 0, .int 0]) (H1 := [_]) (by decide) (by decide) rfl rfl rfl kk) ?_
      refine lift (fun _ kk => r_astore (ls' := [_, _, _, _, _, _, _, _]) i0_25 rfl rfl rfl kk) ?_
      refine lift (fun _ kk => r_iloadN i0_27 rfl kk) ?_
      refine lift (fun _ kk => r_iconst i0_28 kk) ?_
      refine lift (fun _ kk => r_icF i0_29 (XT.ii_le_f (by decide)) kk) ?_
      refine lift (fun _ kk => r_aload i0_32 rfl rfl kk) ?_
      refine lift (fun _ kk => r_iconst i0_34 kk) ?_
      refine lift (fun _ kk => r_iloadN i0_35 rfl kk) ?_
      refine lift (fun _ kk => r_iconst i0_36 kk) ?_
      refine lift (fun _ kk => r_iload i0_37 rfl kk) ?_
      refine lift (fun _ kk => s0_39 hw (H1 := [_]) (c9 hw _ _ _) rfl (leB rfl) kk) ?_
      refine lift (fun _ kk => r_iastore (i := 0) (vs' := [_, _, _, _, _]) (H1 := [_]) i0_42 rfl ⟨by decide, by decide⟩ (ltB rfl) rfl rfl kk) ?_
      refine lift (fun _ kk => r_iloadN i0_43 rfl kk) ?_
      refine lift (fun _ kk => r_iconst i0_44 kk) ?_
      refine lift (fun _ kk => r_icF i0_45 (XT.ii_le_f (by decide)) kk) ?_
      refine lift (fun _ kk => r_aload i0_48 rfl rfl kk) ?_
      refine lift (fun _ kk => r_iconst i0_50 kk) ?_
      refine lift (fun _ kk => r_iloadN i0_51 rfl kk) ?_
      refine lift (fun _ kk => r_iconst i0_52 kk) ?_
      refine lift (fun _ kk => r_iload i0_53 rfl kk) ?_
      refine lift (fun _ kk => s0_55 hw (H1 := [_]) (c9 hw _ _ _) rfl (leB rfl) kk) ?_
      refine lift (fun _ kk => r_iastore (i := 1) (vs' := [_, _, _, _, _]) (H1 := [_]) i0_58 rfl ⟨by decide, by decide⟩ (ltB rfl) rfl rfl kk) ?_
      refine lift (fun _ kk => r_iloadN i0_59 rfl kk) ?_
      refine lift (fun _ kk => r_iconst i0_60 kk) ?_
      refine lift (fun _ kk => r_icF i0_61 (XT.ii_le_f (by decide)) kk) ?_
      refine lift (fun _ kk => r_aload i0_64 rfl rfl kk) ?_
      refine lift (fun _ kk => r_iconst i0_66 kk) ?_
      refine lift (fun _ kk => r_iloadN i0_67 rfl kk) ?_
      refine lift (fun _ kk => r_iconst i0_68 kk) ?_
      refine lift (fun _ kk => r_iload i0_69 rfl kk) ?_
      refine lift (fun _ kk => s0_71 hw (H1 := [_]) (c9 hw _ _ _) rfl (leB rfl) kk) ?_
      refine lift (fun _ kk => r_iastore (i := 2) (vs' := [_, _, _, _, _]) (H1 := [_]) i0_74 rfl ⟨by decide, by decide⟩ (ltB rfl) rfl rfl kk) ?_
      refine lift (fun _ kk => r_iloadN i0_75 rfl kk) ?_
      refine lift (fun _ kk => r_iconst i0_76 kk) ?_
      refine lift (fun _ kk => r_icF i0_77 (XT.ii_le_f (by decide)) kk) ?_
      refine lift (fun _ kk => r_aload i0_80 rfl rfl kk) ?_
      refine lift (fun _ kk => r_iconst i0_82 kk) ?_
      refine lift (fun _ kk => r_iloadN i0_83 rfl kk) ?_
      refine lift (fun _ kk => r_iconst i0_84 kk) ?_
      refine lift (fun _ kk => r_iload i0_85 rfl kk) ?_
      refine lift (fun _ kk => s0_87 hw (H1 := [_]) (c9 hw _ _ _) rfl (leB rfl) kk) ?_
      refine lift (fun _ kk => r_iastore (i := 3) (vs' := [_, _, _, _, _]) (H1 := [_]) i0_90 rfl ⟨by decide, by decide⟩ (ltB rfl) rfl rfl kk) ?_
      refine lift (fun _ kk => r_aload i0_91 rfl rfl kk) ?_
      refine lift (fun _ kk => r_iloadN i0_93 rfl kk) ?_
      refine lift (fun _ kk => r_iconst i0_94 kk) ?_
      refine lift (fun _ kk => r_isub i0_95 kk) ?_
      refine lift (fun _ kk => r_iload i0_96 rfl kk) ?_
      refine lift (fun _ kk => r_ifT i0_98 (XT.i0_eq_t (by decide)) kk) ?_
      refine lift (fun _ kk => r_iconst i0_105 kk) ?_
      refine lift (fun _ kk => r_iastore (i := 4) (vs' := [_, _, _, _, _]) (H1 := [_]) i0_106 rfl ⟨by decide, by decide⟩ (ltB rfl) rfl rfl kk) ?_
      obtain ⟨k0, h0, e0⟩ := own_v0 p1 0
      obtain ⟨k1, h1, e1⟩ := own_v0 p1 1
      obtain ⟨k2, h2, e2⟩ := own_v0 p1 2
      obtain ⟨k3, h3, e3⟩ := own_v0 p1 3
      rw [e0, e1, e2, e3]
      exact law_tail hw [k0, k1, k2, k3, 4] p0 p1 p2 0 (all0_5 k0 h0 k1 h1 k2 h2 k3 h3)
    · refine lift (fun _ kk => r_iloadN i0_9 rfl kk) ?_
      refine lift (fun _ kk => r_iconst i0_10 kk) ?_
      refine lift (fun _ kk => r_iand i0_11 kk) ?_
      refine lift (fun _ kk => r_ifF i0_12 (XT.i0_eq_f q) kk) ?_
      refine lift (fun _ kk => r_iconst i0_15 kk) ?_
      refine lift (fun _ kk => r_goto i0_16 kk) ?_
      refine lift (fun _ kk => r_istore (ls' := [_, _, _, _, _, _, _, _]) i0_20 rfl rfl kk) ?_
      refine lift (fun _ kk => r_iloadN i0_22 rfl kk) ?_
      refine lift (fun _ kk => s0_23 hw (a := 0) (o := [.int 0, .int 0, .int 0, .int 0, .int 0]) (H1 := [_]) (by decide) (by decide) rfl rfl rfl kk) ?_
      refine lift (fun _ kk => r_astore (ls' := [_, _, _, _, _, _, _, _]) i0_25 rfl rfl rfl kk) ?_
      refine lift (fun _ kk => r_iloadN i0_27 rfl kk) ?_
      refine lift (fun _ kk => r_iconst i0_28 kk) ?_
      refine lift (fun _ kk => r_icF i0_29 (XT.ii_le_f (by decide)) kk) ?_
      refine lift (fun _ kk => r_aload i0_32 rfl rfl kk) ?_
      refine lift (fun _ kk => r_iconst i0_34 kk) ?_
      refine lift (fun _ kk => r_iloadN i0_35 rfl kk) ?_
      refine lift (fun _ kk => r_iconst i0_36 kk) ?_
      refine lift (fun _ kk => r_iload i0_37 rfl kk) ?_
      refine lift (fun _ kk => s0_39 hw (H1 := [_]) (c9 hw _ _ _) rfl (leB rfl) kk) ?_
      refine lift (fun _ kk => r_iastore (i := 0) (vs' := [_, _, _, _, _]) (H1 := [_]) i0_42 rfl ⟨by decide, by decide⟩ (ltB rfl) rfl rfl kk) ?_
      refine lift (fun _ kk => r_iloadN i0_43 rfl kk) ?_
      refine lift (fun _ kk => r_iconst i0_44 kk) ?_
      refine lift (fun _ kk => r_icF i0_45 (XT.ii_le_f (by decide)) kk) ?_
      refine lift (fun _ kk => r_aload i0_48 rfl rfl kk) ?_
      refine lift (fun _ kk => r_iconst i0_50 kk) ?_
      refine lift (fun _ kk => r_iloadN i0_51 rfl kk) ?_
      refine lift (fun _ kk => r_iconst i0_52 kk) ?_
      refine lift (fun _ kk => r_iload i0_53 rfl kk) ?_
      refine lift (fun _ kk => s0_55 hw (H1 := [_]) (c9 hw _ _ _) rfl (leB rfl) kk) ?_
      refine lift (fun _ kk => r_iastore (i := 1) (vs' := [_, _, _, _, _]) (H1 := [_]) i0_58 rfl ⟨by decide, by decide⟩ (ltB rfl) rfl rfl kk) ?_
      refine lift (fun _ kk => r_iloadN i0_59 rfl kk) ?_
      refine lift (fun _ kk => r_iconst i0_60 kk) ?_
      refine lift (fun _ kk => r_icF i0_61 (XT.ii_le_f (by decide)) kk) ?_
      refine lift (fun _ kk => r_aload i0_64 rfl rfl kk) ?_
      refine lift (fun _ kk => r_iconst i0_66 kk) ?_
      refine lift (fun _ kk => r_iloadN i0_67 rfl kk) ?_
      refine lift (fun _ kk => r_iconst i0_68 kk) ?_
      refine lift (fun _ kk => r_iload i0_69 rfl kk) ?_
      refine lift (fun _ kk => s0_71 hw (H1 := [_]) (c9 hw _ _ _) rfl (leB rfl) kk) ?_
      refine lift (fun _ kk => r_iastore (i := 2) (vs' := [_, _, _, _, _]) (H1 := [_]) i0_74 rfl ⟨by decide, by decide⟩ (ltB rfl) rfl rfl kk) ?_
      refine lift (fun _ kk => r_iloadN i0_75 rfl kk) ?_
      refine lift (fun _ kk => r_iconst i0_76 kk) ?_
      refine lift (fun _ kk => r_icF i0_77 (XT.ii_le_f (by decide)) kk) ?_
      refine lift (fun _ kk => r_aload i0_80 rfl rfl kk) ?_
      refine lift (fun _ kk => r_iconst i0_82 kk) ?_
      refine lift (fun _ kk => r_iloadN i0_83 rfl kk) ?_
      refine lift (fun _ kk => r_iconst i0_84 kk) ?_
      refine lift (fun _ kk => r_iload i0_85 rfl kk) ?_
      refine lift (fun _ kk => s0_87 hw (H1 := [_]) (c9 hw _ _ _) rfl (leB rfl) kk) ?_
      refine lift (fun _ kk => r_iastore (i := 3) (vs' := [_, _, _, _, _]) (H1 := [_]) i0_90 rfl ⟨by decide, by decide⟩ (ltB rfl) rfl rfl kk) ?_
      refine lift (fun _ kk => r_aload i0_91 rfl rfl kk) ?_
      refine lift (fun _ kk => r_iloadN i0_93 rfl kk) ?_
      refine lift (fun _ kk => r_iconst i0_94 kk) ?_
      refine lift (fun _ kk => r_isub i0_95 kk) ?_
      refine lift (fun _ kk => r_iload i0_96 rfl kk) ?_
      refine lift (fun _ kk => r_ifF i0_98 (XT.i0_eq_f (by decide)) kk) ?_
      refine lift (fun _ kk => r_iconst i0_101 kk) ?_
      refine lift (fun _ kk => r_goto i0_102 kk) ?_
      refine lift (fun _ kk => r_iastore (i := 4) (vs' := [_, _, _, _, _]) (H1 := [_]) i0_106 rfl ⟨by decide, by decide⟩ (ltB rfl) rfl rfl kk) ?_
      obtain ⟨k0, h0, e0⟩ := own_v1 p1 0
      obtain ⟨k1, h1, e1⟩ := own_v1 p1 1
      obtain ⟨k2, h2, e2⟩ := own_v1 p1 2
      obtain ⟨k3, h3, e3⟩ := own_v1 p1 3
      rw [e0, e1, e2, e3]
      exact law_tail hw [k0 + 1, k1 + 1, k2 + 1, k3 + 1, 0] p0 p1 p2 1 (all1_5 k0 h0 k1 h1 k2 h2 k3 h3)
  | k + 5, h => exact absurd h (by omega)
set_option maxRecDepth 65536 in
set_option maxHeartbeats 40000000 in
theorem comes_1 {Post : Tables → Env → Array Value → State → Outcome → State → Prop} (hpost : ∀ tb e args s v u, (limb_1_1.after args s (.returned v) u = true ∧ limb_1_2.after args s (.returned v) u = true ∧ True) → FrameEnd s (.returned v) u (Jvm.fieldLocs frame_1_writes args s ++ Jvm.arrayLocs frame_1_arrays args s ++ Jvm.staticLocs frame_1_statics s) 24 192 → Post tb e args s (.returned v) u) :
    ArmFor flags0 classFile x code maxLocals ret World_1 tables_1 room_1 Calls_1 rest_1 Pre_1 Post := by
  intro l hfl _ _ p e ha hc hk s m args below hf hA hF happ hP
  obtain ⟨hcalls, hrest, hpre⟩ := hP
  obtain ⟨-, -, -, hnamed, -, -, -, hat⟩ := (Spec.applies_iff hf).mp happ
  obtain ⟨hg, hn⟩ := and_e (Cond.before_iff.mp (show (Jvm.Cond.and given_1 narrow_1).before args s = true from hpre))
  obtain ⟨hcount, hk0⟩ := and_e hg
  obtain ⟨w0, w1, w2, rfl⟩ : ∃ w0 w1 w2 : Value, args = #[w0, w1, w2] := by
    have hs : args.size = 3 := by simpa [Cond.value, given_1] using hcount
    obtain ⟨L⟩ := args
    match L, hs with
    | [w0, w1, w2], _ => exact ⟨w0, w1, w2, rfl⟩
  have hw : HW s _ := fun d (hd : d ∈ tables_1) => atoms_spec (ws := Jvm.Cond.code x code maxLocals ret :: tables_1) hat d (List.mem_cons_of_mem _ hd)
  replace hk0 := and_e hk0
  obtain ⟨p0, e0⟩ := is_v hk0.1
  obtain rfl : w0 = (.int p0) := Option.some.inj e0
  have hk1 := hk0.2
  replace hk1 := and_e hk1
  obtain ⟨p1, e1⟩ := is_v hk1.1
  obtain rfl : w1 = (.int p1) := Option.some.inj e1
  have hk2 := hk1.2
  obtain ⟨p2, e2⟩ := is_v hk2
  obtain rfl : w2 = (.int p2) := Option.some.inj e2
  obtain ⟨H', k, hcl, hsl⟩ := law_runs (l := l) (n0 := s.heap.size) hw p0 p1 p2
  obtain ⟨n, o, h1, h2, h3, _, L, rfl, ⟨rfl, -, N⟩, hq⟩ := met_gen (mi := m0) (as := [.int p0, .int p1, .int p2]) tables_1 room_1 pf0 rfl (fun h => nomatch h) k (by decide) (by decide) (by show H'.length ≤ 24 + 0; omega) (by show szs K H' ≤ 192 + 0; omega) (h := s.heap) ⟨rfl, fun k o h => by simp at h⟩ p e ha hc hk s m _ below hf ((Spec.applies_iff_loose hf).mp happ).1 ⟨rfl, State.Warmed39.refl s, rfl⟩ trivial
  refine ⟨n, _, h1, h2, h3, hpost _ _ _ _ _ _ ⟨Cond.after_iff.mpr rfl, Cond.after_iff.mpr (eq_i res_at (Term.int_eval (1)) rfl), trivial⟩ ⟨hq.1, hq.2.1, (hq.2.2.sift fun y hy => Or.inr (N y hy)).mono (by show H'.length - 0 ≤ _; omega) (by show szs K H' - 0 ≤ _; omega)⟩⟩
theorem main_1_1 : Claimed_1_1 := comes_1 fun _ _ _ _ _ _ h hF => ⟨h.1, hF⟩
theorem main_1_2 : Claimed_1_2 := comes_1 fun _ _ _ _ _ _ h hF => ⟨h.2.1, hF⟩
end Jvm.Pilot.@@N@@
namespace Jvm.Pilot.@@N@@
open Jvm Jvm.ClassFile Sem Op Lib Jvm.Free Jvm.Stand Jvm.Pilot.@@N@@.Jvm.D
/-! MADE BY PROGRAM (witnessworld.py) out of the Statement's table words and the real class files: 12 classes; the members and pool entries that the words name. The judged class is class 1, her method 5. -/
namespace start1
open Jvm.ClassFile
def u (s : String) : CpInfo := .utf8 (stringToUtf16 s)
/-- a pool by its gaps: so many unusable entries, then the entry; so many at the end -/
def gap : Nat → List CpInfo → List CpInfo
  | 0, r => r
  | n + 1, r => .unusable :: gap n r
def poolList (es : List (Nat × CpInfo)) (last : Nat) : List CpInfo := es.foldr (fun e r => gap e.1 (e.2 :: r)) (gap last [])
def pool (es : List (Nat × CpInfo)) (last : Nat) : Array CpInfo := ⟨poolList es last⟩
def fileOf (pool : Array CpInfo) (this : Nat) (attrs : Array Attribute := #[]) (ms : Array MethodInfo := #[]) (fl : Nat := 33) (sup : Nat := 0) (ifs : Array Nat := #[]) (fds : Array FieldInfo := #[]) : ClassFile where
  minorVersion := 0
  majorVersion := 65
  constantPool := pool
  accessFlags := fl
  thisClass := this
  superClass := sup
  interfaces := ifs
  fields := fds
  methods := ms
  attributes := attrs
def plain (name : String) (sup : Option ClassId) : Class where
  name := name
  kind := .ordinary
  loader := none
  accessFlags := 33
  super := sup
  interfaces := #[]
  cf := none
  fields := #[]
  methods := #[]
  instanceTypes := #[]
  staticTypes := #[]
  resolved := #[]
  callSites := []
  init := .initialized
  statics := none
  mirror := none

def pool0 : Array CpInfo := pool [(5, u "<init>"), (0, u "()V"), (1, .class_ 10), (1, u "java/lang/Object"), (85, u "clone"), (0, u "()Ljava/lang/Object;")] 26

def k0m0 : Method := { name := "<init>", desc := "()V", sig := { parameters := [], returnType := none }, accessFlags := 1, code := none }
def k0m1 : Method := { name := "clone", desc := "()Ljava/lang/Object;", sig := { parameters := [], returnType := some (.object "java/lang/Object") }, accessFlags := 260, code := none }
/-- java/lang/Object -/
def k0 : Class := { plain "java/lang/Object" none with
  accessFlags := 33
  interfaces := #[]
  cf := some (fileOf pool0 8 #[] #[{ accessFlags := 1, nameIndex := 5, descriptorIndex := 6, attributes := #[] }, { accessFlags := 260, nameIndex := 96, descriptorIndex := 97, attributes := #[] }] 33 0 #[] #[])
  fields := #[]
  methods := #[k0m0, k0m1]
  instanceTypes := #[]
  staticTypes := #[]
  resolved := Array.replicate 124 none
  statics := none }

def pool1 : Array CpInfo := pool [(2, .class_ 4), (1, u "java/lang/Object"), (0, u "<init>"), (0, u "()V"), (0, .methodref 8 9), (0, .class_ 10), (0, .nameAndType 11 12), (0, u "com/example/alike2/alike2/search/SuffixArrayCommonPrefixesPinLaw"), (0, u "eq"), (0, u "([IIII)Z"), (0, .methodref 8 14), (0, .nameAndType 15 16), (0, u "lcp"), (0, u "([III)I"), (0, .integer 2147483647), (0, .methodref 8 19), (0, .nameAndType 20 21), (0, u "val"), (0, u "(IIZ)I"), (0, .methodref 23 24), (0, .class_ 25), (0, .nameAndType 26 27), (0, u "com/example/alike2/alike2/search/SuffixArray"), (0, u "sort"), (0, u "([II)[I"), (0, .methodref 23 29), (0, .nameAndType 30 31), (0, u "commonPrefixes"), (0, u "([I[I)[I"), (0, .methodref 8 33), (0, .nameAndType 34 35), (0, u "at"), (0, u "([I[I[II)Z"), (3, u "law"), (0, u "(III)Z")] 4

def k1m0 : Method := { name := "<init>", desc := "()V", sig := { parameters := [], returnType := none }, accessFlags := 2, code := none }
def k1c1 : Code := { maxStack := 3, maxLocals := 4, code := method_2_code, exceptionTable := #[], attributes := #[] }
def k1m1 : Method := { name := "val", desc := "(IIZ)I", sig := { parameters := [.int, .int, .boolean], returnType := some .int }, accessFlags := 10, code := some k1c1 }
def k1c2 : Code := { maxStack := 4, maxLocals := 5, code := method_3_code, exceptionTable := #[], attributes := #[] }
def k1m2 : Method := { name := "eq", desc := "([IIII)Z", sig := { parameters := [(.array .int), .int, .int, .int], returnType := some .boolean }, accessFlags := 10, code := some k1c2 }
def k1c3 : Code := { maxStack := 4, maxLocals := 3, code := method_4_code, exceptionTable := #[], attributes := #[] }
def k1m3 : Method := { name := "lcp", desc := "([III)I", sig := { parameters := [(.array .int), .int, .int], returnType := some .int }, accessFlags := 10, code := some k1c3 }
def k1c4 : Code := { maxStack := 5, maxLocals := 4, code := method_5_code, exceptionTable := #[], attributes := #[] }
def k1m4 : Method := { name := "at", desc := "([I[I[II)Z", sig := { parameters := [(.array .int), (.array .int), (.array .int), .int], returnType := some .boolean }, accessFlags := 10, code := some k1c4 }
def k1c5 : Code := { maxStack := 5, maxLocals := 8, code := code, exceptionTable := #[], attributes := #[] }
def k1m5 : Method := { name := "law", desc := "(III)Z", sig := { parameters := [.int, .int, .int], returnType := some .boolean }, accessFlags := 9, code := some k1c5 }
/-- com/example/alike2/alike2/search/SuffixArrayCommonPrefixesPinLaw -/
def k1 : Class := { plain "com/example/alike2/alike2/search/SuffixArrayCommonPrefixesPinLaw" (some 0) with
  accessFlags := 49
  interfaces := #[]
  cf := some (fileOf pool1 8 #[] #[{ accessFlags := 2, nameIndex := 5, descriptorIndex := 6, attributes := #[] }, { accessFlags := 10, nameIndex := 20, descriptorIndex := 21, attributes := #[] }, { accessFlags := 10, nameIndex := 11, descriptorIndex := 12, attributes := #[] }, { accessFlags := 10, nameIndex := 15, descriptorIndex := 16, attributes := #[] }, { accessFlags := 10, nameIndex := 34, descriptorIndex := 35, attributes := #[] }, { accessFlags := 9, nameIndex := 39, descriptorIndex := 40, attributes := #[] }] 49 2 #[] #[])
  fields := #[]
  methods := #[k1m0, k1m1, k1m2, k1m3, k1m4, k1m5]
  instanceTypes := #[]
  staticTypes := #[]
  resolved := Array.replicate 45 none
  statics := none }

def pool2 : Array CpInfo := pool [(2, .class_ 4), (1, u "java/lang/Object"), (0, u "<init>"), (0, u "()V"), (0, .methodref 8 9), (0, .class_ 10), (0, .nameAndType 11 12), (0, u "java/util/Arrays"), (0, u "copyOf"), (0, u "([II)[I"), (0, .methodref 14 15), (0, .class_ 16), (0, .nameAndType 17 18), (0, u "java/lang/Math"), (0, u "max"), (0, u "(II)I"), (0, .methodref 20 21), (0, .class_ 22), (0, .nameAndType 23 24), (0, u "com/example/alike2/alike2/search/SuffixArray"), (0, u "countingSort"), (0, u "([I[I[I[II)V"), (0, .methodref 26 27), (0, .class_ 28), (0, .nameAndType 29 30), (0, u "java/lang/System"), (0, u "arraycopy"), (0, u "(Ljava/lang/Object;ILjava/lang/Object;II)V"), (0, .methodref 20 32), (0, .nameAndType 33 34), (0, u "rankAt"), (0, u "([II)I"), (0, .methodref 8 36), (0, .nameAndType 37 38), (0, u "fill"), (0, u "([IIII)V"), (2, u "sort"), (3, u "commonPrefixes"), (0, u "([I[I)[I")] 2

def k2m0 : Method := { name := "<init>", desc := "()V", sig := { parameters := [], returnType := none }, accessFlags := 2, code := none }
def k2c1 : Code := { maxStack := 5, maxLocals := 14, code := prog_66_method_2_code, exceptionTable := #[], attributes := #[] }
def k2m1 : Method := { name := "sort", desc := "([II)[I", sig := { parameters := [(.array .int), .int], returnType := some (.array .int) }, accessFlags := 8, code := some k2c1 }
def k2c2 : Code := { maxStack := 4, maxLocals := 9, code := prog_66_method_3_code, exceptionTable := #[], attributes := #[] }
def k2m2 : Method := { name := "commonPrefixes", desc := "([I[I)[I", sig := { parameters := [(.array .int), (.array .int)], returnType := some (.array .int) }, accessFlags := 8, code := some k2c2 }
def k2c3 : Code := { maxStack := 6, maxLocals := 9, code := prog_66_method_4_code, exceptionTable := #[], attributes := #[] }
def k2m3 : Method := { name := "countingSort", desc := "([I[I[I[II)V", sig := { parameters := [(.array .int), (.array .int), (.array .int), (.array .int), .int], returnType := none }, accessFlags := 10, code := some k2c3 }
def k2c4 : Code := { maxStack := 2, maxLocals := 2, code := prog_66_method_5_code, exceptionTable := #[], attributes := #[] }
def k2m4 : Method := { name := "rankAt", desc := "([II)I", sig := { parameters := [(.array .int), .int], returnType := some .int }, accessFlags := 10, code := some k2c4 }
/-- com/example/alike2/alike2/search/SuffixArray -/
def k2 : Class := { plain "com/example/alike2/alike2/search/SuffixArray" (some 0) with
  accessFlags := 32
  interfaces := #[]
  cf := some (fileOf pool2 20 #[] #[{ accessFlags := 2, nameIndex := 5, descriptorIndex := 6, attributes := #[] }, { accessFlags := 8, nameIndex := 41, descriptorIndex := 12, attributes := #[] }, { accessFlags := 8, nameIndex := 45, descriptorIndex := 46, attributes := #[] }, { accessFlags := 10, nameIndex := 23, descriptorIndex := 24, attributes := #[] }, { accessFlags := 10, nameIndex := 33, descriptorIndex := 34, attributes := #[] }] 32 2 #[] #[])
  fields := #[]
  methods := #[k2m0, k2m1, k2m2, k2m3, k2m4]
  instanceTypes := #[]
  staticTypes := #[]
  resolved := Array.replicate 49 none
  statics := none }

def pool3 : Array CpInfo := pool [(2, .class_ 4), (1, u "java/lang/Object"), (0, u "<init>"), (0, u "()V"), (5, u "([IIII)V"), (0, .methodref 14 15), (0, .class_ 16), (0, .nameAndType 17 18), (0, u "java/util/Arrays"), (0, u "rangeCheck"), (0, u "(III)V"), (55, .class_ 76), (1, u "java/util/Arrays$NaturalOrder"), (32, u "()Ljava/lang/Object;"), (3, .class_ 115), (1, u "java/util/Arrays$LegacyMergeSort"), (1, u "Z"), (10, .nameAndType 129 109), (0, u "clone"), (172, u "copyOf"), (13, .methodref 317 128), (0, .class_ 318), (0, u "[I"), (56, .class_ 376), (0, u "java/util/Arrays$ArrayList"), (68, u "$assertionsDisabled"), (269, u "MIN_ARRAY_SORT_GRAN"), (0, u "I"), (2, u "INSERTIONSORT_THRESHOLD"), (120, u "fill"), (30, u "([II)[I"), (103, .class_ 976), (0, u "java/util/Arrays$ArrayItr")] 52

def k3m0 : Method := { name := "<init>", desc := "()V", sig := { parameters := [], returnType := none }, accessFlags := 2, code := none }
def k3c1 : Code := { maxStack := 4, maxLocals := 3, code := jdk_65_method_30_code, exceptionTable := #[], attributes := #[] }
def k3m1 : Method := { name := "rangeCheck", desc := "(III)V", sig := { parameters := [.int, .int, .int], returnType := none }, accessFlags := 8, code := some k3c1 }
def k3c2 : Code := { maxStack := 3, maxLocals := 5, code := jdk_65_method_104_code, exceptionTable := #[], attributes := #[] }
def k3m2 : Method := { name := "fill", desc := "([IIII)V", sig := { parameters := [(.array .int), .int, .int, .int], returnType := none }, accessFlags := 9, code := some k3c2 }
def k3c3 : Code := { maxStack := 6, maxLocals := 3, code := jdk_65_method_123_code, exceptionTable := #[], attributes := #[] }
def k3m3 : Method := { name := "copyOf", desc := "([II)[I", sig := { parameters := [(.array .int), .int], returnType := some (.array .int) }, accessFlags := 9, code := some k3c3 }
/-- java/util/Arrays -/
def k3 : Class := { plain "java/util/Arrays" (some 0) with
  accessFlags := 49
  interfaces := #[]
  cf := some (fileOf pool3 14 #[.nestMembers #[975, 375, 113, 74]] #[{ accessFlags := 2, nameIndex := 5, descriptorIndex := 6, attributes := #[] }, { accessFlags := 8, nameIndex := 17, descriptorIndex := 18, attributes := #[] }, { accessFlags := 9, nameIndex := 840, descriptorIndex := 12, attributes := #[] }, { accessFlags := 9, nameIndex := 302, descriptorIndex := 871, attributes := #[] }] 49 2 #[] #[{ accessFlags := 26, nameIndex := 715, descriptorIndex := 716, attributes := #[] }, { accessFlags := 26, nameIndex := 719, descriptorIndex := 716, attributes := #[] }, { accessFlags := 4120, nameIndex := 445, descriptorIndex := 117, attributes := #[] }])
  fields := #[{ name := "MIN_ARRAY_SORT_GRAN", type := .int, accessFlags := 26, slot := 0, constantValue := 0 }, { name := "INSERTIONSORT_THRESHOLD", type := .int, accessFlags := 26, slot := 1, constantValue := 0 }, { name := "$assertionsDisabled", type := .boolean, accessFlags := 4120, slot := 2, constantValue := 0 }]
  methods := #[k3m0, k3m1, k3m2, k3m3]
  instanceTypes := #[]
  staticTypes := #[.int, .int, .boolean]
  resolved := Array.replicate 1029 none
  statics := none }

def pool4 : Array CpInfo := pool [(1, .class_ 2), (0, u "java/lang/Cloneable"), (0, .class_ 4), (0, u "java/lang/Object")] 2

/-- java/lang/Cloneable -/
def k4 : Class := { plain "java/lang/Cloneable" (some 0) with
  accessFlags := 1537
  interfaces := #[]
  cf := some (fileOf pool4 1 #[] #[] 1537 3 #[] #[])
  fields := #[]
  methods := #[]
  instanceTypes := #[]
  staticTypes := #[]
  resolved := Array.replicate 7 none
  statics := none }

def pool5 : Array CpInfo := pool [(1, .class_ 2), (0, u "java/lang/Math"), (1, .class_ 6), (1, u "java/lang/Object"), (0, u "<init>"), (0, u "()V"), (89, .class_ 100), (1, u "java/lang/Math$RandomNumberGeneratorHolder"), (71, u "negativeZeroFloatBits"), (0, u "J"), (2, u "negativeZeroDoubleBits"), (21, u "max"), (46, u "$assertionsDisabled"), (0, u "Z"), (88, u "(II)I"), (2, u "twoToTheDoubleScaleDown"), (0, u "D"), (4, u "twoToTheDoubleScaleUp"), (9, u "E"), (3, u "PI"), (2, u "TAU"), (2, u "DEGREES_TO_RADIANS"), (0, u "RADIANS_TO_DEGREES")] 94

def k5m0 : Method := { name := "<init>", desc := "()V", sig := { parameters := [], returnType := none }, accessFlags := 2, code := none }
def k5c1 : Code := { maxStack := 2, maxLocals := 2, code := jdk_29_method_65_code, exceptionTable := #[], attributes := #[] }
def k5m1 : Method := { name := "max", desc := "(II)I", sig := { parameters := [.int, .int], returnType := some .int }, accessFlags := 9, code := some k5c1 }
/-- java/lang/Math -/
def k5 : Class := { plain "java/lang/Math" (some 0) with
  accessFlags := 49
  interfaces := #[]
  cf := some (fileOf pool5 1 #[.nestMembers #[98]] #[{ accessFlags := 2, nameIndex := 7, descriptorIndex := 8, attributes := #[] }, { accessFlags := 9, nameIndex := 198, descriptorIndex := 335, attributes := #[] }] 49 4 #[] #[{ accessFlags := 25, nameIndex := 354, descriptorIndex := 339, attributes := #[] }, { accessFlags := 25, nameIndex := 358, descriptorIndex := 339, attributes := #[] }, { accessFlags := 25, nameIndex := 361, descriptorIndex := 339, attributes := #[] }, { accessFlags := 26, nameIndex := 364, descriptorIndex := 339, attributes := #[] }, { accessFlags := 26, nameIndex := 365, descriptorIndex := 339, attributes := #[] }, { accessFlags := 26, nameIndex := 172, descriptorIndex := 173, attributes := #[] }, { accessFlags := 26, nameIndex := 176, descriptorIndex := 173, attributes := #[] }, { accessFlags := 8, nameIndex := 344, descriptorIndex := 339, attributes := #[] }, { accessFlags := 8, nameIndex := 338, descriptorIndex := 339, attributes := #[] }, { accessFlags := 4120, nameIndex := 245, descriptorIndex := 246, attributes := #[] }])
  fields := #[{ name := "E", type := .double, accessFlags := 25, slot := 0, constantValue := 0 }, { name := "PI", type := .double, accessFlags := 25, slot := 1, constantValue := 0 }, { name := "TAU", type := .double, accessFlags := 25, slot := 2, constantValue := 0 }, { name := "DEGREES_TO_RADIANS", type := .double, accessFlags := 26, slot := 3, constantValue := 0 }, { name := "RADIANS_TO_DEGREES", type := .double, accessFlags := 26, slot := 4, constantValue := 0 }, { name := "negativeZeroFloatBits", type := .long, accessFlags := 26, slot := 5, constantValue := 0 }, { name := "negativeZeroDoubleBits", type := .long, accessFlags := 26, slot := 6, constantValue := 0 }, { name := "twoToTheDoubleScaleUp", type := .double, accessFlags := 8, slot := 7, constantValue := 0 }, { name := "twoToTheDoubleScaleDown", type := .double, accessFlags := 8, slot := 8, constantValue := 0 }, { name := "$assertionsDisabled", type := .boolean, accessFlags := 4120, slot := 9, constantValue := 0 }]
  methods := #[k5m0, k5m1]
  instanceTypes := #[]
  staticTypes := #[.double, .double, .double, .double, .double, .long, .long, .double, .double, .boolean]
  resolved := Array.replicate 460 none
  statics := none }

def pool6 : Array CpInfo := pool [(2, .class_ 4), (1, u "java/lang/Object"), (0, u "<init>"), (0, u "()V"), (1, .class_ 10), (1, u "java/lang/System"), (0, u "allowSecurityManager"), (0, u "I"), (16, u "cons"), (0, u "Ljava/io/Console;"), (77, .class_ 110), (1, u "java/lang/System$CallersHolder"), (43, u "initialErrStream"), (0, u "Ljava/io/PrintStream;"), (19, u "security"), (0, u "Ljava/lang/SecurityManager;"), (31, .class_ 209), (0, u "java/lang/System$1"), (7, u "props"), (0, u "Ljava/util/Properties;"), (2, u "lineSeparator"), (0, u "Ljava/lang/String;"), (96, .class_ 321), (1, u "java/lang/System$LoggerFinder"), (5, .class_ 328), (0, u "java/lang/System$Logger"), (67, u "err"), (2, u "out"), (91, u "notSupportedJnuEncoding"), (15, u "in"), (17, u "initialIn"), (0, u "Ljava/io/InputStream;"), (35, u "bootLayer"), (0, u "Ljava/lang/ModuleLayer;"), (99, .class_ 664), (0, u "java/lang/System$2"), (9, u "NEVER"), (2, u "MAYBE"), (49, u "arraycopy"), (0, u "(Ljava/lang/Object;ILjava/lang/Object;II)V"), (72, .class_ 802), (0, u "java/lang/System$Logger$Level")] 31

def k6m0 : Method := { name := "<init>", desc := "()V", sig := { parameters := [], returnType := none }, accessFlags := 2, code := none }
def k6m1 : Method := { name := "arraycopy", desc := "(Ljava/lang/Object;ILjava/lang/Object;II)V", sig := { parameters := [(.object "java/lang/Object"), .int, (.object "java/lang/Object"), .int, .int], returnType := none }, accessFlags := 265, code := none }
/-- java/lang/System -/
def k6 : Class := { plain "java/lang/System" (some 0) with
  accessFlags := 49
  interfaces := #[]
  cf := some (fileOf pool6 8 #[.nestMembers #[319, 327, 801, 108, 663, 208]] #[{ accessFlags := 2, nameIndex := 5, descriptorIndex := 6, attributes := #[] }, { accessFlags := 265, nameIndex := 727, descriptorIndex := 728, attributes := #[] }] 49 2 #[] #[{ accessFlags := 25, nameIndex := 507, descriptorIndex := 526, attributes := #[] }, { accessFlags := 25, nameIndex := 399, descriptorIndex := 155, attributes := #[] }, { accessFlags := 25, nameIndex := 396, descriptorIndex := 155, attributes := #[] }, { accessFlags := 10, nameIndex := 525, descriptorIndex := 526, attributes := #[] }, { accessFlags := 26, nameIndex := 674, descriptorIndex := 12, attributes := #[] }, { accessFlags := 26, nameIndex := 677, descriptorIndex := 12, attributes := #[] }, { accessFlags := 10, nameIndex := 11, descriptorIndex := 12, attributes := #[] }, { accessFlags := 74, nameIndex := 175, descriptorIndex := 176, attributes := #[] }, { accessFlags := 10, nameIndex := 491, descriptorIndex := 222, attributes := #[] }, { accessFlags := 74, nameIndex := 29, descriptorIndex := 30, attributes := #[] }, { accessFlags := 74, nameIndex := 154, descriptorIndex := 155, attributes := #[] }, { accessFlags := 10, nameIndex := 217, descriptorIndex := 218, attributes := #[] }, { accessFlags := 10, nameIndex := 221, descriptorIndex := 222, attributes := #[] }, { accessFlags := 8, nameIndex := 562, descriptorIndex := 563, attributes := #[] }])
  fields := #[{ name := "in", type := (.object "java/io/InputStream"), accessFlags := 25, slot := 0, constantValue := 0 }, { name := "out", type := (.object "java/io/PrintStream"), accessFlags := 25, slot := 1, constantValue := 0 }, { name := "err", type := (.object "java/io/PrintStream"), accessFlags := 25, slot := 2, constantValue := 0 }, { name := "initialIn", type := (.object "java/io/InputStream"), accessFlags := 10, slot := 3, constantValue := 0 }, { name := "NEVER", type := .int, accessFlags := 26, slot := 4, constantValue := 0 }, { name := "MAYBE", type := .int, accessFlags := 26, slot := 5, constantValue := 0 }, { name := "allowSecurityManager", type := .int, accessFlags := 10, slot := 6, constantValue := 0 }, { name := "security", type := (.object "java/lang/SecurityManager"), accessFlags := 74, slot := 7, constantValue := 0 }, { name := "notSupportedJnuEncoding", type := (.object "java/lang/String"), accessFlags := 10, slot := 8, constantValue := 0 }, { name := "cons", type := (.object "java/io/Console"), accessFlags := 74, slot := 9, constantValue := 0 }, { name := "initialErrStream", type := (.object "java/io/PrintStream"), accessFlags := 74, slot := 10, constantValue := 0 }, { name := "props", type := (.object "java/util/Properties"), accessFlags := 10, slot := 11, constantValue := 0 }, { name := "lineSeparator", type := (.object "java/lang/String"), accessFlags := 10, slot := 12, constantValue := 0 }, { name := "bootLayer", type := (.object "java/lang/ModuleLayer"), accessFlags := 8, slot := 13, constantValue := 0 }]
  methods := #[k6m0, k6m1]
  instanceTypes := #[]
  staticTypes := #[(.object "java/io/InputStream"), (.object "java/io/PrintStream"), (.object "java/io/PrintStream"), (.object "java/io/InputStream"), .int, .int, .int, (.object "java/lang/SecurityManager"), (.object "java/lang/String"), (.object "java/io/Console"), (.object "java/io/PrintStream"), (.object "java/util/Properties"), (.object "java/lang/String"), (.object "java/lang/ModuleLayer")]
  resolved := Array.replicate 834 none
  statics := none }

def pool7 : Array CpInfo := pool [(1, u "java/io/Serializable"), (0, .class_ 1), (0, u "java/lang/Object"), (0, .class_ 3)] 3

/-- java/io/Serializable -/
def k7 : Class := { plain "java/io/Serializable" (some 0) with
  accessFlags := 1537
  interfaces := #[]
  cf := some (fileOf pool7 2 #[] #[] 1537 4 #[] #[])
  fields := #[]
  methods := #[]
  instanceTypes := #[]
  staticTypes := #[]
  resolved := Array.replicate 8 none
  statics := none }

/-- the primitive byte -/
def k8 : Class := { plain "byte" none with kind := .primitive 'B', accessFlags := 0x411 }
/-- [B -/
def k9 : Class := { plain "[B" (some 0) with kind := .array 8 .byte, interfaces := #[4, 7], accessFlags := 1041 }

/-- the primitive int -/
def k10 : Class := { plain "int" none with kind := .primitive 'I', accessFlags := 0x411 }
/-- [I -/
def k11 : Class := { plain "[I" (some 0) with kind := .array 10 .int, interfaces := #[4, 7], accessFlags := 1041 }

def heap : Heap := #[]
def classes : Array Class := #[k0, k1, k2, k3, k4, k5, k6, k7, k8, k9, k10, k11]
def interned : List (Array UInt16 × Addr) := []
def slotsUsed : Nat := 0
def theMethod : MethodId := ⟨1, 5⟩
def args0 : Array Value := #[.int 5, .int 300, .int 7]
def aboutOver (below : List Frame) : State where
  vm := { classes := classes, interned := interned.toArray }
  heap := heap
  slotsUsed := slotsUsed
  threads := #[{ frames := .invoking theMethod args0 :: below }]
def below0 : List Frame := [.native { method := ⟨0, 0⟩, args := #[] }]
def about1 : State := aboutOver below0
def p0 : Program := .bare "" "" ""
def e0 : Env := launch0.env 0 0 0
theorem w_frames : about1.frames = Frame.invoking theMethod args0 :: below0 := rfl
set_option maxRecDepth 65536 in
theorem w_args : argsFit about1.vm theMethod args0 = true := by decide +kernel
set_option maxRecDepth 65536 in
theorem w_heap : heapFits about1 = true := by decide +kernel
set_option maxRecDepth 65536 in
theorem w_runnable : about1.curStatus? = some .runnable := by decide +kernel
set_option maxRecDepth 65536 in
theorem w_alone : about1.alone = true := by decide +kernel
set_option maxRecDepth 65536 in
theorem w_named : about1.methodNamed? x = some theMethod := by decide +kernel
set_option maxRecDepth 65536 in
theorem w_hears : about1.hears theMethod below0 = true := by decide +kernel
set_option maxRecDepth 65536 in
theorem w_ripe : about1.ripe theMethod args0 below0 = true := by decide +kernel
theorem w_running : about1.status = .running := rfl
set_option maxRecDepth 65536 in
theorem w_room : about1.hasRoom e0.platform room_1 = true :=
  launch0.hasRoom_least _ room_1 (by decide +kernel) (by decide +kernel) (by decide +kernel) (by decide +kernel) (by decide +kernel) (by decide +kernel)
theorem allAtoms_all (ts : List Jvm.Cond) (a : Array Jvm.Value) (st : Jvm.State) : (allAtoms ts).before a st = ts.all (fun c => c.before a st) := by
  induction ts with
  | nil => rfl
  | cons c t ih =>
    show (Jvm.Cond.and c (allAtoms t)).before a st = _
    rw [Jvm.Cond.before_and, ih, List.all_cons]
def words1 : List Jvm.Cond := Jvm.Cond.code x code maxLocals ret :: tables_1
/-- a 'code' word, met by the world's own term for the bytes: nothing is compared byte by byte -/
theorem code_word {y : MethodName} {bytes : ByteArray} {mx : Nat} {rt : Option FieldType} {a : Array Value} {s : State} {m : MethodId} {meth : Method} {c : Code} (h1 : s.methodNamed? y = some m) (h2 : s.vm.method? m = some meth) (h3 : meth.code = some c) (h4 : c.code = bytes)
    (h5 : (c.maxLocals == mx && c.exceptionTable.isEmpty && decide (c.maxStack ≤ mostOperands) && decide (meth.sig.returnType = rt) && !meth.locks && decide (parseMethodDescriptor y.desc = some meth.sig)) = true) : (Jvm.Cond.code y bytes mx rt).before a s = true := by
  simp only [Bool.and_eq_true, beq_iff_eq, Bool.not_eq_true', decide_eq_true_eq] at h5
  obtain ⟨⟨⟨⟨⟨g1, g2⟩, g3⟩, g4⟩, g5⟩, g6⟩ := h5
  simp [Cond.before, Cond.holds, Cond.value, h1, h2, h3, h4, g1, g2, g3, g4, g5, g6]
def isCode : Jvm.Cond → Bool
  | .code _ _ _ _ => true
  | _ => false
theorem all_split {L : List Jvm.Cond} {P : Jvm.Cond → Bool} (h1 : L.all (fun c => isCode c || P c) = true) (h2 : ∀ c ∈ L.filter isCode, P c = true) : L.all P = true := by
  refine List.all_eq_true.mpr fun c hc => ?_
  have h := List.all_eq_true.mp h1 c hc
  rcases Bool.eq_false_or_eq_true (isCode c) with hi | hi
  · exact h2 c (List.mem_filter.mpr ⟨hc, hi⟩)
  · simpa [hi] using h
set_option maxRecDepth 65536 in
theorem w_c0 : (Jvm.Cond.code x code maxLocals ret).before args0 about1 = true := code_word (m := ⟨1, 5⟩) (meth := k1m5) (c := k1c5) (by decide +kernel) rfl rfl rfl (by decide +kernel)
set_option maxRecDepth 65536 in
theorem w_c1 : (Jvm.Cond.code ({ cls := "com/example/alike2/alike2/search/SuffixArray", name := "sort", desc := "([II)[I" } : Jvm.MethodName) prog_66_method_2_code (14 : Nat) (Option.some (Jvm.ClassFile.FieldType.array Jvm.ClassFile.FieldType.int))).before args0 about1 = true := code_word (m := ⟨2, 1⟩) (meth := k2m1) (c := k2c1) (by decide +kernel) rfl rfl rfl (by decide +kernel)
set_option maxRecDepth 65536 in
theorem w_c2 : (Jvm.Cond.code ({ cls := "java/util/Arrays", name := "copyOf", desc := "([II)[I" } : Jvm.MethodName) jdk_65_method_123_code (3 : Nat) (Option.some (Jvm.ClassFile.FieldType.array Jvm.ClassFile.FieldType.int))).before args0 about1 = true := code_word (m := ⟨3, 3⟩) (meth := k3m3) (c := k3c3) (by decide +kernel) rfl rfl rfl (by decide +kernel)
set_option maxRecDepth 65536 in
theorem w_c3 : (Jvm.Cond.code ({ cls := "java/lang/Math", name := "max", desc := "(II)I" } : Jvm.MethodName) jdk_29_method_65_code (2 : Nat) (Option.some Jvm.ClassFile.FieldType.int)).before args0 about1 = true := code_word (m := ⟨5, 1⟩) (meth := k5m1) (c := k5c1) (by decide +kernel) rfl rfl rfl (by decide +kernel)
set_option maxRecDepth 65536 in
theorem w_c4 : (Jvm.Cond.code ({ cls := "com/example/alike2/alike2/search/SuffixArray", name := "countingSort", desc := "([I[I[I[II)V" } : Jvm.MethodName) prog_66_method_4_code (9 : Nat) (Option.none : Option Jvm.ClassFile.FieldType)).before args0 about1 = true := code_word (m := ⟨2, 3⟩) (meth := k2m3) (c := k2c3) (by decide +kernel) rfl rfl rfl (by decide +kernel)
set_option maxRecDepth 65536 in
theorem w_c5 : (Jvm.Cond.code ({ cls := "java/util/Arrays", name := "fill", desc := "([IIII)V" } : Jvm.MethodName) jdk_65_method_104_code (5 : Nat) (Option.none : Option Jvm.ClassFile.FieldType)).before args0 about1 = true := code_word (m := ⟨3, 2⟩) (meth := k3m2) (c := k3c2) (by decide +kernel) rfl rfl rfl (by decide +kernel)
set_option maxRecDepth 65536 in
theorem w_c6 : (Jvm.Cond.code ({ cls := "java/util/Arrays", name := "rangeCheck", desc := "(III)V" } : Jvm.MethodName) jdk_65_method_30_code (3 : Nat) (Option.none : Option Jvm.ClassFile.FieldType)).before args0 about1 = true := code_word (m := ⟨3, 1⟩) (meth := k3m1) (c := k3c1) (by decide +kernel) rfl rfl rfl (by decide +kernel)
set_option maxRecDepth 65536 in
theorem w_c7 : (Jvm.Cond.code ({ cls := "com/example/alike2/alike2/search/SuffixArray", name := "commonPrefixes", desc := "([I[I)[I" } : Jvm.MethodName) prog_66_method_3_code (9 : Nat) (Option.some (Jvm.ClassFile.FieldType.array Jvm.ClassFile.FieldType.int))).before args0 about1 = true := code_word (m := ⟨2, 2⟩) (meth := k2m2) (c := k2c2) (by decide +kernel) rfl rfl rfl (by decide +kernel)
set_option maxRecDepth 65536 in
theorem w_c8 : (Jvm.Cond.code ({ cls := "com/example/alike2/alike2/search/SuffixArrayCommonPrefixesPinLaw", name := "at", desc := "([I[I[II)Z" } : Jvm.MethodName) method_5_code (4 : Nat) (Option.some Jvm.ClassFile.FieldType.boolean)).before args0 about1 = true := code_word (m := ⟨1, 4⟩) (meth := k1m4) (c := k1c4) (by decide +kernel) rfl rfl rfl (by decide +kernel)
set_option maxRecDepth 65536 in
theorem w_c9 : (Jvm.Cond.code ({ cls := "com/example/alike2/alike2/search/SuffixArrayCommonPrefixesPinLaw", name := "val", desc := "(IIZ)I" } : Jvm.MethodName) method_2_code (4 : Nat) (Option.some Jvm.ClassFile.FieldType.int)).before args0 about1 = true := code_word (m := ⟨1, 1⟩) (meth := k1m1) (c := k1c1) (by decide +kernel) rfl rfl rfl (by decide +kernel)
set_option maxRecDepth 65536 in
theorem w_c10 : (Jvm.Cond.code ({ cls := "com/example/alike2/alike2/search/SuffixArrayCommonPrefixesPinLaw", name := "lcp", desc := "([III)I" } : Jvm.MethodName) method_4_code (3 : Nat) (Option.some Jvm.ClassFile.FieldType.int)).before args0 about1 = true := code_word (m := ⟨1, 3⟩) (meth := k1m3) (c := k1c3) (by decide +kernel) rfl rfl rfl (by decide +kernel)
set_option maxRecDepth 65536 in
theorem w_c11 : (Jvm.Cond.code ({ cls := "com/example/alike2/alike2/search/SuffixArrayCommonPrefixesPinLaw", name := "eq", desc := "([IIII)Z" } : Jvm.MethodName) method_3_code (5 : Nat) (Option.some Jvm.ClassFile.FieldType.boolean)).before args0 about1 = true := code_word (m := ⟨1, 2⟩) (meth := k1m2) (c := k1c2) (by decide +kernel) rfl rfl rfl (by decide +kernel)
set_option maxRecDepth 65536 in
theorem w_c12 : (Jvm.Cond.code ({ cls := "com/example/alike2/alike2/search/SuffixArray", name := "rankAt", desc := "([II)I" } : Jvm.MethodName) prog_66_method_5_code (2 : Nat) (Option.some Jvm.ClassFile.FieldType.int)).before args0 about1 = true := code_word (m := ⟨2, 4⟩) (meth := k2m4) (c := k2c4) (by decide +kernel) rfl rfl rfl (by decide +kernel)
def codes1 : List Jvm.Cond := [Jvm.Cond.code x code maxLocals ret, Jvm.Cond.code ({ cls := "com/example/alike2/alike2/search/SuffixArray", name := "sort", desc := "([II)[I" } : Jvm.MethodName) prog_66_method_2_code (14 : Nat) (Option.some (Jvm.ClassFile.FieldType.array Jvm.ClassFile.FieldType.int)), Jvm.Cond.code ({ cls := "java/util/Arrays", name := "copyOf", desc := "([II)[I" } : Jvm.MethodName) jdk_65_method_123_code (3 : Nat) (Option.some (Jvm.ClassFile.FieldType.array Jvm.ClassFile.FieldType.int)), Jvm.Cond.code ({ cls := "java/lang/Math", name := "max", desc := "(II)I" } : Jvm.MethodName) jdk_29_method_65_code (2 : Nat) (Option.some Jvm.ClassFile.FieldType.int), Jvm.Cond.code ({ cls := "com/example/alike2/alike2/search/SuffixArray", name := "countingSort", desc := "([I[I[I[II)V" } : Jvm.MethodName) prog_66_method_4_code (9 : Nat) (Option.none : Option Jvm.ClassFile.FieldType), Jvm.Cond.code ({ cls := "java/util/Arrays", name := "fill", desc := "([IIII)V" } : Jvm.MethodName) jdk_65_method_104_code (5 : Nat) (Option.none : Option Jvm.ClassFile.FieldType), Jvm.Cond.code ({ cls := "java/util/Arrays", name := "rangeCheck", desc := "(III)V" } : Jvm.MethodName) jdk_65_method_30_code (3 : Nat) (Option.none : Option Jvm.ClassFile.FieldType), Jvm.Cond.code ({ cls := "com/example/alike2/alike2/search/SuffixArray", name := "commonPrefixes", desc := "([I[I)[I" } : Jvm.MethodName) prog_66_method_3_code (9 : Nat) (Option.some (Jvm.ClassFile.FieldType.array Jvm.ClassFile.FieldType.int)), Jvm.Cond.code ({ cls := "com/example/alike2/alike2/search/SuffixArrayCommonPrefixesPinLaw", name := "at", desc := "([I[I[II)Z" } : Jvm.MethodName) method_5_code (4 : Nat) (Option.some Jvm.ClassFile.FieldType.boolean), Jvm.Cond.code ({ cls := "com/example/alike2/alike2/search/SuffixArrayCommonPrefixesPinLaw", name := "val", desc := "(IIZ)I" } : Jvm.MethodName) method_2_code (4 : Nat) (Option.some Jvm.ClassFile.FieldType.int), Jvm.Cond.code ({ cls := "com/example/alike2/alike2/search/SuffixArrayCommonPrefixesPinLaw", name := "lcp", desc := "([III)I" } : Jvm.MethodName) method_4_code (3 : Nat) (Option.some Jvm.ClassFile.FieldType.int), Jvm.Cond.code ({ cls := "com/example/alike2/alike2/search/SuffixArrayCommonPrefixesPinLaw", name := "eq", desc := "([IIII)Z" } : Jvm.MethodName) method_3_code (5 : Nat) (Option.some Jvm.ClassFile.FieldType.boolean), Jvm.Cond.code ({ cls := "com/example/alike2/alike2/search/SuffixArray", name := "rankAt", desc := "([II)I" } : Jvm.MethodName) prog_66_method_5_code (2 : Nat) (Option.some Jvm.ClassFile.FieldType.int)]
set_option maxRecDepth 65536 in
theorem codes_eq : words1.filter isCode = codes1 := rfl
theorem w_codes : ∀ c ∈ words1.filter isCode, c.before args0 about1 = true := by
  rw [codes_eq]
  intro c hc
  simp only [codes1, List.mem_cons, List.not_mem_nil, or_false] at hc
  rcases hc with rfl | rfl | rfl | rfl | rfl | rfl | rfl | rfl | rfl | rfl | rfl | rfl | rfl
  · exact w_c0
  · exact w_c1
  · exact w_c2
  · exact w_c3
  · exact w_c4
  · exact w_c5
  · exact w_c6
  · exact w_c7
  · exact w_c8
  · exact w_c9
  · exact w_c10
  · exact w_c11
  · exact w_c12
set_option maxRecDepth 65536 in
theorem w_t1 : (words1.take 24).all (fun c => isCode c || c.before args0 about1) = true := by decide +kernel
set_option maxRecDepth 65536 in
theorem w_t2 : ((words1.drop 24).take 24).all (fun c => isCode c || c.before args0 about1) = true := by decide +kernel
set_option maxRecDepth 65536 in
theorem w_t3 : ((words1.drop 24).drop 24).all (fun c => isCode c || c.before args0 about1) = true := by decide +kernel
theorem w_tables : (allAtoms (Jvm.Cond.code x code maxLocals ret :: tables_1)).before args0 about1 = true := by
  rw [allAtoms_all]
  show words1.all (fun c => c.before args0 about1) = true
  refine all_split ?_ w_codes
  rw [← List.take_append_drop 24 words1, List.all_append, w_t1, ← List.take_append_drop 24 (words1.drop 24), List.all_append, w_t2, w_t3]
  rfl
set_option maxRecDepth 65536 in
theorem w_case : (Jvm.Cond.and given_1 narrow_1).before args0 about1 = true := by decide +kernel
theorem w_applies : (headSpec (Jvm.Cond.code x code maxLocals ret :: tables_1) room_1).applies x e0.platform about1 = true :=
  (Spec.applies_iff w_frames).mpr ⟨w_running, w_runnable, w_alone, w_named, w_hears, w_ripe, w_room, w_tables⟩
theorem atStart : AtStart classFile x code maxLocals ret World_1 tables_1 room_1 Calls_1 rest_1 Pre_1 launch0 p0 e0 about1 theMethod args0 below0 :=
  ⟨lists_1, trivial, launch0.admits_env _ _ _, launch0.least_env, fairChoices_fair.cas, fairChoices_fair.clock, w_frames, w_args, w_heap, w_applies, trivial, trivial, w_case⟩
end start1
theorem witness_1 : WitnessClaimed_1 := ⟨start1.p0, start1.e0, start1.about1, start1.theMethod, start1.args0, start1.below0, start1.atStart⟩
end Jvm.Pilot.@@N@@
