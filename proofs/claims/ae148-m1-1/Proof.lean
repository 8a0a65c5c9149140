import JvmDerived
import JvmDerived.Pilot.@@N@@Statement
import JvmDerived.Pilot.@@N@@Code
set_option linter.unusedVariables false
set_option linter.unusedSimpArgs false
namespace Jvm.Pilot.@@N@@
open Jvm Jvm.ClassFile Sem Op Lib Jvm.Free Jvm.Stand Jvm.LawKit Jvm.RoadKit Bundle Jvm.Pilot.@@N@@.Jvm.D
/-! ## A small logic of runs over a virtual heap (own work, the same text in every proof of this seat)
References count from the first cell that the law makes (n0): `shV n0`. `Ob`: an object by its class (a place in K) and its laid fields, or an array by its component type and values.
`Runs K l Z n0 mi pc ls st H v H'`: whoever stands in the method mi at pc with locals ls, stack st and virtual heap H comes out returning v with heap H'. -/
def shV (n0 : Nat) : Value → Value
  | .ref a => .ref (n0 + a)
  | v => v
def shS (n0 : Nat) : Slot → Slot
  | .val v => .val (shV n0 v)
  | s => s
abbrev Ob : Type := (Nat × List Value) ⊕ (FieldType × List Value)
/-- a field: who declares it, its name, its descriptor, its type -/
abbrev FI : Type := String × String × String × FieldType
/-- a class: its name, the number of its slots, its fields -/
abbrev CI : Type := String × Nat × List FI
/-- a method: name, bytes, max_locals, return type; frames and words that its callees need -/
abbrev MI : Type := MethodName × ByteArray × Nat × Option FieldType × Nat × Nat
def osz (K : List CI) : Ob → Nat
  | .inl (c, _) => ((K[c]?).map (fun ci => ci.2.1)).getD 0
  | .inr (_, vs) => vs.length
def szs (K : List CI) (H : List Ob) : Nat := (H.map (osz K)).sum
def OOk (K : List CI) (Z : State) (n0 : Nat) (h : Heap) (a : Addr) : Ob → Prop
  | .inl (c, vs) => ∃ ci, K[c]? = some ci ∧ Exa Z h a ci.1 ∧ ∀ (i : Nat) (f : FI) (v : Value), ci.2.2[i]? = some f → vs[i]? = some v → Fld Z h a f.1 f.2.1 f.2.2.1 (shV n0 v)
  | .inr (ty, vs) => ∃ cl, Arr Z h a cl ty ∧ cl.slots.size = vs.length ∧ vs.length < 2 ^ 31 ∧ ∀ (i : Nat) (v : Value), vs[i]? = some v → cl.slots[i]? = some (shV n0 v) ∧ fits ty v = true
def Rel (K : List CI) (Z : State) (n0 : Nat) (H : List Ob) (h : Heap) : Prop := h.size = n0 + H.length ∧ ∀ (k : Nat) (o : Ob), H[k]? = some o → OOk K Z n0 h (n0 + k) o
def KOk (K : List CI) (Z : State) (a0 : Array Value) : Prop := ∀ (k : Nat) (ci : CI), K[k]? = some ci → (Jvm.Cond.instantiable ci.1 ci.2.1).before a0 Z = true ∧ (∀ f ∈ ci.2.2, Laid Z a0 ci.1 f.1 f.2.1 f.2.2.1 ∧ parseFieldDescriptor f.2.2.1 = some f.2.2.2) ∧ ci.2.2.Pairwise (fun f g => f.2.1 ≠ g.2.1)
theorem cat_sh (n0 : Nat) (v : Value) : (shV n0 v).category = v.category := by cases v <;> rfl
theorem cats_sh (n0 : Nat) (st : List Value) : ((st.map (shV n0)).map fun v => v.category).sum = (st.map fun v => v.category).sum := by
  rw [List.map_map]; congr 1; exact List.map_congr_left fun v _ => cat_sh n0 v
theorem laid_map (n0 : Nat) : ∀ as : List Value, Jvm.Sym.laidSlots (as.map (shV n0)) = (Jvm.Sym.laidSlots as).map (shS n0)
  | [] => rfl
  | v :: vs => by
    simp only [List.map_cons, Jvm.Sym.laidSlots, cat_sh, laid_map n0 vs]
    split <;> rfl
theorem entry_eq (n0 : Nat) (m : MethodId) (as : List Value) (n : Nat) {ls : List Slot} (h : Jvm.Sym.laidSlots as ++ List.replicate (n - (Jvm.Sym.laidSlots as).length) .unset = ls) :
    entryFrame m (as.map (shV n0)).toArray n = mkF m 0 (ls.map (shS n0)).toArray [] := by
  have e : argsToLocals (as.map (shV n0)).toArray n = (ls.map (shS n0)).toArray := Array.toList_inj.mp (by
    rw [Jvm.Sym.argsToLocals_toList]
    simp only [laid_map, List.length_map, ← h, List.map_append, List.map_replicate]
    rfl)
  show ({ method := m, pc := 0, locals := argsToLocals (as.map (shV n0)).toArray n, stack := [], locked := none } : JFrame) = _
  rw [e]
theorem loc_at {n0 : Nat} {ls : List Slot} {k : Nat} {s : Slot} (h : ls[k]? = some s) : ((ls.map (shS n0)).toArray)[k]? = some (shS n0 s) := by
  simp [h]
/-- the place k may take a value of one word -/
def P1 (ls : List Slot) (k : Nat) : Bool := match ls[k]? with | some .unset => true | some (.val w) => w.category == 1 | _ => false
/-- the places k and k + 1 may take a value of two words -/
def P2 (ls : List Slot) (k : Nat) : Bool := match ls[k]?, ls[k + 1]? with | some (.val w), some .second => w.category == 2 | _, _ => P1 ls k && P1 ls (k + 1)
theorem P1_slot {ls : List Slot} {k : Nat} (h : P1 ls k = true) : ∃ s, ls[k]? = some s ∧ (match s with | .second => False | .val old => old.category = 1 | .unset => True) := by
  unfold P1 at h
  split at h
  · rename_i e; exact ⟨_, e, trivial⟩
  · rename_i w e; exact ⟨_, e, by simpa using h⟩
  · cases h
theorem st1 {n0 : Nat} {ls ls' : List Slot} {k : Nat} {v : Value} (hp : P1 ls k = true) (hv : v.category = 1) (hs : ls.set k (.val v) = ls') : storeLocals (ls.map (shS n0)).toArray k (shV n0 v) = some (ls'.map (shS n0)).toArray := by
  obtain ⟨s, e, q⟩ := P1_slot hp
  rw [storeLocals_cat1 (loc_at (n0 := n0) e) (by rw [cat_sh]; exact hv) (by cases s <;> simp_all [shS, cat_sh]), ← hs]
  simp [List.map_set, shS]
theorem st2 {n0 : Nat} {ls ls' : List Slot} {k : Nat} {v : Value} (hp : P2 ls k = true) (hv : v.category = 2) (hs : (ls.set k (.val v)).set (k + 1) .second = ls') : storeLocals (ls.map (shS n0)).toArray k (shV n0 v) = some (ls'.map (shS n0)).toArray := by
  have key : ∃ x y, ls[k]? = some x ∧ ls[k + 1]? = some y ∧ ((Jvm.Free.Fl.Plain1 (shS n0 x) ∧ Jvm.Free.Fl.Plain1 (shS n0 y)) ∨ ((∃ old, shS n0 x = .val old ∧ old.category = 2) ∧ shS n0 y = .second)) := by
    unfold P2 at hp
    split at hp
    · rename_i w e1 e2
      exact ⟨_, _, e1, e2, Or.inr ⟨⟨_, rfl, by rw [cat_sh]; simpa using hp⟩, rfl⟩⟩
    · rw [Bool.and_eq_true] at hp
      obtain ⟨s, e, q⟩ := P1_slot hp.1
      obtain ⟨s', e', q'⟩ := P1_slot hp.2
      exact ⟨s, s', e, e', Or.inl ⟨by cases s <;> simp_all [shS, cat_sh, Jvm.Free.Fl.Plain1], by cases s' <;> simp_all [shS, cat_sh, Jvm.Free.Fl.Plain1]⟩⟩
  obtain ⟨x, y, e1, e2, q⟩ := key
  rw [Jvm.Free.Fl.storeLocals_cat2 (loc_at (n0 := n0) e1) (loc_at (n0 := n0) e2) (by rw [cat_sh]; exact hv) q, ← hs]
  simp [List.map_set, shS]
def Runs (K : List CI) (l : Launch) (Z : State) (n0 : Nat) (mi : MI) (pc : Nat) (ls : List Slot) (st : List Value) (H : List Ob) (v : Option Value) (H' : List Ob) : Prop :=
  H.length ≤ H'.length ∧ szs K H ≤ szs K H' ∧
  ∀ (p : Program) (e : Env) (R : Room) (s : State) (m : MethodId) (args : Array Value) (below : List Frame) (meth : Method) (c : Code) (T : State) (locs : List Loc) (cells slots : Nat),
    Stand p l e R s m args below meth c T locs cells slots → p.tables.exec = Jvm.exec → Z.Warmed39 s.vm → c.code = mi.2.1 → c.maxLocals = mi.2.2.1 → meth.sig.returnType = mi.2.2.2.1 → s.vm.findClass mi.1.cls = some m.cls → meth.name = mi.1.name →
    Rel K Z n0 H T.heap → Fr n0 locs → mi.2.2.2.2.1 ≤ R.frames → mi.2.2.2.2.2 ≤ R.locals → s.heap.size + cells = n0 + H.length → cells + H'.length ≤ R.cells + H.length → slots + szs K H' ≤ R.slots + szs K H →
    ∃ (T' : State) (locs' : List Loc) (cells' slots' : Nat), Stand p l e R s m args below meth c T' locs' cells' slots' ∧ Rel K Z n0 H' T'.heap ∧ Fr n0 locs' ∧ s.heap.size + cells' = n0 + H'.length ∧ slots' + szs K H ≤ slots + szs K H' ∧
      ∀ fs, (∀ (f : JFrame) (acts : List Action), f.method = m → f.locked = none → f.entered = [] → (doReturn e (T'.setTop f) acts (v.map (shV n0))).1 = T'.setFrames fs) →
        Steps p.tables e below (T.setTop (mkF m pc (ls.map (shS n0)).toArray (st.map (shV n0)))) (T'.setFrames fs)
def rmOf (K : List CI) (mi : MI) (H H' : List Ob) : Room := { frames := mi.2.2.2.2.1, cells := H'.length - H.length, slots := szs K H' - szs K H, locals := mi.2.2.2.2.2 }
def Meets (K : List CI) (l : Launch) (Z : State) (n0 : Nat) (mi : MI) (as : List Value) (H : List Ob) (v : Option Value) (H' : List Ob) : Prop :=
  H.length ≤ H'.length ∧ szs K H ≤ szs K H' ∧ ∀ h, Rel K Z n0 H h →
    MetFree l mi.1 (head1 [Jvm.Cond.code mi.1 mi.2.1 mi.2.2.1 mi.2.2.2.1] (rmOf K mi H H')) (fun a U => a = (as.map (shV n0)).toArray ∧ Z.Warmed39 U.vm ∧ U.heap = h) (fun _ _ _ _ _ => True)
      (fun _ U o U' => ∃ w L, o = .returned w ∧ (w = v.map (shV n0) ∧ Rel K Z n0 H' U'.heap ∧ Fr n0 L) ∧ FrameEnd U o U' L (rmOf K mi H H').cells (rmOf K mi H H').slots)
theorem leB {a b : Nat} (h : Nat.ble a b = true) : a ≤ b := Nat.le_of_ble_eq_true h
theorem ltB {a b : Nat} (h : Nat.ble (a + 1) b = true) : a < b := Nat.le_of_ble_eq_true h
section Logic
variable {K : List CI} {l : Launch} {Z : State} {a0 : Array Value} {n0 : Nat} {mi : MI} {pc np tp : Nat} {ls ls' : List Slot} {st rest : List Value} {H H' H1 : List Ob} {v : Option Value}
/-- from a run of the body to the method's contract, in any room that holds it -/
theorem met_gen {as : List Value} (ws : List Jvm.Cond) (R0 : Room) (hp : plainFor mi.1 = true) (hls : Jvm.Sym.laidSlots as ++ List.replicate (mi.2.2.1 - (Jvm.Sym.laidSlots as).length) .unset = ls) (hv : mi.2.2.2.1 = none → v = none)
    (k : Runs K l Z n0 mi 0 ls [] H v H') (hfr : mi.2.2.2.2.1 ≤ R0.frames) (hlo : mi.2.2.2.2.2 ≤ R0.locals) (hcl : H'.length ≤ R0.cells + H.length) (hsl : szs K H' ≤ R0.slots + szs K H) {h : Heap} (hrel : Rel K Z n0 H h) :
    MetFree l mi.1 (head1 (Jvm.Cond.code mi.1 mi.2.1 mi.2.2.1 mi.2.2.2.1 :: ws) R0) (fun a U => a = (as.map (shV n0)).toArray ∧ Z.Warmed39 U.vm ∧ U.heap = h) (fun _ _ _ _ _ => True)
      (fun _ U o U' => ∃ w L, o = .returned w ∧ (w = v.map (shV n0) ∧ Rel K Z n0 H' U'.heap ∧ Fr n0 L) ∧ FrameEnd U o U' L (H'.length - H.length) (szs K H' - szs K H)) := by
  refine MetFree.of_bodySF hp hisR ?_
  intro p e s m args below meth c s₁ Bd hml0 hP hK
  obtain ⟨rfl, hZ, hh⟩ := hP
  have hx := Bd.exec
  have hby := Bd.bytes
  have hown : s.vm.findClass mi.1.cls = some m.cls := findClass_of_methodNamed Bd.named
  have hnm := (name_of_methodNamed Bd.named Bd.method).1
  have X0 : Stand p l e R0 s m (as.map (shV n0)).toArray below meth c s₁ [] 0 0 := Stand.of_body Bd
  have e0 : s₁.heap = h := by rw [← hh, Bd.state]; rfl
  obtain ⟨T', locs', cells', slots', X', rel', fr', hc', hs', stp⟩ := k.2.2 p e R0 s m _ below meth c s₁ [] 0 0 X0 hx hZ hby hml0 Bd.returns hown hnm (e0 ▸ hrel) (Fr.nil n0) hfr hlo (by rw [hh, hrel.1]; rfl) (by omega) (by omega)
  have hsz : s.heap.size = n0 + H.length := by rw [hh, hrel.1]
  obtain ⟨fs, hr, hrun, hended, hW, hsame⟩ := X'.leave (v := v.map (shV n0)) (fun q => by rw [Bd.returns] at q; rw [hv q]; rfl)
  exact ⟨_, _, castTop (entry_eq n0 m as mi.2.2.1 hls) (stp fs hr), hrun, hended, _, _, rfl, ⟨rfl, rel', fr'⟩, ⟨_, rfl⟩, hW, hsame.mono (by omega) (by omega)⟩
theorem meets {as : List Value} (hp : plainFor mi.1 = true) (hls : Jvm.Sym.laidSlots as ++ List.replicate (mi.2.2.1 - (Jvm.Sym.laidSlots as).length) .unset = ls) (hv : mi.2.2.2.1 = none → v = none) (k : Runs K l Z n0 mi 0 ls [] H v H') : Meets K l Z n0 mi as H v H' :=
  ⟨k.1, k.2.1, fun h hrel => met_gen [] (rmOf K mi H H') hp hls hv k (Nat.le_refl _) (Nat.le_refl _) (by have := k.1; show _ ≤ (H'.length - H.length) + _; omega) (by have := k.2.1; show _ ≤ (szs K H' - szs K H) + _; omega) hrel⟩
/-- a run that ends in some heap of at most c cells and n slots -/
def RunsB (K : List CI) (l : Launch) (Z : State) (n0 : Nat) (mi : MI) (pc : Nat) (ls : List Slot) (st : List Value) (H : List Ob) (v : Option Value) (c n : Nat) : Prop := ∃ H' : List Ob, Runs K l Z n0 mi pc ls st H v H' ∧ H'.length ≤ c ∧ szs K H' ≤ n
theorem lift {st2 : List Value} {c n : Nat} (f : ∀ H' : List Ob, Runs K l Z n0 mi np ls' st2 H1 v H' → Runs K l Z n0 mi pc ls st H v H') (k : RunsB K l Z n0 mi np ls' st2 H1 v c n) : RunsB K l Z n0 mi pc ls st H v c n := by
  obtain ⟨H', k1, k2⟩ := k
  exact ⟨H', f H' k1, k2⟩
/-- a step that reads no heap -/
theorem Runs.pure {st2 : List Value} (hstep : ∀ (p : Program) (e : Env) (R : Room) (s : State) (m : MethodId) (args : Array Value) (below : List Frame) (meth : Method) (c : Code) (T : State) (locs : List Loc) (cells slots : Nat),
      Stand p l e R s m args below meth c T locs cells slots → p.tables.exec = Jvm.exec → Z.Warmed39 s.vm → c.code = mi.2.1 → s.vm.findClass mi.1.cls = some m.cls → ∀ target,
      Steps p.tables e below (T.setTop (mkF m np (ls'.map (shS n0)).toArray (st2.map (shV n0)))) target → Steps p.tables e below (T.setTop (mkF m pc (ls.map (shS n0)).toArray (st.map (shV n0)))) target)
    (k : Runs K l Z n0 mi np ls' st2 H v H') : Runs K l Z n0 mi pc ls st H v H' := by
  refine ⟨k.1, k.2.1, fun p e R s m args below meth c T locs cells slots X hx hZ hc hml hret hown hnm hrel hfr hf hlo hsz hcl hsl => ?_⟩
  obtain ⟨T', locs', cells', slots', X', rel', fr', hc', hs', stp⟩ := k.2.2 p e R s m args below meth c T locs cells slots X hx hZ hc hml hret hown hnm hrel hfr hf hlo hsz hcl hsl
  exact ⟨T', locs', cells', slots', X', rel', fr', hc', hs', fun fs hr => hstep p e R s m args below meth c T locs cells slots X hx hZ hc hown _ (stp fs hr)⟩
theorem isRef_sh {n0 : Nat} {x : Value} (h : x.isRef = true) : (shV n0 x).isRef = true := by cases x <;> first | rfl | cases h
theorem P1_int {ls : List Slot} {k : Nat} {x : Int32} (h : ls[k]? = some (.val (.int x))) : P1 ls k = true := by unfold P1; rw [h]; rfl
theorem r_iloadN {k : Fin 4} {x : Int32} (hd : decode mi.2.1 pc = .ok (.iload_n k, 1) ∧ pc + 1 = np) (hl : ls[k.val]? = some (.val (.int x))) (kk : Runs K l Z n0 mi np ls (.int x :: st) H v H') : Runs K l Z n0 mi pc ls st H v H' := by
  obtain ⟨hd, rfl⟩ := hd
  exact Runs.pure (fun _ _ _ _ _ _ _ _ _ _ _ _ _ X hx hZ hc hown t h => XS.iloadN X.here hx rfl (hb hc hd) (loc_at hl) h) kk
theorem r_iload {k : Nat} {x : Int32} (hd : decode mi.2.1 pc = .ok (.iload k, 2) ∧ pc + 2 = np) (hl : ls[k]? = some (.val (.int x))) (kk : Runs K l Z n0 mi np ls (.int x :: st) H v H') : Runs K l Z n0 mi pc ls st H v H' := by
  obtain ⟨hd, rfl⟩ := hd
  exact Runs.pure (fun _ _ _ _ _ _ _ _ _ _ _ _ _ X hx hZ hc hown t h => XS.iload X.here hx rfl (hb hc hd) (loc_at hl) h) kk
theorem r_lloadN {k : Fin 4} {x : Int64} (hd : decode mi.2.1 pc = .ok (.lload_n k, 1) ∧ pc + 1 = np) (hl : ls[k.val]? = some (.val (.long x))) (kk : Runs K l Z n0 mi np ls (.long x :: st) H v H') : Runs K l Z n0 mi pc ls st H v H' := by
  obtain ⟨hd, rfl⟩ := hd
  exact Runs.pure (fun _ _ _ _ _ _ _ _ _ _ _ _ _ X hx hZ hc hown t h => XT.lloadN X.here hx rfl (hb hc hd) (loc_at hl) h) kk
theorem r_lload {k : Nat} {x : Int64} (hd : decode mi.2.1 pc = .ok (.lload k, 2) ∧ pc + 2 = np) (hl : ls[k]? = some (.val (.long x))) (kk : Runs K l Z n0 mi np ls (.long x :: st) H v H') : Runs K l Z n0 mi pc ls st H v H' := by
  obtain ⟨hd, rfl⟩ := hd
  exact Runs.pure (fun _ _ _ _ _ _ _ _ _ _ _ _ _ X hx hZ hc hown t h => XT.lload X.here hx rfl (hb hc hd) (loc_at hl) h) kk
theorem r_aloadN {k : Fin 4} {x : Value} (hd : decode mi.2.1 pc = .ok (.aload_n k, 1) ∧ pc + 1 = np) (hl : ls[k.val]? = some (.val x)) (hv : x.isRef = true) (kk : Runs K l Z n0 mi np ls (x :: st) H v H') : Runs K l Z n0 mi pc ls st H v H' := by
  obtain ⟨hd, rfl⟩ := hd
  exact Runs.pure (fun _ _ _ _ _ _ _ _ _ _ _ _ _ X hx hZ hc hown t h => XS.aloadN X.here hx rfl (hb hc hd) (loc_at hl) (isRef_sh hv) h) kk
theorem r_aload {k : Nat} {x : Value} (hd : decode mi.2.1 pc = .ok (.aload k, 2) ∧ pc + 2 = np) (hl : ls[k]? = some (.val x)) (hv : x.isRef = true) (kk : Runs K l Z n0 mi np ls (x :: st) H v H') : Runs K l Z n0 mi pc ls st H v H' := by
  obtain ⟨hd, rfl⟩ := hd
  exact Runs.pure (fun _ _ _ _ _ _ _ _ _ _ _ _ _ X hx hZ hc hown t h => XS.aload X.here hx rfl (hb hc hd) (loc_at hl) (isRef_sh hv) h) kk
theorem r_istoreN {k : Fin 4} {x : Int32} (hd : decode mi.2.1 pc = .ok (.istore_n k, 1) ∧ pc + 1 = np) (hp : P1 ls k.val = true) (hs : ls.set k.val (.val (.int x)) = ls') (kk : Runs K l Z n0 mi np ls' st H v H') : Runs K l Z n0 mi pc ls (.int x :: st) H v H' := by
  obtain ⟨hd, rfl⟩ := hd
  exact Runs.pure (fun _ _ _ _ _ _ _ _ _ _ _ _ _ X hx hZ hc hown t h => XS.istoreN X.here hx rfl (hb hc hd) rfl (st1 hp rfl hs) h) kk
theorem r_istore {k : Nat} {x : Int32} (hd : decode mi.2.1 pc = .ok (.istore k, 2) ∧ pc + 2 = np) (hp : P1 ls k = true) (hs : ls.set k (.val (.int x)) = ls') (kk : Runs K l Z n0 mi np ls' st H v H') : Runs K l Z n0 mi pc ls (.int x :: st) H v H' := by
  obtain ⟨hd, rfl⟩ := hd
  exact Runs.pure (fun _ _ _ _ _ _ _ _ _ _ _ _ _ X hx hZ hc hown t h => XS.istore X.here hx rfl (hb hc hd) rfl (st1 hp rfl hs) h) kk
theorem r_lstoreN {k : Fin 4} {x : Int64} (hd : decode mi.2.1 pc = .ok (.lstore_n k, 1) ∧ pc + 1 = np) (hp : P2 ls k.val = true) (hs : (ls.set k.val (.val (.long x))).set (k.val + 1) .second = ls') (kk : Runs K l Z n0 mi np ls' st H v H') : Runs K l Z n0 mi pc ls (.long x :: st) H v H' := by
  obtain ⟨hd, rfl⟩ := hd
  exact Runs.pure (fun _ _ _ _ _ _ _ _ _ _ _ _ _ X hx hZ hc hown t h => XT.lstoreN X.here hx rfl (hb hc hd) rfl (st2 hp rfl hs) h) kk
theorem r_lstore {k : Nat} {x : Int64} (hd : decode mi.2.1 pc = .ok (.lstore k, 2) ∧ pc + 2 = np) (hp : P2 ls k = true) (hs : (ls.set k (.val (.long x))).set (k + 1) .second = ls') (kk : Runs K l Z n0 mi np ls' st H v H') : Runs K l Z n0 mi pc ls (.long x :: st) H v H' := by
  obtain ⟨hd, rfl⟩ := hd
  exact Runs.pure (fun _ _ _ _ _ _ _ _ _ _ _ _ _ X hx hZ hc hown t h => XT.lstore X.here hx rfl (hb hc hd) rfl (st2 hp rfl hs) h) kk
theorem r_astoreN {k : Fin 4} {x : Value} (hd : decode mi.2.1 pc = .ok (.astore_n k, 1) ∧ pc + 1 = np) (hp : P1 ls k.val = true) (hv : x.isRef = true) (hs : ls.set k.val (.val x) = ls') (kk : Runs K l Z n0 mi np ls' st H v H') : Runs K l Z n0 mi pc ls (x :: st) H v H' := by
  obtain ⟨hd, rfl⟩ := hd
  exact Runs.pure (fun _ _ _ _ _ _ _ _ _ _ _ _ _ X hx hZ hc hown t h => XS.astoreN X.here hx rfl (hb hc hd) rfl (isRef_sh hv) (st1 hp (XT.cat1 hv) hs) h) kk
theorem r_astore {k : Nat} {x : Value} (hd : decode mi.2.1 pc = .ok (.astore k, 2) ∧ pc + 2 = np) (hp : P1 ls k = true) (hv : x.isRef = true) (hs : ls.set k (.val x) = ls') (kk : Runs K l Z n0 mi np ls' st H v H') : Runs K l Z n0 mi pc ls (x :: st) H v H' := by
  obtain ⟨hd, rfl⟩ := hd
  exact Runs.pure (fun _ _ _ _ _ _ _ _ _ _ _ _ _ X hx hZ hc hown t h => XS.astore X.here hx rfl (hb hc hd) rfl (isRef_sh hv) (st1 hp (XT.cat1 hv) hs) h) kk
theorem r_iadd {x y : Int32} (hd : decode mi.2.1 pc = .ok (.iadd, 1) ∧ pc + 1 = np) (kk : Runs K l Z n0 mi np ls (.int (x + y) :: st) H v H') : Runs K l Z n0 mi pc ls (.int y :: .int x :: st) H v H' := by
  obtain ⟨hd, rfl⟩ := hd
  exact Runs.pure (fun _ _ _ _ _ _ _ _ _ _ _ _ _ X hx hZ hc hown t h => XS.iadd X.here hx rfl (hb hc hd) rfl h) kk
theorem r_isub {x y : Int32} (hd : decode mi.2.1 pc = .ok (.isub, 1) ∧ pc + 1 = np) (kk : Runs K l Z n0 mi np ls (.int (x - y) :: st) H v H') : Runs K l Z n0 mi pc ls (.int y :: .int x :: st) H v H' := by
  obtain ⟨hd, rfl⟩ := hd
  exact Runs.pure (fun _ _ _ _ _ _ _ _ _ _ _ _ _ X hx hZ hc hown t h => XS.isub X.here hx rfl (hb hc hd) rfl h) kk
theorem r_imul {x y : Int32} (hd : decode mi.2.1 pc = .ok (.imul, 1) ∧ pc + 1 = np) (kk : Runs K l Z n0 mi np ls (.int (x * y) :: st) H v H') : Runs K l Z n0 mi pc ls (.int y :: .int x :: st) H v H' := by
  obtain ⟨hd, rfl⟩ := hd
  exact Runs.pure (fun _ _ _ _ _ _ _ _ _ _ _ _ _ X hx hZ hc hown t h => XS.imul X.here hx rfl (hb hc hd) rfl h) kk
theorem r_iand {x y : Int32} (hd : decode mi.2.1 pc = .ok (.iand, 1) ∧ pc + 1 = np) (kk : Runs K l Z n0 mi np ls (.int (x &&& y) :: st) H v H') : Runs K l Z n0 mi pc ls (.int y :: .int x :: st) H v H' := by
  obtain ⟨hd, rfl⟩ := hd
  exact Runs.pure (fun _ _ _ _ _ _ _ _ _ _ _ _ _ X hx hZ hc hown t h => XS.iand X.here hx rfl (hb hc hd) rfl h) kk
theorem r_ior {x y : Int32} (hd : decode mi.2.1 pc = .ok (.ior, 1) ∧ pc + 1 = np) (kk : Runs K l Z n0 mi np ls (.int (x ||| y) :: st) H v H') : Runs K l Z n0 mi pc ls (.int y :: .int x :: st) H v H' := by
  obtain ⟨hd, rfl⟩ := hd
  exact Runs.pure (fun _ _ _ _ _ _ _ _ _ _ _ _ _ X hx hZ hc hown t h => XT.ior X.here hx rfl (hb hc hd) rfl h) kk
theorem r_ixor {x y : Int32} (hd : decode mi.2.1 pc = .ok (.ixor, 1) ∧ pc + 1 = np) (kk : Runs K l Z n0 mi np ls (.int (x ^^^ y) :: st) H v H') : Runs K l Z n0 mi pc ls (.int y :: .int x :: st) H v H' := by
  obtain ⟨hd, rfl⟩ := hd
  exact Runs.pure (fun _ _ _ _ _ _ _ _ _ _ _ _ _ X hx hZ hc hown t h => XT.ixor X.here hx rfl (hb hc hd) rfl h) kk
theorem r_ishl {x y : Int32} (hd : decode mi.2.1 pc = .ok (.ishl, 1) ∧ pc + 1 = np) (kk : Runs K l Z n0 mi np ls (.int (x <<< (y &&& 31)) :: st) H v H') : Runs K l Z n0 mi pc ls (.int y :: .int x :: st) H v H' := by
  obtain ⟨hd, rfl⟩ := hd
  exact Runs.pure (fun _ _ _ _ _ _ _ _ _ _ _ _ _ X hx hZ hc hown t h => XT.ishl X.here hx rfl (hb hc hd) rfl h) kk
theorem r_ishr {x y : Int32} (hd : decode mi.2.1 pc = .ok (.ishr, 1) ∧ pc + 1 = np) (kk : Runs K l Z n0 mi np ls (.int (x >>> (y &&& 31)) :: st) H v H') : Runs K l Z n0 mi pc ls (.int y :: .int x :: st) H v H' := by
  obtain ⟨hd, rfl⟩ := hd
  exact Runs.pure (fun _ _ _ _ _ _ _ _ _ _ _ _ _ X hx hZ hc hown t h => XT.ishr X.here hx rfl (hb hc hd) rfl h) kk
theorem r_iushr {x y : Int32} (hd : decode mi.2.1 pc = .ok (.iushr, 1) ∧ pc + 1 = np) (kk : Runs K l Z n0 mi np ls (.int (XT.ushr x y) :: st) H v H') : Runs K l Z n0 mi pc ls (.int y :: .int x :: st) H v H' := by
  obtain ⟨hd, rfl⟩ := hd
  exact Runs.pure (fun _ _ _ _ _ _ _ _ _ _ _ _ _ X hx hZ hc hown t h => XT.iushr X.here hx rfl (hb hc hd) rfl h) kk
theorem r_idiv {x y : Int32} (hd : decode mi.2.1 pc = .ok (.idiv, 1) ∧ pc + 1 = np) (hy : y ≠ 0) (kk : Runs K l Z n0 mi np ls (.int (x / y) :: st) H v H') : Runs K l Z n0 mi pc ls (.int y :: .int x :: st) H v H' := by
  obtain ⟨hd, rfl⟩ := hd
  exact Runs.pure (fun _ _ _ _ _ _ _ _ _ _ _ _ _ X hx hZ hc hown t h => XS.idiv X.here hx rfl (hb hc hd) rfl hy h) kk
theorem r_irem {x y : Int32} (hd : decode mi.2.1 pc = .ok (.irem, 1) ∧ pc + 1 = np) (hy : y ≠ 0) (kk : Runs K l Z n0 mi np ls (.int (x % y) :: st) H v H') : Runs K l Z n0 mi pc ls (.int y :: .int x :: st) H v H' := by
  obtain ⟨hd, rfl⟩ := hd
  exact Runs.pure (fun _ _ _ _ _ _ _ _ _ _ _ _ _ X hx hZ hc hown t h => iremM X hx rfl (hb hc hd) rfl hy h) kk
theorem r_ladd {x y : Int64} (hd : decode mi.2.1 pc = .ok (.ladd, 1) ∧ pc + 1 = np) (kk : Runs K l Z n0 mi np ls (.long (x + y) :: st) H v H') : Runs K l Z n0 mi pc ls (.long y :: .long x :: st) H v H' := by
  obtain ⟨hd, rfl⟩ := hd
  exact Runs.pure (fun _ _ _ _ _ _ _ _ _ _ _ _ _ X hx hZ hc hown t h => XT.ladd X.here hx rfl (hb hc hd) rfl h) kk
theorem r_lsub {x y : Int64} (hd : decode mi.2.1 pc = .ok (.lsub, 1) ∧ pc + 1 = np) (kk : Runs K l Z n0 mi np ls (.long (x - y) :: st) H v H') : Runs K l Z n0 mi pc ls (.long y :: .long x :: st) H v H' := by
  obtain ⟨hd, rfl⟩ := hd
  exact Runs.pure (fun _ _ _ _ _ _ _ _ _ _ _ _ _ X hx hZ hc hown t h => XT.lsub X.here hx rfl (hb hc hd) rfl h) kk
theorem r_lmul {x y : Int64} (hd : decode mi.2.1 pc = .ok (.lmul, 1) ∧ pc + 1 = np) (kk : Runs K l Z n0 mi np ls (.long (x * y) :: st) H v H') : Runs K l Z n0 mi pc ls (.long y :: .long x :: st) H v H' := by
  obtain ⟨hd, rfl⟩ := hd
  exact Runs.pure (fun _ _ _ _ _ _ _ _ _ _ _ _ _ X hx hZ hc hown t h => XT.lmul X.here hx rfl (hb hc hd) rfl h) kk
theorem r_land {x y : Int64} (hd : decode mi.2.1 pc = .ok (.land, 1) ∧ pc + 1 = np) (kk : Runs K l Z n0 mi np ls (.long (x &&& y) :: st) H v H') : Runs K l Z n0 mi pc ls (.long y :: .long x :: st) H v H' := by
  obtain ⟨hd, rfl⟩ := hd
  exact Runs.pure (fun _ _ _ _ _ _ _ _ _ _ _ _ _ X hx hZ hc hown t h => XT.land X.here hx rfl (hb hc hd) rfl h) kk
theorem r_lor {x y : Int64} (hd : decode mi.2.1 pc = .ok (.lor, 1) ∧ pc + 1 = np) (kk : Runs K l Z n0 mi np ls (.long (x ||| y) :: st) H v H') : Runs K l Z n0 mi pc ls (.long y :: .long x :: st) H v H' := by
  obtain ⟨hd, rfl⟩ := hd
  exact Runs.pure (fun _ _ _ _ _ _ _ _ _ _ _ _ _ X hx hZ hc hown t h => XT.lor X.here hx rfl (hb hc hd) rfl h) kk
theorem r_lxor {x y : Int64} (hd : decode mi.2.1 pc = .ok (.lxor, 1) ∧ pc + 1 = np) (kk : Runs K l Z n0 mi np ls (.long (x ^^^ y) :: st) H v H') : Runs K l Z n0 mi pc ls (.long y :: .long x :: st) H v H' := by
  obtain ⟨hd, rfl⟩ := hd
  exact Runs.pure (fun _ _ _ _ _ _ _ _ _ _ _ _ _ X hx hZ hc hown t h => XT.lxor X.here hx rfl (hb hc hd) rfl h) kk
theorem r_lshl {x : Int64} {y : Int32} (hd : decode mi.2.1 pc = .ok (.lshl, 1) ∧ pc + 1 = np) (kk : Runs K l Z n0 mi np ls (.long (x <<< (y.toInt64 &&& 63)) :: st) H v H') : Runs K l Z n0 mi pc ls (.int y :: .long x :: st) H v H' := by
  obtain ⟨hd, rfl⟩ := hd
  exact Runs.pure (fun _ _ _ _ _ _ _ _ _ _ _ _ _ X hx hZ hc hown t h => XT.lshl X.here hx rfl (hb hc hd) rfl h) kk
theorem r_lshr {x : Int64} {y : Int32} (hd : decode mi.2.1 pc = .ok (.lshr, 1) ∧ pc + 1 = np) (kk : Runs K l Z n0 mi np ls (.long (x >>> (y.toInt64 &&& 63)) :: st) H v H') : Runs K l Z n0 mi pc ls (.int y :: .long x :: st) H v H' := by
  obtain ⟨hd, rfl⟩ := hd
  exact Runs.pure (fun _ _ _ _ _ _ _ _ _ _ _ _ _ X hx hZ hc hown t h => XT.lshr X.here hx rfl (hb hc hd) rfl h) kk
theorem r_lushr {x : Int64} {y : Int32} (hd : decode mi.2.1 pc = .ok (.lushr, 1) ∧ pc + 1 = np) (kk : Runs K l Z n0 mi np ls (.long (XT.ushrL x y) :: st) H v H') : Runs K l Z n0 mi pc ls (.int y :: .long x :: st) H v H' := by
  obtain ⟨hd, rfl⟩ := hd
  exact Runs.pure (fun _ _ _ _ _ _ _ _ _ _ _ _ _ X hx hZ hc hown t h => XT.lushr X.here hx rfl (hb hc hd) rfl h) kk
theorem r_ldiv {x y : Int64} (hd : decode mi.2.1 pc = .ok (.ldiv, 1) ∧ pc + 1 = np) (hy : y ≠ 0) (kk : Runs K l Z n0 mi np ls (.long (x / y) :: st) H v H') : Runs K l Z n0 mi pc ls (.long y :: .long x :: st) H v H' := by
  obtain ⟨hd, rfl⟩ := hd
  exact Runs.pure (fun _ _ _ _ _ _ _ _ _ _ _ _ _ X hx hZ hc hown t h => XT.ldiv X.here hx rfl (hb hc hd) rfl hy h) kk
theorem r_lrem {x y : Int64} (hd : decode mi.2.1 pc = .ok (.lrem, 1) ∧ pc + 1 = np) (hy : y ≠ 0) (kk : Runs K l Z n0 mi np ls (.long (x % y) :: st) H v H') : Runs K l Z n0 mi pc ls (.long y :: .long x :: st) H v H' := by
  obtain ⟨hd, rfl⟩ := hd
  exact Runs.pure (fun _ _ _ _ _ _ _ _ _ _ _ _ _ X hx hZ hc hown t h => XT.lrem X.here hx rfl (hb hc hd) rfl hy (by rw [lrem_mod]; exact h)) kk
theorem r_lcmp {x y : Int64} (hd : decode mi.2.1 pc = .ok (.lcmp, 1) ∧ pc + 1 = np) (kk : Runs K l Z n0 mi np ls (.int (XT.cmpL x y) :: st) H v H') : Runs K l Z n0 mi pc ls (.long y :: .long x :: st) H v H' := by
  obtain ⟨hd, rfl⟩ := hd
  exact Runs.pure (fun _ _ _ _ _ _ _ _ _ _ _ _ _ X hx hZ hc hown t h => XT.lcmp X.here hx rfl (hb hc hd) rfl h) kk
theorem r_ineg {x : Int32} (hd : decode mi.2.1 pc = .ok (.ineg, 1) ∧ pc + 1 = np) (kk : Runs K l Z n0 mi np ls (.int (-x) :: st) H v H') : Runs K l Z n0 mi pc ls (.int x :: st) H v H' := by
  obtain ⟨hd, rfl⟩ := hd
  exact Runs.pure (fun _ _ _ _ _ _ _ _ _ _ _ _ _ X hx hZ hc hown t h => XS.ineg X.here hx rfl (hb hc hd) rfl h) kk
theorem r_lneg {x : Int64} (hd : decode mi.2.1 pc = .ok (.lneg, 1) ∧ pc + 1 = np) (kk : Runs K l Z n0 mi np ls (.long (-x) :: st) H v H') : Runs K l Z n0 mi pc ls (.long x :: st) H v H' := by
  obtain ⟨hd, rfl⟩ := hd
  exact Runs.pure (fun _ _ _ _ _ _ _ _ _ _ _ _ _ X hx hZ hc hown t h => XT.lneg X.here hx rfl (hb hc hd) rfl h) kk
theorem r_i2l {x : Int32} (hd : decode mi.2.1 pc = .ok (.i2l, 1) ∧ pc + 1 = np) (kk : Runs K l Z n0 mi np ls (.long x.toInt64 :: st) H v H') : Runs K l Z n0 mi pc ls (.int x :: st) H v H' := by
  obtain ⟨hd, rfl⟩ := hd
  exact Runs.pure (fun _ _ _ _ _ _ _ _ _ _ _ _ _ X hx hZ hc hown t h => XT.i2l X.here hx rfl (hb hc hd) rfl h) kk
theorem r_l2i {x : Int64} (hd : decode mi.2.1 pc = .ok (.l2i, 1) ∧ pc + 1 = np) (kk : Runs K l Z n0 mi np ls (.int x.toInt32 :: st) H v H') : Runs K l Z n0 mi pc ls (.long x :: st) H v H' := by
  obtain ⟨hd, rfl⟩ := hd
  exact Runs.pure (fun _ _ _ _ _ _ _ _ _ _ _ _ _ X hx hZ hc hown t h => XT.l2i X.here hx rfl (hb hc hd) rfl h) kk
theorem r_i2b {x : Int32} (hd : decode mi.2.1 pc = .ok (.i2b, 1) ∧ pc + 1 = np) (kk : Runs K l Z n0 mi np ls (.int x.toInt8.toInt32 :: st) H v H') : Runs K l Z n0 mi pc ls (.int x :: st) H v H' := by
  obtain ⟨hd, rfl⟩ := hd
  exact Runs.pure (fun _ _ _ _ _ _ _ _ _ _ _ _ _ X hx hZ hc hown t h => XT.i2b X.here hx rfl (hb hc hd) rfl h) kk
theorem r_i2s {x : Int32} (hd : decode mi.2.1 pc = .ok (.i2s, 1) ∧ pc + 1 = np) (kk : Runs K l Z n0 mi np ls (.int x.toInt16.toInt32 :: st) H v H') : Runs K l Z n0 mi pc ls (.int x :: st) H v H' := by
  obtain ⟨hd, rfl⟩ := hd
  exact Runs.pure (fun _ _ _ _ _ _ _ _ _ _ _ _ _ X hx hZ hc hown t h => XT.i2s X.here hx rfl (hb hc hd) rfl h) kk
theorem r_i2c {x : Int32} (hd : decode mi.2.1 pc = .ok (.i2c, 1) ∧ pc + 1 = np) (kk : Runs K l Z n0 mi np ls (.int x.toUInt32.toUInt16.toUInt32.toInt32 :: st) H v H') : Runs K l Z n0 mi pc ls (.int x :: st) H v H' := by
  obtain ⟨hd, rfl⟩ := hd
  exact Runs.pure (fun _ _ _ _ _ _ _ _ _ _ _ _ _ X hx hZ hc hown t h => XT.i2c X.here hx rfl (hb hc hd) rfl h) kk
theorem r_dup {x : Value} (hd : decode mi.2.1 pc = .ok (.dup, 1) ∧ pc + 1 = np) (hx1 : x.category = 1) (kk : Runs K l Z n0 mi np ls (x :: x :: st) H v H') : Runs K l Z n0 mi pc ls (x :: st) H v H' := by
  obtain ⟨hd, rfl⟩ := hd
  exact Runs.pure (fun _ _ _ _ _ _ _ _ _ _ _ _ _ X hx hZ hc hown t h => XS.dup X.here hx rfl (hb hc hd) rfl ((cat_sh _ _).trans hx1) h) kk
theorem r_pop {x : Value} (hd : decode mi.2.1 pc = .ok (.pop, 1) ∧ pc + 1 = np) (hx1 : x.category = 1) (kk : Runs K l Z n0 mi np ls st H v H') : Runs K l Z n0 mi pc ls (x :: st) H v H' := by
  obtain ⟨hd, rfl⟩ := hd
  exact Runs.pure (fun _ _ _ _ _ _ _ _ _ _ _ _ _ X hx hZ hc hown t h => XT.pop X.here hx rfl (hb hc hd) rfl ((cat_sh _ _).trans hx1) h) kk
theorem r_dupX1 {x y : Value} (hd : decode mi.2.1 pc = .ok (.dup_x1, 1) ∧ pc + 1 = np) (hx1 : x.category = 1) (hy1 : y.category = 1) (kk : Runs K l Z n0 mi np ls (x :: y :: x :: st) H v H') : Runs K l Z n0 mi pc ls (x :: y :: st) H v H' := by
  obtain ⟨hd, rfl⟩ := hd
  exact Runs.pure (fun _ _ _ _ _ _ _ _ _ _ _ _ _ X hx hZ hc hown t h => XT.dupX1 X.here hx rfl (hb hc hd) rfl ((cat_sh _ _).trans hx1) ((cat_sh _ _).trans hy1) h) kk
theorem r_dup2 {x y : Value} (hd : decode mi.2.1 pc = .ok (.dup2, 1) ∧ pc + 1 = np) (hx1 : x.category = 1) (hy1 : y.category = 1) (kk : Runs K l Z n0 mi np ls (x :: y :: x :: y :: st) H v H') : Runs K l Z n0 mi pc ls (x :: y :: st) H v H' := by
  obtain ⟨hd, rfl⟩ := hd
  exact Runs.pure (fun _ _ _ _ _ _ _ _ _ _ _ _ _ X hx hZ hc hown t h => XT.dup2 X.here hx rfl (hb hc hd) rfl ((cat_sh _ _).trans hx1) ((cat_sh _ _).trans hy1) h) kk
theorem r_dup2L {x : Int64} (hd : decode mi.2.1 pc = .ok (.dup2, 1) ∧ pc + 1 = np) (kk : Runs K l Z n0 mi np ls (.long x :: .long x :: st) H v H') : Runs K l Z n0 mi pc ls (.long x :: st) H v H' := by
  obtain ⟨hd, rfl⟩ := hd
  exact Runs.pure (fun _ _ _ _ _ _ _ _ _ _ _ _ _ X hx hZ hc hown t h => XT.dup2L X.here hx rfl (hb hc hd) rfl h) kk
theorem r_aconstNull  (hd : decode mi.2.1 pc = .ok (.aconst_null, 1) ∧ pc + 1 = np) (kk : Runs K l Z n0 mi np ls (.null :: st) H v H') : Runs K l Z n0 mi pc ls st H v H' := by
  obtain ⟨hd, rfl⟩ := hd
  exact Runs.pure (fun _ _ _ _ _ _ _ _ _ _ _ _ _ X hx hZ hc hown t h => XS.aconstNull X.here hx rfl (hb hc hd) h) kk
theorem r_iconst {i : Int} {x : Int32} (hd : decode mi.2.1 pc = .ok (.iconst i, 1) ∧ pc + 1 = np ∧ Int32.ofInt i = x) (kk : Runs K l Z n0 mi np ls (.int x :: st) H v H') : Runs K l Z n0 mi pc ls st H v H' := by
  obtain ⟨hd, rfl, hx0⟩ := hd
  exact Runs.pure (fun _ _ _ _ _ _ _ _ _ _ _ _ _ X hx hZ hc hown t h => XT.iconstV X.here hx rfl x (hb hc hd) hx0 h) kk
theorem r_bipush {i : Int} {x : Int32} (hd : decode mi.2.1 pc = .ok (.bipush i, 2) ∧ pc + 2 = np ∧ (Int8.ofInt i).toInt32 = x) (kk : Runs K l Z n0 mi np ls (.int x :: st) H v H') : Runs K l Z n0 mi pc ls st H v H' := by
  obtain ⟨hd, rfl, hx0⟩ := hd
  exact Runs.pure (fun _ _ _ _ _ _ _ _ _ _ _ _ _ X hx hZ hc hown t h => XT.bipushV X.here hx rfl x (hb hc hd) hx0 h) kk
theorem r_sipush {i : Int} {x : Int32} (hd : decode mi.2.1 pc = .ok (.sipush i, 3) ∧ pc + 3 = np ∧ (Int16.ofInt i).toInt32 = x) (kk : Runs K l Z n0 mi np ls (.int x :: st) H v H') : Runs K l Z n0 mi pc ls st H v H' := by
  obtain ⟨hd, rfl, hx0⟩ := hd
  exact Runs.pure (fun _ _ _ _ _ _ _ _ _ _ _ _ _ X hx hZ hc hown t h => XT.sipushV X.here hx rfl x (hb hc hd) hx0 h) kk
theorem r_lconst {i : Fin 2} {x : Int64} (hd : decode mi.2.1 pc = .ok (.lconst i, 1) ∧ pc + 1 = np ∧ Int64.ofNat i = x) (kk : Runs K l Z n0 mi np ls (.long x :: st) H v H') : Runs K l Z n0 mi pc ls st H v H' := by
  obtain ⟨hd, rfl, hx0⟩ := hd
  exact Runs.pure (fun _ _ _ _ _ _ _ _ _ _ _ _ _ X hx hZ hc hown t h => XT.lconstV X.here hx rfl x (hb hc hd) hx0 h) kk
theorem r_ldc {i : Nat} {x : Int32} (hd : decode mi.2.1 pc = .ok (.ldc i, 2) ∧ pc + 2 = np) (w : (Jvm.Cond.constant mi.1.cls i x).before a0 Z = true) (kk : Runs K l Z n0 mi np ls (.int x :: st) H v H') : Runs K l Z n0 mi pc ls st H v H' := by
  obtain ⟨hd, rfl⟩ := hd
  exact Runs.pure (fun _ _ _ _ _ _ _ _ _ _ _ _ _ X hx hZ hc hown t h => X.ldcI hx hown (mv hZ w) rfl (hb hc hd) h) kk
theorem r_ldcW {i : Nat} {x : Int32} (hd : decode mi.2.1 pc = .ok (.ldc_w i, 3) ∧ pc + 3 = np) (w : (Jvm.Cond.constant mi.1.cls i x).before a0 Z = true) (kk : Runs K l Z n0 mi np ls (.int x :: st) H v H') : Runs K l Z n0 mi pc ls st H v H' := by
  obtain ⟨hd, rfl⟩ := hd
  exact Runs.pure (fun _ _ _ _ _ _ _ _ _ _ _ _ _ X hx hZ hc hown t h => X.ldcWI hx hown (mv hZ w) rfl (hb hc hd) h) kk
theorem r_ldc2 {i : Nat} {x : Int64} (hd : decode mi.2.1 pc = .ok (.ldc2_w i, 3) ∧ pc + 3 = np) (w : (Jvm.Cond.constantLong mi.1.cls i x).before a0 Z = true) (kk : Runs K l Z n0 mi np ls (.long x :: st) H v H') : Runs K l Z n0 mi pc ls st H v H' := by
  obtain ⟨hd, rfl⟩ := hd
  exact Runs.pure (fun _ _ _ _ _ _ _ _ _ _ _ _ _ X hx hZ hc hown t h => X.ldc2J hx hown (mv hZ w) rfl (hb hc hd) h) kk
theorem r_iinc {k : Nat} {i : Int} {x y : Int32} (hd : decode mi.2.1 pc = .ok (.iinc k i, 3) ∧ pc + 3 = np ∧ Int32.ofInt i = y) (hl : ls[k]? = some (.val (.int x))) (hs : ls.set k (.val (.int (x + y))) = ls') (kk : Runs K l Z n0 mi np ls' st H v H') : Runs K l Z n0 mi pc ls st H v H' := by
  obtain ⟨hd, rfl, hx0⟩ := hd
  exact Runs.pure (fun _ _ _ _ _ _ _ _ _ _ _ _ _ X hx hZ hc hown t h => XT.iincV X.here hx rfl y (hb hc hd) hx0 (loc_at hl) (st1 (P1_int hl) rfl hs) h) kk
theorem r_goto  {o : Int} (hd : decode mi.2.1 pc = .ok (.goto o, 3) ∧ pc + 3 = np ∧ 0 ≤ (pc : Int) + o ∧ ((pc : Int) + o).toNat = tp) (kk : Runs K l Z n0 mi tp ls st H v H') : Runs K l Z n0 mi pc ls st H v H' := by
  obtain ⟨hd, hn, h1, h2⟩ := hd
  exact Runs.pure (fun _ _ _ _ _ _ _ _ _ _ _ _ _ X hx hZ hc hown t h => XS.goto X.here hx rfl rfl (hb hc hd) h1 h2 h) kk
theorem r_ifT {cd : ClassFile.Cond} {x : Int32} {o : Int} (hd : decode mi.2.1 pc = .ok (.ifCond cd o, 3) ∧ pc + 3 = np ∧ 0 ≤ (pc : Int) + o ∧ ((pc : Int) + o).toNat = tp) (hq : ifCond.holds cd x = true) (kk : Runs K l Z n0 mi tp ls st H v H') : Runs K l Z n0 mi pc ls (.int x :: st) H v H' := by
  obtain ⟨hd, hn, h1, h2⟩ := hd
  exact Runs.pure (fun _ _ _ _ _ _ _ _ _ _ _ _ _ X hx hZ hc hown t h => XS.ifYes X.here hx rfl rfl (hb hc hd) rfl hq h1 h2 h) kk
theorem r_ifF {cd : ClassFile.Cond} {x : Int32} {o : Int} (hd : decode mi.2.1 pc = .ok (.ifCond cd o, 3) ∧ pc + 3 = np ∧ 0 ≤ (pc : Int) + o ∧ ((pc : Int) + o).toNat = tp) (hq : ifCond.holds cd x = false) (kk : Runs K l Z n0 mi np ls st H v H') : Runs K l Z n0 mi pc ls (.int x :: st) H v H' := by
  obtain ⟨hd, rfl, h1, h2⟩ := hd
  exact Runs.pure (fun _ _ _ _ _ _ _ _ _ _ _ _ _ X hx hZ hc hown t h => XS.ifNo X.here hx rfl (hb hc hd) rfl hq h) kk
theorem r_icT {cd : ClassFile.Cond} {x y : Int32} {o : Int} (hd : decode mi.2.1 pc = .ok (.if_icmp cd o, 3) ∧ pc + 3 = np ∧ 0 ≤ (pc : Int) + o ∧ ((pc : Int) + o).toNat = tp) (hq : if_icmp.holds cd x y = true) (kk : Runs K l Z n0 mi tp ls st H v H') : Runs K l Z n0 mi pc ls (.int y :: .int x :: st) H v H' := by
  obtain ⟨hd, hn, h1, h2⟩ := hd
  exact Runs.pure (fun _ _ _ _ _ _ _ _ _ _ _ _ _ X hx hZ hc hown t h => XS.icmpYes X.here hx rfl rfl (hb hc hd) rfl hq h1 h2 h) kk
theorem r_icF {cd : ClassFile.Cond} {x y : Int32} {o : Int} (hd : decode mi.2.1 pc = .ok (.if_icmp cd o, 3) ∧ pc + 3 = np ∧ 0 ≤ (pc : Int) + o ∧ ((pc : Int) + o).toNat = tp) (hq : if_icmp.holds cd x y = false) (kk : Runs K l Z n0 mi np ls st H v H') : Runs K l Z n0 mi pc ls (.int y :: .int x :: st) H v H' := by
  obtain ⟨hd, rfl, h1, h2⟩ := hd
  exact Runs.pure (fun _ _ _ _ _ _ _ _ _ _ _ _ _ X hx hZ hc hown t h => XS.icmpNo X.here hx rfl (hb hc hd) rfl hq h) kk
theorem r_nullT  {o : Int} (hd : decode mi.2.1 pc = .ok (.ifnull o, 3) ∧ pc + 3 = np ∧ 0 ≤ (pc : Int) + o ∧ ((pc : Int) + o).toNat = tp) (kk : Runs K l Z n0 mi tp ls st H v H') : Runs K l Z n0 mi pc ls (.null :: st) H v H' := by
  obtain ⟨hd, hn, h1, h2⟩ := hd
  exact Runs.pure (fun _ _ _ _ _ _ _ _ _ _ _ _ _ X hx hZ hc hown t h => XS.ifnullYes X.here hx rfl rfl (hb hc hd) rfl h1 h2 h) kk
theorem r_nullF {a : Addr} {o : Int} (hd : decode mi.2.1 pc = .ok (.ifnull o, 3) ∧ pc + 3 = np ∧ 0 ≤ (pc : Int) + o ∧ ((pc : Int) + o).toNat = tp) (kk : Runs K l Z n0 mi np ls st H v H') : Runs K l Z n0 mi pc ls (.ref a :: st) H v H' := by
  obtain ⟨hd, rfl, h1, h2⟩ := hd
  exact Runs.pure (fun _ _ _ _ _ _ _ _ _ _ _ _ _ X hx hZ hc hown t h => XS.ifnullNo X.here hx rfl (hb hc hd) rfl h) kk
theorem r_nonnullT {a : Addr} {o : Int} (hd : decode mi.2.1 pc = .ok (.ifnonnull o, 3) ∧ pc + 3 = np ∧ 0 ≤ (pc : Int) + o ∧ ((pc : Int) + o).toNat = tp) (kk : Runs K l Z n0 mi tp ls st H v H') : Runs K l Z n0 mi pc ls (.ref a :: st) H v H' := by
  obtain ⟨hd, hn, h1, h2⟩ := hd
  exact Runs.pure (fun _ _ _ _ _ _ _ _ _ _ _ _ _ X hx hZ hc hown t h => XT.ifnonnullYes X.here hx rfl rfl (hb hc hd) rfl h1 h2 h) kk
theorem r_nonnullF  {o : Int} (hd : decode mi.2.1 pc = .ok (.ifnonnull o, 3) ∧ pc + 3 = np ∧ 0 ≤ (pc : Int) + o ∧ ((pc : Int) + o).toNat = tp) (kk : Runs K l Z n0 mi np ls st H v H') : Runs K l Z n0 mi pc ls (.null :: st) H v H' := by
  obtain ⟨hd, rfl, h1, h2⟩ := hd
  exact Runs.pure (fun _ _ _ _ _ _ _ _ _ _ _ _ _ X hx hZ hc hown t h => XT.ifnonnullNo X.here hx rfl (hb hc hd) rfl h) kk
/-- a step that may turn the heap -/
theorem Runs.heap {st2 : List Value} (m1 : H.length ≤ H1.length) (m2 : szs K H ≤ szs K H1) (hstep : ∀ (p : Program) (e : Env) (R : Room) (s : State) (m : MethodId) (args : Array Value) (below : List Frame) (meth : Method) (c : Code) (T : State) (locs : List Loc) (cells slots : Nat),
      Stand p l e R s m args below meth c T locs cells slots → p.tables.exec = Jvm.exec → Z.Warmed39 s.vm → c.code = mi.2.1 → c.maxLocals = mi.2.2.1 → s.vm.findClass mi.1.cls = some m.cls → meth.name = mi.1.name → Rel K Z n0 H T.heap → Fr n0 locs → mi.2.2.2.2.1 ≤ R.frames → mi.2.2.2.2.2 ≤ R.locals →
      s.heap.size + cells = n0 + H.length → cells + H1.length ≤ R.cells + H.length → slots + szs K H1 ≤ R.slots + szs K H →
      ∃ (T1 : State) (locs1 : List Loc) (cells1 slots1 : Nat), Stand p l e R s m args below meth c T1 locs1 cells1 slots1 ∧ Rel K Z n0 H1 T1.heap ∧ Fr n0 locs1 ∧ s.heap.size + cells1 = n0 + H1.length ∧ slots1 + szs K H ≤ slots + szs K H1 ∧
        ∀ target, Steps p.tables e below (T1.setTop (mkF m np (ls'.map (shS n0)).toArray (st2.map (shV n0)))) target → Steps p.tables e below (T.setTop (mkF m pc (ls.map (shS n0)).toArray (st.map (shV n0)))) target)
    (k : Runs K l Z n0 mi np ls' st2 H1 v H') : Runs K l Z n0 mi pc ls st H v H' := by
  have k1 := k.1
  have k2 := k.2.1
  refine ⟨Nat.le_trans m1 k1, Nat.le_trans m2 k2, fun p e R s m args below meth c T locs cells slots X hx hZ hc hml hret hown hnm hrel hfr hf hlo hsz hcl hsl => ?_⟩
  obtain ⟨T1, locs1, cells1, slots1, X1, rel1, fr1, hc1, hs1, st1⟩ := hstep p e R s m args below meth c T locs cells slots X hx hZ hc hml hown hnm hrel hfr hf hlo hsz (by omega) (by omega)
  obtain ⟨T', locs', cells', slots', X', rel', fr', hc', hs', stp⟩ := k.2.2 p e R s m args below meth c T1 locs1 cells1 slots1 X1 hx hZ hc hml hret hown hnm rel1 fr1 hf hlo hc1 (by omega) (by omega)
  exact ⟨T', locs', cells', slots', X', rel', fr', hc', by omega, fun fs hr => st1 _ (stp fs hr)⟩
theorem r_ret {x : Value} {t : FieldType} {i : Instr} (hd : decode mi.2.1 pc = .ok (i, 1)) (hret : mi.2.2.2.1 = some t) (hn : narrow t x = x)
    (hi : (i = .ireturn ∧ (t = .int ∨ t = .boolean ∨ t = .byte ∨ t = .char ∨ t = .short) ∧ ∃ z, x = .int z) ∨ (i = .lreturn ∧ t = .long ∧ ∃ z, x = .long z) ∨ (i = .areturn ∧ t.isReference = true ∧ x.isRef = true)) : Runs K l Z n0 mi pc ls (x :: st) H (some x) H := by
  refine ⟨Nat.le_refl _, Nat.le_refl _, fun p e R s m args below meth c T locs cells slots X hx hZ hc hml hret' hown hnm hrel hfr hf hlo hsz hcl hsl => ⟨T, locs, cells, slots, X, hrel, hfr, hsz, Nat.le_refl _, fun fs hr => ?_⟩⟩
  have hn' : narrow t (shV n0 x) = shV n0 x := by
    rcases hi with ⟨-, -, z, rfl⟩ | ⟨-, -, z, rfl⟩ | ⟨-, -, q⟩
    · exact hn
    · exact hn
    · cases x <;> first | (cases q; done) | (cases t <;> rfl)
  refine retOut X hx (hret'.trans hret) hn' ?_ (hb hc hd) hr
  rcases hi with ⟨h1, h2, z, rfl⟩ | ⟨h1, h2, z, rfl⟩ | ⟨h1, h2, q⟩
  · exact Or.inl ⟨h1, h2, z, rfl⟩
  · exact Or.inr (Or.inl ⟨h1, h2, z, rfl⟩)
  · exact Or.inr (Or.inr (Or.inr (Or.inr ⟨h1, h2, isRef_sh q⟩)))
theorem r_ireturn {z : Int32} (hd : decode mi.2.1 pc = .ok (.ireturn, 1)) (hret : mi.2.2.2.1 = some .int) : Runs K l Z n0 mi pc ls (.int z :: st) H (some (.int z)) H := r_ret hd hret rfl (Or.inl ⟨rfl, Or.inl rfl, z, rfl⟩)
theorem r_ireturnE {z z' : Int32} (hd : decode mi.2.1 pc = .ok (.ireturn, 1)) (hret : mi.2.2.2.1 = some .int) (h : z = z') : Runs K l Z n0 mi pc ls (.int z :: st) H (some (.int z')) H := h ▸ r_ireturn hd hret
theorem r_zreturn {z : Int32} (hd : decode mi.2.1 pc = .ok (.ireturn, 1)) (hret : mi.2.2.2.1 = some .boolean) (hz : z = 0 ∨ z = 1) : Runs K l Z n0 mi pc ls (.int z :: st) H (some (.int z)) H := r_ret hd hret (by rcases hz with rfl | rfl <;> rfl) (Or.inl ⟨rfl, Or.inr (Or.inl rfl), z, rfl⟩)
theorem r_lreturn {z : Int64} (hd : decode mi.2.1 pc = .ok (.lreturn, 1)) (hret : mi.2.2.2.1 = some .long) : Runs K l Z n0 mi pc ls (.long z :: st) H (some (.long z)) H := r_ret hd hret rfl (Or.inr (Or.inl ⟨rfl, rfl, z, rfl⟩))
theorem r_areturn {x : Value} {t : FieldType} (hd : decode mi.2.1 pc = .ok (.areturn, 1)) (hret : mi.2.2.2.1 = some t) (ht : t.isReference = true) (hx : x.isRef = true) : Runs K l Z n0 mi pc ls (x :: st) H (some x) H := r_ret hd hret (by cases x <;> first | (cases hx; done) | (cases t <;> rfl)) (Or.inr (Or.inr ⟨rfl, ht, hx⟩))
theorem r_return (hd : decode mi.2.1 pc = .ok (.return_, 1)) (hret : mi.2.2.2.1 = none) : Runs K l Z n0 mi pc ls [] H none H := by
  refine ⟨Nat.le_refl _, Nat.le_refl _, fun p e R s m args below meth c T locs cells slots X hx hZ hc hml hret' hown hnm hrel hfr hf hlo hsz hcl hsl => ⟨T, locs, cells, slots, X, hrel, hfr, hsz, Nat.le_refl _, fun fs hr => ?_⟩⟩
  exact X.returnOut hx (hret'.trans hret) (hb hc hd) hr
theorem r_tswIn {dflt low high o : Int} {offs : Array Int} {len : Nat} {i : Int32} (hd : decode mi.2.1 pc = .ok (.tableswitch dflt low high offs, len)) (hin : ¬ (i.toInt < low ∨ i.toInt > high)) (hoff : offs[(i.toInt - low).toNat]? = some o) (ho : 0 ≤ (pc : Int) + o) (hp : ((pc : Int) + o).toNat = tp)
    (kk : Runs K l Z n0 mi tp ls st H v H') : Runs K l Z n0 mi pc ls (.int i :: st) H v H' :=
  Runs.pure (fun _ _ _ _ _ _ _ _ _ _ _ _ _ X hx hZ hc hown t h => XS.tswIn X.here hx rfl rfl (hb hc hd) rfl hin hoff ho hp h) kk
theorem r_tswOut {dflt low high : Int} {offs : Array Int} {len : Nat} {i : Int32} (hd : decode mi.2.1 pc = .ok (.tableswitch dflt low high offs, len)) (hout : i.toInt < low ∨ i.toInt > high) (ho : 0 ≤ (pc : Int) + dflt) (hp : ((pc : Int) + dflt).toNat = tp)
    (kk : Runs K l Z n0 mi tp ls st H v H') : Runs K l Z n0 mi pc ls (.int i :: st) H v H' :=
  Runs.pure (fun _ _ _ _ _ _ _ _ _ _ _ _ _ X hx hZ hc hown t h => XS.tswOut X.here hx rfl rfl (hb hc hd) rfl hout ho hp h) kk
/-! ### the heap -/
theorem OOk.ext {h h' : Heap} {a : Addr} {o : Ob} (E : Ext h h') (q : OOk K Z n0 h a o) : OOk K Z n0 h' a o := by
  cases o with
  | inl o => obtain ⟨ci, h1, h2, h3⟩ := q; exact ⟨ci, h1, h2.ext E, fun i f v a b => (h3 i f v a b).ext E⟩
  | inr o => obtain ⟨cl, h1, h2⟩ := q; exact ⟨cl, h1.ext E, h2⟩
theorem OOk.other {h h' : Heap} {a b : Addr} {sl : Nat} {x : Value} {o : Ob} (W : Wr h h' b sl x) (ne : a ≠ b) (q : OOk K Z n0 h a o) : OOk K Z n0 h' a o := by
  cases o with
  | inl o => obtain ⟨ci, h1, h2, h3⟩ := q; exact ⟨ci, h1, h2.wr W, fun i f v a b => (h3 i f v a b).other W (Or.inl ne)⟩
  | inr o => obtain ⟨cl, h1, h2⟩ := q; exact ⟨cl, h1.other W ne, h2⟩
theorem Rel.push {h h' : Heap} {o : Ob} (r : Rel K Z n0 H h) (E : Ext h h') (hs : h'.size = h.size + 1) (ho : OOk K Z n0 h' h.size o) : Rel K Z n0 (H ++ [o]) h' := by
  refine ⟨by rw [hs, r.1, List.length_append]; rfl, fun k q hk => ?_⟩
  by_cases hl : k < H.length
  · rw [List.getElem?_append_left hl] at hk; exact (r.2 k q hk).ext E
  · rw [List.getElem?_append_right (Nat.le_of_not_lt hl)] at hk
    have e : k - H.length = 0 := by
      cases hq : k - H.length with
      | zero => rfl
      | succ j => rw [hq] at hk; simp at hk
    rw [e] at hk
    simp at hk
    subst hk
    have : k = H.length := by omega
    subst this
    rw [← r.1]; exact ho
theorem Rel.put {h h' : Heap} {o : Ob} {a sl : Nat} {x : Value} (r : Rel K Z n0 H h) (W : Wr h h' (n0 + a) sl x) (ha : a < H.length) (ho : OOk K Z n0 h' (n0 + a) o) : Rel K Z n0 (H.set a o) h' := by
  refine ⟨by rw [W.size, r.1, List.length_set], fun k q hk => ?_⟩
  by_cases e : a = k
  · subst e
    rw [List.getElem?_set_self ha] at hk
    cases hk; exact ho
  · rw [List.getElem?_set_ne e] at hk
    exact (r.2 k q hk).other W (fun z => e (Nat.add_left_cancel z).symm)
theorem map_set_same {α β : Type} (f : α → β) : ∀ (H : List α) (a : Nat) (o o' : α), H[a]? = some o' → f o = f o' → (H.set a o).map f = H.map f
  | [], _, _, _, h, _ => by simp at h
  | x :: r, 0, o, o', h, e => by simp at h; subst h; simp [e]
  | x :: r, a + 1, o, o', h, e => by simp at h; simp [map_set_same f r a o o' h e]
theorem szs_set {a : Nat} {o o' : Ob} (h : H[a]? = some o') (e : osz K o = osz K o') : szs K (H.set a o) = szs K H := by unfold szs; rw [map_set_same (osz K) H a o o' h e]
theorem szs_push {o : Ob} : szs K (H ++ [o]) = szs K H + osz K o := by simp [szs]
theorem lt_of_at {α : Type} {L : List α} {a : Nat} {o : α} (h : L[a]? = some o) : a < L.length := (List.getElem?_eq_some_iff.mp h).1
theorem nar_sh {t : FieldType} {x : Value} (h : narrow t x = x) : narrow t (shV n0 x) = shV n0 x := by cases x <;> first | exact h | (cases t <;> rfl)
theorem fits_sh {t : FieldType} {x : Value} (h : fits t x = true) : fits t (shV n0 x) = true := by cases x <;> first | exact h | (cases t <;> first | rfl | cases h)
theorem sh_dflt (ty : FieldType) : shV n0 (defaultValue ty) = defaultValue ty := by cases ty <;> rfl
theorem r_getF {a cid i idx : Nat} {vs : List Value} {ci : CI} {f : FI} {x : Value} {R0 : String} (hd : decode mi.2.1 pc = .ok (.getfield idx, 3) ∧ pc + 3 = np) (w : (Jvm.Cond.fieldLink mi.1.cls idx R0 f.2.1 f.2.2.1).before a0 Z = true) (via : Via Z R0 f.1 f.2.1 f.2.2.1) (hci : K[cid]? = some ci) (hf : ci.2.2[i]? = some f)
    (ho : H[a]? = some (.inl (cid, vs))) (hv : vs[i]? = some x) (kk : Runs K l Z n0 mi np ls (x :: st) H v H') : Runs K l Z n0 mi pc ls (.ref a :: st) H v H' := by
  obtain ⟨hd, rfl⟩ := hd
  refine Runs.heap (Nat.le_refl _) (Nat.le_refl _) (fun p e R s m args below meth c T locs cells slots X hx hZ hc hml hown hnm hrel hfr hf' hlo hsz hcl hsl => ?_) kk
  obtain ⟨ci', q1, E, F⟩ := hrel.2 a _ ho
  cases hci.symm.trans q1
  obtain ⟨T1, X1, e1, st1⟩ := getF X hx hZ hown (host := "") (Or.inl w) via rfl (F i f x hf hv) (g := mkF m pc (ls.map (shS n0)).toArray (.ref (n0 + a) :: st.map (shV n0))) rfl rfl (hb hc hd)
  exact ⟨T1, _, _, _, X1, by rw [e1]; exact hrel, hfr, hsz, Nat.le_refl _, st1⟩
theorem r_putF {a cid i idx : Nat} {vs vs' : List Value} {ci : CI} {f : FI} {x : Value} {R0 : String} (hK : KOk K Z a0) (hd : decode mi.2.1 pc = .ok (.putfield idx, 3) ∧ pc + 3 = np) (w : (Jvm.Cond.fieldLink mi.1.cls idx R0 f.2.1 f.2.2.1).before a0 Z = true) (via : Via Z R0 f.1 f.2.1 f.2.2.1) (hci : K[cid]? = some ci) (hf : ci.2.2[i]? = some f)
    (L : (Jvm.Cond.lays ci.1 f.1 f.2.1 f.2.2.1).before a0 Z = true ∨ ((Jvm.Cond.laysFinal ci.1 f.1 f.2.1 f.2.2.1).before a0 Z = true ∧ mi.1.cls = f.1 ∧ mi.1.name = "<init>"))
    (ho : H[a]? = some (.inl (cid, vs))) (hi : i < vs.length) (hn : narrow f.2.2.2 x = x) (hft : fits f.2.2.2 x = true) (hvs : vs.set i x = vs') (hH : H.set a (.inl (cid, vs')) = H1) (kk : Runs K l Z n0 mi np ls st H1 v H') : Runs K l Z n0 mi pc ls (x :: .ref a :: st) H v H' := by
  obtain ⟨hd, rfl⟩ := hd
  subst hvs hH
  have ha := lt_of_at ho
  have es : szs K (H.set a (.inl (cid, vs.set i x))) = szs K H := szs_set ho rfl
  refine Runs.heap (by rw [List.length_set]; exact Nat.le_refl _) (by rw [es]; exact Nat.le_refl _) (fun p e R s m args below meth c T locs cells slots X hx hZ hc hml hown hnm hrel hfr hf' hlo hsz hcl hsl => ?_) kk
  obtain ⟨ci', q1, E, F⟩ := hrel.2 a _ ho
  cases hci.symm.trans q1
  obtain ⟨kk1, kk2, kk3⟩ := hK cid ci hci
  have hfm : f ∈ ci.2.2 := List.mem_of_getElem? hf
  obtain ⟨T1, h1, X1, e1, W1, st1⟩ := putF X hx hZ hown (host := "") (Or.inl w) via rfl (F i f _ hf (List.getElem?_eq_getElem hi)) E (L.imp id fun q => ⟨q.1, q.2.1, hnm.trans q.2.2⟩) kk1 (kk2 f hfm).2 (nar_sh hn) (fits_sh hft)
    (g := mkF m pc (ls.map (shS n0)).toArray (shV n0 x :: .ref (n0 + a) :: st.map (shV n0))) rfl rfl (hb hc hd)
  refine ⟨T1, _, _, _, X1, ?_, Fr.snoc X1 hfr (Nat.le_add_right _ _), by rw [List.length_set]; exact hsz, by rw [es]; exact Nat.le_refl _, st1⟩
  rw [e1]
  refine hrel.put W1 ha ⟨ci, hci, E.wr W1, fun j g y hg hy => ?_⟩
  by_cases ji : i = j
  · subst ji
    cases hf.symm.trans hg
    rw [List.getElem?_set_self hi] at hy
    cases hy
    exact (F i f _ hf (List.getElem?_eq_getElem hi)).same W1
  · rw [List.getElem?_set_ne ji] at hy
    have hgm : g ∈ ci.2.2 := List.mem_of_getElem? hg
    refine (F j g y hg hy).other W1 (Or.inr (slot_ne (kk2 g hgm).1 (kk2 f hfm).1 ?_ (kk2 g hgm).2 (kk2 f hfm).2))
    obtain ⟨li, ei⟩ := List.getElem?_eq_some_iff.mp hf
    obtain ⟨lj, ej⟩ := List.getElem?_eq_some_iff.mp hg
    have pw := List.pairwise_iff_getElem.mp kk3
    rcases Nat.lt_or_gt_of_ne ji with q | q
    · have := pw i j li lj q; rw [ei, ej] at this; exact fun z => this z.symm
    · have := pw j i lj li q; rw [ei, ej] at this; exact this
theorem r_new {a cid idx : Nat} {ci : CI} {o : List Value} (hK : KOk K Z a0) (hd : decode mi.2.1 pc = .ok (.new idx, 3) ∧ pc + 3 = np) (w : (Jvm.Cond.classLink mi.1.cls idx ci.1).before a0 Z = true) (wz : (Jvm.Cond.initialized ci.1).before a0 Z = true) (hci : K[cid]? = some ci)
    (ho : ci.2.2.map (fun f => defaultValue f.2.2.2) = o) (ha : H.length = a) (hH : H ++ [.inl (cid, o)] = H1) (kk : Runs K l Z n0 mi np ls (.ref a :: st) H1 v H') : Runs K l Z n0 mi pc ls st H v H' := by
  obtain ⟨hd, rfl⟩ := hd
  subst ho ha hH
  obtain ⟨kk1, kk2, kk3⟩ := hK cid ci hci
  have es : osz K (.inl (cid, ci.2.2.map (fun f => defaultValue f.2.2.2))) = ci.2.1 := by show ((K[cid]?).map (fun ci => ci.2.1)).getD 0 = _; rw [hci]; rfl
  refine Runs.heap (by simp) (by rw [szs_push]; exact Nat.le_add_right _ _) (fun p e R s m args below meth c T locs cells slots X hx hZ hc hml hown hnm hrel hfr hf' hlo hsz hcl hsl => ?_) kk
  rw [szs_push, es] at hsl
  simp only [List.length_append, List.length_cons, List.length_nil] at hcl
  obtain ⟨T1, h1, X1, e1, E1, A1, D1, -, st1⟩ := newO X hx hZ hown w kk1 wz rfl (g := mkF m pc (ls.map (shS n0)).toArray (st.map (shV n0))) rfl (hb hc hd) (by omega) (by omega)
  have hs1 := X1.heapSize
  have hlt : T.heap.size < h1.size := A1.lt
  have hh := hrel.1
  rw [e1] at hs1
  refine ⟨T1, _, _, _, X1, ?_, hfr, by simp only [List.length_append, List.length_cons, List.length_nil]; omega, by rw [szs_push, es]; omega, fun t q => st1 t ?_⟩
  · rw [e1]
    refine hrel.push E1 (by omega) ⟨ci, hci, A1, fun i f x hf hx => ?_⟩
    have hfm : f ∈ ci.2.2 := List.mem_of_getElem? hf
    rw [List.getElem?_map, hf] at hx
    cases hx
    show Fld Z h1 T.heap.size f.1 f.2.1 f.2.2.1 (shV n0 (defaultValue f.2.2.2))
    rw [sh_dflt]
    exact D1 (kk2 f hfm).1 (kk2 f hfm).2
  · show Steps _ _ _ (T1.setTop (mkF m (pc + 3) _ (.ref T.heap.size :: _))) t
    rw [hh]; exact q
theorem toNat_of {n : Int32} (h : ¬ n < 0) : n.toNatClampNeg < 2 ^ 31 := (back32 h).2
theorem r_newA {a : Nat} {n : Int32} {aty : ArrayType} {o : List Value} (hd : decode mi.2.1 pc = .ok (.newarray aty, 2) ∧ pc + 2 = np) (w : (Jvm.Cond.arrayClass (newarray.typeOf aty)).before a0 Z = true) (hn : ¬ n < 0) (hb8 : n.toNatClampNeg * 8 ≤ 536870912)
    (ho : List.replicate n.toNatClampNeg (defaultValue (newarray.typeOf aty)) = o) (ha : H.length = a) (hH : H ++ [.inr (newarray.typeOf aty, o)] = H1) (kk : Runs K l Z n0 mi np ls (.ref a :: st) H1 v H') : Runs K l Z n0 mi pc ls (.int n :: st) H v H' := by
  obtain ⟨hd, rfl⟩ := hd
  subst ho ha hH
  have es : osz K (.inr (newarray.typeOf aty, List.replicate n.toNatClampNeg (defaultValue (newarray.typeOf aty)))) = n.toNatClampNeg := by show (List.replicate _ _).length = _; simp
  refine Runs.heap (by simp) (by rw [szs_push]; exact Nat.le_add_right _ _) (fun p e R s m args below meth c T locs cells slots X hx hZ hc hml hown hnm hrel hfr hf' hlo hsz hcl hsl => ?_) kk
  rw [szs_push, es] at hsl
  simp only [List.length_append, List.length_cons, List.length_nil] at hcl
  obtain ⟨T1, h1, cA, X1, e1, E1, A1, st1⟩ := newP X hx hZ w rfl (g := mkF m pc (ls.map (shS n0)).toArray (.int n :: st.map (shV n0))) rfl (hb hc hd) rfl hn (cap := n.toNatClampNeg) (Nat.le_refl _) hb8 (by omega) (by omega)
  have hs1 := X1.heapSize
  have hlt : T.heap.size < h1.size := A1.lt
  have hh := hrel.1
  rw [e1] at hs1
  refine ⟨T1, _, _, _, X1, ?_, hfr, by simp only [List.length_append, List.length_cons, List.length_nil]; omega, by rw [szs_push, es]; omega, fun t q => st1 t ?_⟩
  · rw [e1]
    refine hrel.push E1 (by omega) ⟨_, A1, by rw [sz_new]; simp, by simpa using toNat_of hn, fun i x hx => ?_⟩
    rw [List.getElem?_replicate] at hx
    split at hx
    · rename_i hi
      cases hx
      have q1 : (newA cA (newarray.typeOf aty) n).slots[i]? = some (defaultValue (newarray.typeOf aty)) := by simp [newA, hi]
      exact ⟨by rw [q1]; cases newarray.typeOf aty <;> rfl, by cases newarray.typeOf aty <;> rfl⟩
    · cases hx
  · show Steps _ _ _ (T1.setTop (mkF m (pc + 2) _ (.ref T.heap.size :: _))) t
    rw [hh]; exact q
theorem fits_byte (x : Int32) : fits .byte (.int x.toInt8.toInt32) = true := by
  have h1 : (x.toInt8.toInt32).toInt = x.toInt8.toInt := Int8.toInt_toInt32 _
  have h2 := x.toInt8.toInt_lt
  have h3 := x.toInt8.le_toInt
  have e1 : (-128 : Int32).toInt = -128 := by decide
  have e2 : (127 : Int32).toInt = 127 := by decide
  simp only [fits, Bool.and_eq_true, decide_eq_true_eq]
  rw [Int32.le_iff_toInt_le, Int32.le_iff_toInt_le, h1, e1, e2]
  omega
/-- the int j names the place i -/
def Ix (j : Int32) (i : Nat) : Prop := ¬ j < 0 ∧ j.toNatClampNeg = i
theorem r_len {a : Nat} {ty : FieldType} {vs : List Value} {n : Int32} (hd : decode mi.2.1 pc = .ok (.arraylength, 1) ∧ pc + 1 = np) (ho : H[a]? = some (.inr (ty, vs))) (hn : vs.length.toInt32 = n) (kk : Runs K l Z n0 mi np ls (.int n :: st) H v H') : Runs K l Z n0 mi pc ls (.ref a :: st) H v H' := by
  obtain ⟨hd, rfl⟩ := hd
  subst hn
  refine Runs.heap (Nat.le_refl _) (Nat.le_refl _) (fun p e R s m args below meth c T locs cells slots X hx hZ hc hml hown hnm hrel hfr hf' hlo hsz hcl hsl => ?_) kk
  obtain ⟨cl, A, hs, hl, hv⟩ := hrel.2 a _ ho
  refine ⟨T, _, _, _, X, hrel, hfr, hsz, Nat.le_refl _, fun t q => ?_⟩
  refine X.arraylength hx A.1 (State.isArrayOf_alike hZ.alike A.2.1) (g := mkF m pc (ls.map (shS n0)).toArray (.ref (n0 + a) :: st.map (shV n0))) rfl rfl (hb hc hd) _ ?_
  rw [hs]; exact q
theorem r_iaload {a i : Nat} {vs : List Value} {j : Int32} {x : Value} (hd : decode mi.2.1 pc = .ok (.iaload, 1) ∧ pc + 1 = np) (ho : H[a]? = some (.inr (.int, vs))) (hj : Ix j i) (hv : vs[i]? = some x) (kk : Runs K l Z n0 mi np ls (x :: st) H v H') : Runs K l Z n0 mi pc ls (.int j :: .ref a :: st) H v H' := by
  obtain ⟨hd, rfl⟩ := hd
  obtain ⟨hj0, rfl⟩ := hj
  refine Runs.heap (Nat.le_refl _) (Nat.le_refl _) (fun p e R s m args below meth c T locs cells slots X hx hZ hc hml hown hnm hrel hfr hf' hlo hsz hcl hsl => ?_) kk
  obtain ⟨cl, A, hs, hl, hvs⟩ := hrel.2 a _ ho
  have hi := lt_of_at hv
  refine ⟨T, _, _, _, X, hrel, hfr, hsz, Nat.le_refl _, fun t q => ?_⟩
  exact X.iaload hx (j := j) (v := shV n0 x) A.1 (State.isArrayOf_alike hZ.alike A.2.1) A.2.2 (fun z => z.elim hj0 (fun q => by rw [hs] at q; omega)) (hvs _ _ hv).1 (g := mkF m pc (ls.map (shS n0)).toArray (.int j :: .ref (n0 + a) :: st.map (shV n0))) rfl rfl (hb hc hd) _ q
theorem r_laload {a i : Nat} {vs : List Value} {j : Int32} {x : Value} (hd : decode mi.2.1 pc = .ok (.laload, 1) ∧ pc + 1 = np) (ho : H[a]? = some (.inr (.long, vs))) (hj : Ix j i) (hv : vs[i]? = some x) (kk : Runs K l Z n0 mi np ls (x :: st) H v H') : Runs K l Z n0 mi pc ls (.int j :: .ref a :: st) H v H' := by
  obtain ⟨hd, rfl⟩ := hd
  obtain ⟨hj0, rfl⟩ := hj
  refine Runs.heap (Nat.le_refl _) (Nat.le_refl _) (fun p e R s m args below meth c T locs cells slots X hx hZ hc hml hown hnm hrel hfr hf' hlo hsz hcl hsl => ?_) kk
  obtain ⟨cl, A, hs, hl, hvs⟩ := hrel.2 a _ ho
  have hi := lt_of_at hv
  refine ⟨T, _, _, _, X, hrel, hfr, hsz, Nat.le_refl _, fun t q => ?_⟩
  exact X.laload hx (j := j) (v := shV n0 x) A.1 (State.isArrayOf_alike hZ.alike A.2.1) A.2.2 (fun z => z.elim hj0 (fun q => by rw [hs] at q; omega)) (hvs _ _ hv).1 (g := mkF m pc (ls.map (shS n0)).toArray (.int j :: .ref (n0 + a) :: st.map (shV n0))) rfl rfl (hb hc hd) _ q
theorem r_baload {a i : Nat} {vs : List Value} {j : Int32} {x : Value} (hd : decode mi.2.1 pc = .ok (.baload, 1) ∧ pc + 1 = np) (ho : H[a]? = some (.inr (.byte, vs))) (hj : Ix j i) (hv : vs[i]? = some x) (kk : Runs K l Z n0 mi np ls (x :: st) H v H') : Runs K l Z n0 mi pc ls (.int j :: .ref a :: st) H v H' := by
  obtain ⟨hd, rfl⟩ := hd
  obtain ⟨hj0, rfl⟩ := hj
  refine Runs.heap (Nat.le_refl _) (Nat.le_refl _) (fun p e R s m args below meth c T locs cells slots X hx hZ hc hml hown hnm hrel hfr hf' hlo hsz hcl hsl => ?_) kk
  obtain ⟨cl, A, hs, hl, hvs⟩ := hrel.2 a _ ho
  have hi := lt_of_at hv
  refine ⟨T, _, _, _, X, hrel, hfr, hsz, Nat.le_refl _, fun t q => ?_⟩
  exact X.baloadBytes hx (j := j) (v := shV n0 x) A.1 (State.isArrayOf_alike hZ.alike A.2.1) A.2.2 (fun z => z.elim hj0 (fun q => by rw [hs] at q; omega)) (hvs _ _ hv).1 (g := mkF m pc (ls.map (shS n0)).toArray (.int j :: .ref (n0 + a) :: st.map (shV n0))) rfl rfl (hb hc hd) _ q
theorem r_caload {a i : Nat} {vs : List Value} {j : Int32} {x : Value} (hd : decode mi.2.1 pc = .ok (.caload, 1) ∧ pc + 1 = np) (ho : H[a]? = some (.inr (.char, vs))) (hj : Ix j i) (hv : vs[i]? = some x) (kk : Runs K l Z n0 mi np ls (x :: st) H v H') : Runs K l Z n0 mi pc ls (.int j :: .ref a :: st) H v H' := by
  obtain ⟨hd, rfl⟩ := hd
  obtain ⟨hj0, rfl⟩ := hj
  refine Runs.heap (Nat.le_refl _) (Nat.le_refl _) (fun p e R s m args below meth c T locs cells slots X hx hZ hc hml hown hnm hrel hfr hf' hlo hsz hcl hsl => ?_) kk
  obtain ⟨cl, A, hs, hl, hvs⟩ := hrel.2 a _ ho
  have hi := lt_of_at hv
  refine ⟨T, _, _, _, X, hrel, hfr, hsz, Nat.le_refl _, fun t q => ?_⟩
  exact X.caload hx (j := j) (v := shV n0 x) A.1 (State.isArrayOf_alike hZ.alike A.2.1) A.2.2 (fun z => z.elim hj0 (fun q => by rw [hs] at q; omega)) (hvs _ _ hv).1 (g := mkF m pc (ls.map (shS n0)).toArray (.int j :: .ref (n0 + a) :: st.map (shV n0))) rfl rfl (hb hc hd) _ q
theorem r_iastore {a i : Nat} {vs vs' : List Value} {j : Int32} {x : Int32} (hd : decode mi.2.1 pc = .ok (.iastore, 1) ∧ pc + 1 = np) (ho : H[a]? = some (.inr (.int, vs))) (hj : Ix j i) (hi : i < vs.length) (hvs : vs.set i (.int x) = vs') (hH : H.set a (.inr (.int, vs')) = H1) (kk : Runs K l Z n0 mi np ls st H1 v H') : Runs K l Z n0 mi pc ls (.int x :: .int j :: .ref a :: st) H v H' := by
  obtain ⟨hd, rfl⟩ := hd
  obtain ⟨hj0, rfl⟩ := hj
  subst hvs hH
  have ha := lt_of_at ho
  have es : szs K (H.set a (.inr (.int, vs.set j.toNatClampNeg (.int x)))) = szs K H := szs_set ho (by show (List.set _ _ _).length = _; simp [osz])
  refine Runs.heap (by rw [List.length_set]; exact Nat.le_refl _) (by rw [es]; exact Nat.le_refl _) (fun p e R s m args below meth c T locs cells slots X hx hZ hc hml hown hnm hrel hfr hf' hlo hsz hcl hsl => ?_) kk
  obtain ⟨cl, A, hs, hl, hvs⟩ := hrel.2 a _ ho
  have hin : ¬ (j < 0 ∨ cl.slots.size ≤ j.toNatClampNeg) := fun z => z.elim hj0 (fun q => by rw [hs] at q; omega)
  obtain ⟨T1, h1, X1, e1, W1, st1⟩ := stI X hx hZ rfl A hin (g := mkF m pc (ls.map (shS n0)).toArray (.int x :: .int j :: .ref (n0 + a) :: st.map (shV n0))) rfl rfl (hb hc hd)
  refine ⟨T1, _, _, _, X1, ?_, Fr.snoc X1 hfr (Nat.le_add_right _ _), by rw [List.length_set]; exact hsz, by rw [es]; exact Nat.le_refl _, st1⟩
  rw [e1]
  refine hrel.put W1 ha ⟨_, A.same W1, by rw [sz_set, hs, List.length_set], by rw [List.length_set]; exact hl, fun k y hy => ?_⟩
  by_cases e : j.toNatClampNeg = k
  · subst e
    rw [List.getElem?_set_self hi] at hy
    cases hy
    exact ⟨by simp [Cell.setSlot, hs, hi, shV, nar], rfl⟩
  · rw [List.getElem?_set_ne e] at hy
    refine ⟨?_, (hvs k y hy).2⟩
    exact (Array.getElem?_setIfInBounds_ne e).trans (hvs k y hy).1
theorem r_lastore {a i : Nat} {vs vs' : List Value} {j : Int32} {x : Int64} (hd : decode mi.2.1 pc = .ok (.lastore, 1) ∧ pc + 1 = np) (ho : H[a]? = some (.inr (.long, vs))) (hj : Ix j i) (hi : i < vs.length) (hvs : vs.set i (.long x) = vs') (hH : H.set a (.inr (.long, vs')) = H1) (kk : Runs K l Z n0 mi np ls st H1 v H') : Runs K l Z n0 mi pc ls (.long x :: .int j :: .ref a :: st) H v H' := by
  obtain ⟨hd, rfl⟩ := hd
  obtain ⟨hj0, rfl⟩ := hj
  subst hvs hH
  have ha := lt_of_at ho
  have es : szs K (H.set a (.inr (.long, vs.set j.toNatClampNeg (.long x)))) = szs K H := szs_set ho (by show (List.set _ _ _).length = _; simp [osz])
  refine Runs.heap (by rw [List.length_set]; exact Nat.le_refl _) (by rw [es]; exact Nat.le_refl _) (fun p e R s m args below meth c T locs cells slots X hx hZ hc hml hown hnm hrel hfr hf' hlo hsz hcl hsl => ?_) kk
  obtain ⟨cl, A, hs, hl, hvs⟩ := hrel.2 a _ ho
  have hin : ¬ (j < 0 ∨ cl.slots.size ≤ j.toNatClampNeg) := fun z => z.elim hj0 (fun q => by rw [hs] at q; omega)
  obtain ⟨T1, h1, X1, e1, W1, st1⟩ := stJ X hx hZ rfl A hin (g := mkF m pc (ls.map (shS n0)).toArray (.long x :: .int j :: .ref (n0 + a) :: st.map (shV n0))) rfl rfl (hb hc hd)
  refine ⟨T1, _, _, _, X1, ?_, Fr.snoc X1 hfr (Nat.le_add_right _ _), by rw [List.length_set]; exact hsz, by rw [es]; exact Nat.le_refl _, st1⟩
  rw [e1]
  refine hrel.put W1 ha ⟨_, A.same W1, by rw [sz_set, hs, List.length_set], by rw [List.length_set]; exact hl, fun k y hy => ?_⟩
  by_cases e : j.toNatClampNeg = k
  · subst e
    rw [List.getElem?_set_self hi] at hy
    cases hy
    exact ⟨by simp [Cell.setSlot, hs, hi, shV, nar], rfl⟩
  · rw [List.getElem?_set_ne e] at hy
    refine ⟨?_, (hvs k y hy).2⟩
    exact (Array.getElem?_setIfInBounds_ne e).trans (hvs k y hy).1
theorem r_bastore {a i : Nat} {vs vs' : List Value} {j : Int32} {x : Int32} (hd : decode mi.2.1 pc = .ok (.bastore, 1) ∧ pc + 1 = np) (ho : H[a]? = some (.inr (.byte, vs))) (hj : Ix j i) (hi : i < vs.length) (hvs : vs.set i (.int x.toInt8.toInt32) = vs') (hH : H.set a (.inr (.byte, vs')) = H1) (kk : Runs K l Z n0 mi np ls st H1 v H') : Runs K l Z n0 mi pc ls (.int x :: .int j :: .ref a :: st) H v H' := by
  obtain ⟨hd, rfl⟩ := hd
  obtain ⟨hj0, rfl⟩ := hj
  subst hvs hH
  have ha := lt_of_at ho
  have es : szs K (H.set a (.inr (.byte, vs.set j.toNatClampNeg (.int x.toInt8.toInt32)))) = szs K H := szs_set ho (by show (List.set _ _ _).length = _; simp [osz])
  refine Runs.heap (by rw [List.length_set]; exact Nat.le_refl _) (by rw [es]; exact Nat.le_refl _) (fun p e R s m args below meth c T locs cells slots X hx hZ hc hml hown hnm hrel hfr hf' hlo hsz hcl hsl => ?_) kk
  obtain ⟨cl, A, hs, hl, hvs⟩ := hrel.2 a _ ho
  have hin : ¬ (j < 0 ∨ cl.slots.size ≤ j.toNatClampNeg) := fun z => z.elim hj0 (fun q => by rw [hs] at q; omega)
  obtain ⟨T1, h1, X1, e1, W1, st1⟩ := stB X hx hZ rfl A hin (g := mkF m pc (ls.map (shS n0)).toArray (.int x :: .int j :: .ref (n0 + a) :: st.map (shV n0))) rfl rfl (hb hc hd)
  refine ⟨T1, _, _, _, X1, ?_, Fr.snoc X1 hfr (Nat.le_add_right _ _), by rw [List.length_set]; exact hsz, by rw [es]; exact Nat.le_refl _, st1⟩
  rw [e1]
  refine hrel.put W1 ha ⟨_, A.same W1, by rw [sz_set, hs, List.length_set], by rw [List.length_set]; exact hl, fun k y hy => ?_⟩
  by_cases e : j.toNatClampNeg = k
  · subst e
    rw [List.getElem?_set_self hi] at hy
    cases hy
    exact ⟨by simp [Cell.setSlot, hs, hi, shV, nar], fits_byte x⟩
  · rw [List.getElem?_set_ne e] at hy
    refine ⟨?_, (hvs k y hy).2⟩
    exact (Array.getElem?_setIfInBounds_ne e).trans (hvs k y hy).1
/-! ### calls -/
theorem map_toList (w : Option Value) (rest : List Value) : ((w.toList ++ rest).map (shV n0)) = (w.map (shV n0)).toList ++ rest.map (shV n0) := by cases w <;> simp
theorem r_initO {a idx : Nat} (hd : decode mi.2.1 pc = .ok (.invokespecial idx, 3) ∧ pc + 3 = np) (w1 : (Jvm.Cond.methodLink mi.1.cls idx Lib.objectInit).before a0 Z = true) (w2 : (Jvm.Cond.instanceMethod Lib.objectInit).before a0 Z = true) (w3 : (Jvm.Cond.code Lib.objectInit ⟨#[0xb1]⟩ 1 none).before a0 Z = true)
    (hls : ls.length = mi.2.2.1) (hf : 1 ≤ mi.2.2.2.2.1) (hlo : (st.map fun v => v.category).sum + 12 ≤ mi.2.2.2.2.2) (kk : Runs K l Z n0 mi np ls st H v H') : Runs K l Z n0 mi pc ls (.ref a :: st) H v H' := by
  obtain ⟨hd, rfl⟩ := hd
  refine Runs.heap (Nat.le_refl _) (Nat.le_refl _) (fun p e R s m args below meth c T locs cells slots X hx hZ hc hml hown hnm hrel hfr hf' hlo' hsz hcl hsl => ?_) kk
  obtain ⟨T1, X1, e1, st1⟩ := initO X hx hZ hown w1 w2 w3 rfl (g := mkF m pc (ls.map (shS n0)).toArray (.ref (n0 + a) :: st.map (shV n0))) rfl (by rw [hml, ← hls]; simp) rfl (hb hc hd) (by omega) (W := (st.map fun v => v.category).sum) (by rw [cats_sh]; show 2 * 0 + _ ≤ _; omega) (by omega)
  exact ⟨T1, _, _, _, X1, by rw [e1]; exact hrel, hfr, hsz, Nat.le_refl _, st1⟩
theorem backM {mj : MI} {as : List Value} {w : Option Value} {h : Heap} {p : Program} {e : Env} {R : Room} {s : State} {args : Array Value} {below : List Frame} {len W : Nat} (M : Meets K l Z n0 mj as H w H1) (hrel : Rel K Z n0 H h) (hZ : Z.Warmed39 s.vm) (w4 : (Jvm.Cond.code mj.1 mj.2.1 mj.2.2.1 mj.2.2.2.1).before a0 Z = true) (w3 : (Jvm.Cond.initialized mj.1.cls).before a0 Z = true)
    (hf : mj.2.2.2.2.1 + 1 ≤ R.frames) (hl : W + (mj.2.2.1 + 11) + mj.2.2.2.2.2 ≤ R.locals) :
    Back l R p e below s args mj.1 len W (fun A a => a = (as.map (shV n0)).toArray ∧ A.U.heap = h ∧ A.cells + (H1.length - H.length) ≤ R.cells ∧ A.slots + (szs K H1 - szs K H) ≤ R.slots)
      (fun A _ v B => ∃ L, (v = w.map (shV n0) ∧ Rel K Z n0 H1 B.U.heap ∧ Fr n0 L) ∧ B.locs = A.locs ++ L ∧ B.cells = A.cells + (H1.length - H.length) ∧ B.slots = A.slots + (szs K H1 - szs K H)) :=
  backOf (rm := rmOf K mj H H1) (Q := fun v h L => v = w.map (shV n0) ∧ Rel K Z n0 H1 h ∧ Fr n0 L) (M.2.2 h hrel) hZ w4 w3 hf hl
theorem r_static {mj : MI} {as : List Value} {w : Option Value} {idx : Nat} (hd : decode mi.2.1 pc = .ok (.invokestatic idx, 3) ∧ pc + 3 = np) (w1 : (Jvm.Cond.methodLink mi.1.cls idx mj.1).before a0 Z = true) (w2 : (Jvm.Cond.static mj.1).before a0 Z = true) (w3 : (Jvm.Cond.initialized mj.1.cls).before a0 Z = true) (w4 : (Jvm.Cond.code mj.1 mj.2.1 mj.2.2.1 mj.2.2.2.1).before a0 Z = true)
    (hy : mj.1.cls ≠ "java/lang/invoke/MethodHandle" ∧ mj.1.cls ≠ "java/lang/invoke/VarHandle") (hlen : ∀ sig, parseMethodDescriptor mj.1.desc = some sig → as.length = sig.parameters.length) (hfr : mj.2.2.2.2.1 + 1 ≤ mi.2.2.2.2.1)
    (hst : as.reverse ++ rest = st) (hls : ls.length = mi.2.2.1) (hlo : (rest.map fun v => v.category).sum + (mj.2.2.1 + 11) + mj.2.2.2.2.2 ≤ mi.2.2.2.2.2)
    (M : Meets K l Z n0 mj as H w H1) (kk : Runs K l Z n0 mi np ls (w.toList ++ rest) H1 v H') : Runs K l Z n0 mi pc ls st H v H' := by
  obtain ⟨hd, rfl⟩ := hd
  subst hst
  have m1 := M.1
  have m2 := M.2.1
  refine Runs.heap m1 m2 (fun p e R s m args below meth c T locs cells slots X hx hZ hc hml hown hnm hrel hfr' hf' hlo' hsz hcl hsl => ?_) kk
  obtain ⟨_, _, ⟨T1, L1, k1, n1⟩, -, X1, ⟨Lc, hQ, l1, y1, z1⟩, st1⟩ := Jvm.LawKit.callS X hx (y := mj.1) hown (mvT hZ w1) (mvT hZ w2) (mvT hZ w3) (mvT hZ w4) hy
    (backM (W := (rest.map fun v => v.category).sum) M hrel hZ w4 w3 (by omega) (by omega))
    (g := mkF m pc (ls.map (shS n0)).toArray ((as.reverse ++ rest).map (shV n0))) rfl (by rw [hml, ← hls]; simp) (argsL := as.map (shV n0)) (rest := rest.map (shV n0)) (fun sig q => by rw [List.length_map]; exact hlen sig q) (by simp) (by rw [cats_sh]; show 2 * 0 + _ ≤ _; omega) (hb hc hd)
    (fun _ _ => ⟨rfl, rfl, (by show cells + (H1.length - H.length) ≤ _; omega), (by show slots + (szs K H1 - szs K H) ≤ _; omega)⟩)
  dsimp only [Pt.U, Pt.locs, Pt.cells, Pt.slots] at X1 l1 y1 z1 st1 hQ
  subst l1 y1 z1
  obtain ⟨rfl, R1, F1⟩ := hQ
  refine ⟨T1, _, _, _, X1, R1, Fr.app hfr' F1, by show s.heap.size + (cells + (H1.length - H.length)) = _; omega, by show slots + (szs K H1 - szs K H) + _ ≤ _; omega, fun t q => st1 t ?_⟩
  rw [map_toList] at q; exact q
theorem r_special {mj : MI} {as : List Value} {a idx : Nat} (hd : decode mi.2.1 pc = .ok (.invokespecial idx, 3) ∧ pc + 3 = np) (hy1 : mj.1.name = "<init>") (hr : mj.2.2.2.1 = none) (w1 : (Jvm.Cond.methodLink mi.1.cls idx mj.1).before a0 Z = true) (w2 : (Jvm.Cond.instanceMethod mj.1).before a0 Z = true) (w3 : (Jvm.Cond.initialized mj.1.cls).before a0 Z = true) (w4 : (Jvm.Cond.code mj.1 mj.2.1 mj.2.2.1 mj.2.2.2.1).before a0 Z = true)
    (hy : mj.1.cls ≠ "java/lang/invoke/MethodHandle" ∧ mj.1.cls ≠ "java/lang/invoke/VarHandle") (hlen : ∀ sig, parseMethodDescriptor mj.1.desc = some sig → as.length = sig.parameters.length) (hfr : mj.2.2.2.2.1 + 1 ≤ mi.2.2.2.2.1)
    (hst : as.reverse ++ .ref a :: rest = st) (hls : ls.length = mi.2.2.1) (hlo : (rest.map fun v => v.category).sum + (mj.2.2.1 + 11) + mj.2.2.2.2.2 ≤ mi.2.2.2.2.2)
    (M : Meets K l Z n0 mj (.ref a :: as) H none H1) (kk : Runs K l Z n0 mi np ls rest H1 v H') : Runs K l Z n0 mi pc ls st H v H' := by
  obtain ⟨hd, rfl⟩ := hd
  subst hst
  have m1 := M.1
  have m2 := M.2.1
  refine Runs.heap m1 m2 (fun p e R s m args below meth c T locs cells slots X hx hZ hc hml hown hnm hrel hfr' hf' hlo' hsz hcl hsl => ?_) kk
  have w4' := w4
  rw [hr] at w4'
  obtain ⟨_, _, ⟨T1, L1, k1, n1⟩, -, X1, ⟨Lc, hQ, l1, y1, z1⟩, st1⟩ := X.specialBack hx (y := mj.1) hy1 hown (mvT hZ w1) (mvT hZ w2) (mvT hZ w4') hy
    (backM (W := (rest.map fun v => v.category).sum) M hrel hZ w4 w3 (by omega) (by omega))
    (g := mkF m pc (ls.map (shS n0)).toArray ((as.reverse ++ .ref a :: rest).map (shV n0))) rfl (by rw [hml, ← hls]; simp) (Steps.refl _) (a := n0 + a) (argsL := as.map (shV n0)) (rest := rest.map (shV n0)) (fun sig q => by rw [List.length_map]; exact hlen sig q) (by simp [shV]) (by rw [cats_sh]; show 2 * 0 + _ ≤ _; omega) (hb hc hd)
    (fun _ _ => ⟨rfl, rfl, (by show cells + (H1.length - H.length) ≤ _; omega), (by show slots + (szs K H1 - szs K H) ≤ _; omega)⟩)
  dsimp only [Pt.U, Pt.locs, Pt.cells, Pt.slots] at X1 l1 y1 z1 st1 hQ
  subst l1 y1 z1
  obtain ⟨rfl, R1, F1⟩ := hQ
  exact ⟨T1, _, _, _, X1, R1, Fr.app hfr' F1, by show s.heap.size + (cells + (H1.length - H.length)) = _; omega, by show slots + (szs K H1 - szs K H) + _ ≤ _; omega, fun t q => st1.trans q⟩
theorem r_virtual {mj : MI} {as : List Value} {w : Option Value} {a cid idx : Nat} {ci : CI} {vs : List Value} (hd : decode mi.2.1 pc = .ok (.invokevirtual idx, 3) ∧ pc + 3 = np) (w1 : (Jvm.Cond.methodLink mi.1.cls idx mj.1).before a0 Z = true) (w2 : (Jvm.Cond.declares mj.1).before a0 Z = true) (w5 : (Jvm.Cond.selects ci.1 mj.1 mj.1).before a0 Z = true) (w6 : (Jvm.Cond.instanceMethod mj.1).before a0 Z = true) (w3 : (Jvm.Cond.initialized mj.1.cls).before a0 Z = true) (w4 : (Jvm.Cond.code mj.1 mj.2.1 mj.2.2.1 mj.2.2.2.1).before a0 Z = true)
    (hy : mj.1.cls ≠ "java/lang/invoke/MethodHandle" ∧ mj.1.cls ≠ "java/lang/invoke/VarHandle") (hlen : ∀ sig, parseMethodDescriptor mj.1.desc = some sig → as.length = sig.parameters.length) (hfr : mj.2.2.2.2.1 + 1 ≤ mi.2.2.2.2.1) (hci : K[cid]? = some ci)
    (hst : as.reverse ++ .ref a :: rest = st) (ho : H[a]? = some (.inl (cid, vs))) (hls : ls.length = mi.2.2.1) (hlo : (rest.map fun v => v.category).sum + (mj.2.2.1 + 11) + mj.2.2.2.2.2 ≤ mi.2.2.2.2.2)
    (M : Meets K l Z n0 mj (.ref a :: as) H w H1) (kk : Runs K l Z n0 mi np ls (w.toList ++ rest) H1 v H') : Runs K l Z n0 mi pc ls st H v H' := by
  obtain ⟨hd, rfl⟩ := hd
  subst hst
  have m1 := M.1
  have m2 := M.2.1
  refine Runs.heap m1 m2 (fun p e R s m args below meth c T locs cells slots X hx hZ hc hml hown hnm hrel hfr' hf' hlo' hsz hcl hsl => ?_) kk
  obtain ⟨ci', q1, E, F⟩ := hrel.2 a _ ho
  cases hci.symm.trans q1
  obtain ⟨cq, kq, qa, qb, qc⟩ := isOf hZ rfl E
  obtain ⟨_, _, ⟨T1, L1, k1, n1⟩, -, X1, ⟨Lc, hQ, l1, y1, z1⟩, st1⟩ := X.virtualBack hx (y := mj.1) (z := mj.1) hown (mvT hZ w1) (mvT hZ w2) (notFace_of_selects (args := #[]) (mvT hZ w5)) (mvT hZ w5) (mvT hZ w6) hy
    (backM (W := (rest.map fun v => v.category).sum) M hrel hZ w4 w3 (by omega) (by omega)) qa qc
    (g := mkF m pc (ls.map (shS n0)).toArray ((as.reverse ++ .ref a :: rest).map (shV n0))) rfl (by rw [hml, ← hls]; simp) (Steps.refl _) (argsL := as.map (shV n0)) (rest := rest.map (shV n0)) (fun sig q => by rw [List.length_map]; exact hlen sig q) (by simp [shV]) (by rw [cats_sh]; show 2 * 0 + _ ≤ _; omega) (hb hc hd)
    (fun _ _ => ⟨rfl, rfl, (by show cells + (H1.length - H.length) ≤ _; omega), (by show slots + (szs K H1 - szs K H) ≤ _; omega)⟩)
  dsimp only [Pt.U, Pt.locs, Pt.cells, Pt.slots] at X1 l1 y1 z1 st1 hQ
  subst l1 y1 z1
  obtain ⟨rfl, R1, F1⟩ := hQ
  refine ⟨T1, _, _, _, X1, R1, Fr.app hfr' F1, by show s.heap.size + (cells + (H1.length - H.length)) = _; omega, by show slots + (szs K H1 - szs K H) + _ ≤ _; omega, fun t q => st1.trans ?_⟩
  rw [map_toList] at q; exact q
theorem r_private {mj : MI} {as : List Value} {w : Option Value} {a cid idx : Nat} {ci : CI} {vs : List Value} (hd : decode mi.2.1 pc = .ok (.invokevirtual idx, 3) ∧ pc + 3 = np) (w1 : (Jvm.Cond.methodLink mi.1.cls idx mj.1).before a0 Z = true) (w5 : (Jvm.Cond.selects mj.1.cls mj.1 mj.1).before a0 Z = true) (w7 : (Jvm.Cond.privateMethod mj.1).before a0 Z = true) (w6 : (Jvm.Cond.instanceMethod mj.1).before a0 Z = true) (w3 : (Jvm.Cond.initialized mj.1.cls).before a0 Z = true) (w4 : (Jvm.Cond.code mj.1 mj.2.1 mj.2.2.1 mj.2.2.2.1).before a0 Z = true)
    (hy : mj.1.cls ≠ "java/lang/invoke/MethodHandle" ∧ mj.1.cls ≠ "java/lang/invoke/VarHandle") (hlen : ∀ sig, parseMethodDescriptor mj.1.desc = some sig → as.length = sig.parameters.length) (hfr : mj.2.2.2.2.1 + 1 ≤ mi.2.2.2.2.1) (hci : K[cid]? = some ci)
    (hst : as.reverse ++ .ref a :: rest = st) (ho : H[a]? = some (.inl (cid, vs))) (hls : ls.length = mi.2.2.1) (hlo : (rest.map fun v => v.category).sum + (mj.2.2.1 + 11) + mj.2.2.2.2.2 ≤ mi.2.2.2.2.2)
    (M : Meets K l Z n0 mj (.ref a :: as) H w H1) (kk : Runs K l Z n0 mi np ls (w.toList ++ rest) H1 v H') : Runs K l Z n0 mi pc ls st H v H' := by
  obtain ⟨hd, rfl⟩ := hd
  subst hst
  have m1 := M.1
  have m2 := M.2.1
  refine Runs.heap m1 m2 (fun p e R s m args below meth c T locs cells slots X hx hZ hc hml hown hnm hrel hfr' hf' hlo' hsz hcl hsl => ?_) kk
  obtain ⟨ci', q1, E, F⟩ := hrel.2 a _ ho
  cases hci.symm.trans q1
  obtain ⟨cq, qa, qc⟩ := E.cell
  obtain ⟨_, _, ⟨T1, L1, k1, n1⟩, -, X1, ⟨Lc, hQ, l1, y1, z1⟩, st1⟩ := X.privateBack hx (y := mj.1) hown (mvT hZ w1) (mvT hZ w6) (mvT hZ w5) (Cond.privateMethod_at (mvP hZ w7 (args := #[]))) (mvT hZ w4) hy
    (backM (W := (rest.map fun v => v.category).sum) M hrel hZ w4 w3 (by omega) (by omega))
    (g := mkF m pc (ls.map (shS n0)).toArray ((as.reverse ++ .ref a :: rest).map (shV n0))) rfl (by rw [hml, ← hls]; simp) (Steps.refl _) (a := n0 + a) qa qc (argsL := as.map (shV n0)) (rest := rest.map (shV n0)) (fun sig q => by rw [List.length_map]; exact hlen sig q) (by simp [shV]) (by rw [cats_sh]; show 2 * 0 + _ ≤ _; omega) (hb hc hd)
    (fun _ _ => ⟨rfl, rfl, (by show cells + (H1.length - H.length) ≤ _; omega), (by show slots + (szs K H1 - szs K H) ≤ _; omega)⟩)
  dsimp only [Pt.U, Pt.locs, Pt.cells, Pt.slots] at X1 l1 y1 z1 st1 hQ
  subst l1 y1 z1
  obtain ⟨rfl, R1, F1⟩ := hQ
  refine ⟨T1, _, _, _, X1, R1, Fr.app hfr' F1, by show s.heap.size + (cells + (H1.length - H.length)) = _; omega, by show slots + (szs K H1 - szs K H) + _ ≤ _; omega, fun t q => st1.trans ?_⟩
  rw [map_toList] at q; exact q
end Logic
abbrev HW (Z : State) (a0 : Array Value) : Prop := ∀ d ∈ tables_1, d.before a0 Z = true
def K : List CI := []
theorem allL0 {α : Type} {P : α → Prop} : ∀ x ∈ ([] : List α), P x := fun _ q => nomatch q
theorem allLS {α : Type} {P : α → Prop} {y : α} {L : List α} (q : P y) (r : ∀ x ∈ L, P x) : ∀ x ∈ y :: L, P x := fun x z => (List.mem_cons.mp z).elim (fun u => u ▸ q) (r x)
theorem kok {Z : State} {a0 : Array Value} (hw : HW Z a0) : KOk K Z a0 := by
  intro k ci h
  simp [K] at h
def m0 : MI := (x, code, 14, some .boolean, 1, 12)
def m1 : MI := (⟨"dev/lyewire/xml/XmlNames", "isNameStartChar", "(I)Z"⟩, prog_81_method_16_code, 1, some .boolean, 0, 0)
theorem pd0 : parseMethodDescriptor "(IIJ)Z" = some ⟨[.int, .int, .long], some .boolean⟩ := by decide +kernel
theorem pf0 : plainFor m0.1 = true := by first | exact plainFor_of_name (by first | (simp [m0, x, plainName, overriddenIn]; done) | decide +kernel) | decide +kernel
theorem pd1 : parseMethodDescriptor "(I)Z" = some ⟨[.int], some .boolean⟩ := by decide +kernel
theorem pf1 : plainFor m1.1 = true := by first | exact plainFor_of_name (by first | (simp [m1, x, plainName, overriddenIn]; done) | decide +kernel) | decide +kernel
theorem i0_0 : decode m0.2.1 0 = .ok (.bipush 31, 2) ∧ 0 + 2 = 2 ∧ (Int8.ofInt 31).toInt32 = 31 := ⟨by decide +kernel, rfl, by decide⟩
theorem i0_2 : decode m0.2.1 2 = .ok (.newarray .long, 2) ∧ 2 + 2 = 4 := ⟨by decide +kernel, rfl⟩
theorem i0_4 : decode m0.2.1 4 = .ok (.dup, 1) ∧ 4 + 1 = 5 := ⟨by decide +kernel, rfl⟩
theorem i0_5 : decode m0.2.1 5 = .ok (.iconst 0, 1) ∧ 5 + 1 = 6 ∧ Int32.ofInt 0 = 0 := ⟨by decide +kernel, rfl, by decide⟩
theorem i0_6 : decode m0.2.1 6 = .ok (.ldc2_w 9, 3) ∧ 6 + 3 = 9 := ⟨by decide +kernel, rfl⟩
theorem i0_9 : decode m0.2.1 9 = .ok (.lastore, 1) ∧ 9 + 1 = 10 := ⟨by decide +kernel, rfl⟩
theorem i0_10 : decode m0.2.1 10 = .ok (.dup, 1) ∧ 10 + 1 = 11 := ⟨by decide +kernel, rfl⟩
theorem i0_11 : decode m0.2.1 11 = .ok (.iconst 1, 1) ∧ 11 + 1 = 12 ∧ Int32.ofInt 1 = 1 := ⟨by decide +kernel, rfl, by decide⟩
theorem i0_12 : decode m0.2.1 12 = .ok (.ldc2_w 11, 3) ∧ 12 + 3 = 15 := ⟨by decide +kernel, rfl⟩
theorem i0_15 : decode m0.2.1 15 = .ok (.lastore, 1) ∧ 15 + 1 = 16 := ⟨by decide +kernel, rfl⟩
theorem i0_16 : decode m0.2.1 16 = .ok (.dup, 1) ∧ 16 + 1 = 17 := ⟨by decide +kernel, rfl⟩
theorem i0_17 : decode m0.2.1 17 = .ok (.iconst 2, 1) ∧ 17 + 1 = 18 ∧ Int32.ofInt 2 = 2 := ⟨by decide +kernel, rfl, by decide⟩
theorem i0_18 : decode m0.2.1 18 = .ok (.ldc2_w 13, 3) ∧ 18 + 3 = 21 := ⟨by decide +kernel, rfl⟩
theorem i0_21 : decode m0.2.1 21 = .ok (.lastore, 1) ∧ 21 + 1 = 22 := ⟨by decide +kernel, rfl⟩
theorem i0_22 : decode m0.2.1 22 = .ok (.dup, 1) ∧ 22 + 1 = 23 := ⟨by decide +kernel, rfl⟩
theorem i0_23 : decode m0.2.1 23 = .ok (.iconst 3, 1) ∧ 23 + 1 = 24 ∧ Int32.ofInt 3 = 3 := ⟨by decide +kernel, rfl, by decide⟩
theorem i0_24 : decode m0.2.1 24 = .ok (.ldc2_w 15, 3) ∧ 24 + 3 = 27 := ⟨by decide +kernel, rfl⟩
theorem i0_27 : decode m0.2.1 27 = .ok (.lastore, 1) ∧ 27 + 1 = 28 := ⟨by decide +kernel, rfl⟩
theorem i0_28 : decode m0.2.1 28 = .ok (.dup, 1) ∧ 28 + 1 = 29 := ⟨by decide +kernel, rfl⟩
theorem i0_29 : decode m0.2.1 29 = .ok (.iconst 4, 1) ∧ 29 + 1 = 30 ∧ Int32.ofInt 4 = 4 := ⟨by decide +kernel, rfl, by decide⟩
theorem i0_30 : decode m0.2.1 30 = .ok (.ldc2_w 17, 3) ∧ 30 + 3 = 33 := ⟨by decide +kernel, rfl⟩
theorem i0_33 : decode m0.2.1 33 = .ok (.lastore, 1) ∧ 33 + 1 = 34 := ⟨by decide +kernel, rfl⟩
theorem i0_34 : decode m0.2.1 34 = .ok (.dup, 1) ∧ 34 + 1 = 35 := ⟨by decide +kernel, rfl⟩
theorem i0_35 : decode m0.2.1 35 = .ok (.iconst 5, 1) ∧ 35 + 1 = 36 ∧ Int32.ofInt 5 = 5 := ⟨by decide +kernel, rfl, by decide⟩
theorem i0_36 : decode m0.2.1 36 = .ok (.ldc2_w 19, 3) ∧ 36 + 3 = 39 := ⟨by decide +kernel, rfl⟩
theorem i0_39 : decode m0.2.1 39 = .ok (.lastore, 1) ∧ 39 + 1 = 40 := ⟨by decide +kernel, rfl⟩
theorem i0_40 : decode m0.2.1 40 = .ok (.dup, 1) ∧ 40 + 1 = 41 := ⟨by decide +kernel, rfl⟩
theorem i0_41 : decode m0.2.1 41 = .ok (.bipush 6, 2) ∧ 41 + 2 = 43 ∧ (Int8.ofInt 6).toInt32 = 6 := ⟨by decide +kernel, rfl, by decide⟩
theorem i0_43 : decode m0.2.1 43 = .ok (.ldc2_w 21, 3) ∧ 43 + 3 = 46 := ⟨by decide +kernel, rfl⟩
theorem i0_46 : decode m0.2.1 46 = .ok (.lastore, 1) ∧ 46 + 1 = 47 := ⟨by decide +kernel, rfl⟩
theorem i0_47 : decode m0.2.1 47 = .ok (.dup, 1) ∧ 47 + 1 = 48 := ⟨by decide +kernel, rfl⟩
theorem i0_48 : decode m0.2.1 48 = .ok (.bipush 7, 2) ∧ 48 + 2 = 50 ∧ (Int8.ofInt 7).toInt32 = 7 := ⟨by decide +kernel, rfl, by decide⟩
theorem i0_50 : decode m0.2.1 50 = .ok (.ldc2_w 23, 3) ∧ 50 + 3 = 53 := ⟨by decide +kernel, rfl⟩
theorem i0_53 : decode m0.2.1 53 = .ok (.lastore, 1) ∧ 53 + 1 = 54 := ⟨by decide +kernel, rfl⟩
theorem i0_54 : decode m0.2.1 54 = .ok (.dup, 1) ∧ 54 + 1 = 55 := ⟨by decide +kernel, rfl⟩
theorem i0_55 : decode m0.2.1 55 = .ok (.bipush 8, 2) ∧ 55 + 2 = 57 ∧ (Int8.ofInt 8).toInt32 = 8 := ⟨by decide +kernel, rfl, by decide⟩
theorem i0_57 : decode m0.2.1 57 = .ok (.ldc2_w 25, 3) ∧ 57 + 3 = 60 := ⟨by decide +kernel, rfl⟩
theorem i0_60 : decode m0.2.1 60 = .ok (.lastore, 1) ∧ 60 + 1 = 61 := ⟨by decide +kernel, rfl⟩
theorem i0_61 : decode m0.2.1 61 = .ok (.dup, 1) ∧ 61 + 1 = 62 := ⟨by decide +kernel, rfl⟩
theorem i0_62 : decode m0.2.1 62 = .ok (.bipush 9, 2) ∧ 62 + 2 = 64 ∧ (Int8.ofInt 9).toInt32 = 9 := ⟨by decide +kernel, rfl, by decide⟩
theorem i0_64 : decode m0.2.1 64 = .ok (.ldc2_w 27, 3) ∧ 64 + 3 = 67 := ⟨by decide +kernel, rfl⟩
theorem i0_67 : decode m0.2.1 67 = .ok (.lastore, 1) ∧ 67 + 1 = 68 := ⟨by decide +kernel, rfl⟩
theorem i0_68 : decode m0.2.1 68 = .ok (.dup, 1) ∧ 68 + 1 = 69 := ⟨by decide +kernel, rfl⟩
theorem i0_69 : decode m0.2.1 69 = .ok (.bipush 10, 2) ∧ 69 + 2 = 71 ∧ (Int8.ofInt 10).toInt32 = 10 := ⟨by decide +kernel, rfl, by decide⟩
theorem i0_71 : decode m0.2.1 71 = .ok (.ldc2_w 29, 3) ∧ 71 + 3 = 74 := ⟨by decide +kernel, rfl⟩
theorem i0_74 : decode m0.2.1 74 = .ok (.lastore, 1) ∧ 74 + 1 = 75 := ⟨by decide +kernel, rfl⟩
theorem i0_75 : decode m0.2.1 75 = .ok (.dup, 1) ∧ 75 + 1 = 76 := ⟨by decide +kernel, rfl⟩
theorem i0_76 : decode m0.2.1 76 = .ok (.bipush 11, 2) ∧ 76 + 2 = 78 ∧ (Int8.ofInt 11).toInt32 = 11 := ⟨by decide +kernel, rfl, by decide⟩
theorem i0_78 : decode m0.2.1 78 = .ok (.ldc2_w 31, 3) ∧ 78 + 3 = 81 := ⟨by decide +kernel, rfl⟩
theorem i0_81 : decode m0.2.1 81 = .ok (.lastore, 1) ∧ 81 + 1 = 82 := ⟨by decide +kernel, rfl⟩
theorem i0_82 : decode m0.2.1 82 = .ok (.dup, 1) ∧ 82 + 1 = 83 := ⟨by decide +kernel, rfl⟩
theorem i0_83 : decode m0.2.1 83 = .ok (.bipush 12, 2) ∧ 83 + 2 = 85 ∧ (Int8.ofInt 12).toInt32 = 12 := ⟨by decide +kernel, rfl, by decide⟩
theorem i0_85 : decode m0.2.1 85 = .ok (.ldc2_w 33, 3) ∧ 85 + 3 = 88 := ⟨by decide +kernel, rfl⟩
theorem i0_88 : decode m0.2.1 88 = .ok (.lastore, 1) ∧ 88 + 1 = 89 := ⟨by decide +kernel, rfl⟩
theorem i0_89 : decode m0.2.1 89 = .ok (.dup, 1) ∧ 89 + 1 = 90 := ⟨by decide +kernel, rfl⟩
theorem i0_90 : decode m0.2.1 90 = .ok (.bipush 13, 2) ∧ 90 + 2 = 92 ∧ (Int8.ofInt 13).toInt32 = 13 := ⟨by decide +kernel, rfl, by decide⟩
theorem i0_92 : decode m0.2.1 92 = .ok (.ldc2_w 35, 3) ∧ 92 + 3 = 95 := ⟨by decide +kernel, rfl⟩
theorem i0_95 : decode m0.2.1 95 = .ok (.lastore, 1) ∧ 95 + 1 = 96 := ⟨by decide +kernel, rfl⟩
theorem i0_96 : decode m0.2.1 96 = .ok (.dup, 1) ∧ 96 + 1 = 97 := ⟨by decide +kernel, rfl⟩
theorem i0_97 : decode m0.2.1 97 = .ok (.bipush 14, 2) ∧ 97 + 2 = 99 ∧ (Int8.ofInt 14).toInt32 = 14 := ⟨by decide +kernel, rfl, by decide⟩
theorem i0_99 : decode m0.2.1 99 = .ok (.ldc2_w 37, 3) ∧ 99 + 3 = 102 := ⟨by decide +kernel, rfl⟩
theorem i0_102 : decode m0.2.1 102 = .ok (.lastore, 1) ∧ 102 + 1 = 103 := ⟨by decide +kernel, rfl⟩
theorem i0_103 : decode m0.2.1 103 = .ok (.dup, 1) ∧ 103 + 1 = 104 := ⟨by decide +kernel, rfl⟩
theorem i0_104 : decode m0.2.1 104 = .ok (.bipush 15, 2) ∧ 104 + 2 = 106 ∧ (Int8.ofInt 15).toInt32 = 15 := ⟨by decide +kernel, rfl, by decide⟩
theorem i0_106 : decode m0.2.1 106 = .ok (.ldc2_w 39, 3) ∧ 106 + 3 = 109 := ⟨by decide +kernel, rfl⟩
theorem i0_109 : decode m0.2.1 109 = .ok (.lastore, 1) ∧ 109 + 1 = 110 := ⟨by decide +kernel, rfl⟩
theorem i0_110 : decode m0.2.1 110 = .ok (.dup, 1) ∧ 110 + 1 = 111 := ⟨by decide +kernel, rfl⟩
theorem i0_111 : decode m0.2.1 111 = .ok (.bipush 16, 2) ∧ 111 + 2 = 113 ∧ (Int8.ofInt 16).toInt32 = 16 := ⟨by decide +kernel, rfl, by decide⟩
theorem i0_113 : decode m0.2.1 113 = .ok (.ldc2_w 41, 3) ∧ 113 + 3 = 116 := ⟨by decide +kernel, rfl⟩
theorem i0_116 : decode m0.2.1 116 = .ok (.lastore, 1) ∧ 116 + 1 = 117 := ⟨by decide +kernel, rfl⟩
theorem i0_117 : decode m0.2.1 117 = .ok (.dup, 1) ∧ 117 + 1 = 118 := ⟨by decide +kernel, rfl⟩
theorem i0_118 : decode m0.2.1 118 = .ok (.bipush 17, 2) ∧ 118 + 2 = 120 ∧ (Int8.ofInt 17).toInt32 = 17 := ⟨by decide +kernel, rfl, by decide⟩
theorem i0_120 : decode m0.2.1 120 = .ok (.ldc2_w 43, 3) ∧ 120 + 3 = 123 := ⟨by decide +kernel, rfl⟩
theorem i0_123 : decode m0.2.1 123 = .ok (.lastore, 1) ∧ 123 + 1 = 124 := ⟨by decide +kernel, rfl⟩
theorem i0_124 : decode m0.2.1 124 = .ok (.dup, 1) ∧ 124 + 1 = 125 := ⟨by decide +kernel, rfl⟩
theorem i0_125 : decode m0.2.1 125 = .ok (.bipush 18, 2) ∧ 125 + 2 = 127 ∧ (Int8.ofInt 18).toInt32 = 18 := ⟨by decide +kernel, rfl, by decide⟩
theorem i0_127 : decode m0.2.1 127 = .ok (.ldc2_w 45, 3) ∧ 127 + 3 = 130 := ⟨by decide +kernel, rfl⟩
theorem i0_130 : decode m0.2.1 130 = .ok (.lastore, 1) ∧ 130 + 1 = 131 := ⟨by decide +kernel, rfl⟩
theorem i0_131 : decode m0.2.1 131 = .ok (.dup, 1) ∧ 131 + 1 = 132 := ⟨by decide +kernel, rfl⟩
theorem i0_132 : decode m0.2.1 132 = .ok (.bipush 19, 2) ∧ 132 + 2 = 134 ∧ (Int8.ofInt 19).toInt32 = 19 := ⟨by decide +kernel, rfl, by decide⟩
theorem i0_134 : decode m0.2.1 134 = .ok (.ldc2_w 47, 3) ∧ 134 + 3 = 137 := ⟨by decide +kernel, rfl⟩
theorem i0_137 : decode m0.2.1 137 = .ok (.lastore, 1) ∧ 137 + 1 = 138 := ⟨by decide +kernel, rfl⟩
theorem i0_138 : decode m0.2.1 138 = .ok (.dup, 1) ∧ 138 + 1 = 139 := ⟨by decide +kernel, rfl⟩
theorem i0_139 : decode m0.2.1 139 = .ok (.bipush 20, 2) ∧ 139 + 2 = 141 ∧ (Int8.ofInt 20).toInt32 = 20 := ⟨by decide +kernel, rfl, by decide⟩
theorem i0_141 : decode m0.2.1 141 = .ok (.ldc2_w 49, 3) ∧ 141 + 3 = 144 := ⟨by decide +kernel, rfl⟩
theorem i0_144 : decode m0.2.1 144 = .ok (.lastore, 1) ∧ 144 + 1 = 145 := ⟨by decide +kernel, rfl⟩
theorem i0_145 : decode m0.2.1 145 = .ok (.dup, 1) ∧ 145 + 1 = 146 := ⟨by decide +kernel, rfl⟩
theorem i0_146 : decode m0.2.1 146 = .ok (.bipush 21, 2) ∧ 146 + 2 = 148 ∧ (Int8.ofInt 21).toInt32 = 21 := ⟨by decide +kernel, rfl, by decide⟩
theorem i0_148 : decode m0.2.1 148 = .ok (.ldc2_w 51, 3) ∧ 148 + 3 = 151 := ⟨by decide +kernel, rfl⟩
theorem i0_151 : decode m0.2.1 151 = .ok (.lastore, 1) ∧ 151 + 1 = 152 := ⟨by decide +kernel, rfl⟩
theorem i0_152 : decode m0.2.1 152 = .ok (.dup, 1) ∧ 152 + 1 = 153 := ⟨by decide +kernel, rfl⟩
theorem i0_153 : decode m0.2.1 153 = .ok (.bipush 22, 2) ∧ 153 + 2 = 155 ∧ (Int8.ofInt 22).toInt32 = 22 := ⟨by decide +kernel, rfl, by decide⟩
theorem i0_155 : decode m0.2.1 155 = .ok (.ldc2_w 53, 3) ∧ 155 + 3 = 158 := ⟨by decide +kernel, rfl⟩
theorem i0_158 : decode m0.2.1 158 = .ok (.lastore, 1) ∧ 158 + 1 = 159 := ⟨by decide +kernel, rfl⟩
theorem i0_159 : decode m0.2.1 159 = .ok (.dup, 1) ∧ 159 + 1 = 160 := ⟨by decide +kernel, rfl⟩
theorem i0_160 : decode m0.2.1 160 = .ok (.bipush 23, 2) ∧ 160 + 2 = 162 ∧ (Int8.ofInt 23).toInt32 = 23 := ⟨by decide +kernel, rfl, by decide⟩
theorem i0_162 : decode m0.2.1 162 = .ok (.ldc2_w 55, 3) ∧ 162 + 3 = 165 := ⟨by decide +kernel, rfl⟩
theorem i0_165 : decode m0.2.1 165 = .ok (.lastore, 1) ∧ 165 + 1 = 166 := ⟨by decide +kernel, rfl⟩
theorem i0_166 : decode m0.2.1 166 = .ok (.dup, 1) ∧ 166 + 1 = 167 := ⟨by decide +kernel, rfl⟩
theorem i0_167 : decode m0.2.1 167 = .ok (.bipush 24, 2) ∧ 167 + 2 = 169 ∧ (Int8.ofInt 24).toInt32 = 24 := ⟨by decide +kernel, rfl, by decide⟩
theorem i0_169 : decode m0.2.1 169 = .ok (.ldc2_w 57, 3) ∧ 169 + 3 = 172 := ⟨by decide +kernel, rfl⟩
theorem i0_172 : decode m0.2.1 172 = .ok (.lastore, 1) ∧ 172 + 1 = 173 := ⟨by decide +kernel, rfl⟩
theorem i0_173 : decode m0.2.1 173 = .ok (.dup, 1) ∧ 173 + 1 = 174 := ⟨by decide +kernel, rfl⟩
theorem i0_174 : decode m0.2.1 174 = .ok (.bipush 25, 2) ∧ 174 + 2 = 176 ∧ (Int8.ofInt 25).toInt32 = 25 := ⟨by decide +kernel, rfl, by decide⟩
theorem i0_176 : decode m0.2.1 176 = .ok (.ldc2_w 59, 3) ∧ 176 + 3 = 179 := ⟨by decide +kernel, rfl⟩
theorem i0_179 : decode m0.2.1 179 = .ok (.lastore, 1) ∧ 179 + 1 = 180 := ⟨by decide +kernel, rfl⟩
theorem i0_180 : decode m0.2.1 180 = .ok (.dup, 1) ∧ 180 + 1 = 181 := ⟨by decide +kernel, rfl⟩
theorem i0_181 : decode m0.2.1 181 = .ok (.bipush 26, 2) ∧ 181 + 2 = 183 ∧ (Int8.ofInt 26).toInt32 = 26 := ⟨by decide +kernel, rfl, by decide⟩
theorem i0_183 : decode m0.2.1 183 = .ok (.ldc2_w 61, 3) ∧ 183 + 3 = 186 := ⟨by decide +kernel, rfl⟩
theorem i0_186 : decode m0.2.1 186 = .ok (.lastore, 1) ∧ 186 + 1 = 187 := ⟨by decide +kernel, rfl⟩
theorem i0_187 : decode m0.2.1 187 = .ok (.dup, 1) ∧ 187 + 1 = 188 := ⟨by decide +kernel, rfl⟩
theorem i0_188 : decode m0.2.1 188 = .ok (.bipush 27, 2) ∧ 188 + 2 = 190 ∧ (Int8.ofInt 27).toInt32 = 27 := ⟨by decide +kernel, rfl, by decide⟩
theorem i0_190 : decode m0.2.1 190 = .ok (.ldc2_w 63, 3) ∧ 190 + 3 = 193 := ⟨by decide +kernel, rfl⟩
theorem i0_193 : decode m0.2.1 193 = .ok (.lastore, 1) ∧ 193 + 1 = 194 := ⟨by decide +kernel, rfl⟩
theorem i0_194 : decode m0.2.1 194 = .ok (.dup, 1) ∧ 194 + 1 = 195 := ⟨by decide +kernel, rfl⟩
theorem i0_195 : decode m0.2.1 195 = .ok (.bipush 28, 2) ∧ 195 + 2 = 197 ∧ (Int8.ofInt 28).toInt32 = 28 := ⟨by decide +kernel, rfl, by decide⟩
theorem i0_197 : decode m0.2.1 197 = .ok (.ldc2_w 65, 3) ∧ 197 + 3 = 200 := ⟨by decide +kernel, rfl⟩
theorem i0_200 : decode m0.2.1 200 = .ok (.lastore, 1) ∧ 200 + 1 = 201 := ⟨by decide +kernel, rfl⟩
theorem i0_201 : decode m0.2.1 201 = .ok (.dup, 1) ∧ 201 + 1 = 202 := ⟨by decide +kernel, rfl⟩
theorem i0_202 : decode m0.2.1 202 = .ok (.bipush 29, 2) ∧ 202 + 2 = 204 ∧ (Int8.ofInt 29).toInt32 = 29 := ⟨by decide +kernel, rfl, by decide⟩
theorem i0_204 : decode m0.2.1 204 = .ok (.ldc2_w 67, 3) ∧ 204 + 3 = 207 := ⟨by decide +kernel, rfl⟩
theorem i0_207 : decode m0.2.1 207 = .ok (.lastore, 1) ∧ 207 + 1 = 208 := ⟨by decide +kernel, rfl⟩
theorem i0_208 : decode m0.2.1 208 = .ok (.dup, 1) ∧ 208 + 1 = 209 := ⟨by decide +kernel, rfl⟩
theorem i0_209 : decode m0.2.1 209 = .ok (.bipush 30, 2) ∧ 209 + 2 = 211 ∧ (Int8.ofInt 30).toInt32 = 30 := ⟨by decide +kernel, rfl, by decide⟩
theorem i0_211 : decode m0.2.1 211 = .ok (.ldc2_w 69, 3) ∧ 211 + 3 = 214 := ⟨by decide +kernel, rfl⟩
theorem i0_214 : decode m0.2.1 214 = .ok (.lastore, 1) ∧ 214 + 1 = 215 := ⟨by decide +kernel, rfl⟩
theorem i0_215 : decode m0.2.1 215 = .ok (.astore 4, 2) ∧ 215 + 2 = 217 := ⟨by decide +kernel, rfl⟩
theorem i0_217 : decode m0.2.1 217 = .ok (.bipush 31, 2) ∧ 217 + 2 = 219 ∧ (Int8.ofInt 31).toInt32 = 31 := ⟨by decide +kernel, rfl, by decide⟩
theorem i0_219 : decode m0.2.1 219 = .ok (.newarray .long, 2) ∧ 219 + 2 = 221 := ⟨by decide +kernel, rfl⟩
theorem i0_221 : decode m0.2.1 221 = .ok (.dup, 1) ∧ 221 + 1 = 222 := ⟨by decide +kernel, rfl⟩
theorem i0_222 : decode m0.2.1 222 = .ok (.iconst 0, 1) ∧ 222 + 1 = 223 ∧ Int32.ofInt 0 = 0 := ⟨by decide +kernel, rfl, by decide⟩
theorem i0_223 : decode m0.2.1 223 = .ok (.ldc2_w 71, 3) ∧ 223 + 3 = 226 := ⟨by decide +kernel, rfl⟩
theorem i0_226 : decode m0.2.1 226 = .ok (.lastore, 1) ∧ 226 + 1 = 227 := ⟨by decide +kernel, rfl⟩
theorem i0_227 : decode m0.2.1 227 = .ok (.dup, 1) ∧ 227 + 1 = 228 := ⟨by decide +kernel, rfl⟩
theorem i0_228 : decode m0.2.1 228 = .ok (.iconst 1, 1) ∧ 228 + 1 = 229 ∧ Int32.ofInt 1 = 1 := ⟨by decide +kernel, rfl, by decide⟩
theorem i0_229 : decode m0.2.1 229 = .ok (.ldc2_w 73, 3) ∧ 229 + 3 = 232 := ⟨by decide +kernel, rfl⟩
theorem i0_232 : decode m0.2.1 232 = .ok (.lastore, 1) ∧ 232 + 1 = 233 := ⟨by decide +kernel, rfl⟩
theorem i0_233 : decode m0.2.1 233 = .ok (.dup, 1) ∧ 233 + 1 = 234 := ⟨by decide +kernel, rfl⟩
theorem i0_234 : decode m0.2.1 234 = .ok (.iconst 2, 1) ∧ 234 + 1 = 235 ∧ Int32.ofInt 2 = 2 := ⟨by decide +kernel, rfl, by decide⟩
theorem i0_235 : decode m0.2.1 235 = .ok (.ldc2_w 75, 3) ∧ 235 + 3 = 238 := ⟨by decide +kernel, rfl⟩
theorem i0_238 : decode m0.2.1 238 = .ok (.lastore, 1) ∧ 238 + 1 = 239 := ⟨by decide +kernel, rfl⟩
theorem i0_239 : decode m0.2.1 239 = .ok (.dup, 1) ∧ 239 + 1 = 240 := ⟨by decide +kernel, rfl⟩
theorem i0_240 : decode m0.2.1 240 = .ok (.iconst 3, 1) ∧ 240 + 1 = 241 ∧ Int32.ofInt 3 = 3 := ⟨by decide +kernel, rfl, by decide⟩
theorem i0_241 : decode m0.2.1 241 = .ok (.ldc2_w 15, 3) ∧ 241 + 3 = 244 := ⟨by decide +kernel, rfl⟩
theorem i0_244 : decode m0.2.1 244 = .ok (.lastore, 1) ∧ 244 + 1 = 245 := ⟨by decide +kernel, rfl⟩
theorem i0_245 : decode m0.2.1 245 = .ok (.dup, 1) ∧ 245 + 1 = 246 := ⟨by decide +kernel, rfl⟩
theorem i0_246 : decode m0.2.1 246 = .ok (.iconst 4, 1) ∧ 246 + 1 = 247 ∧ Int32.ofInt 4 = 4 := ⟨by decide +kernel, rfl, by decide⟩
theorem i0_247 : decode m0.2.1 247 = .ok (.ldc2_w 17, 3) ∧ 247 + 3 = 250 := ⟨by decide +kernel, rfl⟩
theorem i0_250 : decode m0.2.1 250 = .ok (.lastore, 1) ∧ 250 + 1 = 251 := ⟨by decide +kernel, rfl⟩
theorem i0_251 : decode m0.2.1 251 = .ok (.dup, 1) ∧ 251 + 1 = 252 := ⟨by decide +kernel, rfl⟩
theorem i0_252 : decode m0.2.1 252 = .ok (.iconst 5, 1) ∧ 252 + 1 = 253 ∧ Int32.ofInt 5 = 5 := ⟨by decide +kernel, rfl, by decide⟩
theorem i0_253 : decode m0.2.1 253 = .ok (.ldc2_w 77, 3) ∧ 253 + 3 = 256 := ⟨by decide +kernel, rfl⟩
theorem i0_256 : decode m0.2.1 256 = .ok (.lastore, 1) ∧ 256 + 1 = 257 := ⟨by decide +kernel, rfl⟩
theorem i0_257 : decode m0.2.1 257 = .ok (.dup, 1) ∧ 257 + 1 = 258 := ⟨by decide +kernel, rfl⟩
theorem i0_258 : decode m0.2.1 258 = .ok (.bipush 6, 2) ∧ 258 + 2 = 260 ∧ (Int8.ofInt 6).toInt32 = 6 := ⟨by decide +kernel, rfl, by decide⟩
theorem i0_260 : decode m0.2.1 260 = .ok (.ldc2_w 79, 3) ∧ 260 + 3 = 263 := ⟨by decide +kernel, rfl⟩
theorem i0_263 : decode m0.2.1 263 = .ok (.lastore, 1) ∧ 263 + 1 = 264 := ⟨by decide +kernel, rfl⟩
theorem i0_264 : decode m0.2.1 264 = .ok (.dup, 1) ∧ 264 + 1 = 265 := ⟨by decide +kernel, rfl⟩
theorem i0_265 : decode m0.2.1 265 = .ok (.bipush 7, 2) ∧ 265 + 2 = 267 ∧ (Int8.ofInt 7).toInt32 = 7 := ⟨by decide +kernel, rfl, by decide⟩
theorem i0_267 : decode m0.2.1 267 = .ok (.ldc2_w 81, 3) ∧ 267 + 3 = 270 := ⟨by decide +kernel, rfl⟩
theorem i0_270 : decode m0.2.1 270 = .ok (.lastore, 1) ∧ 270 + 1 = 271 := ⟨by decide +kernel, rfl⟩
theorem i0_271 : decode m0.2.1 271 = .ok (.dup, 1) ∧ 271 + 1 = 272 := ⟨by decide +kernel, rfl⟩
theorem i0_272 : decode m0.2.1 272 = .ok (.bipush 8, 2) ∧ 272 + 2 = 274 ∧ (Int8.ofInt 8).toInt32 = 8 := ⟨by decide +kernel, rfl, by decide⟩
theorem i0_274 : decode m0.2.1 274 = .ok (.ldc2_w 25, 3) ∧ 274 + 3 = 277 := ⟨by decide +kernel, rfl⟩
theorem i0_277 : decode m0.2.1 277 = .ok (.lastore, 1) ∧ 277 + 1 = 278 := ⟨by decide +kernel, rfl⟩
theorem i0_278 : decode m0.2.1 278 = .ok (.dup, 1) ∧ 278 + 1 = 279 := ⟨by decide +kernel, rfl⟩
theorem i0_279 : decode m0.2.1 279 = .ok (.bipush 9, 2) ∧ 279 + 2 = 281 ∧ (Int8.ofInt 9).toInt32 = 9 := ⟨by decide +kernel, rfl, by decide⟩
theorem i0_281 : decode m0.2.1 281 = .ok (.ldc2_w 83, 3) ∧ 281 + 3 = 284 := ⟨by decide +kernel, rfl⟩
theorem i0_284 : decode m0.2.1 284 = .ok (.lastore, 1) ∧ 284 + 1 = 285 := ⟨by decide +kernel, rfl⟩
theorem i0_285 : decode m0.2.1 285 = .ok (.dup, 1) ∧ 285 + 1 = 286 := ⟨by decide +kernel, rfl⟩
theorem i0_286 : decode m0.2.1 286 = .ok (.bipush 10, 2) ∧ 286 + 2 = 288 ∧ (Int8.ofInt 10).toInt32 = 10 := ⟨by decide +kernel, rfl, by decide⟩
theorem i0_288 : decode m0.2.1 288 = .ok (.ldc2_w 29, 3) ∧ 288 + 3 = 291 := ⟨by decide +kernel, rfl⟩
theorem i0_291 : decode m0.2.1 291 = .ok (.lastore, 1) ∧ 291 + 1 = 292 := ⟨by decide +kernel, rfl⟩
theorem i0_292 : decode m0.2.1 292 = .ok (.dup, 1) ∧ 292 + 1 = 293 := ⟨by decide +kernel, rfl⟩
theorem i0_293 : decode m0.2.1 293 = .ok (.bipush 11, 2) ∧ 293 + 2 = 295 ∧ (Int8.ofInt 11).toInt32 = 11 := ⟨by decide +kernel, rfl, by decide⟩
theorem i0_295 : decode m0.2.1 295 = .ok (.ldc2_w 85, 3) ∧ 295 + 3 = 298 := ⟨by decide +kernel, rfl⟩
theorem i0_298 : decode m0.2.1 298 = .ok (.lastore, 1) ∧ 298 + 1 = 299 := ⟨by decide +kernel, rfl⟩
theorem i0_299 : decode m0.2.1 299 = .ok (.dup, 1) ∧ 299 + 1 = 300 := ⟨by decide +kernel, rfl⟩
theorem i0_300 : decode m0.2.1 300 = .ok (.bipush 12, 2) ∧ 300 + 2 = 302 ∧ (Int8.ofInt 12).toInt32 = 12 := ⟨by decide +kernel, rfl, by decide⟩
theorem i0_302 : decode m0.2.1 302 = .ok (.ldc2_w 87, 3) ∧ 302 + 3 = 305 := ⟨by decide +kernel, rfl⟩
theorem i0_305 : decode m0.2.1 305 = .ok (.lastore, 1) ∧ 305 + 1 = 306 := ⟨by decide +kernel, rfl⟩
theorem i0_306 : decode m0.2.1 306 = .ok (.dup, 1) ∧ 306 + 1 = 307 := ⟨by decide +kernel, rfl⟩
theorem i0_307 : decode m0.2.1 307 = .ok (.bipush 13, 2) ∧ 307 + 2 = 309 ∧ (Int8.ofInt 13).toInt32 = 13 := ⟨by decide +kernel, rfl, by decide⟩
theorem i0_309 : decode m0.2.1 309 = .ok (.ldc2_w 89, 3) ∧ 309 + 3 = 312 := ⟨by decide +kernel, rfl⟩
theorem i0_312 : decode m0.2.1 312 = .ok (.lastore, 1) ∧ 312 + 1 = 313 := ⟨by decide +kernel, rfl⟩
theorem i0_313 : decode m0.2.1 313 = .ok (.dup, 1) ∧ 313 + 1 = 314 := ⟨by decide +kernel, rfl⟩
theorem i0_314 : decode m0.2.1 314 = .ok (.bipush 14, 2) ∧ 314 + 2 = 316 ∧ (Int8.ofInt 14).toInt32 = 14 := ⟨by decide +kernel, rfl, by decide⟩
theorem i0_316 : decode m0.2.1 316 = .ok (.ldc2_w 37, 3) ∧ 316 + 3 = 319 := ⟨by decide +kernel, rfl⟩
theorem i0_319 : decode m0.2.1 319 = .ok (.lastore, 1) ∧ 319 + 1 = 320 := ⟨by decide +kernel, rfl⟩
theorem i0_320 : decode m0.2.1 320 = .ok (.dup, 1) ∧ 320 + 1 = 321 := ⟨by decide +kernel, rfl⟩
theorem i0_321 : decode m0.2.1 321 = .ok (.bipush 15, 2) ∧ 321 + 2 = 323 ∧ (Int8.ofInt 15).toInt32 = 15 := ⟨by decide +kernel, rfl, by decide⟩
theorem i0_323 : decode m0.2.1 323 = .ok (.ldc2_w 91, 3) ∧ 323 + 3 = 326 := ⟨by decide +kernel, rfl⟩
theorem i0_326 : decode m0.2.1 326 = .ok (.lastore, 1) ∧ 326 + 1 = 327 := ⟨by decide +kernel, rfl⟩
theorem i0_327 : decode m0.2.1 327 = .ok (.dup, 1) ∧ 327 + 1 = 328 := ⟨by decide +kernel, rfl⟩
theorem i0_328 : decode m0.2.1 328 = .ok (.bipush 16, 2) ∧ 328 + 2 = 330 ∧ (Int8.ofInt 16).toInt32 = 16 := ⟨by decide +kernel, rfl, by decide⟩
theorem i0_330 : decode m0.2.1 330 = .ok (.ldc2_w 93, 3) ∧ 330 + 3 = 333 := ⟨by decide +kernel, rfl⟩
theorem i0_333 : decode m0.2.1 333 = .ok (.lastore, 1) ∧ 333 + 1 = 334 := ⟨by decide +kernel, rfl⟩
theorem i0_334 : decode m0.2.1 334 = .ok (.dup, 1) ∧ 334 + 1 = 335 := ⟨by decide +kernel, rfl⟩
theorem i0_335 : decode m0.2.1 335 = .ok (.bipush 17, 2) ∧ 335 + 2 = 337 ∧ (Int8.ofInt 17).toInt32 = 17 := ⟨by decide +kernel, rfl, by decide⟩
theorem i0_337 : decode m0.2.1 337 = .ok (.ldc2_w 95, 3) ∧ 337 + 3 = 340 := ⟨by decide +kernel, rfl⟩
theorem i0_340 : decode m0.2.1 340 = .ok (.lastore, 1) ∧ 340 + 1 = 341 := ⟨by decide +kernel, rfl⟩
theorem i0_341 : decode m0.2.1 341 = .ok (.dup, 1) ∧ 341 + 1 = 342 := ⟨by decide +kernel, rfl⟩
theorem i0_342 : decode m0.2.1 342 = .ok (.bipush 18, 2) ∧ 342 + 2 = 344 ∧ (Int8.ofInt 18).toInt32 = 18 := ⟨by decide +kernel, rfl, by decide⟩
theorem i0_344 : decode m0.2.1 344 = .ok (.ldc2_w 97, 3) ∧ 344 + 3 = 347 := ⟨by decide +kernel, rfl⟩
theorem i0_347 : decode m0.2.1 347 = .ok (.lastore, 1) ∧ 347 + 1 = 348 := ⟨by decide +kernel, rfl⟩
theorem i0_348 : decode m0.2.1 348 = .ok (.dup, 1) ∧ 348 + 1 = 349 := ⟨by decide +kernel, rfl⟩
theorem i0_349 : decode m0.2.1 349 = .ok (.bipush 19, 2) ∧ 349 + 2 = 351 ∧ (Int8.ofInt 19).toInt32 = 19 := ⟨by decide +kernel, rfl, by decide⟩
theorem i0_351 : decode m0.2.1 351 = .ok (.ldc2_w 99, 3) ∧ 351 + 3 = 354 := ⟨by decide +kernel, rfl⟩
theorem i0_354 : decode m0.2.1 354 = .ok (.lastore, 1) ∧ 354 + 1 = 355 := ⟨by decide +kernel, rfl⟩
theorem i0_355 : decode m0.2.1 355 = .ok (.dup, 1) ∧ 355 + 1 = 356 := ⟨by decide +kernel, rfl⟩
theorem i0_356 : decode m0.2.1 356 = .ok (.bipush 20, 2) ∧ 356 + 2 = 358 ∧ (Int8.ofInt 20).toInt32 = 20 := ⟨by decide +kernel, rfl, by decide⟩
theorem i0_358 : decode m0.2.1 358 = .ok (.ldc2_w 101, 3) ∧ 358 + 3 = 361 := ⟨by decide +kernel, rfl⟩
theorem i0_361 : decode m0.2.1 361 = .ok (.lastore, 1) ∧ 361 + 1 = 362 := ⟨by decide +kernel, rfl⟩
theorem i0_362 : decode m0.2.1 362 = .ok (.dup, 1) ∧ 362 + 1 = 363 := ⟨by decide +kernel, rfl⟩
theorem i0_363 : decode m0.2.1 363 = .ok (.bipush 21, 2) ∧ 363 + 2 = 365 ∧ (Int8.ofInt 21).toInt32 = 21 := ⟨by decide +kernel, rfl, by decide⟩
theorem i0_365 : decode m0.2.1 365 = .ok (.ldc2_w 103, 3) ∧ 365 + 3 = 368 := ⟨by decide +kernel, rfl⟩
theorem i0_368 : decode m0.2.1 368 = .ok (.lastore, 1) ∧ 368 + 1 = 369 := ⟨by decide +kernel, rfl⟩
theorem i0_369 : decode m0.2.1 369 = .ok (.dup, 1) ∧ 369 + 1 = 370 := ⟨by decide +kernel, rfl⟩
theorem i0_370 : decode m0.2.1 370 = .ok (.bipush 22, 2) ∧ 370 + 2 = 372 ∧ (Int8.ofInt 22).toInt32 = 22 := ⟨by decide +kernel, rfl, by decide⟩
theorem i0_372 : decode m0.2.1 372 = .ok (.ldc2_w 105, 3) ∧ 372 + 3 = 375 := ⟨by decide +kernel, rfl⟩
theorem i0_375 : decode m0.2.1 375 = .ok (.lastore, 1) ∧ 375 + 1 = 376 := ⟨by decide +kernel, rfl⟩
theorem i0_376 : decode m0.2.1 376 = .ok (.dup, 1) ∧ 376 + 1 = 377 := ⟨by decide +kernel, rfl⟩
theorem i0_377 : decode m0.2.1 377 = .ok (.bipush 23, 2) ∧ 377 + 2 = 379 ∧ (Int8.ofInt 23).toInt32 = 23 := ⟨by decide +kernel, rfl, by decide⟩
theorem i0_379 : decode m0.2.1 379 = .ok (.ldc2_w 107, 3) ∧ 379 + 3 = 382 := ⟨by decide +kernel, rfl⟩
theorem i0_382 : decode m0.2.1 382 = .ok (.lastore, 1) ∧ 382 + 1 = 383 := ⟨by decide +kernel, rfl⟩
theorem i0_383 : decode m0.2.1 383 = .ok (.dup, 1) ∧ 383 + 1 = 384 := ⟨by decide +kernel, rfl⟩
theorem i0_384 : decode m0.2.1 384 = .ok (.bipush 24, 2) ∧ 384 + 2 = 386 ∧ (Int8.ofInt 24).toInt32 = 24 := ⟨by decide +kernel, rfl, by decide⟩
theorem i0_386 : decode m0.2.1 386 = .ok (.ldc2_w 109, 3) ∧ 386 + 3 = 389 := ⟨by decide +kernel, rfl⟩
theorem i0_389 : decode m0.2.1 389 = .ok (.lastore, 1) ∧ 389 + 1 = 390 := ⟨by decide +kernel, rfl⟩
theorem i0_390 : decode m0.2.1 390 = .ok (.dup, 1) ∧ 390 + 1 = 391 := ⟨by decide +kernel, rfl⟩
theorem i0_391 : decode m0.2.1 391 = .ok (.bipush 25, 2) ∧ 391 + 2 = 393 ∧ (Int8.ofInt 25).toInt32 = 25 := ⟨by decide +kernel, rfl, by decide⟩
theorem i0_393 : decode m0.2.1 393 = .ok (.ldc2_w 111, 3) ∧ 393 + 3 = 396 := ⟨by decide +kernel, rfl⟩
theorem i0_396 : decode m0.2.1 396 = .ok (.lastore, 1) ∧ 396 + 1 = 397 := ⟨by decide +kernel, rfl⟩
theorem i0_397 : decode m0.2.1 397 = .ok (.dup, 1) ∧ 397 + 1 = 398 := ⟨by decide +kernel, rfl⟩
theorem i0_398 : decode m0.2.1 398 = .ok (.bipush 26, 2) ∧ 398 + 2 = 400 ∧ (Int8.ofInt 26).toInt32 = 26 := ⟨by decide +kernel, rfl, by decide⟩
theorem i0_400 : decode m0.2.1 400 = .ok (.ldc2_w 113, 3) ∧ 400 + 3 = 403 := ⟨by decide +kernel, rfl⟩
theorem i0_403 : decode m0.2.1 403 = .ok (.lastore, 1) ∧ 403 + 1 = 404 := ⟨by decide +kernel, rfl⟩
theorem i0_404 : decode m0.2.1 404 = .ok (.dup, 1) ∧ 404 + 1 = 405 := ⟨by decide +kernel, rfl⟩
theorem i0_405 : decode m0.2.1 405 = .ok (.bipush 27, 2) ∧ 405 + 2 = 407 ∧ (Int8.ofInt 27).toInt32 = 27 := ⟨by decide +kernel, rfl, by decide⟩
theorem i0_407 : decode m0.2.1 407 = .ok (.ldc2_w 115, 3) ∧ 407 + 3 = 410 := ⟨by decide +kernel, rfl⟩
theorem i0_410 : decode m0.2.1 410 = .ok (.lastore, 1) ∧ 410 + 1 = 411 := ⟨by decide +kernel, rfl⟩
theorem i0_411 : decode m0.2.1 411 = .ok (.dup, 1) ∧ 411 + 1 = 412 := ⟨by decide +kernel, rfl⟩
theorem i0_412 : decode m0.2.1 412 = .ok (.bipush 28, 2) ∧ 412 + 2 = 414 ∧ (Int8.ofInt 28).toInt32 = 28 := ⟨by decide +kernel, rfl, by decide⟩
theorem i0_414 : decode m0.2.1 414 = .ok (.ldc2_w 117, 3) ∧ 414 + 3 = 417 := ⟨by decide +kernel, rfl⟩
theorem i0_417 : decode m0.2.1 417 = .ok (.lastore, 1) ∧ 417 + 1 = 418 := ⟨by decide +kernel, rfl⟩
theorem i0_418 : decode m0.2.1 418 = .ok (.dup, 1) ∧ 418 + 1 = 419 := ⟨by decide +kernel, rfl⟩
theorem i0_419 : decode m0.2.1 419 = .ok (.bipush 29, 2) ∧ 419 + 2 = 421 ∧ (Int8.ofInt 29).toInt32 = 29 := ⟨by decide +kernel, rfl, by decide⟩
theorem i0_421 : decode m0.2.1 421 = .ok (.ldc2_w 119, 3) ∧ 421 + 3 = 424 := ⟨by decide +kernel, rfl⟩
theorem i0_424 : decode m0.2.1 424 = .ok (.lastore, 1) ∧ 424 + 1 = 425 := ⟨by decide +kernel, rfl⟩
theorem i0_425 : decode m0.2.1 425 = .ok (.dup, 1) ∧ 425 + 1 = 426 := ⟨by decide +kernel, rfl⟩
theorem i0_426 : decode m0.2.1 426 = .ok (.bipush 30, 2) ∧ 426 + 2 = 428 ∧ (Int8.ofInt 30).toInt32 = 30 := ⟨by decide +kernel, rfl, by decide⟩
theorem i0_428 : decode m0.2.1 428 = .ok (.ldc2_w 121, 3) ∧ 428 + 3 = 431 := ⟨by decide +kernel, rfl⟩
theorem i0_431 : decode m0.2.1 431 = .ok (.lastore, 1) ∧ 431 + 1 = 432 := ⟨by decide +kernel, rfl⟩
theorem i0_432 : decode m0.2.1 432 = .ok (.astore 5, 2) ∧ 432 + 2 = 434 := ⟨by decide +kernel, rfl⟩
theorem i0_434 : decode m0.2.1 434 = .ok (.iload_n 0, 1) ∧ 434 + 1 = 435 := ⟨by decide +kernel, rfl⟩
theorem i0_435 : decode m0.2.1 435 = .ok (.ldc 123, 2) ∧ 435 + 2 = 437 := ⟨by decide +kernel, rfl⟩
theorem i0_437 : decode m0.2.1 437 = .ok (.iand, 1) ∧ 437 + 1 = 438 := ⟨by decide +kernel, rfl⟩
theorem i0_438 : decode m0.2.1 438 = .ok (.bipush 31, 2) ∧ 438 + 2 = 440 ∧ (Int8.ofInt 31).toInt32 = 31 := ⟨by decide +kernel, rfl, by decide⟩
theorem i0_440 : decode m0.2.1 440 = .ok (.irem, 1) ∧ 440 + 1 = 441 := ⟨by decide +kernel, rfl⟩
theorem i0_441 : decode m0.2.1 441 = .ok (.istore 6, 2) ∧ 441 + 2 = 443 := ⟨by decide +kernel, rfl⟩
theorem i0_443 : decode m0.2.1 443 = .ok (.aload 5, 2) ∧ 443 + 2 = 445 := ⟨by decide +kernel, rfl⟩
theorem i0_445 : decode m0.2.1 445 = .ok (.iload 6, 2) ∧ 445 + 2 = 447 := ⟨by decide +kernel, rfl⟩
theorem i0_447 : decode m0.2.1 447 = .ok (.laload, 1) ∧ 447 + 1 = 448 := ⟨by decide +kernel, rfl⟩
theorem i0_448 : decode m0.2.1 448 = .ok (.aload 4, 2) ∧ 448 + 2 = 450 := ⟨by decide +kernel, rfl⟩
theorem i0_450 : decode m0.2.1 450 = .ok (.iload 6, 2) ∧ 450 + 2 = 452 := ⟨by decide +kernel, rfl⟩
theorem i0_452 : decode m0.2.1 452 = .ok (.laload, 1) ∧ 452 + 1 = 453 := ⟨by decide +kernel, rfl⟩
theorem i0_453 : decode m0.2.1 453 = .ok (.lsub, 1) ∧ 453 + 1 = 454 := ⟨by decide +kernel, rfl⟩
theorem i0_454 : decode m0.2.1 454 = .ok (.lconst 1, 1) ∧ 454 + 1 = 455 ∧ Int64.ofNat ((1 : Fin 2) : Nat) = 1 := ⟨by decide +kernel, rfl, by decide⟩
theorem i0_455 : decode m0.2.1 455 = .ok (.ladd, 1) ∧ 455 + 1 = 456 := ⟨by decide +kernel, rfl⟩
theorem i0_456 : decode m0.2.1 456 = .ok (.lstore 7, 2) ∧ 456 + 2 = 458 := ⟨by decide +kernel, rfl⟩
theorem i0_458 : decode m0.2.1 458 = .ok (.iload_n 1, 1) ∧ 458 + 1 = 459 := ⟨by decide +kernel, rfl⟩
theorem i0_459 : decode m0.2.1 459 = .ok (.iconst 3, 1) ∧ 459 + 1 = 460 ∧ Int32.ofInt 3 = 3 := ⟨by decide +kernel, rfl, by decide⟩
theorem i0_460 : decode m0.2.1 460 = .ok (.iand, 1) ∧ 460 + 1 = 461 := ⟨by decide +kernel, rfl⟩
theorem i0_461 : decode m0.2.1 461 = .ok (.istore 9, 2) ∧ 461 + 2 = 463 := ⟨by decide +kernel, rfl⟩
theorem i0_463 : decode m0.2.1 463 = .ok (.iload 9, 2) ∧ 463 + 2 = 465 := ⟨by decide +kernel, rfl⟩
theorem i0_465 : decode m0.2.1 465 = .ok (.ifCond .ne 9, 3) ∧ 465 + 3 = 468 ∧ 0 ≤ ((465 : Nat) : Int) + 9 ∧ (((465 : Nat) : Int) + 9).toNat = 474 := ⟨by decide +kernel, rfl, by decide, by decide⟩
theorem i0_468 : decode m0.2.1 468 = .ok (.lconst 0, 1) ∧ 468 + 1 = 469 ∧ Int64.ofNat ((0 : Fin 2) : Nat) = 0 := ⟨by decide +kernel, rfl, by decide⟩
theorem i0_469 : decode m0.2.1 469 = .ok (.lstore 10, 2) ∧ 469 + 2 = 471 := ⟨by decide +kernel, rfl⟩
theorem i0_471 : decode m0.2.1 471 = .ok (.goto 28, 3) ∧ 471 + 3 = 474 ∧ 0 ≤ ((471 : Nat) : Int) + 28 ∧ (((471 : Nat) : Int) + 28).toNat = 499 := ⟨by decide +kernel, rfl, by decide, by decide⟩
theorem i0_474 : decode m0.2.1 474 = .ok (.iload 9, 2) ∧ 474 + 2 = 476 := ⟨by decide +kernel, rfl⟩
theorem i0_476 : decode m0.2.1 476 = .ok (.iconst 1, 1) ∧ 476 + 1 = 477 ∧ Int32.ofInt 1 = 1 := ⟨by decide +kernel, rfl, by decide⟩
theorem i0_477 : decode m0.2.1 477 = .ok (.if_icmp .ne 12, 3) ∧ 477 + 3 = 480 ∧ 0 ≤ ((477 : Nat) : Int) + 12 ∧ (((477 : Nat) : Int) + 12).toNat = 489 := ⟨by decide +kernel, rfl, by decide, by decide⟩
theorem i0_480 : decode m0.2.1 480 = .ok (.lload 7, 2) ∧ 480 + 2 = 482 := ⟨by decide +kernel, rfl⟩
theorem i0_482 : decode m0.2.1 482 = .ok (.lconst 1, 1) ∧ 482 + 1 = 483 ∧ Int64.ofNat ((1 : Fin 2) : Nat) = 1 := ⟨by decide +kernel, rfl, by decide⟩
theorem i0_483 : decode m0.2.1 483 = .ok (.lsub, 1) ∧ 483 + 1 = 484 := ⟨by decide +kernel, rfl⟩
theorem i0_484 : decode m0.2.1 484 = .ok (.lstore 10, 2) ∧ 484 + 2 = 486 := ⟨by decide +kernel, rfl⟩
theorem i0_486 : decode m0.2.1 486 = .ok (.goto 13, 3) ∧ 486 + 3 = 489 ∧ 0 ≤ ((486 : Nat) : Int) + 13 ∧ (((486 : Nat) : Int) + 13).toNat = 499 := ⟨by decide +kernel, rfl, by decide, by decide⟩
theorem i0_489 : decode m0.2.1 489 = .ok (.lload_n 2, 1) ∧ 489 + 1 = 490 := ⟨by decide +kernel, rfl⟩
theorem i0_490 : decode m0.2.1 490 = .ok (.ldc2_w 126, 3) ∧ 490 + 3 = 493 := ⟨by decide +kernel, rfl⟩
theorem i0_493 : decode m0.2.1 493 = .ok (.land, 1) ∧ 493 + 1 = 494 := ⟨by decide +kernel, rfl⟩
theorem i0_494 : decode m0.2.1 494 = .ok (.lload 7, 2) ∧ 494 + 2 = 496 := ⟨by decide +kernel, rfl⟩
theorem i0_496 : decode m0.2.1 496 = .ok (.lrem, 1) ∧ 496 + 1 = 497 := ⟨by decide +kernel, rfl⟩
theorem i0_497 : decode m0.2.1 497 = .ok (.lstore 10, 2) ∧ 497 + 2 = 499 := ⟨by decide +kernel, rfl⟩
theorem i0_499 : decode m0.2.1 499 = .ok (.aload 4, 2) ∧ 499 + 2 = 501 := ⟨by decide +kernel, rfl⟩
theorem i0_501 : decode m0.2.1 501 = .ok (.iload 6, 2) ∧ 501 + 2 = 503 := ⟨by decide +kernel, rfl⟩
theorem i0_503 : decode m0.2.1 503 = .ok (.laload, 1) ∧ 503 + 1 = 504 := ⟨by decide +kernel, rfl⟩
theorem i0_504 : decode m0.2.1 504 = .ok (.lload 10, 2) ∧ 504 + 2 = 506 := ⟨by decide +kernel, rfl⟩
theorem i0_506 : decode m0.2.1 506 = .ok (.ladd, 1) ∧ 506 + 1 = 507 := ⟨by decide +kernel, rfl⟩
theorem i0_507 : decode m0.2.1 507 = .ok (.l2i, 1) ∧ 507 + 1 = 508 := ⟨by decide +kernel, rfl⟩
theorem i0_508 : decode m0.2.1 508 = .ok (.istore 12, 2) ∧ 508 + 2 = 510 := ⟨by decide +kernel, rfl⟩
theorem i0_510 : decode m0.2.1 510 = .ok (.iload 6, 2) ∧ 510 + 2 = 512 := ⟨by decide +kernel, rfl⟩
theorem i0_512 : decode m0.2.1 512 = .ok (.iconst 1, 1) ∧ 512 + 1 = 513 ∧ Int32.ofInt 1 = 1 := ⟨by decide +kernel, rfl, by decide⟩
theorem i0_513 : decode m0.2.1 513 = .ok (.iand, 1) ∧ 513 + 1 = 514 := ⟨by decide +kernel, rfl⟩
theorem i0_514 : decode m0.2.1 514 = .ok (.iconst 1, 1) ∧ 514 + 1 = 515 ∧ Int32.ofInt 1 = 1 := ⟨by decide +kernel, rfl, by decide⟩
theorem i0_515 : decode m0.2.1 515 = .ok (.if_icmp .ne 7, 3) ∧ 515 + 3 = 518 ∧ 0 ≤ ((515 : Nat) : Int) + 7 ∧ (((515 : Nat) : Int) + 7).toNat = 522 := ⟨by decide +kernel, rfl, by decide, by decide⟩
theorem i0_518 : decode m0.2.1 518 = .ok (.iconst 1, 1) ∧ 518 + 1 = 519 ∧ Int32.ofInt 1 = 1 := ⟨by decide +kernel, rfl, by decide⟩
theorem i0_519 : decode m0.2.1 519 = .ok (.goto 4, 3) ∧ 519 + 3 = 522 ∧ 0 ≤ ((519 : Nat) : Int) + 4 ∧ (((519 : Nat) : Int) + 4).toNat = 523 := ⟨by decide +kernel, rfl, by decide, by decide⟩
theorem i0_522 : decode m0.2.1 522 = .ok (.iconst 0, 1) ∧ 522 + 1 = 523 ∧ Int32.ofInt 0 = 0 := ⟨by decide +kernel, rfl, by decide⟩
theorem i0_523 : decode m0.2.1 523 = .ok (.istore 13, 2) ∧ 523 + 2 = 525 := ⟨by decide +kernel, rfl⟩
theorem i0_525 : decode m0.2.1 525 = .ok (.iload 12, 2) ∧ 525 + 2 = 527 := ⟨by decide +kernel, rfl⟩
theorem i0_527 : decode m0.2.1 527 = .ok (.invokestatic 128, 3) ∧ 527 + 3 = 530 := ⟨by decide +kernel, rfl⟩
theorem i0_530 : decode m0.2.1 530 = .ok (.iload 13, 2) ∧ 530 + 2 = 532 := ⟨by decide +kernel, rfl⟩
theorem i0_532 : decode m0.2.1 532 = .ok (.if_icmp .ne 7, 3) ∧ 532 + 3 = 535 ∧ 0 ≤ ((532 : Nat) : Int) + 7 ∧ (((532 : Nat) : Int) + 7).toNat = 539 := ⟨by decide +kernel, rfl, by decide, by decide⟩
theorem i0_535 : decode m0.2.1 535 = .ok (.iconst 1, 1) ∧ 535 + 1 = 536 ∧ Int32.ofInt 1 = 1 := ⟨by decide +kernel, rfl, by decide⟩
theorem i0_536 : decode m0.2.1 536 = .ok (.goto 4, 3) ∧ 536 + 3 = 539 ∧ 0 ≤ ((536 : Nat) : Int) + 4 ∧ (((536 : Nat) : Int) + 4).toNat = 540 := ⟨by decide +kernel, rfl, by decide, by decide⟩
theorem i0_539 : decode m0.2.1 539 = .ok (.iconst 0, 1) ∧ 539 + 1 = 540 ∧ Int32.ofInt 0 = 0 := ⟨by decide +kernel, rfl, by decide⟩
theorem i0_540 : decode m0.2.1 540 = .ok (.ireturn, 1) := by decide +kernel
theorem i1_0 : decode m1.2.1 0 = .ok (.iload_n 0, 1) ∧ 0 + 1 = 1 := ⟨by decide +kernel, rfl⟩
theorem i1_1 : decode m1.2.1 1 = .ok (.bipush 65, 2) ∧ 1 + 2 = 3 ∧ (Int8.ofInt 65).toInt32 = 65 := ⟨by decide +kernel, rfl, by decide⟩
theorem i1_3 : decode m1.2.1 3 = .ok (.if_icmp .lt 9, 3) ∧ 3 + 3 = 6 ∧ 0 ≤ ((3 : Nat) : Int) + 9 ∧ (((3 : Nat) : Int) + 9).toNat = 12 := ⟨by decide +kernel, rfl, by decide, by decide⟩
theorem i1_6 : decode m1.2.1 6 = .ok (.iload_n 0, 1) ∧ 6 + 1 = 7 := ⟨by decide +kernel, rfl⟩
theorem i1_7 : decode m1.2.1 7 = .ok (.bipush 90, 2) ∧ 7 + 2 = 9 ∧ (Int8.ofInt 90).toInt32 = 90 := ⟨by decide +kernel, rfl, by decide⟩
theorem i1_9 : decode m1.2.1 9 = .ok (.if_icmp .le 182, 3) ∧ 9 + 3 = 12 ∧ 0 ≤ ((9 : Nat) : Int) + 182 ∧ (((9 : Nat) : Int) + 182).toNat = 191 := ⟨by decide +kernel, rfl, by decide, by decide⟩
theorem i1_12 : decode m1.2.1 12 = .ok (.iload_n 0, 1) ∧ 12 + 1 = 13 := ⟨by decide +kernel, rfl⟩
theorem i1_13 : decode m1.2.1 13 = .ok (.bipush 97, 2) ∧ 13 + 2 = 15 ∧ (Int8.ofInt 97).toInt32 = 97 := ⟨by decide +kernel, rfl, by decide⟩
theorem i1_15 : decode m1.2.1 15 = .ok (.if_icmp .lt 9, 3) ∧ 15 + 3 = 18 ∧ 0 ≤ ((15 : Nat) : Int) + 9 ∧ (((15 : Nat) : Int) + 9).toNat = 24 := ⟨by decide +kernel, rfl, by decide, by decide⟩
theorem i1_18 : decode m1.2.1 18 = .ok (.iload_n 0, 1) ∧ 18 + 1 = 19 := ⟨by decide +kernel, rfl⟩
theorem i1_19 : decode m1.2.1 19 = .ok (.bipush 122, 2) ∧ 19 + 2 = 21 ∧ (Int8.ofInt 122).toInt32 = 122 := ⟨by decide +kernel, rfl, by decide⟩
theorem i1_21 : decode m1.2.1 21 = .ok (.if_icmp .le 170, 3) ∧ 21 + 3 = 24 ∧ 0 ≤ ((21 : Nat) : Int) + 170 ∧ (((21 : Nat) : Int) + 170).toNat = 191 := ⟨by decide +kernel, rfl, by decide, by decide⟩
theorem i1_24 : decode m1.2.1 24 = .ok (.iload_n 0, 1) ∧ 24 + 1 = 25 := ⟨by decide +kernel, rfl⟩
theorem i1_25 : decode m1.2.1 25 = .ok (.bipush 95, 2) ∧ 25 + 2 = 27 ∧ (Int8.ofInt 95).toInt32 = 95 := ⟨by decide +kernel, rfl, by decide⟩
theorem i1_27 : decode m1.2.1 27 = .ok (.if_icmp .eq 164, 3) ∧ 27 + 3 = 30 ∧ 0 ≤ ((27 : Nat) : Int) + 164 ∧ (((27 : Nat) : Int) + 164).toNat = 191 := ⟨by decide +kernel, rfl, by decide, by decide⟩
theorem i1_30 : decode m1.2.1 30 = .ok (.iload_n 0, 1) ∧ 30 + 1 = 31 := ⟨by decide +kernel, rfl⟩
theorem i1_31 : decode m1.2.1 31 = .ok (.sipush 192, 3) ∧ 31 + 3 = 34 ∧ (Int16.ofInt 192).toInt32 = 192 := ⟨by decide +kernel, rfl, by decide⟩
theorem i1_34 : decode m1.2.1 34 = .ok (.if_icmp .lt 10, 3) ∧ 34 + 3 = 37 ∧ 0 ≤ ((34 : Nat) : Int) + 10 ∧ (((34 : Nat) : Int) + 10).toNat = 44 := ⟨by decide +kernel, rfl, by decide, by decide⟩
theorem i1_37 : decode m1.2.1 37 = .ok (.iload_n 0, 1) ∧ 37 + 1 = 38 := ⟨by decide +kernel, rfl⟩
theorem i1_38 : decode m1.2.1 38 = .ok (.sipush 214, 3) ∧ 38 + 3 = 41 ∧ (Int16.ofInt 214).toInt32 = 214 := ⟨by decide +kernel, rfl, by decide⟩
theorem i1_41 : decode m1.2.1 41 = .ok (.if_icmp .le 150, 3) ∧ 41 + 3 = 44 ∧ 0 ≤ ((41 : Nat) : Int) + 150 ∧ (((41 : Nat) : Int) + 150).toNat = 191 := ⟨by decide +kernel, rfl, by decide, by decide⟩
theorem i1_44 : decode m1.2.1 44 = .ok (.iload_n 0, 1) ∧ 44 + 1 = 45 := ⟨by decide +kernel, rfl⟩
theorem i1_45 : decode m1.2.1 45 = .ok (.sipush 216, 3) ∧ 45 + 3 = 48 ∧ (Int16.ofInt 216).toInt32 = 216 := ⟨by decide +kernel, rfl, by decide⟩
theorem i1_48 : decode m1.2.1 48 = .ok (.if_icmp .lt 10, 3) ∧ 48 + 3 = 51 ∧ 0 ≤ ((48 : Nat) : Int) + 10 ∧ (((48 : Nat) : Int) + 10).toNat = 58 := ⟨by decide +kernel, rfl, by decide, by decide⟩
theorem i1_51 : decode m1.2.1 51 = .ok (.iload_n 0, 1) ∧ 51 + 1 = 52 := ⟨by decide +kernel, rfl⟩
theorem i1_52 : decode m1.2.1 52 = .ok (.sipush 246, 3) ∧ 52 + 3 = 55 ∧ (Int16.ofInt 246).toInt32 = 246 := ⟨by decide +kernel, rfl, by decide⟩
theorem i1_55 : decode m1.2.1 55 = .ok (.if_icmp .le 136, 3) ∧ 55 + 3 = 58 ∧ 0 ≤ ((55 : Nat) : Int) + 136 ∧ (((55 : Nat) : Int) + 136).toNat = 191 := ⟨by decide +kernel, rfl, by decide, by decide⟩
theorem i1_58 : decode m1.2.1 58 = .ok (.iload_n 0, 1) ∧ 58 + 1 = 59 := ⟨by decide +kernel, rfl⟩
theorem i1_59 : decode m1.2.1 59 = .ok (.sipush 248, 3) ∧ 59 + 3 = 62 ∧ (Int16.ofInt 248).toInt32 = 248 := ⟨by decide +kernel, rfl, by decide⟩
theorem i1_62 : decode m1.2.1 62 = .ok (.if_icmp .lt 10, 3) ∧ 62 + 3 = 65 ∧ 0 ≤ ((62 : Nat) : Int) + 10 ∧ (((62 : Nat) : Int) + 10).toNat = 72 := ⟨by decide +kernel, rfl, by decide, by decide⟩
theorem i1_65 : decode m1.2.1 65 = .ok (.iload_n 0, 1) ∧ 65 + 1 = 66 := ⟨by decide +kernel, rfl⟩
theorem i1_66 : decode m1.2.1 66 = .ok (.sipush 767, 3) ∧ 66 + 3 = 69 ∧ (Int16.ofInt 767).toInt32 = 767 := ⟨by decide +kernel, rfl, by decide⟩
theorem i1_69 : decode m1.2.1 69 = .ok (.if_icmp .le 122, 3) ∧ 69 + 3 = 72 ∧ 0 ≤ ((69 : Nat) : Int) + 122 ∧ (((69 : Nat) : Int) + 122).toNat = 191 := ⟨by decide +kernel, rfl, by decide, by decide⟩
theorem i1_72 : decode m1.2.1 72 = .ok (.iload_n 0, 1) ∧ 72 + 1 = 73 := ⟨by decide +kernel, rfl⟩
theorem i1_73 : decode m1.2.1 73 = .ok (.sipush 880, 3) ∧ 73 + 3 = 76 ∧ (Int16.ofInt 880).toInt32 = 880 := ⟨by decide +kernel, rfl, by decide⟩
theorem i1_76 : decode m1.2.1 76 = .ok (.if_icmp .lt 10, 3) ∧ 76 + 3 = 79 ∧ 0 ≤ ((76 : Nat) : Int) + 10 ∧ (((76 : Nat) : Int) + 10).toNat = 86 := ⟨by decide +kernel, rfl, by decide, by decide⟩
theorem i1_79 : decode m1.2.1 79 = .ok (.iload_n 0, 1) ∧ 79 + 1 = 80 := ⟨by decide +kernel, rfl⟩
theorem i1_80 : decode m1.2.1 80 = .ok (.sipush 893, 3) ∧ 80 + 3 = 83 ∧ (Int16.ofInt 893).toInt32 = 893 := ⟨by decide +kernel, rfl, by decide⟩
theorem i1_83 : decode m1.2.1 83 = .ok (.if_icmp .le 108, 3) ∧ 83 + 3 = 86 ∧ 0 ≤ ((83 : Nat) : Int) + 108 ∧ (((83 : Nat) : Int) + 108).toNat = 191 := ⟨by decide +kernel, rfl, by decide, by decide⟩
theorem i1_86 : decode m1.2.1 86 = .ok (.iload_n 0, 1) ∧ 86 + 1 = 87 := ⟨by decide +kernel, rfl⟩
theorem i1_87 : decode m1.2.1 87 = .ok (.sipush 895, 3) ∧ 87 + 3 = 90 ∧ (Int16.ofInt 895).toInt32 = 895 := ⟨by decide +kernel, rfl, by decide⟩
theorem i1_90 : decode m1.2.1 90 = .ok (.if_icmp .lt 10, 3) ∧ 90 + 3 = 93 ∧ 0 ≤ ((90 : Nat) : Int) + 10 ∧ (((90 : Nat) : Int) + 10).toNat = 100 := ⟨by decide +kernel, rfl, by decide, by decide⟩
theorem i1_93 : decode m1.2.1 93 = .ok (.iload_n 0, 1) ∧ 93 + 1 = 94 := ⟨by decide +kernel, rfl⟩
theorem i1_94 : decode m1.2.1 94 = .ok (.sipush 8191, 3) ∧ 94 + 3 = 97 ∧ (Int16.ofInt 8191).toInt32 = 8191 := ⟨by decide +kernel, rfl, by decide⟩
theorem i1_97 : decode m1.2.1 97 = .ok (.if_icmp .le 94, 3) ∧ 97 + 3 = 100 ∧ 0 ≤ ((97 : Nat) : Int) + 94 ∧ (((97 : Nat) : Int) + 94).toNat = 191 := ⟨by decide +kernel, rfl, by decide, by decide⟩
theorem i1_100 : decode m1.2.1 100 = .ok (.iload_n 0, 1) ∧ 100 + 1 = 101 := ⟨by decide +kernel, rfl⟩
theorem i1_101 : decode m1.2.1 101 = .ok (.sipush 8204, 3) ∧ 101 + 3 = 104 ∧ (Int16.ofInt 8204).toInt32 = 8204 := ⟨by decide +kernel, rfl, by decide⟩
theorem i1_104 : decode m1.2.1 104 = .ok (.if_icmp .lt 10, 3) ∧ 104 + 3 = 107 ∧ 0 ≤ ((104 : Nat) : Int) + 10 ∧ (((104 : Nat) : Int) + 10).toNat = 114 := ⟨by decide +kernel, rfl, by decide, by decide⟩
theorem i1_107 : decode m1.2.1 107 = .ok (.iload_n 0, 1) ∧ 107 + 1 = 108 := ⟨by decide +kernel, rfl⟩
theorem i1_108 : decode m1.2.1 108 = .ok (.sipush 8205, 3) ∧ 108 + 3 = 111 ∧ (Int16.ofInt 8205).toInt32 = 8205 := ⟨by decide +kernel, rfl, by decide⟩
theorem i1_111 : decode m1.2.1 111 = .ok (.if_icmp .le 80, 3) ∧ 111 + 3 = 114 ∧ 0 ≤ ((111 : Nat) : Int) + 80 ∧ (((111 : Nat) : Int) + 80).toNat = 191 := ⟨by decide +kernel, rfl, by decide, by decide⟩
theorem i1_114 : decode m1.2.1 114 = .ok (.iload_n 0, 1) ∧ 114 + 1 = 115 := ⟨by decide +kernel, rfl⟩
theorem i1_115 : decode m1.2.1 115 = .ok (.sipush 8304, 3) ∧ 115 + 3 = 118 ∧ (Int16.ofInt 8304).toInt32 = 8304 := ⟨by decide +kernel, rfl, by decide⟩
theorem i1_118 : decode m1.2.1 118 = .ok (.if_icmp .lt 10, 3) ∧ 118 + 3 = 121 ∧ 0 ≤ ((118 : Nat) : Int) + 10 ∧ (((118 : Nat) : Int) + 10).toNat = 128 := ⟨by decide +kernel, rfl, by decide, by decide⟩
theorem i1_121 : decode m1.2.1 121 = .ok (.iload_n 0, 1) ∧ 121 + 1 = 122 := ⟨by decide +kernel, rfl⟩
theorem i1_122 : decode m1.2.1 122 = .ok (.sipush 8591, 3) ∧ 122 + 3 = 125 ∧ (Int16.ofInt 8591).toInt32 = 8591 := ⟨by decide +kernel, rfl, by decide⟩
theorem i1_125 : decode m1.2.1 125 = .ok (.if_icmp .le 66, 3) ∧ 125 + 3 = 128 ∧ 0 ≤ ((125 : Nat) : Int) + 66 ∧ (((125 : Nat) : Int) + 66).toNat = 191 := ⟨by decide +kernel, rfl, by decide, by decide⟩
theorem i1_128 : decode m1.2.1 128 = .ok (.iload_n 0, 1) ∧ 128 + 1 = 129 := ⟨by decide +kernel, rfl⟩
theorem i1_129 : decode m1.2.1 129 = .ok (.sipush 11264, 3) ∧ 129 + 3 = 132 ∧ (Int16.ofInt 11264).toInt32 = 11264 := ⟨by decide +kernel, rfl, by decide⟩
theorem i1_132 : decode m1.2.1 132 = .ok (.if_icmp .lt 10, 3) ∧ 132 + 3 = 135 ∧ 0 ≤ ((132 : Nat) : Int) + 10 ∧ (((132 : Nat) : Int) + 10).toNat = 142 := ⟨by decide +kernel, rfl, by decide, by decide⟩
theorem i1_135 : decode m1.2.1 135 = .ok (.iload_n 0, 1) ∧ 135 + 1 = 136 := ⟨by decide +kernel, rfl⟩
theorem i1_136 : decode m1.2.1 136 = .ok (.sipush 12271, 3) ∧ 136 + 3 = 139 ∧ (Int16.ofInt 12271).toInt32 = 12271 := ⟨by decide +kernel, rfl, by decide⟩
theorem i1_139 : decode m1.2.1 139 = .ok (.if_icmp .le 52, 3) ∧ 139 + 3 = 142 ∧ 0 ≤ ((139 : Nat) : Int) + 52 ∧ (((139 : Nat) : Int) + 52).toNat = 191 := ⟨by decide +kernel, rfl, by decide, by decide⟩
theorem i1_142 : decode m1.2.1 142 = .ok (.iload_n 0, 1) ∧ 142 + 1 = 143 := ⟨by decide +kernel, rfl⟩
theorem i1_143 : decode m1.2.1 143 = .ok (.sipush 12289, 3) ∧ 143 + 3 = 146 ∧ (Int16.ofInt 12289).toInt32 = 12289 := ⟨by decide +kernel, rfl, by decide⟩
theorem i1_146 : decode m1.2.1 146 = .ok (.if_icmp .lt 9, 3) ∧ 146 + 3 = 149 ∧ 0 ≤ ((146 : Nat) : Int) + 9 ∧ (((146 : Nat) : Int) + 9).toNat = 155 := ⟨by decide +kernel, rfl, by decide, by decide⟩
theorem i1_149 : decode m1.2.1 149 = .ok (.iload_n 0, 1) ∧ 149 + 1 = 150 := ⟨by decide +kernel, rfl⟩
theorem i1_150 : decode m1.2.1 150 = .ok (.ldc 177, 2) ∧ 150 + 2 = 152 := ⟨by decide +kernel, rfl⟩
theorem i1_152 : decode m1.2.1 152 = .ok (.if_icmp .le 39, 3) ∧ 152 + 3 = 155 ∧ 0 ≤ ((152 : Nat) : Int) + 39 ∧ (((152 : Nat) : Int) + 39).toNat = 191 := ⟨by decide +kernel, rfl, by decide, by decide⟩
theorem i1_155 : decode m1.2.1 155 = .ok (.iload_n 0, 1) ∧ 155 + 1 = 156 := ⟨by decide +kernel, rfl⟩
theorem i1_156 : decode m1.2.1 156 = .ok (.ldc 178, 2) ∧ 156 + 2 = 158 := ⟨by decide +kernel, rfl⟩
theorem i1_158 : decode m1.2.1 158 = .ok (.if_icmp .lt 9, 3) ∧ 158 + 3 = 161 ∧ 0 ≤ ((158 : Nat) : Int) + 9 ∧ (((158 : Nat) : Int) + 9).toNat = 167 := ⟨by decide +kernel, rfl, by decide, by decide⟩
theorem i1_161 : decode m1.2.1 161 = .ok (.iload_n 0, 1) ∧ 161 + 1 = 162 := ⟨by decide +kernel, rfl⟩
theorem i1_162 : decode m1.2.1 162 = .ok (.ldc 179, 2) ∧ 162 + 2 = 164 := ⟨by decide +kernel, rfl⟩
theorem i1_164 : decode m1.2.1 164 = .ok (.if_icmp .le 27, 3) ∧ 164 + 3 = 167 ∧ 0 ≤ ((164 : Nat) : Int) + 27 ∧ (((164 : Nat) : Int) + 27).toNat = 191 := ⟨by decide +kernel, rfl, by decide, by decide⟩
theorem i1_167 : decode m1.2.1 167 = .ok (.iload_n 0, 1) ∧ 167 + 1 = 168 := ⟨by decide +kernel, rfl⟩
theorem i1_168 : decode m1.2.1 168 = .ok (.ldc 180, 2) ∧ 168 + 2 = 170 := ⟨by decide +kernel, rfl⟩
theorem i1_170 : decode m1.2.1 170 = .ok (.if_icmp .lt 9, 3) ∧ 170 + 3 = 173 ∧ 0 ≤ ((170 : Nat) : Int) + 9 ∧ (((170 : Nat) : Int) + 9).toNat = 179 := ⟨by decide +kernel, rfl, by decide, by decide⟩
theorem i1_173 : decode m1.2.1 173 = .ok (.iload_n 0, 1) ∧ 173 + 1 = 174 := ⟨by decide +kernel, rfl⟩
theorem i1_174 : decode m1.2.1 174 = .ok (.ldc 181, 2) ∧ 174 + 2 = 176 := ⟨by decide +kernel, rfl⟩
theorem i1_176 : decode m1.2.1 176 = .ok (.if_icmp .le 15, 3) ∧ 176 + 3 = 179 ∧ 0 ≤ ((176 : Nat) : Int) + 15 ∧ (((176 : Nat) : Int) + 15).toNat = 191 := ⟨by decide +kernel, rfl, by decide, by decide⟩
theorem i1_179 : decode m1.2.1 179 = .ok (.iload_n 0, 1) ∧ 179 + 1 = 180 := ⟨by decide +kernel, rfl⟩
theorem i1_180 : decode m1.2.1 180 = .ok (.ldc 182, 2) ∧ 180 + 2 = 182 := ⟨by decide +kernel, rfl⟩
theorem i1_182 : decode m1.2.1 182 = .ok (.if_icmp .lt 13, 3) ∧ 182 + 3 = 185 ∧ 0 ≤ ((182 : Nat) : Int) + 13 ∧ (((182 : Nat) : Int) + 13).toNat = 195 := ⟨by decide +kernel, rfl, by decide, by decide⟩
theorem i1_185 : decode m1.2.1 185 = .ok (.iload_n 0, 1) ∧ 185 + 1 = 186 := ⟨by decide +kernel, rfl⟩
theorem i1_186 : decode m1.2.1 186 = .ok (.ldc 183, 2) ∧ 186 + 2 = 188 := ⟨by decide +kernel, rfl⟩
theorem i1_188 : decode m1.2.1 188 = .ok (.if_icmp .gt 7, 3) ∧ 188 + 3 = 191 ∧ 0 ≤ ((188 : Nat) : Int) + 7 ∧ (((188 : Nat) : Int) + 7).toNat = 195 := ⟨by decide +kernel, rfl, by decide, by decide⟩
theorem i1_191 : decode m1.2.1 191 = .ok (.iconst 1, 1) ∧ 191 + 1 = 192 ∧ Int32.ofInt 1 = 1 := ⟨by decide +kernel, rfl, by decide⟩
theorem i1_192 : decode m1.2.1 192 = .ok (.goto 4, 3) ∧ 192 + 3 = 195 ∧ 0 ≤ ((192 : Nat) : Int) + 4 ∧ (((192 : Nat) : Int) + 4).toNat = 196 := ⟨by decide +kernel, rfl, by decide, by decide⟩
theorem i1_195 : decode m1.2.1 195 = .ok (.iconst 0, 1) ∧ 195 + 1 = 196 ∧ Int32.ofInt 0 = 0 := ⟨by decide +kernel, rfl, by decide⟩
theorem i1_196 : decode m1.2.1 196 = .ok (.ireturn, 1) := by decide +kernel
theorem s0_2 {l : Launch} {Z : State} {a0 : Array Value} {n0 : Nat} {ls : List Slot} {st : List Value} {H H' H1 : List Ob} {v : Option Value} (hw : HW Z a0) {a : Nat} {n : Int32} {o : List Value} (hn : ¬ n < 0) (h8 : n.toNatClampNeg * 8 ≤ 536870912) (ho : List.replicate n.toNatClampNeg (.long 0) = o) (ha : H.length = a) (hH : H ++ [.inr (.long, o)] = H1) (kk : Runs K l Z n0 m0 4 ls (.ref a :: st) H1 v H') : Runs K l Z n0 m0 2 ls (.int n :: st) H v H' := r_newA i0_2 (hw _ (List.mem_of_getElem? (i := 0) rfl)) hn h8 ho ha hH kk
theorem s0_6 {l : Launch} {Z : State} {a0 : Array Value} {n0 : Nat} {ls : List Slot} {st : List Value} {H H' : List Ob} {v : Option Value} (hw : HW Z a0) (kk : Runs K l Z n0 m0 9 ls (.long (-2147483648) :: st) H v H') : Runs K l Z n0 m0 6 ls st H v H' := r_ldc2 i0_6 (hw _ (List.mem_of_getElem? (i := 1) rfl)) kk
theorem s0_12 {l : Launch} {Z : State} {a0 : Array Value} {n0 : Nat} {ls : List Slot} {st : List Value} {H H' : List Ob} {v : Option Value} (hw : HW Z a0) (kk : Runs K l Z n0 m0 15 ls (.long 65 :: st) H v H') : Runs K l Z n0 m0 12 ls st H v H' := r_ldc2 i0_12 (hw _ (List.mem_of_getElem? (i := 2) rfl)) kk
theorem s0_18 {l : Launch} {Z : State} {a0 : Array Value} {n0 : Nat} {ls : List Slot} {st : List Value} {H H' : List Ob} {v : Option Value} (hw : HW Z a0) (kk : Runs K l Z n0 m0 21 ls (.long 91 :: st) H v H') : Runs K l Z n0 m0 18 ls st H v H' := r_ldc2 i0_18 (hw _ (List.mem_of_getElem? (i := 3) rfl)) kk
theorem s0_24 {l : Launch} {Z : State} {a0 : Array Value} {n0 : Nat} {ls : List Slot} {st : List Value} {H H' : List Ob} {v : Option Value} (hw : HW Z a0) (kk : Runs K l Z n0 m0 27 ls (.long 95 :: st) H v H') : Runs K l Z n0 m0 24 ls st H v H' := r_ldc2 i0_24 (hw _ (List.mem_of_getElem? (i := 4) rfl)) kk
theorem s0_30 {l : Launch} {Z : State} {a0 : Array Value} {n0 : Nat} {ls : List Slot} {st : List Value} {H H' : List Ob} {v : Option Value} (hw : HW Z a0) (kk : Runs K l Z n0 m0 33 ls (.long 96 :: st) H v H') : Runs K l Z n0 m0 30 ls st H v H' := r_ldc2 i0_30 (hw _ (List.mem_of_getElem? (i := 5) rfl)) kk
theorem s0_36 {l : Launch} {Z : State} {a0 : Array Value} {n0 : Nat} {ls : List Slot} {st : List Value} {H H' : List Ob} {v : Option Value} (hw : HW Z a0) (kk : Runs K l Z n0 m0 39 ls (.long 97 :: st) H v H') : Runs K l Z n0 m0 36 ls st H v H' := r_ldc2 i0_36 (hw _ (List.mem_of_getElem? (i := 6) rfl)) kk
theorem s0_43 {l : Launch} {Z : State} {a0 : Array Value} {n0 : Nat} {ls : List Slot} {st : List Value} {H H' : List Ob} {v : Option Value} (hw : HW Z a0) (kk : Runs K l Z n0 m0 46 ls (.long 123 :: st) H v H') : Runs K l Z n0 m0 43 ls st H v H' := r_ldc2 i0_43 (hw _ (List.mem_of_getElem? (i := 7) rfl)) kk
theorem s0_50 {l : Launch} {Z : State} {a0 : Array Value} {n0 : Nat} {ls : List Slot} {st : List Value} {H H' : List Ob} {v : Option Value} (hw : HW Z a0) (kk : Runs K l Z n0 m0 53 ls (.long 192 :: st) H v H') : Runs K l Z n0 m0 50 ls st H v H' := r_ldc2 i0_50 (hw _ (List.mem_of_getElem? (i := 8) rfl)) kk
theorem s0_57 {l : Launch} {Z : State} {a0 : Array Value} {n0 : Nat} {ls : List Slot} {st : List Value} {H H' : List Ob} {v : Option Value} (hw : HW Z a0) (kk : Runs K l Z n0 m0 60 ls (.long 215 :: st) H v H') : Runs K l Z n0 m0 57 ls st H v H' := r_ldc2 i0_57 (hw _ (List.mem_of_getElem? (i := 9) rfl)) kk
theorem s0_64 {l : Launch} {Z : State} {a0 : Array Value} {n0 : Nat} {ls : List Slot} {st : List Value} {H H' : List Ob} {v : Option Value} (hw : HW Z a0) (kk : Runs K l Z n0 m0 67 ls (.long 216 :: st) H v H') : Runs K l Z n0 m0 64 ls st H v H' := r_ldc2 i0_64 (hw _ (List.mem_of_getElem? (i := 10) rfl)) kk
theorem s0_71 {l : Launch} {Z : State} {a0 : Array Value} {n0 : Nat} {ls : List Slot} {st : List Value} {H H' : List Ob} {v : Option Value} (hw : HW Z a0) (kk : Runs K l Z n0 m0 74 ls (.long 247 :: st) H v H') : Runs K l Z n0 m0 71 ls st H v H' := r_ldc2 i0_71 (hw _ (List.mem_of_getElem? (i := 11) rfl)) kk
theorem s0_78 {l : Launch} {Z : State} {a0 : Array Value} {n0 : Nat} {ls : List Slot} {st : List Value} {H H' : List Ob} {v : Option Value} (hw : HW Z a0) (kk : Runs K l Z n0 m0 81 ls (.long 248 :: st) H v H') : Runs K l Z n0 m0 78 ls st H v H' := r_ldc2 i0_78 (hw _ (List.mem_of_getElem? (i := 12) rfl)) kk
theorem s0_85 {l : Launch} {Z : State} {a0 : Array Value} {n0 : Nat} {ls : List Slot} {st : List Value} {H H' : List Ob} {v : Option Value} (hw : HW Z a0) (kk : Runs K l Z n0 m0 88 ls (.long 768 :: st) H v H') : Runs K l Z n0 m0 85 ls st H v H' := r_ldc2 i0_85 (hw _ (List.mem_of_getElem? (i := 13) rfl)) kk
theorem s0_92 {l : Launch} {Z : State} {a0 : Array Value} {n0 : Nat} {ls : List Slot} {st : List Value} {H H' : List Ob} {v : Option Value} (hw : HW Z a0) (kk : Runs K l Z n0 m0 95 ls (.long 880 :: st) H v H') : Runs K l Z n0 m0 92 ls st H v H' := r_ldc2 i0_92 (hw _ (List.mem_of_getElem? (i := 14) rfl)) kk
theorem s0_99 {l : Launch} {Z : State} {a0 : Array Value} {n0 : Nat} {ls : List Slot} {st : List Value} {H H' : List Ob} {v : Option Value} (hw : HW Z a0) (kk : Runs K l Z n0 m0 102 ls (.long 894 :: st) H v H') : Runs K l Z n0 m0 99 ls st H v H' := r_ldc2 i0_99 (hw _ (List.mem_of_getElem? (i := 15) rfl)) kk
theorem s0_106 {l : Launch} {Z : State} {a0 : Array Value} {n0 : Nat} {ls : List Slot} {st : List Value} {H H' : List Ob} {v : Option Value} (hw : HW Z a0) (kk : Runs K l Z n0 m0 109 ls (.long 895 :: st) H v H') : Runs K l Z n0 m0 106 ls st H v H' := r_ldc2 i0_106 (hw _ (List.mem_of_getElem? (i := 16) rfl)) kk
theorem s0_113 {l : Launch} {Z : State} {a0 : Array Value} {n0 : Nat} {ls : List Slot} {st : List Value} {H H' : List Ob} {v : Option Value} (hw : HW Z a0) (kk : Runs K l Z n0 m0 116 ls (.long 8192 :: st) H v H') : Runs K l Z n0 m0 113 ls st H v H' := r_ldc2 i0_113 (hw _ (List.mem_of_getElem? (i := 17) rfl)) kk
theorem s0_120 {l : Launch} {Z : State} {a0 : Array Value} {n0 : Nat} {ls : List Slot} {st : List Value} {H H' : List Ob} {v : Option Value} (hw : HW Z a0) (kk : Runs K l Z n0 m0 123 ls (.long 8204 :: st) H v H') : Runs K l Z n0 m0 120 ls st H v H' := r_ldc2 i0_120 (hw _ (List.mem_of_getElem? (i := 18) rfl)) kk
theorem s0_127 {l : Launch} {Z : State} {a0 : Array Value} {n0 : Nat} {ls : List Slot} {st : List Value} {H H' : List Ob} {v : Option Value} (hw : HW Z a0) (kk : Runs K l Z n0 m0 130 ls (.long 8206 :: st) H v H') : Runs K l Z n0 m0 127 ls st H v H' := r_ldc2 i0_127 (hw _ (List.mem_of_getElem? (i := 19) rfl)) kk
theorem s0_134 {l : Launch} {Z : State} {a0 : Array Value} {n0 : Nat} {ls : List Slot} {st : List Value} {H H' : List Ob} {v : Option Value} (hw : HW Z a0) (kk : Runs K l Z n0 m0 137 ls (.long 8304 :: st) H v H') : Runs K l Z n0 m0 134 ls st H v H' := r_ldc2 i0_134 (hw _ (List.mem_of_getElem? (i := 20) rfl)) kk
theorem s0_141 {l : Launch} {Z : State} {a0 : Array Value} {n0 : Nat} {ls : List Slot} {st : List Value} {H H' : List Ob} {v : Option Value} (hw : HW Z a0) (kk : Runs K l Z n0 m0 144 ls (.long 8592 :: st) H v H') : Runs K l Z n0 m0 141 ls st H v H' := r_ldc2 i0_141 (hw _ (List.mem_of_getElem? (i := 21) rfl)) kk
theorem s0_148 {l : Launch} {Z : State} {a0 : Array Value} {n0 : Nat} {ls : List Slot} {st : List Value} {H H' : List Ob} {v : Option Value} (hw : HW Z a0) (kk : Runs K l Z n0 m0 151 ls (.long 11264 :: st) H v H') : Runs K l Z n0 m0 148 ls st H v H' := r_ldc2 i0_148 (hw _ (List.mem_of_getElem? (i := 22) rfl)) kk
theorem s0_155 {l : Launch} {Z : State} {a0 : Array Value} {n0 : Nat} {ls : List Slot} {st : List Value} {H H' : List Ob} {v : Option Value} (hw : HW Z a0) (kk : Runs K l Z n0 m0 158 ls (.long 12272 :: st) H v H') : Runs K l Z n0 m0 155 ls st H v H' := r_ldc2 i0_155 (hw _ (List.mem_of_getElem? (i := 23) rfl)) kk
theorem s0_162 {l : Launch} {Z : State} {a0 : Array Value} {n0 : Nat} {ls : List Slot} {st : List Value} {H H' : List Ob} {v : Option Value} (hw : HW Z a0) (kk : Runs K l Z n0 m0 165 ls (.long 12289 :: st) H v H') : Runs K l Z n0 m0 162 ls st H v H' := r_ldc2 i0_162 (hw _ (List.mem_of_getElem? (i := 24) rfl)) kk
theorem s0_169 {l : Launch} {Z : State} {a0 : Array Value} {n0 : Nat} {ls : List Slot} {st : List Value} {H H' : List Ob} {v : Option Value} (hw : HW Z a0) (kk : Runs K l Z n0 m0 172 ls (.long 55296 :: st) H v H') : Runs K l Z n0 m0 169 ls st H v H' := r_ldc2 i0_169 (hw _ (List.mem_of_getElem? (i := 25) rfl)) kk
theorem s0_176 {l : Launch} {Z : State} {a0 : Array Value} {n0 : Nat} {ls : List Slot} {st : List Value} {H H' : List Ob} {v : Option Value} (hw : HW Z a0) (kk : Runs K l Z n0 m0 179 ls (.long 63744 :: st) H v H') : Runs K l Z n0 m0 176 ls st H v H' := r_ldc2 i0_176 (hw _ (List.mem_of_getElem? (i := 26) rfl)) kk
theorem s0_183 {l : Launch} {Z : State} {a0 : Array Value} {n0 : Nat} {ls : List Slot} {st : List Value} {H H' : List Ob} {v : Option Value} (hw : HW Z a0) (kk : Runs K l Z n0 m0 186 ls (.long 64976 :: st) H v H') : Runs K l Z n0 m0 183 ls st H v H' := r_ldc2 i0_183 (hw _ (List.mem_of_getElem? (i := 27) rfl)) kk
theorem s0_190 {l : Launch} {Z : State} {a0 : Array Value} {n0 : Nat} {ls : List Slot} {st : List Value} {H H' : List Ob} {v : Option Value} (hw : HW Z a0) (kk : Runs K l Z n0 m0 193 ls (.long 65008 :: st) H v H') : Runs K l Z n0 m0 190 ls st H v H' := r_ldc2 i0_190 (hw _ (List.mem_of_getElem? (i := 28) rfl)) kk
theorem s0_197 {l : Launch} {Z : State} {a0 : Array Value} {n0 : Nat} {ls : List Slot} {st : List Value} {H H' : List Ob} {v : Option Value} (hw : HW Z a0) (kk : Runs K l Z n0 m0 200 ls (.long 65534 :: st) H v H') : Runs K l Z n0 m0 197 ls st H v H' := r_ldc2 i0_197 (hw _ (List.mem_of_getElem? (i := 29) rfl)) kk
theorem s0_204 {l : Launch} {Z : State} {a0 : Array Value} {n0 : Nat} {ls : List Slot} {st : List Value} {H H' : List Ob} {v : Option Value} (hw : HW Z a0) (kk : Runs K l Z n0 m0 207 ls (.long 65536 :: st) H v H') : Runs K l Z n0 m0 204 ls st H v H' := r_ldc2 i0_204 (hw _ (List.mem_of_getElem? (i := 30) rfl)) kk
theorem s0_211 {l : Launch} {Z : State} {a0 : Array Value} {n0 : Nat} {ls : List Slot} {st : List Value} {H H' : List Ob} {v : Option Value} (hw : HW Z a0) (kk : Runs K l Z n0 m0 214 ls (.long 983040 :: st) H v H') : Runs K l Z n0 m0 211 ls st H v H' := r_ldc2 i0_211 (hw _ (List.mem_of_getElem? (i := 31) rfl)) kk
theorem s0_219 {l : Launch} {Z : State} {a0 : Array Value} {n0 : Nat} {ls : List Slot} {st : List Value} {H H' H1 : List Ob} {v : Option Value} (hw : HW Z a0) {a : Nat} {n : Int32} {o : List Value} (hn : ¬ n < 0) (h8 : n.toNatClampNeg * 8 ≤ 536870912) (ho : List.replicate n.toNatClampNeg (.long 0) = o) (ha : H.length = a) (hH : H ++ [.inr (.long, o)] = H1) (kk : Runs K l Z n0 m0 221 ls (.ref a :: st) H1 v H') : Runs K l Z n0 m0 219 ls (.int n :: st) H v H' := r_newA i0_219 (hw _ (List.mem_of_getElem? (i := 0) rfl)) hn h8 ho ha hH kk
theorem s0_223 {l : Launch} {Z : State} {a0 : Array Value} {n0 : Nat} {ls : List Slot} {st : List Value} {H H' : List Ob} {v : Option Value} (hw : HW Z a0) (kk : Runs K l Z n0 m0 226 ls (.long 64 :: st) H v H') : Runs K l Z n0 m0 223 ls st H v H' := r_ldc2 i0_223 (hw _ (List.mem_of_getElem? (i := 32) rfl)) kk
theorem s0_229 {l : Launch} {Z : State} {a0 : Array Value} {n0 : Nat} {ls : List Slot} {st : List Value} {H H' : List Ob} {v : Option Value} (hw : HW Z a0) (kk : Runs K l Z n0 m0 232 ls (.long 90 :: st) H v H') : Runs K l Z n0 m0 229 ls st H v H' := r_ldc2 i0_229 (hw _ (List.mem_of_getElem? (i := 33) rfl)) kk
theorem s0_235 {l : Launch} {Z : State} {a0 : Array Value} {n0 : Nat} {ls : List Slot} {st : List Value} {H H' : List Ob} {v : Option Value} (hw : HW Z a0) (kk : Runs K l Z n0 m0 238 ls (.long 94 :: st) H v H') : Runs K l Z n0 m0 235 ls st H v H' := r_ldc2 i0_235 (hw _ (List.mem_of_getElem? (i := 34) rfl)) kk
theorem s0_241 {l : Launch} {Z : State} {a0 : Array Value} {n0 : Nat} {ls : List Slot} {st : List Value} {H H' : List Ob} {v : Option Value} (hw : HW Z a0) (kk : Runs K l Z n0 m0 244 ls (.long 95 :: st) H v H') : Runs K l Z n0 m0 241 ls st H v H' := r_ldc2 i0_241 (hw _ (List.mem_of_getElem? (i := 4) rfl)) kk
theorem s0_247 {l : Launch} {Z : State} {a0 : Array Value} {n0 : Nat} {ls : List Slot} {st : List Value} {H H' : List Ob} {v : Option Value} (hw : HW Z a0) (kk : Runs K l Z n0 m0 250 ls (.long 96 :: st) H v H') : Runs K l Z n0 m0 247 ls st H v H' := r_ldc2 i0_247 (hw _ (List.mem_of_getElem? (i := 5) rfl)) kk
theorem s0_253 {l : Launch} {Z : State} {a0 : Array Value} {n0 : Nat} {ls : List Slot} {st : List Value} {H H' : List Ob} {v : Option Value} (hw : HW Z a0) (kk : Runs K l Z n0 m0 256 ls (.long 122 :: st) H v H') : Runs K l Z n0 m0 253 ls st H v H' := r_ldc2 i0_253 (hw _ (List.mem_of_getElem? (i := 35) rfl)) kk
theorem s0_260 {l : Launch} {Z : State} {a0 : Array Value} {n0 : Nat} {ls : List Slot} {st : List Value} {H H' : List Ob} {v : Option Value} (hw : HW Z a0) (kk : Runs K l Z n0 m0 263 ls (.long 191 :: st) H v H') : Runs K l Z n0 m0 260 ls st H v H' := r_ldc2 i0_260 (hw _ (List.mem_of_getElem? (i := 36) rfl)) kk
theorem s0_267 {l : Launch} {Z : State} {a0 : Array Value} {n0 : Nat} {ls : List Slot} {st : List Value} {H H' : List Ob} {v : Option Value} (hw : HW Z a0) (kk : Runs K l Z n0 m0 270 ls (.long 214 :: st) H v H') : Runs K l Z n0 m0 267 ls st H v H' := r_ldc2 i0_267 (hw _ (List.mem_of_getElem? (i := 37) rfl)) kk
theorem s0_274 {l : Launch} {Z : State} {a0 : Array Value} {n0 : Nat} {ls : List Slot} {st : List Value} {H H' : List Ob} {v : Option Value} (hw : HW Z a0) (kk : Runs K l Z n0 m0 277 ls (.long 215 :: st) H v H') : Runs K l Z n0 m0 274 ls st H v H' := r_ldc2 i0_274 (hw _ (List.mem_of_getElem? (i := 9) rfl)) kk
theorem s0_281 {l : Launch} {Z : State} {a0 : Array Value} {n0 : Nat} {ls : List Slot} {st : List Value} {H H' : List Ob} {v : Option Value} (hw : HW Z a0) (kk : Runs K l Z n0 m0 284 ls (.long 246 :: st) H v H') : Runs K l Z n0 m0 281 ls st H v H' := r_ldc2 i0_281 (hw _ (List.mem_of_getElem? (i := 38) rfl)) kk
theorem s0_288 {l : Launch} {Z : State} {a0 : Array Value} {n0 : Nat} {ls : List Slot} {st : List Value} {H H' : List Ob} {v : Option Value} (hw : HW Z a0) (kk : Runs K l Z n0 m0 291 ls (.long 247 :: st) H v H') : Runs K l Z n0 m0 288 ls st H v H' := r_ldc2 i0_288 (hw _ (List.mem_of_getElem? (i := 11) rfl)) kk
theorem s0_295 {l : Launch} {Z : State} {a0 : Array Value} {n0 : Nat} {ls : List Slot} {st : List Value} {H H' : List Ob} {v : Option Value} (hw : HW Z a0) (kk : Runs K l Z n0 m0 298 ls (.long 767 :: st) H v H') : Runs K l Z n0 m0 295 ls st H v H' := r_ldc2 i0_295 (hw _ (List.mem_of_getElem? (i := 39) rfl)) kk
theorem s0_302 {l : Launch} {Z : State} {a0 : Array Value} {n0 : Nat} {ls : List Slot} {st : List Value} {H H' : List Ob} {v : Option Value} (hw : HW Z a0) (kk : Runs K l Z n0 m0 305 ls (.long 879 :: st) H v H') : Runs K l Z n0 m0 302 ls st H v H' := r_ldc2 i0_302 (hw _ (List.mem_of_getElem? (i := 40) rfl)) kk
theorem s0_309 {l : Launch} {Z : State} {a0 : Array Value} {n0 : Nat} {ls : List Slot} {st : List Value} {H H' : List Ob} {v : Option Value} (hw : HW Z a0) (kk : Runs K l Z n0 m0 312 ls (.long 893 :: st) H v H') : Runs K l Z n0 m0 309 ls st H v H' := r_ldc2 i0_309 (hw _ (List.mem_of_getElem? (i := 41) rfl)) kk
theorem s0_316 {l : Launch} {Z : State} {a0 : Array Value} {n0 : Nat} {ls : List Slot} {st : List Value} {H H' : List Ob} {v : Option Value} (hw : HW Z a0) (kk : Runs K l Z n0 m0 319 ls (.long 894 :: st) H v H') : Runs K l Z n0 m0 316 ls st H v H' := r_ldc2 i0_316 (hw _ (List.mem_of_getElem? (i := 15) rfl)) kk
theorem s0_323 {l : Launch} {Z : State} {a0 : Array Value} {n0 : Nat} {ls : List Slot} {st : List Value} {H H' : List Ob} {v : Option Value} (hw : HW Z a0) (kk : Runs K l Z n0 m0 326 ls (.long 8191 :: st) H v H') : Runs K l Z n0 m0 323 ls st H v H' := r_ldc2 i0_323 (hw _ (List.mem_of_getElem? (i := 42) rfl)) kk
theorem s0_330 {l : Launch} {Z : State} {a0 : Array Value} {n0 : Nat} {ls : List Slot} {st : List Value} {H H' : List Ob} {v : Option Value} (hw : HW Z a0) (kk : Runs K l Z n0 m0 333 ls (.long 8203 :: st) H v H') : Runs K l Z n0 m0 330 ls st H v H' := r_ldc2 i0_330 (hw _ (List.mem_of_getElem? (i := 43) rfl)) kk
theorem s0_337 {l : Launch} {Z : State} {a0 : Array Value} {n0 : Nat} {ls : List Slot} {st : List Value} {H H' : List Ob} {v : Option Value} (hw : HW Z a0) (kk : Runs K l Z n0 m0 340 ls (.long 8205 :: st) H v H') : Runs K l Z n0 m0 337 ls st H v H' := r_ldc2 i0_337 (hw _ (List.mem_of_getElem? (i := 44) rfl)) kk
theorem s0_344 {l : Launch} {Z : State} {a0 : Array Value} {n0 : Nat} {ls : List Slot} {st : List Value} {H H' : List Ob} {v : Option Value} (hw : HW Z a0) (kk : Runs K l Z n0 m0 347 ls (.long 8303 :: st) H v H') : Runs K l Z n0 m0 344 ls st H v H' := r_ldc2 i0_344 (hw _ (List.mem_of_getElem? (i := 45) rfl)) kk
theorem s0_351 {l : Launch} {Z : State} {a0 : Array Value} {n0 : Nat} {ls : List Slot} {st : List Value} {H H' : List Ob} {v : Option Value} (hw : HW Z a0) (kk : Runs K l Z n0 m0 354 ls (.long 8591 :: st) H v H') : Runs K l Z n0 m0 351 ls st H v H' := r_ldc2 i0_351 (hw _ (List.mem_of_getElem? (i := 46) rfl)) kk
theorem s0_358 {l : Launch} {Z : State} {a0 : Array Value} {n0 : Nat} {ls : List Slot} {st : List Value} {H H' : List Ob} {v : Option Value} (hw : HW Z a0) (kk : Runs K l Z n0 m0 361 ls (.long 11263 :: st) H v H') : Runs K l Z n0 m0 358 ls st H v H' := r_ldc2 i0_358 (hw _ (List.mem_of_getElem? (i := 47) rfl)) kk
theorem s0_365 {l : Launch} {Z : State} {a0 : Array Value} {n0 : Nat} {ls : List Slot} {st : List Value} {H H' : List Ob} {v : Option Value} (hw : HW Z a0) (kk : Runs K l Z n0 m0 368 ls (.long 12271 :: st) H v H') : Runs K l Z n0 m0 365 ls st H v H' := r_ldc2 i0_365 (hw _ (List.mem_of_getElem? (i := 48) rfl)) kk
theorem s0_372 {l : Launch} {Z : State} {a0 : Array Value} {n0 : Nat} {ls : List Slot} {st : List Value} {H H' : List Ob} {v : Option Value} (hw : HW Z a0) (kk : Runs K l Z n0 m0 375 ls (.long 12288 :: st) H v H') : Runs K l Z n0 m0 372 ls st H v H' := r_ldc2 i0_372 (hw _ (List.mem_of_getElem? (i := 49) rfl)) kk
theorem s0_379 {l : Launch} {Z : State} {a0 : Array Value} {n0 : Nat} {ls : List Slot} {st : List Value} {H H' : List Ob} {v : Option Value} (hw : HW Z a0) (kk : Runs K l Z n0 m0 382 ls (.long 55295 :: st) H v H') : Runs K l Z n0 m0 379 ls st H v H' := r_ldc2 i0_379 (hw _ (List.mem_of_getElem? (i := 50) rfl)) kk
theorem s0_386 {l : Launch} {Z : State} {a0 : Array Value} {n0 : Nat} {ls : List Slot} {st : List Value} {H H' : List Ob} {v : Option Value} (hw : HW Z a0) (kk : Runs K l Z n0 m0 389 ls (.long 63743 :: st) H v H') : Runs K l Z n0 m0 386 ls st H v H' := r_ldc2 i0_386 (hw _ (List.mem_of_getElem? (i := 51) rfl)) kk
theorem s0_393 {l : Launch} {Z : State} {a0 : Array Value} {n0 : Nat} {ls : List Slot} {st : List Value} {H H' : List Ob} {v : Option Value} (hw : HW Z a0) (kk : Runs K l Z n0 m0 396 ls (.long 64975 :: st) H v H') : Runs K l Z n0 m0 393 ls st H v H' := r_ldc2 i0_393 (hw _ (List.mem_of_getElem? (i := 52) rfl)) kk
theorem s0_400 {l : Launch} {Z : State} {a0 : Array Value} {n0 : Nat} {ls : List Slot} {st : List Value} {H H' : List Ob} {v : Option Value} (hw : HW Z a0) (kk : Runs K l Z n0 m0 403 ls (.long 65007 :: st) H v H') : Runs K l Z n0 m0 400 ls st H v H' := r_ldc2 i0_400 (hw _ (List.mem_of_getElem? (i := 53) rfl)) kk
theorem s0_407 {l : Launch} {Z : State} {a0 : Array Value} {n0 : Nat} {ls : List Slot} {st : List Value} {H H' : List Ob} {v : Option Value} (hw : HW Z a0) (kk : Runs K l Z n0 m0 410 ls (.long 65533 :: st) H v H') : Runs K l Z n0 m0 407 ls st H v H' := r_ldc2 i0_407 (hw _ (List.mem_of_getElem? (i := 54) rfl)) kk
theorem s0_414 {l : Launch} {Z : State} {a0 : Array Value} {n0 : Nat} {ls : List Slot} {st : List Value} {H H' : List Ob} {v : Option Value} (hw : HW Z a0) (kk : Runs K l Z n0 m0 417 ls (.long 65535 :: st) H v H') : Runs K l Z n0 m0 414 ls st H v H' := r_ldc2 i0_414 (hw _ (List.mem_of_getElem? (i := 55) rfl)) kk
theorem s0_421 {l : Launch} {Z : State} {a0 : Array Value} {n0 : Nat} {ls : List Slot} {st : List Value} {H H' : List Ob} {v : Option Value} (hw : HW Z a0) (kk : Runs K l Z n0 m0 424 ls (.long 983039 :: st) H v H') : Runs K l Z n0 m0 421 ls st H v H' := r_ldc2 i0_421 (hw _ (List.mem_of_getElem? (i := 56) rfl)) kk
theorem s0_428 {l : Launch} {Z : State} {a0 : Array Value} {n0 : Nat} {ls : List Slot} {st : List Value} {H H' : List Ob} {v : Option Value} (hw : HW Z a0) (kk : Runs K l Z n0 m0 431 ls (.long 2147483647 :: st) H v H') : Runs K l Z n0 m0 428 ls st H v H' := r_ldc2 i0_428 (hw _ (List.mem_of_getElem? (i := 57) rfl)) kk
theorem s0_435 {l : Launch} {Z : State} {a0 : Array Value} {n0 : Nat} {ls : List Slot} {st : List Value} {H H' : List Ob} {v : Option Value} (hw : HW Z a0) (kk : Runs K l Z n0 m0 437 ls (.int 2147483647 :: st) H v H') : Runs K l Z n0 m0 435 ls st H v H' := r_ldc i0_435 (hw _ (List.mem_of_getElem? (i := 58) rfl)) kk
theorem s0_490 {l : Launch} {Z : State} {a0 : Array Value} {n0 : Nat} {ls : List Slot} {st : List Value} {H H' : List Ob} {v : Option Value} (hw : HW Z a0) (kk : Runs K l Z n0 m0 493 ls (.long 9223372036854775807 :: st) H v H') : Runs K l Z n0 m0 490 ls st H v H' := r_ldc2 i0_490 (hw _ (List.mem_of_getElem? (i := 59) rfl)) kk
theorem s0_527 {l : Launch} {Z : State} {a0 : Array Value} {n0 : Nat} {ls : List Slot} {st : List Value} {H H' H1 : List Ob} {v : Option Value} (hw : HW Z a0) {x0 : Value} {w : Value} (M : Meets K l Z n0 m1 [x0] H (some w) H1) (hls : ls.length = 14) (hlo : (st.map fun v => v.category).sum ≤ 0) (kk : Runs K l Z n0 m0 530 ls (w :: st) H1 v H') : Runs K l Z n0 m0 527 ls (x0 :: st) H v H' := r_static (mj := m1) (as := [x0]) (rest := st) i0_527 (hw _ (List.mem_of_getElem? (i := 60) rfl)) (hw _ (List.mem_of_getElem? (i := 61) rfl)) (hw _ (List.mem_of_getElem? (i := 62) rfl)) (hw _ (List.mem_of_getElem? (i := 63) rfl)) (by decide) (lenOf pd1 rfl) (by decide) rfl hls (by show _ + (1 + 11) + 0 ≤ 12; omega) M kk
theorem s1_150 {l : Launch} {Z : State} {a0 : Array Value} {n0 : Nat} {ls : List Slot} {st : List Value} {H H' : List Ob} {v : Option Value} (hw : HW Z a0) (kk : Runs K l Z n0 m1 152 ls (.int 55295 :: st) H v H') : Runs K l Z n0 m1 150 ls st H v H' := r_ldc i1_150 (hw _ (List.mem_of_getElem? (i := 67) rfl)) kk
theorem s1_156 {l : Launch} {Z : State} {a0 : Array Value} {n0 : Nat} {ls : List Slot} {st : List Value} {H H' : List Ob} {v : Option Value} (hw : HW Z a0) (kk : Runs K l Z n0 m1 158 ls (.int 63744 :: st) H v H') : Runs K l Z n0 m1 156 ls st H v H' := r_ldc i1_156 (hw _ (List.mem_of_getElem? (i := 64) rfl)) kk
theorem s1_162 {l : Launch} {Z : State} {a0 : Array Value} {n0 : Nat} {ls : List Slot} {st : List Value} {H H' : List Ob} {v : Option Value} (hw : HW Z a0) (kk : Runs K l Z n0 m1 164 ls (.int 64975 :: st) H v H') : Runs K l Z n0 m1 162 ls st H v H' := r_ldc i1_162 (hw _ (List.mem_of_getElem? (i := 68) rfl)) kk
theorem s1_168 {l : Launch} {Z : State} {a0 : Array Value} {n0 : Nat} {ls : List Slot} {st : List Value} {H H' : List Ob} {v : Option Value} (hw : HW Z a0) (kk : Runs K l Z n0 m1 170 ls (.int 65008 :: st) H v H') : Runs K l Z n0 m1 168 ls st H v H' := r_ldc i1_168 (hw _ (List.mem_of_getElem? (i := 65) rfl)) kk
theorem s1_174 {l : Launch} {Z : State} {a0 : Array Value} {n0 : Nat} {ls : List Slot} {st : List Value} {H H' : List Ob} {v : Option Value} (hw : HW Z a0) (kk : Runs K l Z n0 m1 176 ls (.int 65533 :: st) H v H') : Runs K l Z n0 m1 174 ls st H v H' := r_ldc i1_174 (hw _ (List.mem_of_getElem? (i := 69) rfl)) kk
theorem s1_180 {l : Launch} {Z : State} {a0 : Array Value} {n0 : Nat} {ls : List Slot} {st : List Value} {H H' : List Ob} {v : Option Value} (hw : HW Z a0) (kk : Runs K l Z n0 m1 182 ls (.int 65536 :: st) H v H') : Runs K l Z n0 m1 180 ls st H v H' := r_ldc i1_180 (hw _ (List.mem_of_getElem? (i := 66) rfl)) kk
theorem s1_186 {l : Launch} {Z : State} {a0 : Array Value} {n0 : Nat} {ls : List Slot} {st : List Value} {H H' : List Ob} {v : Option Value} (hw : HW Z a0) (kk : Runs K l Z n0 m1 188 ls (.int 983039 :: st) H v H') : Runs K l Z n0 m1 186 ls st H v H' := r_ldc i1_186 (hw _ (List.mem_of_getElem? (i := 70) rfl)) kk
def own_b (P : Prop) [Decidable P] : Int32 := if P then 1 else 0
theorem own_b_congr {P Q : Prop} [Decidable P] [Decidable Q] (h : P ↔ Q) : own_b P = own_b Q := by
  unfold own_b
  by_cases p : P
  · rw [if_pos p, if_pos (h.mp p)]
  · rw [if_neg p, if_neg (fun q => p (h.mpr q))]
theorem own_b0 {P : Prop} [Decidable P] : own_b P = 0 ↔ ¬ P := by
  unfold own_b
  by_cases p : P
  · rw [if_pos p]; exact ⟨fun h => absurd h (by decide), fun h => absurd p h⟩
  · rw [if_neg p]; exact ⟨fun _ => p, fun _ => rfl⟩
theorem own_b1 {P : Prop} [Decidable P] : own_b P = 1 ↔ P := by
  unfold own_b
  by_cases p : P
  · rw [if_pos p]; exact ⟨fun _ => p, fun _ => rfl⟩
  · rw [if_neg p]; exact ⟨fun h => absurd h (by decide), fun h => absurd h p⟩
theorem own_pos {P : Prop} [Decidable P] (h : P) : (1 : Int32) = own_b P := (own_b1.mpr h).symm
theorem own_neg {P : Prop} [Decidable P] (h : ¬ P) : (0 : Int32) = own_b P := (own_b0.mpr h).symm
theorem own_r0 (c lo hi : Int32) (a b : Int) (ha : lo.toInt = a) (hb : hi.toInt = b) : (if c < lo then (0 : Int32) else (if hi < c then 0 else 1)) = own_b (a ≤ c.toInt ∧ c.toInt ≤ b) := by
  subst ha hb
  simp only [Int32.lt_iff_toInt_lt]
  by_cases h1 : c.toInt < lo.toInt
  · rw [if_pos h1]; exact own_neg (by omega)
  · by_cases h2 : hi.toInt < c.toInt
    · rw [if_neg h1, if_pos h2]; exact own_neg (by omega)
    · rw [if_neg h1, if_neg h2]; exact own_pos (by omega)
theorem own_r1 (c lo hi : Int32) (a b : Int) {P : Prop} [Decidable P] (ha : lo.toInt = a) (hb : hi.toInt = b) : (if c < lo then own_b P else (if hi < c then own_b P else 1)) = own_b ((a ≤ c.toInt ∧ c.toInt ≤ b) ∨ P) := by
  subst ha hb
  simp only [Int32.lt_iff_toInt_lt]
  by_cases h1 : c.toInt < lo.toInt
  · rw [if_pos h1]; exact own_b_congr ⟨Or.inr, fun h => h.elim (fun q => by omega) id⟩
  · by_cases h2 : hi.toInt < c.toInt
    · rw [if_neg h1, if_pos h2]; exact own_b_congr ⟨Or.inr, fun h => h.elim (fun q => by omega) id⟩
    · rw [if_neg h1, if_neg h2]; exact own_pos (Or.inl (by omega))
theorem own_e1 (c k : Int32) (a : Int) {P : Prop} [Decidable P] (ha : k.toInt = a) : (if c = k then (1 : Int32) else own_b P) = own_b (c.toInt = a ∨ P) := by
  subst ha
  by_cases h1 : c = k
  · rw [if_pos h1]; exact own_pos (P := c.toInt = k.toInt ∨ P) (Or.inl (congrArg Int32.toInt h1))
  · rw [if_neg h1]; exact own_b_congr ⟨Or.inr, fun h => h.elim (fun q => absurd (Int32.toInt_inj.mp q) h1) id⟩
theorem own_o1 {P Q : Prop} [Decidable P] [Decidable Q] : (if own_b P = 0 then own_b Q else (1 : Int32)) = own_b (P ∨ Q) := by
  by_cases p : P
  · rw [if_neg (fun h => own_b0.mp h p)]; exact own_pos (Or.inl p)
  · rw [if_pos (own_b0.mpr p)]; exact own_b_congr ⟨Or.inr, fun h => h.elim (fun q => absurd q p) id⟩
theorem own_o0 {P : Prop} [Decidable P] : (if own_b P = 0 then (0 : Int32) else 1) = own_b P := by
  by_cases p : P
  · rw [if_neg (fun h => own_b0.mp h p)]; exact own_pos p
  · rw [if_pos (own_b0.mpr p)]; exact own_neg p

def f1_179 (x0 : Int32) : Int32 := (if x0 < 65536 then 0 else (if 983039 < x0 then 0 else 1))
set_option maxRecDepth 4000 in
theorem g1_179 {l : Launch} {Z : State} {a0 : Array Value} {n0 : Nat} (hw : HW Z a0) {H : List Ob} (x0 : Int32) : Runs K l Z n0 m1 179 [.val (.int x0)] [] H (some (.int (f1_179 x0))) H := by
  unfold f1_179
  refine r_iloadN i1_179 rfl ?_
  refine s1_180 hw ?_
  by_cases h15 : x0 < 65536
  · rw [if_pos h15]
    refine r_icT i1_182 (XT.ii_lt_t h15) ?_
    refine r_iconst i1_195 ?_
    exact r_zreturn i1_196 rfl (by first | decide | simp)
  · rw [if_neg h15]
    refine r_icF i1_182 (XT.ii_lt_f h15) ?_
    refine r_iloadN i1_185 rfl ?_
    refine s1_186 hw ?_
    by_cases h16 : 983039 < x0
    · rw [if_pos h16]
      refine r_icT i1_188 (XT.ii_gt_t h16) ?_
      refine r_iconst i1_195 ?_
      exact r_zreturn i1_196 rfl (by first | decide | simp)
    · rw [if_neg h16]
      refine r_icF i1_188 (XT.ii_gt_f h16) ?_
      refine r_iconst i1_191 ?_
      refine r_goto i1_192 ?_
      exact r_zreturn i1_196 rfl (by first | decide | simp)
def f1_167 (x0 : Int32) : Int32 := (if x0 < 65008 then f1_179 x0 else (if 65533 < x0 then f1_179 x0 else 1))
set_option maxRecDepth 4000 in
theorem g1_167 {l : Launch} {Z : State} {a0 : Array Value} {n0 : Nat} (hw : HW Z a0) {H : List Ob} (x0 : Int32) : Runs K l Z n0 m1 167 [.val (.int x0)] [] H (some (.int (f1_167 x0))) H := by
  unfold f1_167
  refine r_iloadN i1_167 rfl ?_
  refine s1_168 hw ?_
  by_cases h14 : x0 < 65008
  · rw [if_pos h14]
    refine r_icT i1_170 (XT.ii_lt_t h14) ?_
    exact g1_179 hw x0
  · rw [if_neg h14]
    refine r_icF i1_170 (XT.ii_lt_f h14) ?_
    refine r_iloadN i1_173 rfl ?_
    refine s1_174 hw ?_
    by_cases h17 : 65533 < x0
    · rw [if_pos h17]
      refine r_icF i1_176 (XT.ii_le_f h17) ?_
      exact g1_179 hw x0
    · rw [if_neg h17]
      refine r_icT i1_176 (XT.ii_le_t h17) ?_
      refine r_iconst i1_191 ?_
      refine r_goto i1_192 ?_
      exact r_zreturn i1_196 rfl (by first | decide | simp)
def f1_155 (x0 : Int32) : Int32 := (if x0 < 63744 then f1_167 x0 else (if 64975 < x0 then f1_167 x0 else 1))
set_option maxRecDepth 4000 in
theorem g1_155 {l : Launch} {Z : State} {a0 : Array Value} {n0 : Nat} (hw : HW Z a0) {H : List Ob} (x0 : Int32) : Runs K l Z n0 m1 155 [.val (.int x0)] [] H (some (.int (f1_155 x0))) H := by
  unfold f1_155
  refine r_iloadN i1_155 rfl ?_
  refine s1_156 hw ?_
  by_cases h13 : x0 < 63744
  · rw [if_pos h13]
    refine r_icT i1_158 (XT.ii_lt_t h13) ?_
    exact g1_167 hw x0
  · rw [if_neg h13]
    refine r_icF i1_158 (XT.ii_lt_f h13) ?_
    refine r_iloadN i1_161 rfl ?_
    refine s1_162 hw ?_
    by_cases h18 : 64975 < x0
    · rw [if_pos h18]
      refine r_icF i1_164 (XT.ii_le_f h18) ?_
      exact g1_167 hw x0
    · rw [if_neg h18]
      refine r_icT i1_164 (XT.ii_le_t h18) ?_
      refine r_iconst i1_191 ?_
      refine r_goto i1_192 ?_
      exact r_zreturn i1_196 rfl (by first | decide | simp)
def f1_142 (x0 : Int32) : Int32 := (if x0 < 12289 then f1_155 x0 else (if 55295 < x0 then f1_155 x0 else 1))
set_option maxRecDepth 4000 in
theorem g1_142 {l : Launch} {Z : State} {a0 : Array Value} {n0 : Nat} (hw : HW Z a0) {H : List Ob} (x0 : Int32) : Runs K l Z n0 m1 142 [.val (.int x0)] [] H (some (.int (f1_142 x0))) H := by
  unfold f1_142
  refine r_iloadN i1_142 rfl ?_
  refine r_sipush i1_143 ?_
  by_cases h12 : x0 < 12289
  · rw [if_pos h12]
    refine r_icT i1_146 (XT.ii_lt_t h12) ?_
    exact g1_155 hw x0
  · rw [if_neg h12]
    refine r_icF i1_146 (XT.ii_lt_f h12) ?_
    refine r_iloadN i1_149 rfl ?_
    refine s1_150 hw ?_
    by_cases h19 : 55295 < x0
    · rw [if_pos h19]
      refine r_icF i1_152 (XT.ii_le_f h19) ?_
      exact g1_155 hw x0
    · rw [if_neg h19]
      refine r_icT i1_152 (XT.ii_le_t h19) ?_
      refine r_iconst i1_191 ?_
      refine r_goto i1_192 ?_
      exact r_zreturn i1_196 rfl (by first | decide | simp)
def f1_128 (x0 : Int32) : Int32 := (if x0 < 11264 then f1_142 x0 else (if 12271 < x0 then f1_142 x0 else 1))
set_option maxRecDepth 4000 in
theorem g1_128 {l : Launch} {Z : State} {a0 : Array Value} {n0 : Nat} (hw : HW Z a0) {H : List Ob} (x0 : Int32) : Runs K l Z n0 m1 128 [.val (.int x0)] [] H (some (.int (f1_128 x0))) H := by
  unfold f1_128
  refine r_iloadN i1_128 rfl ?_
  refine r_sipush i1_129 ?_
  by_cases h11 : x0 < 11264
  · rw [if_pos h11]
    refine r_icT i1_132 (XT.ii_lt_t h11) ?_
    exact g1_142 hw x0
  · rw [if_neg h11]
    refine r_icF i1_132 (XT.ii_lt_f h11) ?_
    refine r_iloadN i1_135 rfl ?_
    refine r_sipush i1_136 ?_
    by_cases h20 : 12271 < x0
    · rw [if_pos h20]
      refine r_icF i1_139 (XT.ii_le_f h20) ?_
      exact g1_142 hw x0
    · rw [if_neg h20]
      refine r_icT i1_139 (XT.ii_le_t h20) ?_
      refine r_iconst i1_191 ?_
      refine r_goto i1_192 ?_
      exact r_zreturn i1_196 rfl (by first | decide | simp)
def f1_114 (x0 : Int32) : Int32 := (if x0 < 8304 then f1_128 x0 else (if 8591 < x0 then f1_128 x0 else 1))
set_option maxRecDepth 4000 in
theorem g1_114 {l : Launch} {Z : State} {a0 : Array Value} {n0 : Nat} (hw : HW Z a0) {H : List Ob} (x0 : Int32) : Runs K l Z n0 m1 114 [.val (.int x0)] [] H (some (.int (f1_114 x0))) H := by
  unfold f1_114
  refine r_iloadN i1_114 rfl ?_
  refine r_sipush i1_115 ?_
  by_cases h10 : x0 < 8304
  · rw [if_pos h10]
    refine r_icT i1_118 (XT.ii_lt_t h10) ?_
    exact g1_128 hw x0
  · rw [if_neg h10]
    refine r_icF i1_118 (XT.ii_lt_f h10) ?_
    refine r_iloadN i1_121 rfl ?_
    refine r_sipush i1_122 ?_
    by_cases h21 : 8591 < x0
    · rw [if_pos h21]
      refine r_icF i1_125 (XT.ii_le_f h21) ?_
      exact g1_128 hw x0
    · rw [if_neg h21]
      refine r_icT i1_125 (XT.ii_le_t h21) ?_
      refine r_iconst i1_191 ?_
      refine r_goto i1_192 ?_
      exact r_zreturn i1_196 rfl (by first | decide | simp)
def f1_100 (x0 : Int32) : Int32 := (if x0 < 8204 then f1_114 x0 else (if 8205 < x0 then f1_114 x0 else 1))
set_option maxRecDepth 4000 in
theorem g1_100 {l : Launch} {Z : State} {a0 : Array Value} {n0 : Nat} (hw : HW Z a0) {H : List Ob} (x0 : Int32) : Runs K l Z n0 m1 100 [.val (.int x0)] [] H (some (.int (f1_100 x0))) H := by
  unfold f1_100
  refine r_iloadN i1_100 rfl ?_
  refine r_sipush i1_101 ?_
  by_cases h9 : x0 < 8204
  · rw [if_pos h9]
    refine r_icT i1_104 (XT.ii_lt_t h9) ?_
    exact g1_114 hw x0
  · rw [if_neg h9]
    refine r_icF i1_104 (XT.ii_lt_f h9) ?_
    refine r_iloadN i1_107 rfl ?_
    refine r_sipush i1_108 ?_
    by_cases h22 : 8205 < x0
    · rw [if_pos h22]
      refine r_icF i1_111 (XT.ii_le_f h22) ?_
      exact g1_114 hw x0
    · rw [if_neg h22]
      refine r_icT i1_111 (XT.ii_le_t h22) ?_
      refine r_iconst i1_191 ?_
      refine r_goto i1_192 ?_
      exact r_zreturn i1_196 rfl (by first | decide | simp)
def f1_86 (x0 : Int32) : Int32 := (if x0 < 895 then f1_100 x0 else (if 8191 < x0 then f1_100 x0 else 1))
set_option maxRecDepth 4000 in
theorem g1_86 {l : Launch} {Z : State} {a0 : Array Value} {n0 : Nat} (hw : HW Z a0) {H : List Ob} (x0 : Int32) : Runs K l Z n0 m1 86 [.val (.int x0)] [] H (some (.int (f1_86 x0))) H := by
  unfold f1_86
  refine r_iloadN i1_86 rfl ?_
  refine r_sipush i1_87 ?_
  by_cases h8 : x0 < 895
  · rw [if_pos h8]
    refine r_icT i1_90 (XT.ii_lt_t h8) ?_
    exact g1_100 hw x0
  · rw [if_neg h8]
    refine r_icF i1_90 (XT.ii_lt_f h8) ?_
    refine r_iloadN i1_93 rfl ?_
    refine r_sipush i1_94 ?_
    by_cases h23 : 8191 < x0
    · rw [if_pos h23]
      refine r_icF i1_97 (XT.ii_le_f h23) ?_
      exact g1_100 hw x0
    · rw [if_neg h23]
      refine r_icT i1_97 (XT.ii_le_t h23) ?_
      refine r_iconst i1_191 ?_
      refine r_goto i1_192 ?_
      exact r_zreturn i1_196 rfl (by first | decide | simp)
def f1_72 (x0 : Int32) : Int32 := (if x0 < 880 then f1_86 x0 else (if 893 < x0 then f1_86 x0 else 1))
set_option maxRecDepth 4000 in
theorem g1_72 {l : Launch} {Z : State} {a0 : Array Value} {n0 : Nat} (hw : HW Z a0) {H : List Ob} (x0 : Int32) : Runs K l Z n0 m1 72 [.val (.int x0)] [] H (some (.int (f1_72 x0))) H := by
  unfold f1_72
  refine r_iloadN i1_72 rfl ?_
  refine r_sipush i1_73 ?_
  by_cases h7 : x0 < 880
  · rw [if_pos h7]
    refine r_icT i1_76 (XT.ii_lt_t h7) ?_
    exact g1_86 hw x0
  · rw [if_neg h7]
    refine r_icF i1_76 (XT.ii_lt_f h7) ?_
    refine r_iloadN i1_79 rfl ?_
    refine r_sipush i1_80 ?_
    by_cases h24 : 893 < x0
    · rw [if_pos h24]
      refine r_icF i1_83 (XT.ii_le_f h24) ?_
      exact g1_86 hw x0
    · rw [if_neg h24]
      refine r_icT i1_83 (XT.ii_le_t h24) ?_
      refine r_iconst i1_191 ?_
      refine r_goto i1_192 ?_
      exact r_zreturn i1_196 rfl (by first | decide | simp)
def f1_58 (x0 : Int32) : Int32 := (if x0 < 248 then f1_72 x0 else (if 767 < x0 then f1_72 x0 else 1))
set_option maxRecDepth 4000 in
theorem g1_58 {l : Launch} {Z : State} {a0 : Array Value} {n0 : Nat} (hw : HW Z a0) {H : List Ob} (x0 : Int32) : Runs K l Z n0 m1 58 [.val (.int x0)] [] H (some (.int (f1_58 x0))) H := by
  unfold f1_58
  refine r_iloadN i1_58 rfl ?_
  refine r_sipush i1_59 ?_
  by_cases h6 : x0 < 248
  · rw [if_pos h6]
    refine r_icT i1_62 (XT.ii_lt_t h6) ?_
    exact g1_72 hw x0
  · rw [if_neg h6]
    refine r_icF i1_62 (XT.ii_lt_f h6) ?_
    refine r_iloadN i1_65 rfl ?_
    refine r_sipush i1_66 ?_
    by_cases h25 : 767 < x0
    · rw [if_pos h25]
      refine r_icF i1_69 (XT.ii_le_f h25) ?_
      exact g1_72 hw x0
    · rw [if_neg h25]
      refine r_icT i1_69 (XT.ii_le_t h25) ?_
      refine r_iconst i1_191 ?_
      refine r_goto i1_192 ?_
      exact r_zreturn i1_196 rfl (by first | decide | simp)
def f1_44 (x0 : Int32) : Int32 := (if x0 < 216 then f1_58 x0 else (if 246 < x0 then f1_58 x0 else 1))
set_option maxRecDepth 4000 in
theorem g1_44 {l : Launch} {Z : State} {a0 : Array Value} {n0 : Nat} (hw : HW Z a0) {H : List Ob} (x0 : Int32) : Runs K l Z n0 m1 44 [.val (.int x0)] [] H (some (.int (f1_44 x0))) H := by
  unfold f1_44
  refine r_iloadN i1_44 rfl ?_
  refine r_sipush i1_45 ?_
  by_cases h5 : x0 < 216
  · rw [if_pos h5]
    refine r_icT i1_48 (XT.ii_lt_t h5) ?_
    exact g1_58 hw x0
  · rw [if_neg h5]
    refine r_icF i1_48 (XT.ii_lt_f h5) ?_
    refine r_iloadN i1_51 rfl ?_
    refine r_sipush i1_52 ?_
    by_cases h26 : 246 < x0
    · rw [if_pos h26]
      refine r_icF i1_55 (XT.ii_le_f h26) ?_
      exact g1_58 hw x0
    · rw [if_neg h26]
      refine r_icT i1_55 (XT.ii_le_t h26) ?_
      refine r_iconst i1_191 ?_
      refine r_goto i1_192 ?_
      exact r_zreturn i1_196 rfl (by first | decide | simp)
def f1_24 (x0 : Int32) : Int32 := (if x0 = 95 then 1 else (if x0 < 192 then f1_44 x0 else (if 214 < x0 then f1_44 x0 else 1)))
set_option maxRecDepth 4000 in
theorem g1_24 {l : Launch} {Z : State} {a0 : Array Value} {n0 : Nat} (hw : HW Z a0) {H : List Ob} (x0 : Int32) : Runs K l Z n0 m1 24 [.val (.int x0)] [] H (some (.int (f1_24 x0))) H := by
  unfold f1_24
  refine r_iloadN i1_24 rfl ?_
  refine r_bipush i1_25 ?_
  by_cases h3 : x0 = 95
  · rw [if_pos h3]
    refine r_icT i1_27 (XT.ii_eq_t h3) ?_
    refine r_iconst i1_191 ?_
    refine r_goto i1_192 ?_
    exact r_zreturn i1_196 rfl (by first | decide | simp)
  · rw [if_neg h3]
    refine r_icF i1_27 (XT.ii_eq_f h3) ?_
    refine r_iloadN i1_30 rfl ?_
    refine r_sipush i1_31 ?_
    by_cases h4 : x0 < 192
    · rw [if_pos h4]
      refine r_icT i1_34 (XT.ii_lt_t h4) ?_
      exact g1_44 hw x0
    · rw [if_neg h4]
      refine r_icF i1_34 (XT.ii_lt_f h4) ?_
      refine r_iloadN i1_37 rfl ?_
      refine r_sipush i1_38 ?_
      by_cases h27 : 214 < x0
      · rw [if_pos h27]
        refine r_icF i1_41 (XT.ii_le_f h27) ?_
        exact g1_44 hw x0
      · rw [if_neg h27]
        refine r_icT i1_41 (XT.ii_le_t h27) ?_
        refine r_iconst i1_191 ?_
        refine r_goto i1_192 ?_
        exact r_zreturn i1_196 rfl (by first | decide | simp)
def f1_12 (x0 : Int32) : Int32 := (if x0 < 97 then f1_24 x0 else (if 122 < x0 then f1_24 x0 else 1))
set_option maxRecDepth 4000 in
theorem g1_12 {l : Launch} {Z : State} {a0 : Array Value} {n0 : Nat} (hw : HW Z a0) {H : List Ob} (x0 : Int32) : Runs K l Z n0 m1 12 [.val (.int x0)] [] H (some (.int (f1_12 x0))) H := by
  unfold f1_12
  refine r_iloadN i1_12 rfl ?_
  refine r_bipush i1_13 ?_
  by_cases h2 : x0 < 97
  · rw [if_pos h2]
    refine r_icT i1_15 (XT.ii_lt_t h2) ?_
    exact g1_24 hw x0
  · rw [if_neg h2]
    refine r_icF i1_15 (XT.ii_lt_f h2) ?_
    refine r_iloadN i1_18 rfl ?_
    refine r_bipush i1_19 ?_
    by_cases h28 : 122 < x0
    · rw [if_pos h28]
      refine r_icF i1_21 (XT.ii_le_f h28) ?_
      exact g1_24 hw x0
    · rw [if_neg h28]
      refine r_icT i1_21 (XT.ii_le_t h28) ?_
      refine r_iconst i1_191 ?_
      refine r_goto i1_192 ?_
      exact r_zreturn i1_196 rfl (by first | decide | simp)
def f1_0 (x0 : Int32) : Int32 := (if x0 < 65 then f1_12 x0 else (if 90 < x0 then f1_12 x0 else 1))
set_option maxRecDepth 4000 in
theorem g1_0 {l : Launch} {Z : State} {a0 : Array Value} {n0 : Nat} (hw : HW Z a0) {H : List Ob} (x0 : Int32) : Runs K l Z n0 m1 0 [.val (.int x0)] [] H (some (.int (f1_0 x0))) H := by
  unfold f1_0
  refine r_iloadN i1_0 rfl ?_
  refine r_bipush i1_1 ?_
  by_cases h1 : x0 < 65
  · rw [if_pos h1]
    refine r_icT i1_3 (XT.ii_lt_t h1) ?_
    exact g1_12 hw x0
  · rw [if_neg h1]
    refine r_icF i1_3 (XT.ii_lt_f h1) ?_
    refine r_iloadN i1_6 rfl ?_
    refine r_bipush i1_7 ?_
    by_cases h29 : 90 < x0
    · rw [if_pos h29]
      refine r_icF i1_9 (XT.ii_le_f h29) ?_
      exact g1_12 hw x0
    · rw [if_neg h29]
      refine r_icT i1_9 (XT.ii_le_t h29) ?_
      refine r_iconst i1_191 ?_
      refine r_goto i1_192 ?_
      exact r_zreturn i1_196 rfl (by first | decide | simp)
theorem c1 {l : Launch} {Z : State} {a0 : Array Value} {n0 : Nat} (hw : HW Z a0) {H : List Ob} (x0 : Int32) : Meets K l Z n0 m1 [.int x0] H (some (.int (f1_0 x0))) H := meets pf1 rfl (fun h => nomatch h) (g1_0 hw x0)
theorem b1_179 (x0 : Int32) : f1_179 x0 = own_b (65536 ≤ x0.toInt ∧ x0.toInt ≤ 983039) := (own_r0 x0 65536 983039 65536 983039 (by decide) (by decide))
theorem b1_167 (x0 : Int32) : f1_167 x0 = own_b ((65008 ≤ x0.toInt ∧ x0.toInt ≤ 65533) ∨ (65536 ≤ x0.toInt ∧ x0.toInt ≤ 983039)) := ((congrArg (fun t => (if x0 < 65008 then t else (if 65533 < x0 then t else (1 : Int32)))) (b1_179 x0)).trans (own_r1 x0 65008 65533 65008 65533 (by decide) (by decide)))
theorem b1_155 (x0 : Int32) : f1_155 x0 = own_b ((63744 ≤ x0.toInt ∧ x0.toInt ≤ 64975) ∨ ((65008 ≤ x0.toInt ∧ x0.toInt ≤ 65533) ∨ (65536 ≤ x0.toInt ∧ x0.toInt ≤ 983039))) := ((congrArg (fun t => (if x0 < 63744 then t else (if 64975 < x0 then t else (1 : Int32)))) (b1_167 x0)).trans (own_r1 x0 63744 64975 63744 64975 (by decide) (by decide)))
theorem b1_142 (x0 : Int32) : f1_142 x0 = own_b ((12289 ≤ x0.toInt ∧ x0.toInt ≤ 55295) ∨ ((63744 ≤ x0.toInt ∧ x0.toInt ≤ 64975) ∨ ((65008 ≤ x0.toInt ∧ x0.toInt ≤ 65533) ∨ (65536 ≤ x0.toInt ∧ x0.toInt ≤ 983039)))) := ((congrArg (fun t => (if x0 < 12289 then t else (if 55295 < x0 then t else (1 : Int32)))) (b1_155 x0)).trans (own_r1 x0 12289 55295 12289 55295 (by decide) (by decide)))
theorem b1_128 (x0 : Int32) : f1_128 x0 = own_b ((11264 ≤ x0.toInt ∧ x0.toInt ≤ 12271) ∨ ((12289 ≤ x0.toInt ∧ x0.toInt ≤ 55295) ∨ ((63744 ≤ x0.toInt ∧ x0.toInt ≤ 64975) ∨ ((65008 ≤ x0.toInt ∧ x0.toInt ≤ 65533) ∨ (65536 ≤ x0.toInt ∧ x0.toInt ≤ 983039))))) := ((congrArg (fun t => (if x0 < 11264 then t else (if 12271 < x0 then t else (1 : Int32)))) (b1_142 x0)).trans (own_r1 x0 11264 12271 11264 12271 (by decide) (by decide)))
theorem b1_114 (x0 : Int32) : f1_114 x0 = own_b ((8304 ≤ x0.toInt ∧ x0.toInt ≤ 8591) ∨ ((11264 ≤ x0.toInt ∧ x0.toInt ≤ 12271) ∨ ((12289 ≤ x0.toInt ∧ x0.toInt ≤ 55295) ∨ ((63744 ≤ x0.toInt ∧ x0.toInt ≤ 64975) ∨ ((65008 ≤ x0.toInt ∧ x0.toInt ≤ 65533) ∨ (65536 ≤ x0.toInt ∧ x0.toInt ≤ 983039)))))) := ((congrArg (fun t => (if x0 < 8304 then t else (if 8591 < x0 then t else (1 : Int32)))) (b1_128 x0)).trans (own_r1 x0 8304 8591 8304 8591 (by decide) (by decide)))
theorem b1_100 (x0 : Int32) : f1_100 x0 = own_b ((8204 ≤ x0.toInt ∧ x0.toInt ≤ 8205) ∨ ((8304 ≤ x0.toInt ∧ x0.toInt ≤ 8591) ∨ ((11264 ≤ x0.toInt ∧ x0.toInt ≤ 12271) ∨ ((12289 ≤ x0.toInt ∧ x0.toInt ≤ 55295) ∨ ((63744 ≤ x0.toInt ∧ x0.toInt ≤ 64975) ∨ ((65008 ≤ x0.toInt ∧ x0.toInt ≤ 65533) ∨ (65536 ≤ x0.toInt ∧ x0.toInt ≤ 983039))))))) := ((congrArg (fun t => (if x0 < 8204 then t else (if 8205 < x0 then t else (1 : Int32)))) (b1_114 x0)).trans (own_r1 x0 8204 8205 8204 8205 (by decide) (by decide)))
theorem b1_86 (x0 : Int32) : f1_86 x0 = own_b ((895 ≤ x0.toInt ∧ x0.toInt ≤ 8191) ∨ ((8204 ≤ x0.toInt ∧ x0.toInt ≤ 8205) ∨ ((8304 ≤ x0.toInt ∧ x0.toInt ≤ 8591) ∨ ((11264 ≤ x0.toInt ∧ x0.toInt ≤ 12271) ∨ ((12289 ≤ x0.toInt ∧ x0.toInt ≤ 55295) ∨ ((63744 ≤ x0.toInt ∧ x0.toInt ≤ 64975) ∨ ((65008 ≤ x0.toInt ∧ x0.toInt ≤ 65533) ∨ (65536 ≤ x0.toInt ∧ x0.toInt ≤ 983039)))))))) := ((congrArg (fun t => (if x0 < 895 then t else (if 8191 < x0 then t else (1 : Int32)))) (b1_100 x0)).trans (own_r1 x0 895 8191 895 8191 (by decide) (by decide)))
theorem b1_72 (x0 : Int32) : f1_72 x0 = own_b ((880 ≤ x0.toInt ∧ x0.toInt ≤ 893) ∨ ((895 ≤ x0.toInt ∧ x0.toInt ≤ 8191) ∨ ((8204 ≤ x0.toInt ∧ x0.toInt ≤ 8205) ∨ ((8304 ≤ x0.toInt ∧ x0.toInt ≤ 8591) ∨ ((11264 ≤ x0.toInt ∧ x0.toInt ≤ 12271) ∨ ((12289 ≤ x0.toInt ∧ x0.toInt ≤ 55295) ∨ ((63744 ≤ x0.toInt ∧ x0.toInt ≤ 64975) ∨ ((65008 ≤ x0.toInt ∧ x0.toInt ≤ 65533) ∨ (65536 ≤ x0.toInt ∧ x0.toInt ≤ 983039))))))))) := ((congrArg (fun t => (if x0 < 880 then t else (if 893 < x0 then t else (1 : Int32)))) (b1_86 x0)).trans (own_r1 x0 880 893 880 893 (by decide) (by decide)))
theorem b1_58 (x0 : Int32) : f1_58 x0 = own_b ((248 ≤ x0.toInt ∧ x0.toInt ≤ 767) ∨ ((880 ≤ x0.toInt ∧ x0.toInt ≤ 893) ∨ ((895 ≤ x0.toInt ∧ x0.toInt ≤ 8191) ∨ ((8204 ≤ x0.toInt ∧ x0.toInt ≤ 8205) ∨ ((8304 ≤ x0.toInt ∧ x0.toInt ≤ 8591) ∨ ((11264 ≤ x0.toInt ∧ x0.toInt ≤ 12271) ∨ ((12289 ≤ x0.toInt ∧ x0.toInt ≤ 55295) ∨ ((63744 ≤ x0.toInt ∧ x0.toInt ≤ 64975) ∨ ((65008 ≤ x0.toInt ∧ x0.toInt ≤ 65533) ∨ (65536 ≤ x0.toInt ∧ x0.toInt ≤ 983039)))))))))) := ((congrArg (fun t => (if x0 < 248 then t else (if 767 < x0 then t else (1 : Int32)))) (b1_72 x0)).trans (own_r1 x0 248 767 248 767 (by decide) (by decide)))
theorem b1_44 (x0 : Int32) : f1_44 x0 = own_b ((216 ≤ x0.toInt ∧ x0.toInt ≤ 246) ∨ ((248 ≤ x0.toInt ∧ x0.toInt ≤ 767) ∨ ((880 ≤ x0.toInt ∧ x0.toInt ≤ 893) ∨ ((895 ≤ x0.toInt ∧ x0.toInt ≤ 8191) ∨ ((8204 ≤ x0.toInt ∧ x0.toInt ≤ 8205) ∨ ((8304 ≤ x0.toInt ∧ x0.toInt ≤ 8591) ∨ ((11264 ≤ x0.toInt ∧ x0.toInt ≤ 12271) ∨ ((12289 ≤ x0.toInt ∧ x0.toInt ≤ 55295) ∨ ((63744 ≤ x0.toInt ∧ x0.toInt ≤ 64975) ∨ ((65008 ≤ x0.toInt ∧ x0.toInt ≤ 65533) ∨ (65536 ≤ x0.toInt ∧ x0.toInt ≤ 983039))))))))))) := ((congrArg (fun t => (if x0 < 216 then t else (if 246 < x0 then t else (1 : Int32)))) (b1_58 x0)).trans (own_r1 x0 216 246 216 246 (by decide) (by decide)))
theorem b1_24 (x0 : Int32) : f1_24 x0 = own_b (x0.toInt = 95 ∨ ((192 ≤ x0.toInt ∧ x0.toInt ≤ 214) ∨ ((216 ≤ x0.toInt ∧ x0.toInt ≤ 246) ∨ ((248 ≤ x0.toInt ∧ x0.toInt ≤ 767) ∨ ((880 ≤ x0.toInt ∧ x0.toInt ≤ 893) ∨ ((895 ≤ x0.toInt ∧ x0.toInt ≤ 8191) ∨ ((8204 ≤ x0.toInt ∧ x0.toInt ≤ 8205) ∨ ((8304 ≤ x0.toInt ∧ x0.toInt ≤ 8591) ∨ ((11264 ≤ x0.toInt ∧ x0.toInt ≤ 12271) ∨ ((12289 ≤ x0.toInt ∧ x0.toInt ≤ 55295) ∨ ((63744 ≤ x0.toInt ∧ x0.toInt ≤ 64975) ∨ ((65008 ≤ x0.toInt ∧ x0.toInt ≤ 65533) ∨ (65536 ≤ x0.toInt ∧ x0.toInt ≤ 983039))))))))))))) := ((congrArg (fun t => (if x0 = 95 then (1 : Int32) else t)) ((congrArg (fun t => (if x0 < 192 then t else (if 214 < x0 then t else (1 : Int32)))) (b1_44 x0)).trans (own_r1 x0 192 214 192 214 (by decide) (by decide)))).trans (own_e1 x0 95 95 (by decide)))
theorem b1_12 (x0 : Int32) : f1_12 x0 = own_b ((97 ≤ x0.toInt ∧ x0.toInt ≤ 122) ∨ (x0.toInt = 95 ∨ ((192 ≤ x0.toInt ∧ x0.toInt ≤ 214) ∨ ((216 ≤ x0.toInt ∧ x0.toInt ≤ 246) ∨ ((248 ≤ x0.toInt ∧ x0.toInt ≤ 767) ∨ ((880 ≤ x0.toInt ∧ x0.toInt ≤ 893) ∨ ((895 ≤ x0.toInt ∧ x0.toInt ≤ 8191) ∨ ((8204 ≤ x0.toInt ∧ x0.toInt ≤ 8205) ∨ ((8304 ≤ x0.toInt ∧ x0.toInt ≤ 8591) ∨ ((11264 ≤ x0.toInt ∧ x0.toInt ≤ 12271) ∨ ((12289 ≤ x0.toInt ∧ x0.toInt ≤ 55295) ∨ ((63744 ≤ x0.toInt ∧ x0.toInt ≤ 64975) ∨ ((65008 ≤ x0.toInt ∧ x0.toInt ≤ 65533) ∨ (65536 ≤ x0.toInt ∧ x0.toInt ≤ 983039)))))))))))))) := ((congrArg (fun t => (if x0 < 97 then t else (if 122 < x0 then t else (1 : Int32)))) (b1_24 x0)).trans (own_r1 x0 97 122 97 122 (by decide) (by decide)))
theorem b1_0 (x0 : Int32) : f1_0 x0 = own_b ((65 ≤ x0.toInt ∧ x0.toInt ≤ 90) ∨ ((97 ≤ x0.toInt ∧ x0.toInt ≤ 122) ∨ (x0.toInt = 95 ∨ ((192 ≤ x0.toInt ∧ x0.toInt ≤ 214) ∨ ((216 ≤ x0.toInt ∧ x0.toInt ≤ 246) ∨ ((248 ≤ x0.toInt ∧ x0.toInt ≤ 767) ∨ ((880 ≤ x0.toInt ∧ x0.toInt ≤ 893) ∨ ((895 ≤ x0.toInt ∧ x0.toInt ≤ 8191) ∨ ((8204 ≤ x0.toInt ∧ x0.toInt ≤ 8205) ∨ ((8304 ≤ x0.toInt ∧ x0.toInt ≤ 8591) ∨ ((11264 ≤ x0.toInt ∧ x0.toInt ≤ 12271) ∨ ((12289 ≤ x0.toInt ∧ x0.toInt ≤ 55295) ∨ ((63744 ≤ x0.toInt ∧ x0.toInt ≤ 64975) ∨ ((65008 ≤ x0.toInt ∧ x0.toInt ≤ 65533) ∨ (65536 ≤ x0.toInt ∧ x0.toInt ≤ 983039))))))))))))))) := ((congrArg (fun t => (if x0 < 65 then t else (if 90 < x0 then t else (1 : Int32)))) (b1_12 x0)).trans (own_r1 x0 65 90 65 90 (by decide) (by decide)))
def own_T (i : Nat) (a b : Int) : Prop := (i = 0 ∧ a = (-2147483648) ∧ b = 64) ∨ (i = 1 ∧ a = 65 ∧ b = 90) ∨ (i = 2 ∧ a = 91 ∧ b = 94) ∨ (i = 3 ∧ a = 95 ∧ b = 95) ∨ (i = 4 ∧ a = 96 ∧ b = 96) ∨ (i = 5 ∧ a = 97 ∧ b = 122) ∨ (i = 6 ∧ a = 123 ∧ b = 191) ∨ (i = 7 ∧ a = 192 ∧ b = 214) ∨ (i = 8 ∧ a = 215 ∧ b = 215) ∨ (i = 9 ∧ a = 216 ∧ b = 246) ∨ (i = 10 ∧ a = 247 ∧ b = 247) ∨ (i = 11 ∧ a = 248 ∧ b = 767) ∨ (i = 12 ∧ a = 768 ∧ b = 879) ∨ (i = 13 ∧ a = 880 ∧ b = 893) ∨ (i = 14 ∧ a = 894 ∧ b = 894) ∨ (i = 15 ∧ a = 895 ∧ b = 8191) ∨ (i = 16 ∧ a = 8192 ∧ b = 8203) ∨ (i = 17 ∧ a = 8204 ∧ b = 8205) ∨ (i = 18 ∧ a = 8206 ∧ b = 8303) ∨ (i = 19 ∧ a = 8304 ∧ b = 8591) ∨ (i = 20 ∧ a = 8592 ∧ b = 11263) ∨ (i = 21 ∧ a = 11264 ∧ b = 12271) ∨ (i = 22 ∧ a = 12272 ∧ b = 12288) ∨ (i = 23 ∧ a = 12289 ∧ b = 55295) ∨ (i = 24 ∧ a = 55296 ∧ b = 63743) ∨ (i = 25 ∧ a = 63744 ∧ b = 64975) ∨ (i = 26 ∧ a = 64976 ∧ b = 65007) ∨ (i = 27 ∧ a = 65008 ∧ b = 65533) ∨ (i = 28 ∧ a = 65534 ∧ b = 65535) ∨ (i = 29 ∧ a = 65536 ∧ b = 983039) ∨ (i = 30 ∧ a = 983040 ∧ b = 2147483647)
theorem own_pick2 : ∀ i : Nat, i < 31 → ∃ a b : Int64, ([.long (-2147483648), .long 65, .long 91, .long 95, .long 96, .long 97, .long 123, .long 192, .long 215, .long 216, .long 247, .long 248, .long 768, .long 880, .long 894, .long 895, .long 8192, .long 8204, .long 8206, .long 8304, .long 8592, .long 11264, .long 12272, .long 12289, .long 55296, .long 63744, .long 64976, .long 65008, .long 65534, .long 65536, .long 983040] : List Value)[i]? = some (.long a) ∧ ([.long 64, .long 90, .long 94, .long 95, .long 96, .long 122, .long 191, .long 214, .long 215, .long 246, .long 247, .long 767, .long 879, .long 893, .long 894, .long 8191, .long 8203, .long 8205, .long 8303, .long 8591, .long 11263, .long 12271, .long 12288, .long 55295, .long 63743, .long 64975, .long 65007, .long 65533, .long 65535, .long 983039, .long 2147483647] : List Value)[i]? = some (.long b) ∧ own_T i a.toInt b.toInt
  | 0, _ => ⟨(-2147483648), 64, rfl, rfl, Or.inl ⟨rfl, by decide, by decide⟩⟩
  | 1, _ => ⟨65, 90, rfl, rfl, Or.inr (Or.inl ⟨rfl, by decide, by decide⟩)⟩
  | 2, _ => ⟨91, 94, rfl, rfl, Or.inr (Or.inr (Or.inl ⟨rfl, by decide, by decide⟩))⟩
  | 3, _ => ⟨95, 95, rfl, rfl, Or.inr (Or.inr (Or.inr (Or.inl ⟨rfl, by decide, by decide⟩)))⟩
  | 4, _ => ⟨96, 96, rfl, rfl, Or.inr (Or.inr (Or.inr (Or.inr (Or.inl ⟨rfl, by decide, by decide⟩))))⟩
  | 5, _ => ⟨97, 122, rfl, rfl, Or.inr (Or.inr (Or.inr (Or.inr (Or.inr (Or.inl ⟨rfl, by decide, by decide⟩)))))⟩
  | 6, _ => ⟨123, 191, rfl, rfl, Or.inr (Or.inr (Or.inr (Or.inr (Or.inr (Or.inr (Or.inl ⟨rfl, by decide, by decide⟩))))))⟩
  | 7, _ => ⟨192, 214, rfl, rfl, Or.inr (Or.inr (Or.inr (Or.inr (Or.inr (Or.inr (Or.inr (Or.inl ⟨rfl, by decide, by decide⟩)))))))⟩
  | 8, _ => ⟨215, 215, rfl, rfl, Or.inr (Or.inr (Or.inr (Or.inr (Or.inr (Or.inr (Or.inr (Or.inr (Or.inl ⟨rfl, by decide, by decide⟩))))))))⟩
  | 9, _ => ⟨216, 246, rfl, rfl, Or.inr (Or.inr (Or.inr (Or.inr (Or.inr (Or.inr (Or.inr (Or.inr (Or.inr (Or.inl ⟨rfl, by decide, by decide⟩)))))))))⟩
  | 10, _ => ⟨247, 247, rfl, rfl, Or.inr (Or.inr (Or.inr (Or.inr (Or.inr (Or.inr (Or.inr (Or.inr (Or.inr (Or.inr (Or.inl ⟨rfl, by decide, by decide⟩))))))))))⟩
  | 11, _ => ⟨248, 767, rfl, rfl, Or.inr (Or.inr (Or.inr (Or.inr (Or.inr (Or.inr (Or.inr (Or.inr (Or.inr (Or.inr (Or.inr (Or.inl ⟨rfl, by decide, by decide⟩)))))))))))⟩
  | 12, _ => ⟨768, 879, rfl, rfl, Or.inr (Or.inr (Or.inr (Or.inr (Or.inr (Or.inr (Or.inr (Or.inr (Or.inr (Or.inr (Or.inr (Or.inr (Or.inl ⟨rfl, by decide, by decide⟩))))))))))))⟩
  | 13, _ => ⟨880, 893, rfl, rfl, Or.inr (Or.inr (Or.inr (Or.inr (Or.inr (Or.inr (Or.inr (Or.inr (Or.inr (Or.inr (Or.inr (Or.inr (Or.inr (Or.inl ⟨rfl, by decide, by decide⟩)))))))))))))⟩
  | 14, _ => ⟨894, 894, rfl, rfl, Or.inr (Or.inr (Or.inr (Or.inr (Or.inr (Or.inr (Or.inr (Or.inr (Or.inr (Or.inr (Or.inr (Or.inr (Or.inr (Or.inr (Or.inl ⟨rfl, by decide, by decide⟩))))))))))))))⟩
  | 15, _ => ⟨895, 8191, rfl, rfl, Or.inr (Or.inr (Or.inr (Or.inr (Or.inr (Or.inr (Or.inr (Or.inr (Or.inr (Or.inr (Or.inr (Or.inr (Or.inr (Or.inr (Or.inr (Or.inl ⟨rfl, by decide, by decide⟩)))))))))))))))⟩
  | 16, _ => ⟨8192, 8203, rfl, rfl, Or.inr (Or.inr (Or.inr (Or.inr (Or.inr (Or.inr (Or.inr (Or.inr (Or.inr (Or.inr (Or.inr (Or.inr (Or.inr (Or.inr (Or.inr (Or.inr (Or.inl ⟨rfl, by decide, by decide⟩))))))))))))))))⟩
  | 17, _ => ⟨8204, 8205, rfl, rfl, Or.inr (Or.inr (Or.inr (Or.inr (Or.inr (Or.inr (Or.inr (Or.inr (Or.inr (Or.inr (Or.inr (Or.inr (Or.inr (Or.inr (Or.inr (Or.inr (Or.inr (Or.inl ⟨rfl, by decide, by decide⟩)))))))))))))))))⟩
  | 18, _ => ⟨8206, 8303, rfl, rfl, Or.inr (Or.inr (Or.inr (Or.inr (Or.inr (Or.inr (Or.inr (Or.inr (Or.inr (Or.inr (Or.inr (Or.inr (Or.inr (Or.inr (Or.inr (Or.inr (Or.inr (Or.inr (Or.inl ⟨rfl, by decide, by decide⟩))))))))))))))))))⟩
  | 19, _ => ⟨8304, 8591, rfl, rfl, Or.inr (Or.inr (Or.inr (Or.inr (Or.inr (Or.inr (Or.inr (Or.inr (Or.inr (Or.inr (Or.inr (Or.inr (Or.inr (Or.inr (Or.inr (Or.inr (Or.inr (Or.inr (Or.inr (Or.inl ⟨rfl, by decide, by decide⟩)))))))))))))))))))⟩
  | 20, _ => ⟨8592, 11263, rfl, rfl, Or.inr (Or.inr (Or.inr (Or.inr (Or.inr (Or.inr (Or.inr (Or.inr (Or.inr (Or.inr (Or.inr (Or.inr (Or.inr (Or.inr (Or.inr (Or.inr (Or.inr (Or.inr (Or.inr (Or.inr (Or.inl ⟨rfl, by decide, by decide⟩))))))))))))))))))))⟩
  | 21, _ => ⟨11264, 12271, rfl, rfl, Or.inr (Or.inr (Or.inr (Or.inr (Or.inr (Or.inr (Or.inr (Or.inr (Or.inr (Or.inr (Or.inr (Or.inr (Or.inr (Or.inr (Or.inr (Or.inr (Or.inr (Or.inr (Or.inr (Or.inr (Or.inr (Or.inl ⟨rfl, by decide, by decide⟩)))))))))))))))))))))⟩
  | 22, _ => ⟨12272, 12288, rfl, rfl, Or.inr (Or.inr (Or.inr (Or.inr (Or.inr (Or.inr (Or.inr (Or.inr (Or.inr (Or.inr (Or.inr (Or.inr (Or.inr (Or.inr (Or.inr (Or.inr (Or.inr (Or.inr (Or.inr (Or.inr (Or.inr (Or.inr (Or.inl ⟨rfl, by decide, by decide⟩))))))))))))))))))))))⟩
  | 23, _ => ⟨12289, 55295, rfl, rfl, Or.inr (Or.inr (Or.inr (Or.inr (Or.inr (Or.inr (Or.inr (Or.inr (Or.inr (Or.inr (Or.inr (Or.inr (Or.inr (Or.inr (Or.inr (Or.inr (Or.inr (Or.inr (Or.inr (Or.inr (Or.inr (Or.inr (Or.inr (Or.inl ⟨rfl, by decide, by decide⟩)))))))))))))))))))))))⟩
  | 24, _ => ⟨55296, 63743, rfl, rfl, Or.inr (Or.inr (Or.inr (Or.inr (Or.inr (Or.inr (Or.inr (Or.inr (Or.inr (Or.inr (Or.inr (Or.inr (Or.inr (Or.inr (Or.inr (Or.inr (Or.inr (Or.inr (Or.inr (Or.inr (Or.inr (Or.inr (Or.inr (Or.inr (Or.inl ⟨rfl, by decide, by decide⟩))))))))))))))))))))))))⟩
  | 25, _ => ⟨63744, 64975, rfl, rfl, Or.inr (Or.inr (Or.inr (Or.inr (Or.inr (Or.inr (Or.inr (Or.inr (Or.inr (Or.inr (Or.inr (Or.inr (Or.inr (Or.inr (Or.inr (Or.inr (Or.inr (Or.inr (Or.inr (Or.inr (Or.inr (Or.inr (Or.inr (Or.inr (Or.inr (Or.inl ⟨rfl, by decide, by decide⟩)))))))))))))))))))))))))⟩
  | 26, _ => ⟨64976, 65007, rfl, rfl, Or.inr (Or.inr (Or.inr (Or.inr (Or.inr (Or.inr (Or.inr (Or.inr (Or.inr (Or.inr (Or.inr (Or.inr (Or.inr (Or.inr (Or.inr (Or.inr (Or.inr (Or.inr (Or.inr (Or.inr (Or.inr (Or.inr (Or.inr (Or.inr (Or.inr (Or.inr (Or.inl ⟨rfl, by decide, by decide⟩))))))))))))))))))))))))))⟩
  | 27, _ => ⟨65008, 65533, rfl, rfl, Or.inr (Or.inr (Or.inr (Or.inr (Or.inr (Or.inr (Or.inr (Or.inr (Or.inr (Or.inr (Or.inr (Or.inr (Or.inr (Or.inr (Or.inr (Or.inr (Or.inr (Or.inr (Or.inr (Or.inr (Or.inr (Or.inr (Or.inr (Or.inr (Or.inr (Or.inr (Or.inr (Or.inl ⟨rfl, by decide, by decide⟩)))))))))))))))))))))))))))⟩
  | 28, _ => ⟨65534, 65535, rfl, rfl, Or.inr (Or.inr (Or.inr (Or.inr (Or.inr (Or.inr (Or.inr (Or.inr (Or.inr (Or.inr (Or.inr (Or.inr (Or.inr (Or.inr (Or.inr (Or.inr (Or.inr (Or.inr (Or.inr (Or.inr (Or.inr (Or.inr (Or.inr (Or.inr (Or.inr (Or.inr (Or.inr (Or.inr (Or.inl ⟨rfl, by decide, by decide⟩))))))))))))))))))))))))))))⟩
  | 29, _ => ⟨65536, 983039, rfl, rfl, Or.inr (Or.inr (Or.inr (Or.inr (Or.inr (Or.inr (Or.inr (Or.inr (Or.inr (Or.inr (Or.inr (Or.inr (Or.inr (Or.inr (Or.inr (Or.inr (Or.inr (Or.inr (Or.inr (Or.inr (Or.inr (Or.inr (Or.inr (Or.inr (Or.inr (Or.inr (Or.inr (Or.inr (Or.inr (Or.inl ⟨rfl, by decide, by decide⟩)))))))))))))))))))))))))))))⟩
  | 30, _ => ⟨983040, 2147483647, rfl, rfl, Or.inr (Or.inr (Or.inr (Or.inr (Or.inr (Or.inr (Or.inr (Or.inr (Or.inr (Or.inr (Or.inr (Or.inr (Or.inr (Or.inr (Or.inr (Or.inr (Or.inr (Or.inr (Or.inr (Or.inr (Or.inr (Or.inr (Or.inr (Or.inr (Or.inr (Or.inr (Or.inr (Or.inr (Or.inr (Or.inr (⟨rfl, by decide, by decide⟩))))))))))))))))))))))))))))))⟩
  | n + 31, h => absurd h (by omega)
theorem own_bd {i : Nat} {a b : Int} (h : own_T i a b) : -2147483648 ≤ a ∧ a ≤ b ∧ b < 2147483648 := by
  unfold own_T at h
  rcases h with ⟨rfl, rfl, rfl⟩ | ⟨rfl, rfl, rfl⟩ | ⟨rfl, rfl, rfl⟩ | ⟨rfl, rfl, rfl⟩ | ⟨rfl, rfl, rfl⟩ | ⟨rfl, rfl, rfl⟩ | ⟨rfl, rfl, rfl⟩ | ⟨rfl, rfl, rfl⟩ | ⟨rfl, rfl, rfl⟩ | ⟨rfl, rfl, rfl⟩ | ⟨rfl, rfl, rfl⟩ | ⟨rfl, rfl, rfl⟩ | ⟨rfl, rfl, rfl⟩ | ⟨rfl, rfl, rfl⟩ | ⟨rfl, rfl, rfl⟩ | ⟨rfl, rfl, rfl⟩ | ⟨rfl, rfl, rfl⟩ | ⟨rfl, rfl, rfl⟩ | ⟨rfl, rfl, rfl⟩ | ⟨rfl, rfl, rfl⟩ | ⟨rfl, rfl, rfl⟩ | ⟨rfl, rfl, rfl⟩ | ⟨rfl, rfl, rfl⟩ | ⟨rfl, rfl, rfl⟩ | ⟨rfl, rfl, rfl⟩ | ⟨rfl, rfl, rfl⟩ | ⟨rfl, rfl, rfl⟩ | ⟨rfl, rfl, rfl⟩ | ⟨rfl, rfl, rfl⟩ | ⟨rfl, rfl, rfl⟩ | ⟨rfl, rfl, rfl⟩ <;> decide
theorem own_fin {i : Nat} {a b z : Int} (h : own_T i a b) (ha : a ≤ z) (hb : z ≤ b) : ((65 ≤ z ∧ z ≤ 90) ∨ ((97 ≤ z ∧ z ≤ 122) ∨ (z = 95 ∨ ((192 ≤ z ∧ z ≤ 214) ∨ ((216 ≤ z ∧ z ≤ 246) ∨ ((248 ≤ z ∧ z ≤ 767) ∨ ((880 ≤ z ∧ z ≤ 893) ∨ ((895 ≤ z ∧ z ≤ 8191) ∨ ((8204 ≤ z ∧ z ≤ 8205) ∨ ((8304 ≤ z ∧ z ≤ 8591) ∨ ((11264 ≤ z ∧ z ≤ 12271) ∨ ((12289 ≤ z ∧ z ≤ 55295) ∨ ((63744 ≤ z ∧ z ≤ 64975) ∨ ((65008 ≤ z ∧ z ≤ 65533) ∨ (65536 ≤ z ∧ z ≤ 983039))))))))))))))) ↔ i % 2 = 1 := by
  unfold own_T at h
  rcases h with ⟨rfl, rfl, rfl⟩ | ⟨rfl, rfl, rfl⟩ | ⟨rfl, rfl, rfl⟩ | ⟨rfl, rfl, rfl⟩ | ⟨rfl, rfl, rfl⟩ | ⟨rfl, rfl, rfl⟩ | ⟨rfl, rfl, rfl⟩ | ⟨rfl, rfl, rfl⟩ | ⟨rfl, rfl, rfl⟩ | ⟨rfl, rfl, rfl⟩ | ⟨rfl, rfl, rfl⟩ | ⟨rfl, rfl, rfl⟩ | ⟨rfl, rfl, rfl⟩ | ⟨rfl, rfl, rfl⟩ | ⟨rfl, rfl, rfl⟩ | ⟨rfl, rfl, rfl⟩ | ⟨rfl, rfl, rfl⟩ | ⟨rfl, rfl, rfl⟩ | ⟨rfl, rfl, rfl⟩ | ⟨rfl, rfl, rfl⟩ | ⟨rfl, rfl, rfl⟩ | ⟨rfl, rfl, rfl⟩ | ⟨rfl, rfl, rfl⟩ | ⟨rfl, rfl, rfl⟩ | ⟨rfl, rfl, rfl⟩ | ⟨rfl, rfl, rfl⟩ | ⟨rfl, rfl, rfl⟩ | ⟨rfl, rfl, rfl⟩ | ⟨rfl, rfl, rfl⟩ | ⟨rfl, rfl, rfl⟩ | ⟨rfl, rfl, rfl⟩ <;> omega
theorem own_c {a b off : Int64} (h : -2147483648 ≤ a.toInt ∧ a.toInt ≤ b.toInt ∧ b.toInt < 2147483648) (h0 : 0 ≤ off.toInt) (h1 : off.toInt ≤ b.toInt - a.toInt) : a.toInt ≤ (a + off).toInt32.toInt ∧ (a + off).toInt32.toInt ≤ b.toInt := by
  have q : (a + off).toInt = a.toInt + off.toInt := XT.add64 ⟨by omega, by omega⟩
  have r : (a + off).toInt32.toInt = (a + off).toInt := XT.narrowInt ⟨by omega, by omega⟩
  omega
theorem own_size {a b : Int64} (h : -2147483648 ≤ a.toInt ∧ a.toInt ≤ b.toInt ∧ b.toInt < 2147483648) : (b - a + 1).toInt = b.toInt - a.toInt + 1 := by
  have q : (b - a).toInt = b.toInt - a.toInt := XT.sub64 ⟨by omega, by omega⟩
  have e : (1 : Int64).toInt = 1 := by decide
  have r : (b - a + 1).toInt = (b - a).toInt + (1 : Int64).toInt := XT.add64 ⟨by omega, by omega⟩
  omega
theorem own_last {a b : Int64} (h : -2147483648 ≤ a.toInt ∧ a.toInt ≤ b.toInt ∧ b.toInt < 2147483648) : (b - a + 1 - 1).toInt = b.toInt - a.toInt := by
  have q := own_size h
  have e : (1 : Int64).toInt = 1 := by decide
  have r : (b - a + 1 - 1).toInt = (b - a + 1).toInt - (1 : Int64).toInt := XT.sub64 ⟨by omega, by omega⟩
  omega
theorem own_nz {a b : Int64} (h : -2147483648 ≤ a.toInt ∧ a.toInt ≤ b.toInt ∧ b.toInt < 2147483648) : b - a + 1 ≠ 0 := by
  intro e
  have q := own_size h
  rw [e] at q
  have e0 : (0 : Int64).toInt = 0 := by decide
  omega
theorem own_rem {a b : Int64} (x : Int64) (h : -2147483648 ≤ a.toInt ∧ a.toInt ≤ b.toInt ∧ b.toInt < 2147483648) : 0 ≤ ((x &&& 9223372036854775807) % (b - a + 1)).toInt ∧ ((x &&& 9223372036854775807) % (b - a + 1)).toInt ≤ b.toInt - a.toInt := by
  have q := own_size h
  have m := c_maskL x 9223372036854775807 63 (by decide) (by decide)
  have p : 0 ≤ (x &&& 9223372036854775807).toInt := by rw [m]; exact Int.emod_nonneg _ (by decide)
  rw [Int64.toInt_mod, Int.tmod_eq_emod_of_nonneg p]
  have r1 := Int.emod_nonneg (x &&& 9223372036854775807).toInt (show (b - a + 1).toInt ≠ 0 by omega)
  have r2 := Int.emod_lt_of_pos (x &&& 9223372036854775807).toInt (show 0 < (b - a + 1).toInt by omega)
  omega
theorem own_k (p : Int32) : Ix ((p &&& 2147483647) % 31) ((p &&& 2147483647) % 31).toNatClampNeg ∧ ((p &&& 2147483647) % 31).toNatClampNeg < 31 ∧ (((p &&& 2147483647) % 31) &&& 1 = 1 ↔ ((p &&& 2147483647) % 31).toNatClampNeg % 2 = 1) := by
  have h := c_mask p 2147483647 31 (by decide) (by decide)
  have q := (c_irem (p &&& 2147483647) 31 31 (by decide)).1 (by omega)
  generalize (p &&& 2147483647) % 31 = r at *
  have e0 : (0 : Int32).toInt = 0 := by decide
  have e1 : (1 : Int32).toInt = 1 := by decide
  have m := c_mask r 1 1 (by decide) (by decide)
  refine ⟨⟨?_, rfl⟩, ?_, ?_⟩
  · rw [Int32.lt_iff_toInt_lt]; omega
  · simp only [Int32.toNatClampNeg]; omega
  · rw [← Int32.toInt_inj]; simp only [Int32.toNatClampNeg]; omega
set_option maxHeartbeats 4000000 in
theorem tail_r {l : Launch} {Z : State} {a0 : Array Value} {n0 : Nat} (hw : HW Z a0) (p0 p1 k m : Int32) (p2 sz off a b : Int64) {i : Nat} (hi : Ix k i) (hk : k &&& 1 = 1 ↔ i % 2 = 1) (hT : own_T i a.toInt b.toInt) (hv : ([.long (-2147483648), .long 65, .long 91, .long 95, .long 96, .long 97, .long 123, .long 192, .long 215, .long 216, .long 247, .long 248, .long 768, .long 880, .long 894, .long 895, .long 8192, .long 8204, .long 8206, .long 8304, .long 8592, .long 11264, .long 12272, .long 12289, .long 55296, .long 63744, .long 64976, .long 65008, .long 65534, .long 65536, .long 983040] : List Value)[i]? = some (.long a)) (h0 : 0 ≤ off.toInt) (h1 : off.toInt ≤ b.toInt - a.toInt) : Runs K l Z n0 m0 499 [.val (.int p0), .val (.int p1), .val (.long p2), .second, .val (.ref 0), .val (.ref 1), .val (.int k), .val (.long sz), .second, .val (.int m), .val (.long off), .second, .unset, .unset] [] [.inr (.long, [.long (-2147483648), .long 65, .long 91, .long 95, .long 96, .long 97, .long 123, .long 192, .long 215, .long 216, .long 247, .long 248, .long 768, .long 880, .long 894, .long 895, .long 8192, .long 8204, .long 8206, .long 8304, .long 8592, .long 11264, .long 12272, .long 12289, .long 55296, .long 63744, .long 64976, .long 65008, .long 65534, .long 65536, .long 983040]), .inr (.long, [.long 64, .long 90, .long 94, .long 95, .long 96, .long 122, .long 191, .long 214, .long 215, .long 246, .long 247, .long 767, .long 879, .long 893, .long 894, .long 8191, .long 8203, .long 8205, .long 8303, .long 8591, .long 11263, .long 12271, .long 12288, .long 55295, .long 63743, .long 64975, .long 65007, .long 65533, .long 65535, .long 983039, .long 2147483647])] (some (.int 1)) [.inr (.long, [.long (-2147483648), .long 65, .long 91, .long 95, .long 96, .long 97, .long 123, .long 192, .long 215, .long 216, .long 247, .long 248, .long 768, .long 880, .long 894, .long 895, .long 8192, .long 8204, .long 8206, .long 8304, .long 8592, .long 11264, .long 12272, .long 12289, .long 55296, .long 63744, .long 64976, .long 65008, .long 65534, .long 65536, .long 983040]), .inr (.long, [.long 64, .long 90, .long 94, .long 95, .long 96, .long 122, .long 191, .long 214, .long 215, .long 246, .long 247, .long 767, .long 879, .long 893, .long 894, .long 8191, .long 8203, .long 8205, .long 8303, .long 8591, .long 11263, .long 12271, .long 12288, .long 55295, .long 63743, .long 64975, .long 65007, .long 65533, .long 65535, .long 983039, .long 2147483647])] := by
  have hc := own_c (own_bd hT) h0 h1
  have hf := own_fin hT hc.1 hc.2
  by_cases ho : k &&& 1 = 1
  · skip
    refine r_aload i0_499 rfl rfl ?_
    refine r_iload i0_501 rfl ?_
    refine r_laload i0_503 rfl hi hv ?_
    refine r_lload i0_504 rfl ?_
    refine r_ladd i0_506 ?_
    refine r_l2i i0_507 ?_
    refine r_istore (ls' := [_, _, _, _, _, _, _, _, _, _, _, _, _, _]) i0_508 rfl rfl ?_
    refine r_iload i0_510 rfl ?_
    refine r_iconst i0_512 ?_
    refine r_iand i0_513 ?_
    refine r_iconst i0_514 ?_
    refine r_icF i0_515 (XT.ii_ne_f ho) ?_
    refine r_iconst i0_518 ?_
    refine r_goto i0_519 ?_
    refine r_istore (ls' := [_, _, _, _, _, _, _, _, _, _, _, _, _, _]) i0_523 rfl rfl ?_
    refine r_iload i0_525 rfl ?_
    refine s0_527 hw (H1 := [_, _]) (c1 hw _) rfl (leB rfl) ?_
    refine r_iload i0_530 rfl ?_
    refine r_icF i0_532 (XT.ii_ne_f ((b1_0 _).trans (own_b1.mpr (hf.mpr (hk.mp ho))))) ?_
    refine r_iconst i0_535 ?_
    refine r_goto i0_536 ?_
    exact r_zreturn i0_540 rfl (by first | decide | simp)
  · skip
    refine r_aload i0_499 rfl rfl ?_
    refine r_iload i0_501 rfl ?_
    refine r_laload i0_503 rfl hi hv ?_
    refine r_lload i0_504 rfl ?_
    refine r_ladd i0_506 ?_
    refine r_l2i i0_507 ?_
    refine r_istore (ls' := [_, _, _, _, _, _, _, _, _, _, _, _, _, _]) i0_508 rfl rfl ?_
    refine r_iload i0_510 rfl ?_
    refine r_iconst i0_512 ?_
    refine r_iand i0_513 ?_
    refine r_iconst i0_514 ?_
    refine r_icT i0_515 (XT.ii_ne_t ho) ?_
    refine r_iconst i0_522 ?_
    refine r_istore (ls' := [_, _, _, _, _, _, _, _, _, _, _, _, _, _]) i0_523 rfl rfl ?_
    refine r_iload i0_525 rfl ?_
    refine s0_527 hw (H1 := [_, _]) (c1 hw _) rfl (leB rfl) ?_
    refine r_iload i0_530 rfl ?_
    refine r_icF i0_532 (XT.ii_ne_f ((b1_0 _).trans (own_b0.mpr (fun q => ho (hk.mpr (hf.mp q)))))) ?_
    refine r_iconst i0_535 ?_
    refine r_goto i0_536 ?_
    exact r_zreturn i0_540 rfl (by first | decide | simp)
set_option maxHeartbeats 8000000 in
theorem law_runs {l : Launch} {Z : State} {a0 : Array Value} {n0 : Nat} (hw : HW Z a0) (p0 : Int32) (p1 : Int32) (p2 : Int64) : RunsB K l Z n0 m0 0 [.val (.int p0), .val (.int p1), .val (.long p2), .second, .unset, .unset, .unset, .unset, .unset, .unset, .unset, .unset, .unset, .unset] [] [] (some (.int 1)) 16 192 := by
  refine ⟨[.inr (.long, [.long (-2147483648), .long 65, .long 91, .long 95, .long 96, .long 97, .long 123, .long 192, .long 215, .long 216, .long 247, .long 248, .long 768, .long 880, .long 894, .long 895, .long 8192, .long 8204, .long 8206, .long 8304, .long 8592, .long 11264, .long 12272, .long 12289, .long 55296, .long 63744, .long 64976, .long 65008, .long 65534, .long 65536, .long 983040]), .inr (.long, [.long 64, .long 90, .long 94, .long 95, .long 96, .long 122, .long 191, .long 214, .long 215, .long 246, .long 247, .long 767, .long 879, .long 893, .long 894, .long 8191, .long 8203, .long 8205, .long 8303, .long 8591, .long 11263, .long 12271, .long 12288, .long 55295, .long 63743, .long 64975, .long 65007, .long 65533, .long 65535, .long 983039, .long 2147483647])], ?_, leB rfl, leB rfl⟩
  obtain ⟨hi, hlt, hk⟩ := own_k p0
  obtain ⟨a, b, hva, hvb, hT⟩ := own_pick2 _ hlt
  have hb := own_bd hT
  refine r_bipush i0_0 ?_
  refine s0_2 hw (a := 0) (o := [.long 0, .long 0, .long 0, .long 0, .long 0, .long 0, .long 0, .long 0, .long 0, .long 0, .long 0, .long 0, .long 0, .long 0, .long 0, .long 0, .long 0, .long 0, .long 0, .long 0, .long 0, .long 0, .long 0, .long 0, .long 0, .long 0, .long 0, .long 0, .long 0, .long 0, .long 0]) (H1 := [_]) (by decide) (by decide) rfl rfl rfl ?_
  refine r_dup i0_4 rfl ?_
  refine r_iconst i0_5 ?_
  refine s0_6 hw ?_
  refine r_lastore (i := 0) (vs' := [_, _, _, _, _, _, _, _, _, _, _, _, _, _, _, _, _, _, _, _, _, _, _, _, _, _, _, _, _, _, _]) (H1 := [_]) i0_9 rfl ⟨by decide, by decide⟩ (ltB rfl) rfl rfl ?_
  refine r_dup i0_10 rfl ?_
  refine r_iconst i0_11 ?_
  refine s0_12 hw ?_
  refine r_lastore (i := 1) (vs' := [_, _, _, _, _, _, _, _, _, _, _, _, _, _, _, _, _, _, _, _, _, _, _, _, _, _, _, _, _, _, _]) (H1 := [_]) i0_15 rfl ⟨by decide, by decide⟩ (ltB rfl) rfl rfl ?_
  refine r_dup i0_16 rfl ?_
  refine r_iconst i0_17 ?_
  refine s0_18 hw ?_
  refine r_lastore (i := 2) (vs' := [_, _, _, _, _, _, _, _, _, _, _, _, _, _, _, _, _, _, _, _, _, _, _, _, _, _, _, _, _, _, _]) (H1 := [_]) i0_21 rfl ⟨by decide, by decide⟩ (ltB rfl) rfl rfl ?_
  refine r_dup i0_22 rfl ?_
  refine r_iconst i0_23 ?_
  refine s0_24 hw ?_
  refine r_lastore (i := 3) (vs' := [_, _, _, _, _, _, _, _, _, _, _, _, _, _, _, _, _, _, _, _, _, _, _, _, _, _, _, _, _, _, _]) (H1 := [_]) i0_27 rfl ⟨by decide, by decide⟩ (ltB rfl) rfl rfl ?_
  refine r_dup i0_28 rfl ?_
  refine r_iconst i0_29 ?_
  refine s0_30 hw ?_
  refine r_lastore (i := 4) (vs' := [_, _, _, _, _, _, _, _, _, _, _, _, _, _, _, _, _, _, _, _, _, _, _, _, _, _, _, _, _, _, _]) (H1 := [_]) i0_33 rfl ⟨by decide, by decide⟩ (ltB rfl) rfl rfl ?_
  refine r_dup i0_34 rfl ?_
  refine r_iconst i0_35 ?_
  refine s0_36 hw ?_
  refine r_lastore (i := 5) (vs' := [_, _, _, _, _, _, _, _, _, _, _, _, _, _, _, _, _, _, _, _, _, _, _, _, _, _, _, _, _, _, _]) (H1 := [_]) i0_39 rfl ⟨by decide, by decide⟩ (ltB rfl) rfl rfl ?_
  refine r_dup i0_40 rfl ?_
  refine r_bipush i0_41 ?_
  refine s0_43 hw ?_
  refine r_lastore (i := 6) (vs' := [_, _, _, _, _, _, _, _, _, _, _, _, _, _, _, _, _, _, _, _, _, _, _, _, _, _, _, _, _, _, _]) (H1 := [_]) i0_46 rfl ⟨by decide, by decide⟩ (ltB rfl) rfl rfl ?_
  refine r_dup i0_47 rfl ?_
  refine r_bipush i0_48 ?_
  refine s0_50 hw ?_
  refine r_lastore (i := 7) (vs' := [_, _, _, _, _, _, _, _, _, _, _, _, _, _, _, _, _, _, _, _, _, _, _, _, _, _, _, _, _, _, _]) (H1 := [_]) i0_53 rfl ⟨by decide, by decide⟩ (ltB rfl) rfl rfl ?_
  refine r_dup i0_54 rfl ?_
  refine r_bipush i0_55 ?_
  refine s0_57 hw ?_
  refine r_lastore (i := 8) (vs' := [_, _, _, _, _, _, _, _, _, _, _, _, _, _, _, _, _, _, _, _, _, _, _, _, _, _, _, _, _, _, _]) (H1 := [_]) i0_60 rfl ⟨by decide, by decide⟩ (ltB rfl) rfl rfl ?_
  refine r_dup i0_61 rfl ?_
  refine r_bipush i0_62 ?_
  refine s0_64 hw ?_
  refine r_lastore (i := 9) (vs' := [_, _, _, _, _, _, _, _, _, _, _, _, _, _, _, _, _, _, _, _, _, _, _, _, _, _, _, _, _, _, _]) (H1 := [_]) i0_67 rfl ⟨by decide, by decide⟩ (ltB rfl) rfl rfl ?_
  refine r_dup i0_68 rfl ?_
  refine r_bipush i0_69 ?_
  refine s0_71 hw ?_
  refine r_lastore (i := 10) (vs' := [_, _, _, _, _, _, _, _, _, _, _, _, _, _, _, _, _, _, _, _, _, _, _, _, _, _, _, _, _, _, _]) (H1 := [_]) i0_74 rfl ⟨by decide, by decide⟩ (ltB rfl) rfl rfl ?_
  refine r_dup i0_75 rfl ?_
  refine r_bipush i0_76 ?_
  refine s0_78 hw ?_
  refine r_lastore (i := 11) (vs' := [_, _, _, _, _, _, _, _, _, _, _, _, _, _, _, _, _, _, _, _, _, _, _, _, _, _, _, _, _, _, _]) (H1 := [_]) i0_81 rfl ⟨by decide, by decide⟩ (ltB rfl) rfl rfl ?_
  refine r_dup i0_82 rfl ?_
  refine r_bipush i0_83 ?_
  refine s0_85 hw ?_
  refine r_lastore (i := 12) (vs' := [_, _, _, _, _, _, _, _, _, _, _, _, _, _, _, _, _, _, _, _, _, _, _, _, _, _, _, _, _, _, _]) (H1 := [_]) i0_88 rfl ⟨by decide, by decide⟩ (ltB rfl) rfl rfl ?_
  refine r_dup i0_89 rfl ?_
  refine r_bipush i0_90 ?_
  refine s0_92 hw ?_
  refine r_lastore (i := 13) (vs' := [_, _, _, _, _, _, _, _, _, _, _, _, _, _, _, _, _, _, _, _, _, _, _, _, _, _, _, _, _, _, _]) (H1 := [_]) i0_95 rfl ⟨by decide, by decide⟩ (ltB rfl) rfl rfl ?_
  refine r_dup i0_96 rfl ?_
  refine r_bipush i0_97 ?_
  refine s0_99 hw ?_
  refine r_lastore (i := 14) (vs' := [_, _, _, _, _, _, _, _, _, _, _, _, _, _, _, _, _, _, _, _, _, _, _, _, _, _, _, _, _, _, _]) (H1 := [_]) i0_102 rfl ⟨by decide, by decide⟩ (ltB rfl) rfl rfl ?_
  refine r_dup i0_103 rfl ?_
  refine r_bipush i0_104 ?_
  refine s0_106 hw ?_
  refine r_lastore (i := 15) (vs' := [_, _, _, _, _, _, _, _, _, _, _, _, _, _, _, _, _, _, _, _, _, _, _, _, _, _, _, _, _, _, _]) (H1 := [_]) i0_109 rfl ⟨by decide, by decide⟩ (ltB rfl) rfl rfl ?_
  refine r_dup i0_110 rfl ?_
  refine r_bipush i0_111 ?_
  refine s0_113 hw ?_
  refine r_lastore (i := 16) (vs' := [_, _, _, _, _, _, _, _, _, _, _, _, _, _, _, _, _, _, _, _, _, _, _, _, _, _, _, _, _, _, _]) (H1 := [_]) i0_116 rfl ⟨by decide, by decide⟩ (ltB rfl) rfl rfl ?_
  refine r_dup i0_117 rfl ?_
  refine r_bipush i0_118 ?_
  refine s0_120 hw ?_
  refine r_lastore (i := 17) (vs' := [_, _, _, _, _, _, _, _, _, _, _, _, _, _, _, _, _, _, _, _, _, _, _, _, _, _, _, _, _, _, _]) (H1 := [_]) i0_123 rfl ⟨by decide, by decide⟩ (ltB rfl) rfl rfl ?_
  refine r_dup i0_124 rfl ?_
  refine r_bipush i0_125 ?_
  refine s0_127 hw ?_
  refine r_lastore (i := 18) (vs' := [_, _, _, _, _, _, _, _, _, _, _, _, _, _, _, _, _, _, _, _, _, _, _, _, _, _, _, _, _, _, _]) (H1 := [_]) i0_130 rfl ⟨by decide, by decide⟩ (ltB rfl) rfl rfl ?_
  refine r_dup i0_131 rfl ?_
  refine r_bipush i0_132 ?_
  refine s0_134 hw ?_
  refine r_lastore (i := 19) (vs' := [_, _, _, _, _, _, _, _, _, _, _, _, _, _, _, _, _, _, _, _, _, _, _, _, _, _, _, _, _, _, _]) (H1 := [_]) i0_137 rfl ⟨by decide, by decide⟩ (ltB rfl) rfl rfl ?_
  refine r_dup i0_138 rfl ?_
  refine r_bipush i0_139 ?_
  refine s0_141 hw ?_
  refine r_lastore (i := 20) (vs' := [_, _, _, _, _, _, _, _, _, _, _, _, _, _, _, _, _, _, _, _, _, _, _, _, _, _, _, _, _, _, _]) (H1 := [_]) i0_144 rfl ⟨by decide, by decide⟩ (ltB rfl) rfl rfl ?_
  refine r_dup i0_145 rfl ?_
  refine r_bipush i0_146 ?_
  refine s0_148 hw ?_
  refine r_lastore (i := 21) (vs' := [_, _, _, _, _, _, _, _, _, _, _, _, _, _, _, _, _, _, _, _, _, _, _, _, _, _, _, _, _, _, _]) (H1 := [_]) i0_151 rfl ⟨by decide, by decide⟩ (ltB rfl) rfl rfl ?_
  refine r_dup i0_152 rfl ?_
  refine r_bipush i0_153 ?_
  refine s0_155 hw ?_
  refine r_lastore (i := 22) (vs' := [_, _, _, _, _, _, _, _, _, _, _, _, _, _, _, _, _, _, _, _, _, _, _, _, _, _, _, _, _, _, _]) (H1 := [_]) i0_158 rfl ⟨by decide, by decide⟩ (ltB rfl) rfl rfl ?_
  refine r_dup i0_159 rfl ?_
  refine r_bipush i0_160 ?_
  refine s0_162 hw ?_
  refine r_lastore (i := 23) (vs' := [_, _, _, _, _, _, _, _, _, _, _, _, _, _, _, _, _, _, _, _, _, _, _, _, _, _, _, _, _, _, _]) (H1 := [_]) i0_165 rfl ⟨by decide, by decide⟩ (ltB rfl) rfl rfl ?_
  refine r_dup i0_166 rfl ?_
  refine r_bipush i0_167 ?_
  refine s0_169 hw ?_
  refine r_lastore (i := 24) (vs' := [_, _, _, _, _, _, _, _, _, _, _, _, _, _, _, _, _, _, _, _, _, _, _, _, _, _, _, _, _, _, _]) (H1 := [_]) i0_172 rfl ⟨by decide, by decide⟩ (ltB rfl) rfl rfl ?_
  refine r_dup i0_173 rfl ?_
  refine r_bipush i0_174 ?_
  refine s0_176 hw ?_
  refine r_lastore (i := 25) (vs' := [_, _, _, _, _, _, _, _, _, _, _, _, _, _, _, _, _, _, _, _, _, _, _, _, _, _, _, _, _, _, _]) (H1 := [_]) i0_179 rfl ⟨by decide, by decide⟩ (ltB rfl) rfl rfl ?_
  refine r_dup i0_180 rfl ?_
  refine r_bipush i0_181 ?_
  refine s0_183 hw ?_
  refine r_lastore (i := 26) (vs' := [_, _, _, _, _, _, _, _, _, _, _, _, _, _, _, _, _, _, _, _, _, _, _, _, _, _, _, _, _, _, _]) (H1 := [_]) i0_186 rfl ⟨by decide, by decide⟩ (ltB rfl) rfl rfl ?_
  refine r_dup i0_187 rfl ?_
  refine r_bipush i0_188 ?_
  refine s0_190 hw ?_
  refine r_lastore (i := 27) (vs' := [_, _, _, _, _, _, _, _, _, _, _, _, _, _, _, _, _, _, _, _, _, _, _, _, _, _, _, _, _, _, _]) (H1 := [_]) i0_193 rfl ⟨by decide, by decide⟩ (ltB rfl) rfl rfl ?_
  refine r_dup i0_194 rfl ?_
  refine r_bipush i0_195 ?_
  refine s0_197 hw ?_
  refine r_lastore (i := 28) (vs' := [_, _, _, _, _, _, _, _, _, _, _, _, _, _, _, _, _, _, _, _, _, _, _, _, _, _, _, _, _, _, _]) (H1 := [_]) i0_200 rfl ⟨by decide, by decide⟩ (ltB rfl) rfl rfl ?_
  refine r_dup i0_201 rfl ?_
  refine r_bipush i0_202 ?_
  refine s0_204 hw ?_
  refine r_lastore (i := 29) (vs' := [_, _, _, _, _, _, _, _, _, _, _, _, _, _, _, _, _, _, _, _, _, _, _, _, _, _, _, _, _, _, _]) (H1 := [_]) i0_207 rfl ⟨by decide, by decide⟩ (ltB rfl) rfl rfl ?_
  refine r_dup i0_208 rfl ?_
  refine r_bipush i0_209 ?_
  refine s0_211 hw ?_
  refine r_lastore (i := 30) (vs' := [_, _, _, _, _, _, _, _, _, _, _, _, _, _, _, _, _, _, _, _, _, _, _, _, _, _, _, _, _, _, _]) (H1 := [_]) i0_214 rfl ⟨by decide, by decide⟩ (ltB rfl) rfl rfl ?_
  refine r_astore (ls' := [_, _, _, _, _, _, _, _, _, _, _, _, _, _]) i0_215 rfl rfl rfl ?_
  refine r_bipush i0_217 ?_
  refine s0_219 hw (a := 1) (o := [.long 0, .long 0, .long 0, .long 0, .long 0, .long 0, .long 0, .long 0, .long 0, .long 0, .long 0, .long 0, .long 0, .long 0, .long 0, .long 0, .long 0, .long 0, .long 0, .long 0, .long 0, .long 0, .long 0, .long 0, .long 0, .long 0, .long 0, .long 0, .long 0, .long 0, .long 0]) (H1 := [_, _]) (by decide) (by decide) rfl rfl rfl ?_
  refine r_dup i0_221 rfl ?_
  refine r_iconst i0_222 ?_
  refine s0_223 hw ?_
  refine r_lastore (i := 0) (vs' := [_, _, _, _, _, _, _, _, _, _, _, _, _, _, _, _, _, _, _, _, _, _, _, _, _, _, _, _, _, _, _]) (H1 := [_, _]) i0_226 rfl ⟨by decide, by decide⟩ (ltB rfl) rfl rfl ?_
  refine r_dup i0_227 rfl ?_
  refine r_iconst i0_228 ?_
  refine s0_229 hw ?_
  refine r_lastore (i := 1) (vs' := [_, _, _, _, _, _, _, _, _, _, _, _, _, _, _, _, _, _, _, _, _, _, _, _, _, _, _, _, _, _, _]) (H1 := [_, _]) i0_232 rfl ⟨by decide, by decide⟩ (ltB rfl) rfl rfl ?_
  refine r_dup i0_233 rfl ?_
  refine r_iconst i0_234 ?_
  refine s0_235 hw ?_
  refine r_lastore (i := 2) (vs' := [_, _, _, _, _, _, _, _, _, _, _, _, _, _, _, _, _, _, _, _, _, _, _, _, _, _, _, _, _, _, _]) (H1 := [_, _]) i0_238 rfl ⟨by decide, by decide⟩ (ltB rfl) rfl rfl ?_
  refine r_dup i0_239 rfl ?_
  refine r_iconst i0_240 ?_
  refine s0_241 hw ?_
  refine r_lastore (i := 3) (vs' := [_, _, _, _, _, _, _, _, _, _, _, _, _, _, _, _, _, _, _, _, _, _, _, _, _, _, _, _, _, _, _]) (H1 := [_, _]) i0_244 rfl ⟨by decide, by decide⟩ (ltB rfl) rfl rfl ?_
  refine r_dup i0_245 rfl ?_
  refine r_iconst i0_246 ?_
  refine s0_247 hw ?_
  refine r_lastore (i := 4) (vs' := [_, _, _, _, _, _, _, _, _, _, _, _, _, _, _, _, _, _, _, _, _, _, _, _, _, _, _, _, _, _, _]) (H1 := [_, _]) i0_250 rfl ⟨by decide, by decide⟩ (ltB rfl) rfl rfl ?_
  refine r_dup i0_251 rfl ?_
  refine r_iconst i0_252 ?_
  refine s0_253 hw ?_
  refine r_lastore (i := 5) (vs' := [_, _, _, _, _, _, _, _, _, _, _, _, _, _, _, _, _, _, _, _, _, _, _, _, _, _, _, _, _, _, _]) (H1 := [_, _]) i0_256 rfl ⟨by decide, by decide⟩ (ltB rfl) rfl rfl ?_
  refine r_dup i0_257 rfl ?_
  refine r_bipush i0_258 ?_
  refine s0_260 hw ?_
  refine r_lastore (i := 6) (vs' := [_, _, _, _, _, _, _, _, _, _, _, _, _, _, _, _, _, _, _, _, _, _, _, _, _, _, _, _, _, _, _]) (H1 := [_, _]) i0_263 rfl ⟨by decide, by decide⟩ (ltB rfl) rfl rfl ?_
  refine r_dup i0_264 rfl ?_
  refine r_bipush i0_265 ?_
  refine s0_267 hw ?_
  refine r_lastore (i := 7) (vs' := [_, _, _, _, _, _, _, _, _, _, _, _, _, _, _, _, _, _, _, _, _, _, _, _, _, _, _, _, _, _, _]) (H1 := [_, _]) i0_270 rfl ⟨by decide, by decide⟩ (ltB rfl) rfl rfl ?_
  refine r_dup i0_271 rfl ?_
  refine r_bipush i0_272 ?_
  refine s0_274 hw ?_
  refine r_lastore (i := 8) (vs' := [_, _, _, _, _, _, _, _, _, _, _, _, _, _, _, _, _, _, _, _, _, _, _, _, _, _, _, _, _, _, _]) (H1 := [_, _]) i0_277 rfl ⟨by decide, by decide⟩ (ltB rfl) rfl rfl ?_
  refine r_dup i0_278 rfl ?_
  refine r_bipush i0_279 ?_
  refine s0_281 hw ?_
  refine r_lastore (i := 9) (vs' := [_, _, _, _, _, _, _, _, _, _, _, _, _, _, _, _, _, _, _, _, _, _, _, _, _, _, _, _, _, _, _]) (H1 := [_, _]) i0_284 rfl ⟨by decide, by decide⟩ (ltB rfl) rfl rfl ?_
  refine r_dup i0_285 rfl ?_
  refine r_bipush i0_286 ?_
  refine s0_288 hw ?_
  refine r_lastore (i := 10) (vs' := [_, _, _, _, _, _, _, _, _, _, _, _, _, _, _, _, _, _, _, _, _, _, _, _, _, _, _, _, _, _, _]) (H1 := [_, _]) i0_291 rfl ⟨by decide, by decide⟩ (ltB rfl) rfl rfl ?_
  refine r_dup i0_292 rfl ?_
  refine r_bipush i0_293 ?_
  refine s0_295 hw ?_
  refine r_lastore (i := 11) (vs' := [_, _, _, _, _, _, _, _, _, _, _, _, _, _, _, _, _, _, _, _, _, _, _, _, _, _, _, _, _, _, _]) (H1 := [_, _]) i0_298 rfl ⟨by decide, by decide⟩ (ltB rfl) rfl rfl ?_
  refine r_dup i0_299 rfl ?_
  refine r_bipush i0_300 ?_
  refine s0_302 hw ?_
  refine r_lastore (i := 12) (vs' := [_, _, _, _, _, _, _, _, _, _, _, _, _, _, _, _, _, _, _, _, _, _, _, _, _, _, _, _, _, _, _]) (H1 := [_, _]) i0_305 rfl ⟨by decide, by decide⟩ (ltB rfl) rfl rfl ?_
  refine r_dup i0_306 rfl ?_
  refine r_bipush i0_307 ?_
  refine s0_309 hw ?_
  refine r_lastore (i := 13) (vs' := [_, _, _, _, _, _, _, _, _, _, _, _, _, _, _, _, _, _, _, _, _, _, _, _, _, _, _, _, _, _, _]) (H1 := [_, _]) i0_312 rfl ⟨by decide, by decide⟩ (ltB rfl) rfl rfl ?_
  refine r_dup i0_313 rfl ?_
  refine r_bipush i0_314 ?_
  refine s0_316 hw ?_
  refine r_lastore (i := 14) (vs' := [_, _, _, _, _, _, _, _, _, _, _, _, _, _, _, _, _, _, _, _, _, _, _, _, _, _, _, _, _, _, _]) (H1 := [_, _]) i0_319 rfl ⟨by decide, by decide⟩ (ltB rfl) rfl rfl ?_
  refine r_dup i0_320 rfl ?_
  refine r_bipush i0_321 ?_
  refine s0_323 hw ?_
  refine r_lastore (i := 15) (vs' := [_, _, _, _, _, _, _, _, _, _, _, _, _, _, _, _, _, _, _, _, _, _, _, _, _, _, _, _, _, _, _]) (H1 := [_, _]) i0_326 rfl ⟨by decide, by decide⟩ (ltB rfl) rfl rfl ?_
  refine r_dup i0_327 rfl ?_
  refine r_bipush i0_328 ?_
  refine s0_330 hw ?_
  refine r_lastore (i := 16) (vs' := [_, _, _, _, _, _, _, _, _, _, _, _, _, _, _, _, _, _, _, _, _, _, _, _, _, _, _, _, _, _, _]) (H1 := [_, _]) i0_333 rfl ⟨by decide, by decide⟩ (ltB rfl) rfl rfl ?_
  refine r_dup i0_334 rfl ?_
  refine r_bipush i0_335 ?_
  refine s0_337 hw ?_
  refine r_lastore (i := 17) (vs' := [_, _, _, _, _, _, _, _, _, _, _, _, _, _, _, _, _, _, _, _, _, _, _, _, _, _, _, _, _, _, _]) (H1 := [_, _]) i0_340 rfl ⟨by decide, by decide⟩ (ltB rfl) rfl rfl ?_
  refine r_dup i0_341 rfl ?_
  refine r_bipush i0_342 ?_
  refine s0_344 hw ?_
  refine r_lastore (i := 18) (vs' := [_, _, _, _, _, _, _, _, _, _, _, _, _, _, _, _, _, _, _, _, _, _, _, _, _, _, _, _, _, _, _]) (H1 := [_, _]) i0_347 rfl ⟨by decide, by decide⟩ (ltB rfl) rfl rfl ?_
  refine r_dup i0_348 rfl ?_
  refine r_bipush i0_349 ?_
  refine s0_351 hw ?_
  refine r_lastore (i := 19) (vs' := [_, _, _, _, _, _, _, _, _, _, _, _, _, _, _, _, _, _, _, _, _, _, _, _, _, _, _, _, _, _, _]) (H1 := [_, _]) i0_354 rfl ⟨by decide, by decide⟩ (ltB rfl) rfl rfl ?_
  refine r_dup i0_355 rfl ?_
  refine r_bipush i0_356 ?_
  refine s0_358 hw ?_
  refine r_lastore (i := 20) (vs' := [_, _, _, _, _, _, _, _, _, _, _, _, _, _, _, _, _, _, _, _, _, _, _, _, _, _, _, _, _, _, _]) (H1 := [_, _]) i0_361 rfl ⟨by decide, by decide⟩ (ltB rfl) rfl rfl ?_
  refine r_dup i0_362 rfl ?_
  refine r_bipush i0_363 ?_
  refine s0_365 hw ?_
  refine r_lastore (i := 21) (vs' := [_, _, _, _, _, _, _, _, _, _, _, _, _, _, _, _, _, _, _, _, _, _, _, _, _, _, _, _, _, _, _]) (H1 := [_, _]) i0_368 rfl ⟨by decide, by decide⟩ (ltB rfl) rfl rfl ?_
  refine r_dup i0_369 rfl ?_
  refine r_bipush i0_370 ?_
  refine s0_372 hw ?_
  refine r_lastore (i := 22) (vs' := [_, _, _, _, _, _, _, _, _, _, _, _, _, _, _, _, _, _, _, _, _, _, _, _, _, _, _, _, _, _, _]) (H1 := [_, _]) i0_375 rfl ⟨by decide, by decide⟩ (ltB rfl) rfl rfl ?_
  refine r_dup i0_376 rfl ?_
  refine r_bipush i0_377 ?_
  refine s0_379 hw ?_
  refine r_lastore (i := 23) (vs' := [_, _, _, _, _, _, _, _, _, _, _, _, _, _, _, _, _, _, _, _, _, _, _, _, _, _, _, _, _, _, _]) (H1 := [_, _]) i0_382 rfl ⟨by decide, by decide⟩ (ltB rfl) rfl rfl ?_
  refine r_dup i0_383 rfl ?_
  refine r_bipush i0_384 ?_
  refine s0_386 hw ?_
  refine r_lastore (i := 24) (vs' := [_, _, _, _, _, _, _, _, _, _, _, _, _, _, _, _, _, _, _, _, _, _, _, _, _, _, _, _, _, _, _]) (H1 := [_, _]) i0_389 rfl ⟨by decide, by decide⟩ (ltB rfl) rfl rfl ?_
  refine r_dup i0_390 rfl ?_
  refine r_bipush i0_391 ?_
  refine s0_393 hw ?_
  refine r_lastore (i := 25) (vs' := [_, _, _, _, _, _, _, _, _, _, _, _, _, _, _, _, _, _, _, _, _, _, _, _, _, _, _, _, _, _, _]) (H1 := [_, _]) i0_396 rfl ⟨by decide, by decide⟩ (ltB rfl) rfl rfl ?_
  refine r_dup i0_397 rfl ?_
  refine r_bipush i0_398 ?_
  refine s0_400 hw ?_
  refine r_lastore (i := 26) (vs' := [_, _, _, _, _, _, _, _, _, _, _, _, _, _, _, _, _, _, _, _, _, _, _, _, _, _, _, _, _, _, _]) (H1 := [_, _]) i0_403 rfl ⟨by decide, by decide⟩ (ltB rfl) rfl rfl ?_
  refine r_dup i0_404 rfl ?_
  refine r_bipush i0_405 ?_
  refine s0_407 hw ?_
  refine r_lastore (i := 27) (vs' := [_, _, _, _, _, _, _, _, _, _, _, _, _, _, _, _, _, _, _, _, _, _, _, _, _, _, _, _, _, _, _]) (H1 := [_, _]) i0_410 rfl ⟨by decide, by decide⟩ (ltB rfl) rfl rfl ?_
  refine r_dup i0_411 rfl ?_
  refine r_bipush i0_412 ?_
  refine s0_414 hw ?_
  refine r_lastore (i := 28) (vs' := [_, _, _, _, _, _, _, _, _, _, _, _, _, _, _, _, _, _, _, _, _, _, _, _, _, _, _, _, _, _, _]) (H1 := [_, _]) i0_417 rfl ⟨by decide, by decide⟩ (ltB rfl) rfl rfl ?_
  refine r_dup i0_418 rfl ?_
  refine r_bipush i0_419 ?_
  refine s0_421 hw ?_
  refine r_lastore (i := 29) (vs' := [_, _, _, _, _, _, _, _, _, _, _, _, _, _, _, _, _, _, _, _, _, _, _, _, _, _, _, _, _, _, _]) (H1 := [_, _]) i0_424 rfl ⟨by decide, by decide⟩ (ltB rfl) rfl rfl ?_
  refine r_dup i0_425 rfl ?_
  refine r_bipush i0_426 ?_
  refine s0_428 hw ?_
  refine r_lastore (i := 30) (vs' := [_, _, _, _, _, _, _, _, _, _, _, _, _, _, _, _, _, _, _, _, _, _, _, _, _, _, _, _, _, _, _]) (H1 := [_, _]) i0_431 rfl ⟨by decide, by decide⟩ (ltB rfl) rfl rfl ?_
  refine r_astore (ls' := [_, _, _, _, _, _, _, _, _, _, _, _, _, _]) i0_432 rfl rfl rfl ?_
  refine r_iloadN i0_434 rfl ?_
  refine s0_435 hw ?_
  refine r_iand i0_437 ?_
  refine r_bipush i0_438 ?_
  refine r_irem i0_440 (by decide) ?_
  refine r_istore (ls' := [_, _, _, _, _, _, _, _, _, _, _, _, _, _]) i0_441 rfl rfl ?_
  refine r_aload i0_443 rfl rfl ?_
  refine r_iload i0_445 rfl ?_
  refine r_laload i0_447 rfl hi hvb ?_
  refine r_aload i0_448 rfl rfl ?_
  refine r_iload i0_450 rfl ?_
  refine r_laload i0_452 rfl hi hva ?_
  refine r_lsub i0_453 ?_
  refine r_lconst i0_454 ?_
  refine r_ladd i0_455 ?_
  refine r_lstore (ls' := [_, _, _, _, _, _, _, _, _, _, _, _, _, _]) i0_456 rfl rfl ?_
  refine r_iloadN i0_458 rfl ?_
  refine r_iconst i0_459 ?_
  refine r_iand i0_460 ?_
  refine r_istore (ls' := [_, _, _, _, _, _, _, _, _, _, _, _, _, _]) i0_461 rfl rfl ?_
  by_cases h0 : p1 &&& 3 = 0
  · skip
    refine r_iload i0_463 rfl ?_
    refine r_ifF i0_465 (XT.i0_ne_f h0) ?_
    refine r_lconst i0_468 ?_
    refine r_lstore (ls' := [_, _, _, _, _, _, _, _, _, _, _, _, _, _]) i0_469 rfl rfl ?_
    refine r_goto i0_471 ?_
    have e0 : (0 : Int64).toInt = 0 := by decide
    exact tail_r hw p0 p1 _ _ p2 _ _ a b hi hk hT hva (by decide) (by omega)
  by_cases h1 : p1 &&& 3 = 1
  · skip
    refine r_iload i0_463 rfl ?_
    refine r_ifT i0_465 (XT.i0_ne_t h0) ?_
    refine r_iload i0_474 rfl ?_
    refine r_iconst i0_476 ?_
    refine r_icF i0_477 (XT.ii_ne_f h1) ?_
    refine r_lload i0_480 rfl ?_
    refine r_lconst i0_482 ?_
    refine r_lsub i0_483 ?_
    refine r_lstore (ls' := [_, _, _, _, _, _, _, _, _, _, _, _, _, _]) i0_484 rfl rfl ?_
    refine r_goto i0_486 ?_
    have q := own_last hb
    exact tail_r hw p0 p1 _ _ p2 _ _ a b hi hk hT hva (by omega) (by omega)
  · skip
    refine r_iload i0_463 rfl ?_
    refine r_ifT i0_465 (XT.i0_ne_t h0) ?_
    refine r_iload i0_474 rfl ?_
    refine r_iconst i0_476 ?_
    refine r_icT i0_477 (XT.ii_ne_t h1) ?_
    refine r_lloadN i0_489 rfl ?_
    refine s0_490 hw ?_
    refine r_land i0_493 ?_
    refine r_lload i0_494 rfl ?_
    refine r_lrem i0_496 (own_nz hb) ?_
    refine r_lstore (ls' := [_, _, _, _, _, _, _, _, _, _, _, _, _, _]) i0_497 rfl rfl ?_
    have q := own_rem p2 hb
    exact tail_r hw p0 p1 _ _ p2 _ _ a b hi hk hT hva q.1 q.2
set_option maxRecDepth 65536 in
set_option maxHeartbeats 40000000 in
theorem comes_1 {Post : Tables → Env → Array Value → State → Outcome → State → Prop} (hpost : ∀ tb e args s v u, (limb_1_1.after args s (.returned v) u = true ∧ limb_1_2.after args s (.returned v) u = true ∧ True) → FrameEnd s (.returned v) u (Jvm.fieldLocs frame_1_writes args s ++ Jvm.arrayLocs frame_1_arrays args s ++ Jvm.staticLocs frame_1_statics s) 16 192 → Post tb e args s (.returned v) u) :
    ArmFor flags0 classFile x code maxLocals ret World_1 tables_1 room_1 Calls_1 rest_1 Pre_1 Post := by
  intro l hfl _ _ p e ha hc hk s m args below hf hA hF happ hP
  obtain ⟨hcalls, hrest, hpre⟩ := hP
  obtain ⟨-, -, -, hnamed, -, -, -, hat⟩ := (Spec.applies_iff hf).mp happ
  obtain ⟨hg, hn⟩ := and_e (Cond.before_iff.mp (show (Jvm.Cond.and given_1 narrow_1).before args s = true from hpre))
  obtain ⟨hcount, hk0⟩ := and_e hg
  obtain ⟨w0, w1, w2, rfl⟩ : ∃ w0 w1 w2 : Value, args = #[w0, w1, w2] := by
    have hs : args.size = 3 := by simpa [Cond.value, given_1] using hcount
    obtain ⟨L⟩ := args
    match L, hs with
    | [w0, w1, w2], _ => exact ⟨w0, w1, w2, rfl⟩
  have hw : HW s _ := fun d (hd : d ∈ tables_1) => atoms_spec (ws := Jvm.Cond.code x code maxLocals ret :: tables_1) hat d (List.mem_cons_of_mem _ hd)
  replace hk0 := and_e hk0
  obtain ⟨p0, e0⟩ := is_v hk0.1
  obtain rfl : w0 = (.int p0) := Option.some.inj e0
  have hk1 := hk0.2
  replace hk1 := and_e hk1
  obtain ⟨p1, e1⟩ := is_v hk1.1
  obtain rfl : w1 = (.int p1) := Option.some.inj e1
  have hk2 := hk1.2
  obtain ⟨p2, e2⟩ := isL_v hk2
  obtain rfl : w2 = (.long p2) := Option.some.inj e2
  obtain ⟨H', k, hcl, hsl⟩ := law_runs (l := l) (n0 := s.heap.size) hw p0 p1 p2
  obtain ⟨n, o, h1, h2, h3, _, L, rfl, ⟨rfl, -, N⟩, hq⟩ := met_gen (mi := m0) (as := [.int p0, .int p1, .long p2]) tables_1 room_1 pf0 rfl (fun h => nomatch h) k (by decide) (by decide) (by show H'.length ≤ 16 + 0; omega) (by show szs K H' ≤ 192 + 0; omega) (h := s.heap) ⟨rfl, fun k o h => by simp at h⟩ p e ha hc hk s m _ below hf ((Spec.applies_iff_loose hf).mp happ).1 ⟨rfl, State.Warmed39.refl s, rfl⟩ trivial
  refine ⟨n, _, h1, h2, h3, hpost _ _ _ _ _ _ ⟨Cond.after_iff.mpr rfl, Cond.after_iff.mpr (eq_i res_at (Term.int_eval (1)) rfl), trivial⟩ ⟨hq.1, hq.2.1, (hq.2.2.sift fun y hy => Or.inr (N y hy)).mono (by show H'.length - 0 ≤ _; omega) (by show szs K H' - 0 ≤ _; omega)⟩⟩
theorem main_1_1 : Claimed_1_1 := comes_1 fun _ _ _ _ _ _ h hF => ⟨h.1, hF⟩
theorem main_1_2 : Claimed_1_2 := comes_1 fun _ _ _ _ _ _ h hF => ⟨h.2.1, hF⟩
end Jvm.Pilot.@@N@@
namespace Jvm.Pilot.@@N@@
open Jvm Jvm.ClassFile Sem Op Lib Jvm.Free Jvm.Stand Jvm.Pilot.@@N@@.Jvm.D
/-! MADE BY PROGRAM (witnessworld.py) out of the Statement's table words and the real class files: 11 classes; the members and pool entries that the words name. The judged class is class 1, her method 1. -/
namespace start1
open Jvm.ClassFile
def u (s : String) : CpInfo := .utf8 (stringToUtf16 s)
/-- a pool by its gaps: so many unusable entries, then the entry; so many at the end -/
def gap : Nat → List CpInfo → List CpInfo
  | 0, r => r
  | n + 1, r => .unusable :: gap n r
def poolList (es : List (Nat × CpInfo)) (last : Nat) : List CpInfo := es.foldr (fun e r => gap e.1 (e.2 :: r)) (gap last [])
def pool (es : List (Nat × CpInfo)) (last : Nat) : Array CpInfo := ⟨poolList es last⟩
def fileOf (pool : Array CpInfo) (this : Nat) (attrs : Array Attribute := #[]) (ms : Array MethodInfo := #[]) (fl : Nat := 33) (sup : Nat := 0) (ifs : Array Nat := #[]) (fds : Array FieldInfo := #[]) : ClassFile where
  minorVersion := 0
  majorVersion := 65
  constantPool := pool
  accessFlags := fl
  thisClass := this
  superClass := sup
  interfaces := ifs
  fields := fds
  methods := ms
  attributes := attrs
def plain (name : String) (sup : Option ClassId) : Class where
  name := name
  kind := .ordinary
  loader := none
  accessFlags := 33
  super := sup
  interfaces := #[]
  cf := none
  fields := #[]
  methods := #[]
  instanceTypes := #[]
  staticTypes := #[]
  resolved := #[]
  callSites := []
  init := .initialized
  statics := none
  mirror := none

def pool0 : Array CpInfo := pool [(5, u "<init>"), (0, u "()V"), (1, .class_ 10), (1, u "java/lang/Object")] 113

def k0m0 : Method := { name := "<init>", desc := "()V", sig := { parameters := [], returnType := none }, accessFlags := 1, code := none }
/-- java/lang/Object -/
def k0 : Class := { plain "java/lang/Object" none with
  accessFlags := 33
  interfaces := #[]
  cf := some (fileOf pool0 8 #[] #[{ accessFlags := 1, nameIndex := 5, descriptorIndex := 6, attributes := #[] }] 33 0 #[] #[])
  fields := #[]
  methods := #[k0m0]
  instanceTypes := #[]
  staticTypes := #[]
  resolved := Array.replicate 124 none
  statics := none }

def pool1 : Array CpInfo := pool [(2, .class_ 4), (1, u "java/lang/Object"), (0, u "<init>"), (0, u "()V"), (2, .long 18446744071562067968), (1, .long 65), (1, .long 91), (1, .long 95), (1, .long 96), (1, .long 97), (1, .long 123), (1, .long 192), (1, .long 215), (1, .long 216), (1, .long 247), (1, .long 248), (1, .long 768), (1, .long 880), (1, .long 894), (1, .long 895), (1, .long 8192), (1, .long 8204), (1, .long 8206), (1, .long 8304), (1, .long 8592), (1, .long 11264), (1, .long 12272), (1, .long 12289), (1, .long 55296), (1, .long 63744), (1, .long 64976), (1, .long 65008), (1, .long 65534), (1, .long 65536), (1, .long 983040), (1, .long 64), (1, .long 90), (1, .long 94), (1, .long 122), (1, .long 191), (1, .long 214), (1, .long 246), (1, .long 767), (1, .long 879), (1, .long 893), (1, .long 8191), (1, .long 8203), (1, .long 8205), (1, .long 8303), (1, .long 8591), (1, .long 11263), (1, .long 12271), (1, .long 12288), (1, .long 55295), (1, .long 63743), (1, .long 64975), (1, .long 65007), (1, .long 65533), (1, .long 65535), (1, .long 983039), (1, .long 2147483647), (1, .integer 2147483647), (2, .long 9223372036854775807), (1, .methodref 129 130), (0, .class_ 131), (0, .nameAndType 132 133), (0, u "dev/lyewire/xml/XmlNames"), (0, u "isNameStartChar"), (0, u "(I)Z"), (0, .class_ 135), (0, u "dev/lyewire/xml/XmlNamesIsNameStartCharPinLaw"), (2, u "law"), (0, u "(IIJ)Z")] 5

def k1m0 : Method := { name := "<init>", desc := "()V", sig := { parameters := [], returnType := none }, accessFlags := 1, code := none }
def k1c1 : Code := { maxStack := 5, maxLocals := 14, code := code, exceptionTable := #[], attributes := #[] }
def k1m1 : Method := { name := "law", desc := "(IIJ)Z", sig := { parameters := [.int, .int, .long], returnType := some .boolean }, accessFlags := 9, code := some k1c1 }
/-- dev/lyewire/xml/XmlNamesIsNameStartCharPinLaw -/
def k1 : Class := { plain "dev/lyewire/xml/XmlNamesIsNameStartCharPinLaw" (some 0) with
  accessFlags := 49
  interfaces := #[]
  cf := some (fileOf pool1 134 #[] #[{ accessFlags := 1, nameIndex := 5, descriptorIndex := 6, attributes := #[] }, { accessFlags := 9, nameIndex := 138, descriptorIndex := 139, attributes := #[] }] 49 2 #[] #[])
  fields := #[]
  methods := #[k1m0, k1m1]
  instanceTypes := #[]
  staticTypes := #[]
  resolved := Array.replicate 145 none
  statics := none }

def pool2 : Array CpInfo := pool [(4, .class_ 6), (1, u "java/lang/Object"), (0, u "<init>"), (0, u "()V"), (1, .class_ 12), (1, u "dev/lyewire/xml/XmlNames"), (61, u "(I)Z"), (79, .class_ 155), (0, u "dev/lyewire/xml/XmlNames$QualifiedName"), (17, u "isNameStartChar"), (3, .integer 55295), (0, .integer 63744), (0, .integer 64975), (0, .integer 65008), (0, .integer 65533), (0, .integer 65536), (0, .integer 983039)] 69

def k2m0 : Method := { name := "<init>", desc := "()V", sig := { parameters := [], returnType := none }, accessFlags := 2, code := none }
def k2c1 : Code := { maxStack := 2, maxLocals := 1, code := prog_81_method_16_code, exceptionTable := #[], attributes := #[] }
def k2m1 : Method := { name := "isNameStartChar", desc := "(I)Z", sig := { parameters := [.int], returnType := some .boolean }, accessFlags := 8, code := some k2c1 }
/-- dev/lyewire/xml/XmlNames -/
def k2 : Class := { plain "dev/lyewire/xml/XmlNames" (some 0) with
  accessFlags := 49
  interfaces := #[]
  cf := some (fileOf pool2 10 #[.nestMembers #[154]] #[{ accessFlags := 2, nameIndex := 7, descriptorIndex := 8, attributes := #[] }, { accessFlags := 8, nameIndex := 173, descriptorIndex := 74, attributes := #[] }] 49 4 #[] #[])
  fields := #[]
  methods := #[k2m0, k2m1]
  instanceTypes := #[]
  staticTypes := #[]
  resolved := Array.replicate 253 none
  statics := none }

def pool3 : Array CpInfo := pool [(1, u "java/lang/Cloneable"), (0, .class_ 1), (0, u "java/lang/Object"), (0, .class_ 3)] 3

/-- java/lang/Cloneable -/
def k3 : Class := { plain "java/lang/Cloneable" (some 0) with
  accessFlags := 1537
  interfaces := #[]
  cf := some (fileOf pool3 2 #[] #[] 1537 4 #[] #[])
  fields := #[]
  methods := #[]
  instanceTypes := #[]
  staticTypes := #[]
  resolved := Array.replicate 8 none
  statics := none }

def pool4 : Array CpInfo := pool [(1, u "java/io/Serializable"), (0, .class_ 1), (0, u "java/lang/Object"), (0, .class_ 3)] 3

/-- java/io/Serializable -/
def k4 : Class := { plain "java/io/Serializable" (some 0) with
  accessFlags := 1537
  interfaces := #[]
  cf := some (fileOf pool4 2 #[] #[] 1537 4 #[] #[])
  fields := #[]
  methods := #[]
  instanceTypes := #[]
  staticTypes := #[]
  resolved := Array.replicate 8 none
  statics := none }

/-- the primitive byte -/
def k5 : Class := { plain "byte" none with kind := .primitive 'B', accessFlags := 0x411 }
/-- [B -/
def k6 : Class := { plain "[B" (some 0) with kind := .array 5 .byte, interfaces := #[3, 4], accessFlags := 1041 }

/-- the primitive int -/
def k7 : Class := { plain "int" none with kind := .primitive 'I', accessFlags := 0x411 }
/-- [I -/
def k8 : Class := { plain "[I" (some 0) with kind := .array 7 .int, interfaces := #[3, 4], accessFlags := 1041 }

/-- the primitive long -/
def k9 : Class := { plain "long" none with kind := .primitive 'J', accessFlags := 0x411 }
/-- [J -/
def k10 : Class := { plain "[J" (some 0) with kind := .array 9 .long, interfaces := #[3, 4], accessFlags := 1041 }

def heap : Heap := #[]
def classes : Array Class := #[k0, k1, k2, k3, k4, k5, k6, k7, k8, k9, k10]
def interned : List (Array UInt16 × Addr) := []
def slotsUsed : Nat := 0
def theMethod : MethodId := ⟨1, 1⟩
def args0 : Array Value := #[.int 5, .int 3, .long 2]
def aboutOver (below : List Frame) : State where
  vm := { classes := classes, interned := interned.toArray }
  heap := heap
  slotsUsed := slotsUsed
  threads := #[{ frames := .invoking theMethod args0 :: below }]
def below0 : List Frame := [.native { method := ⟨0, 0⟩, args := #[] }]
def about1 : State := aboutOver below0
def p0 : Program := .bare "" "" ""
def e0 : Env := launch0.env 0 0 0
theorem w_frames : about1.frames = Frame.invoking theMethod args0 :: below0 := rfl
set_option maxRecDepth 65536 in
theorem w_args : argsFit about1.vm theMethod args0 = true := by decide +kernel
set_option maxRecDepth 65536 in
theorem w_heap : heapFits about1 = true := by decide +kernel
set_option maxRecDepth 65536 in
theorem w_runnable : about1.curStatus? = some .runnable := by decide +kernel
set_option maxRecDepth 65536 in
theorem w_alone : about1.alone = true := by decide +kernel
set_option maxRecDepth 65536 in
theorem w_named : about1.methodNamed? x = some theMethod := by decide +kernel
set_option maxRecDepth 65536 in
theorem w_hears : about1.hears theMethod below0 = true := by decide +kernel
set_option maxRecDepth 65536 in
theorem w_ripe : about1.ripe theMethod args0 below0 = true := by decide +kernel
theorem w_running : about1.status = .running := rfl
set_option maxRecDepth 65536 in
theorem w_room : about1.hasRoom e0.platform room_1 = true :=
  launch0.hasRoom_least _ room_1 (by decide +kernel) (by decide +kernel) (by decide +kernel) (by decide +kernel) (by decide +kernel) (by decide +kernel)
theorem allAtoms_all (ts : List Jvm.Cond) (a : Array Jvm.Value) (st : Jvm.State) : (allAtoms ts).before a st = ts.all (fun c => c.before a st) := by
  induction ts with
  | nil => rfl
  | cons c t ih =>
    show (Jvm.Cond.and c (allAtoms t)).before a st = _
    rw [Jvm.Cond.before_and, ih, List.all_cons]
def words1 : List Jvm.Cond := Jvm.Cond.code x code maxLocals ret :: tables_1
/-- a 'code' word, met by the world's own term for the bytes: nothing is compared byte by byte -/
theorem code_word {y : MethodName} {bytes : ByteArray} {mx : Nat} {rt : Option FieldType} {a : Array Value} {s : State} {m : MethodId} {meth : Method} {c : Code} (h1 : s.methodNamed? y = some m) (h2 : s.vm.method? m = some meth) (h3 : meth.code = some c) (h4 : c.code = bytes)
    (h5 : (c.maxLocals == mx && c.exceptionTable.isEmpty && decide (c.maxStack ≤ mostOperands) && decide (meth.sig.returnType = rt) && !meth.locks && decide (parseMethodDescriptor y.desc = some meth.sig)) = true) : (Jvm.Cond.code y bytes mx rt).before a s = true := by
  simp only [Bool.and_eq_true, beq_iff_eq, Bool.not_eq_true', decide_eq_true_eq] at h5
  obtain ⟨⟨⟨⟨⟨g1, g2⟩, g3⟩, g4⟩, g5⟩, g6⟩ := h5
  simp [Cond.before, Cond.holds, Cond.value, h1, h2, h3, h4, g1, g2, g3, g4, g5, g6]
def isCode : Jvm.Cond → Bool
  | .code _ _ _ _ => true
  | _ => false
theorem all_split {L : List Jvm.Cond} {P : Jvm.Cond → Bool} (h1 : L.all (fun c => isCode c || P c) = true) (h2 : ∀ c ∈ L.filter isCode, P c = true) : L.all P = true := by
  refine List.all_eq_true.mpr fun c hc => ?_
  have h := List.all_eq_true.mp h1 c hc
  rcases Bool.eq_false_or_eq_true (isCode c) with hi | hi
  · exact h2 c (List.mem_filter.mpr ⟨hc, hi⟩)
  · simpa [hi] using h
set_option maxRecDepth 65536 in
theorem w_c0 : (Jvm.Cond.code x code maxLocals ret).before args0 about1 = true := code_word (m := ⟨1, 1⟩) (meth := k1m1) (c := k1c1) (by decide +kernel) rfl rfl rfl (by decide +kernel)
set_option maxRecDepth 65536 in
theorem w_c1 : (Jvm.Cond.code ({ cls := "dev/lyewire/xml/XmlNames", name := "isNameStartChar", desc := "(I)Z" } : Jvm.MethodName) prog_81_method_16_code (1 : Nat) (Option.some Jvm.ClassFile.FieldType.boolean)).before args0 about1 = true := code_word (m := ⟨2, 1⟩) (meth := k2m1) (c := k2c1) (by decide +kernel) rfl rfl rfl (by decide +kernel)
def codes1 : List Jvm.Cond := [Jvm.Cond.code x code maxLocals ret, Jvm.Cond.code ({ cls := "dev/lyewire/xml/XmlNames", name := "isNameStartChar", desc := "(I)Z" } : Jvm.MethodName) prog_81_method_16_code (1 : Nat) (Option.some Jvm.ClassFile.FieldType.boolean)]
set_option maxRecDepth 65536 in
theorem codes_eq : words1.filter isCode = codes1 := rfl
theorem w_codes : ∀ c ∈ words1.filter isCode, c.before args0 about1 = true := by
  rw [codes_eq]
  intro c hc
  simp only [codes1, List.mem_cons, List.not_mem_nil, or_false] at hc
  rcases hc with rfl | rfl
  · exact w_c0
  · exact w_c1
set_option maxRecDepth 65536 in
theorem w_t1 : (words1.take 24).all (fun c => isCode c || c.before args0 about1) = true := by decide +kernel
set_option maxRecDepth 65536 in
theorem w_t2 : ((words1.drop 24).take 24).all (fun c => isCode c || c.before args0 about1) = true := by decide +kernel
set_option maxRecDepth 65536 in
theorem w_t3 : ((words1.drop 24).drop 24).all (fun c => isCode c || c.before args0 about1) = true := by decide +kernel
theorem w_tables : (allAtoms (Jvm.Cond.code x code maxLocals ret :: tables_1)).before args0 about1 = true := by
  rw [allAtoms_all]
  show words1.all (fun c => c.before args0 about1) = true
  refine all_split ?_ w_codes
  rw [← List.take_append_drop 24 words1, List.all_append, w_t1, ← List.take_append_drop 24 (words1.drop 24), List.all_append, w_t2, w_t3]
  rfl
set_option maxRecDepth 65536 in
theorem w_case : (Jvm.Cond.and given_1 narrow_1).before args0 about1 = true := by decide +kernel
theorem w_applies : (headSpec (Jvm.Cond.code x code maxLocals ret :: tables_1) room_1).applies x e0.platform about1 = true :=
  (Spec.applies_iff w_frames).mpr ⟨w_running, w_runnable, w_alone, w_named, w_hears, w_ripe, w_room, w_tables⟩
theorem atStart : AtStart classFile x code maxLocals ret World_1 tables_1 room_1 Calls_1 rest_1 Pre_1 launch0 p0 e0 about1 theMethod args0 below0 :=
  ⟨lists_1, trivial, launch0.admits_env _ _ _, launch0.least_env, fairChoices_fair.cas, fairChoices_fair.clock, w_frames, w_args, w_heap, w_applies, trivial, trivial, w_case⟩
end start1
theorem witness_1 : WitnessClaimed_1 := ⟨start1.p0, start1.e0, start1.about1, start1.theMethod, start1.args0, start1.below0, start1.atStart⟩
end Jvm.Pilot.@@N@@
