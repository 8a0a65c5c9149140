import JvmDerived
import JvmDerived.Pilot.@@N@@Statement
import JvmDerived.Pilot.@@N@@Code
set_option linter.unusedVariables false
set_option linter.unusedSimpArgs false
namespace Jvm.Pilot.@@N@@
open Jvm Jvm.ClassFile Sem Op Lib Jvm.Free Jvm.Stand Jvm.LawKit Jvm.RoadKit Bundle Jvm.Pilot.@@N@@.Jvm.D
/-! ## A small logic of runs over a virtual heap (own work, the same text in every proof of this seat)
References count from the first cell that the law makes (n0): `shV n0`. `Ob`: an object by its class (a place in K) and its laid fields, or an array by its component type and values.
`Runs K l Z n0 mi pc ls st H v H'`: whoever stands in the method mi at pc with locals ls, stack st and virtual heap H comes out returning v with heap H'. -/
def shV (n0 : Nat) : Value → Value
  | .ref a => .ref (n0 + a)
  | v => v
def shS (n0 : Nat) : Slot → Slot
  | .val v => .val (shV n0 v)
  | s => s
abbrev Ob : Type := (Nat × List Value) ⊕ (FieldType × List Value)
/-- a field: who declares it, its name, its descriptor, its type -/
abbrev FI : Type := String × String × String × FieldType
/-- a class: its name, the number of its slots, its fields -/
abbrev CI : Type := String × Nat × List FI
/-- a method: name, bytes, max_locals, return type; frames and words that its callees need -/
abbrev MI : Type := MethodName × ByteArray × Nat × Option FieldType × Nat × Nat
def osz (K : List CI) : Ob → Nat
  | .inl (c, _) => ((K[c]?).map (fun ci => ci.2.1)).getD 0
  | .inr (_, vs) => vs.length
def szs (K : List CI) (H : List Ob) : Nat := (H.map (osz K)).sum
def OOk (K : List CI) (Z : State) (n0 : Nat) (h : Heap) (a : Addr) : Ob → Prop
  | .inl (c, vs) => ∃ ci, K[c]? = some ci ∧ Exa Z h a ci.1 ∧ ∀ (i : Nat) (f : FI) (v : Value), ci.2.2[i]? = some f → vs[i]? = some v → Fld Z h a f.1 f.2.1 f.2.2.1 (shV n0 v)
  | .inr (ty, vs) => ∃ cl, Arr Z h a cl ty ∧ cl.slots.size = vs.length ∧ vs.length < 2 ^ 31 ∧ ∀ (i : Nat) (v : Value), vs[i]? = some v → cl.slots[i]? = some (shV n0 v) ∧ fits ty v = true
def Rel (K : List CI) (Z : State) (n0 : Nat) (H : List Ob) (h : Heap) : Prop := h.size = n0 + H.length ∧ ∀ (k : Nat) (o : Ob), H[k]? = some o → OOk K Z n0 h (n0 + k) o
def KOk (K : List CI) (Z : State) (a0 : Array Value) : Prop := ∀ (k : Nat) (ci : CI), K[k]? = some ci → (Jvm.Cond.instantiable ci.1 ci.2.1).before a0 Z = true ∧ (∀ f ∈ ci.2.2, Laid Z a0 ci.1 f.1 f.2.1 f.2.2.1 ∧ parseFieldDescriptor f.2.2.1 = some f.2.2.2) ∧ ci.2.2.Pairwise (fun f g => f.2.1 ≠ g.2.1)
theorem cat_sh (n0 : Nat) (v : Value) : (shV n0 v).category = v.category := by cases v <;> rfl
theorem cats_sh (n0 : Nat) (st : List Value) : ((st.map (shV n0)).map fun v => v.category).sum = (st.map fun v => v.category).sum := by
  rw [List.map_map]; congr 1; exact List.map_congr_left fun v _ => cat_sh n0 v
theorem laid_map (n0 : Nat) : ∀ as : List Value, Jvm.Sym.laidSlots (as.map (shV n0)) = (Jvm.Sym.laidSlots as).map (shS n0)
  | [] => rfl
  | v :: vs => by
    simp only [List.map_cons, Jvm.Sym.laidSlots, cat_sh, laid_map n0 vs]
    split <;> rfl
theorem entry_eq (n0 : Nat) (m : MethodId) (as : List Value) (n : Nat) {ls : List Slot} (h : Jvm.Sym.laidSlots as ++ List.replicate (n - (Jvm.Sym.laidSlots as).length) .unset = ls) :
    entryFrame m (as.map (shV n0)).toArray n = mkF m 0 (ls.map (shS n0)).toArray [] := by
  have e : argsToLocals (as.map (shV n0)).toArray n = (ls.map (shS n0)).toArray := Array.toList_inj.mp (by
    rw [Jvm.Sym.argsToLocals_toList]
    simp only [laid_map, List.length_map, ← h, List.map_append, List.map_replicate]
    rfl)
  show ({ method := m, pc := 0, locals := argsToLocals (as.map (shV n0)).toArray n, stack := [], locked := none } : JFrame) = _
  rw [e]
theorem loc_at {n0 : Nat} {ls : List Slot} {k : Nat} {s : Slot} (h : ls[k]? = some s) : ((ls.map (shS n0)).toArray)[k]? = some (shS n0 s) := by
  simp [h]
/-- the place k may take a value of one word -/
def P1 (ls : List Slot) (k : Nat) : Bool := match ls[k]? with | some .unset => true | some (.val w) => w.category == 1 | _ => false
/-- the places k and k + 1 may take a value of two words -/
def P2 (ls : List Slot) (k : Nat) : Bool := match ls[k]?, ls[k + 1]? with | some (.val w), some .second => w.category == 2 | _, _ => P1 ls k && P1 ls (k + 1)
theorem P1_slot {ls : List Slot} {k : Nat} (h : P1 ls k = true) : ∃ s, ls[k]? = some s ∧ (match s with | .second => False | .val old => old.category = 1 | .unset => True) := by
  unfold P1 at h
  split at h
  · rename_i e; exact ⟨_, e, trivial⟩
  · rename_i w e; exact ⟨_, e, by simpa using h⟩
  · cases h
theorem st1 {n0 : Nat} {ls ls' : List Slot} {k : Nat} {v : Value} (hp : P1 ls k = true) (hv : v.category = 1) (hs : ls.set k (.val v) = ls') : storeLocals (ls.map (shS n0)).toArray k (shV n0 v) = some (ls'.map (shS n0)).toArray := by
  obtain ⟨s, e, q⟩ := P1_slot hp
  rw [storeLocals_cat1 (loc_at (n0 := n0) e) (by rw [cat_sh]; exact hv) (by cases s <;> simp_all [shS, cat_sh]), ← hs]
  simp [List.map_set, shS]
theorem st2 {n0 : Nat} {ls ls' : List Slot} {k : Nat} {v : Value} (hp : P2 ls k = true) (hv : v.category = 2) (hs : (ls.set k (.val v)).set (k + 1) .second = ls') : storeLocals (ls.map (shS n0)).toArray k (shV n0 v) = some (ls'.map (shS n0)).toArray := by
  have key : ∃ x y, ls[k]? = some x ∧ ls[k + 1]? = some y ∧ ((Jvm.Free.Fl.Plain1 (shS n0 x) ∧ Jvm.Free.Fl.Plain1 (shS n0 y)) ∨ ((∃ old, shS n0 x = .val old ∧ old.category = 2) ∧ shS n0 y = .second)) := by
    unfold P2 at hp
    split at hp
    · rename_i w e1 e2
      exact ⟨_, _, e1, e2, Or.inr ⟨⟨_, rfl, by rw [cat_sh]; simpa using hp⟩, rfl⟩⟩
    · rw [Bool.and_eq_true] at hp
      obtain ⟨s, e, q⟩ := P1_slot hp.1
      obtain ⟨s', e', q'⟩ := P1_slot hp.2
      exact ⟨s, s', e, e', Or.inl ⟨by cases s <;> simp_all [shS, cat_sh, Jvm.Free.Fl.Plain1], by cases s' <;> simp_all [shS, cat_sh, Jvm.Free.Fl.Plain1]⟩⟩
  obtain ⟨x, y, e1, e2, q⟩ := key
  rw [Jvm.Free.Fl.storeLocals_cat2 (loc_at (n0 := n0) e1) (loc_at (n0 := n0) e2) (by rw [cat_sh]; exact hv) q, ← hs]
  simp [List.map_set, shS]
def Runs (K : List CI) (l : Launch) (Z : State) (n0 : Nat) (mi : MI) (pc : Nat) (ls : List Slot) (st : List Value) (H : List Ob) (v : Option Value) (H' : List Ob) : Prop :=
  H.length ≤ H'.length ∧ szs K H ≤ szs K H' ∧
  ∀ (p : Program) (e : Env) (R : Room) (s : State) (m : MethodId) (args : Array Value) (below : List Frame) (meth : Method) (c : Code) (T : State) (locs : List Loc) (cells slots : Nat),
    Stand p l e R s m args below meth c T locs cells slots → p.tables.exec = Jvm.exec → Z.Warmed39 s.vm → c.code = mi.2.1 → c.maxLocals = mi.2.2.1 → meth.sig.returnType = mi.2.2.2.1 → s.vm.findClass mi.1.cls = some m.cls → meth.name = mi.1.name →
    Rel K Z n0 H T.heap → Fr n0 locs → mi.2.2.2.2.1 ≤ R.frames → mi.2.2.2.2.2 ≤ R.locals → s.heap.size + cells = n0 + H.length → cells + H'.length ≤ R.cells + H.length → slots + szs K H' ≤ R.slots + szs K H →
    ∃ (T' : State) (locs' : List Loc) (cells' slots' : Nat), Stand p l e R s m args below meth c T' locs' cells' slots' ∧ Rel K Z n0 H' T'.heap ∧ Fr n0 locs' ∧ s.heap.size + cells' = n0 + H'.length ∧ slots' + szs K H ≤ slots + szs K H' ∧
      ∀ fs, (∀ (f : JFrame) (acts : List Action), f.method = m → f.locked = none → f.entered = [] → (doReturn e (T'.setTop f) acts (v.map (shV n0))).1 = T'.setFrames fs) →
        Steps p.tables e below (T.setTop (mkF m pc (ls.map (shS n0)).toArray (st.map (shV n0)))) (T'.setFrames fs)
def rmOf (K : List CI) (mi : MI) (H H' : List Ob) : Room := { frames := mi.2.2.2.2.1, cells := H'.length - H.length, slots := szs K H' - szs K H, locals := mi.2.2.2.2.2 }
def Meets (K : List CI) (l : Launch) (Z : State) (n0 : Nat) (mi : MI) (as : List Value) (H : List Ob) (v : Option Value) (H' : List Ob) : Prop :=
  H.length ≤ H'.length ∧ szs K H ≤ szs K H' ∧ ∀ h, Rel K Z n0 H h →
    MetFree l mi.1 (head1 [Jvm.Cond.code mi.1 mi.2.1 mi.2.2.1 mi.2.2.2.1] (rmOf K mi H H')) (fun a U => a = (as.map (shV n0)).toArray ∧ Z.Warmed39 U.vm ∧ U.heap = h) (fun _ _ _ _ _ => True)
      (fun _ U o U' => ∃ w L, o = .returned w ∧ (w = v.map (shV n0) ∧ Rel K Z n0 H' U'.heap ∧ Fr n0 L) ∧ FrameEnd U o U' L (rmOf K mi H H').cells (rmOf K mi H H').slots)
theorem leB {a b : Nat} (h : Nat.ble a b = true) : a ≤ b := Nat.le_of_ble_eq_true h
theorem ltB {a b : Nat} (h : Nat.ble (a + 1) b = true) : a < b := Nat.le_of_ble_eq_true h
section Logic
variable {K : List CI} {l : Launch} {Z : State} {a0 : Array Value} {n0 : Nat} {mi : MI} {pc np tp : Nat} {ls ls' : List Slot} {st rest : List Value} {H H' H1 : List Ob} {v : Option Value}
/-- from a run of the body to the method's contract, in any room that holds it -/
theorem met_gen {as : List Value} (ws : List Jvm.Cond) (R0 : Room) (hp : plainFor mi.1 = true) (hls : Jvm.Sym.laidSlots as ++ List.replicate (mi.2.2.1 - (Jvm.Sym.laidSlots as).length) .unset = ls) (hv : mi.2.2.2.1 = none → v = none)
    (k : Runs K l Z n0 mi 0 ls [] H v H') (hfr : mi.2.2.2.2.1 ≤ R0.frames) (hlo : mi.2.2.2.2.2 ≤ R0.locals) (hcl : H'.length ≤ R0.cells + H.length) (hsl : szs K H' ≤ R0.slots + szs K H) {h : Heap} (hrel : Rel K Z n0 H h) :
    MetFree l mi.1 (head1 (Jvm.Cond.code mi.1 mi.2.1 mi.2.2.1 mi.2.2.2.1 :: ws) R0) (fun a U => a = (as.map (shV n0)).toArray ∧ Z.Warmed39 U.vm ∧ U.heap = h) (fun _ _ _ _ _ => True)
      (fun _ U o U' => ∃ w L, o = .returned w ∧ (w = v.map (shV n0) ∧ Rel K Z n0 H' U'.heap ∧ Fr n0 L) ∧ FrameEnd U o U' L (H'.length - H.length) (szs K H' - szs K H)) := by
  refine MetFree.of_bodySF hp hisR ?_
  intro p e s m args below meth c s₁ Bd hml0 hP hK
  obtain ⟨rfl, hZ, hh⟩ := hP
  have hx := Bd.exec
  have hby := Bd.bytes
  have hown : s.vm.findClass mi.1.cls = some m.cls := findClass_of_methodNamed Bd.named
  have hnm := (name_of_methodNamed Bd.named Bd.method).1
  have X0 : Stand p l e R0 s m (as.map (shV n0)).toArray below meth c s₁ [] 0 0 := Stand.of_body Bd
  have e0 : s₁.heap = h := by rw [← hh, Bd.state]; rfl
  obtain ⟨T', locs', cells', slots', X', rel', fr', hc', hs', stp⟩ := k.2.2 p e R0 s m _ below meth c s₁ [] 0 0 X0 hx hZ hby hml0 Bd.returns hown hnm (e0 ▸ hrel) (Fr.nil n0) hfr hlo (by rw [hh, hrel.1]; rfl) (by omega) (by omega)
  have hsz : s.heap.size = n0 + H.length := by rw [hh, hrel.1]
  obtain ⟨fs, hr, hrun, hended, hW, hsame⟩ := X'.leave (v := v.map (shV n0)) (fun q => by rw [Bd.returns] at q; rw [hv q]; rfl)
  exact ⟨_, _, castTop (entry_eq n0 m as mi.2.2.1 hls) (stp fs hr), hrun, hended, _, _, rfl, ⟨rfl, rel', fr'⟩, ⟨_, rfl⟩, hW, hsame.mono (by omega) (by omega)⟩
theorem meets {as : List Value} (hp : plainFor mi.1 = true) (hls : Jvm.Sym.laidSlots as ++ List.replicate (mi.2.2.1 - (Jvm.Sym.laidSlots as).length) .unset = ls) (hv : mi.2.2.2.1 = none → v = none) (k : Runs K l Z n0 mi 0 ls [] H v H') : Meets K l Z n0 mi as H v H' :=
  ⟨k.1, k.2.1, fun h hrel => met_gen [] (rmOf K mi H H') hp hls hv k (Nat.le_refl _) (Nat.le_refl _) (by have := k.1; show _ ≤ (H'.length - H.length) + _; omega) (by have := k.2.1; show _ ≤ (szs K H' - szs K H) + _; omega) hrel⟩
/-- a run that ends in some heap of at most c cells and n slots -/
def RunsB (K : List CI) (l : Launch) (Z : State) (n0 : Nat) (mi : MI) (pc : Nat) (ls : List Slot) (st : List Value) (H : List Ob) (v : Option Value) (c n : Nat) : Prop := ∃ H' : List Ob, Runs K l Z n0 mi pc ls st H v H' ∧ H'.length ≤ c ∧ szs K H' ≤ n
theorem lift {st2 : List Value} {c n : Nat} (f : ∀ H' : List Ob, Runs K l Z n0 mi np ls' st2 H1 v H' → Runs K l Z n0 mi pc ls st H v H') (k : RunsB K l Z n0 mi np ls' st2 H1 v c n) : RunsB K l Z n0 mi pc ls st H v c n := by
  obtain ⟨H', k1, k2⟩ := k
  exact ⟨H', f H' k1, k2⟩
/-- a step that reads no heap -/
theorem Runs.pure {st2 : List Value} (hstep : ∀ (p : Program) (e : Env) (R : Room) (s : State) (m : MethodId) (args : Array Value) (below : List Frame) (meth : Method) (c : Code) (T : State) (locs : List Loc) (cells slots : Nat),
      Stand p l e R s m args below meth c T locs cells slots → p.tables.exec = Jvm.exec → Z.Warmed39 s.vm → c.code = mi.2.1 → s.vm.findClass mi.1.cls = some m.cls → ∀ target,
      Steps p.tables e below (T.setTop (mkF m np (ls'.map (shS n0)).toArray (st2.map (shV n0)))) target → Steps p.tables e below (T.setTop (mkF m pc (ls.map (shS n0)).toArray (st.map (shV n0)))) target)
    (k : Runs K l Z n0 mi np ls' st2 H v H') : Runs K l Z n0 mi pc ls st H v H' := by
  refine ⟨k.1, k.2.1, fun p e R s m args below meth c T locs cells slots X hx hZ hc hml hret hown hnm hrel hfr hf hlo hsz hcl hsl => ?_⟩
  obtain ⟨T', locs', cells', slots', X', rel', fr', hc', hs', stp⟩ := k.2.2 p e R s m args below meth c T locs cells slots X hx hZ hc hml hret hown hnm hrel hfr hf hlo hsz hcl hsl
  exact ⟨T', locs', cells', slots', X', rel', fr', hc', hs', fun fs hr => hstep p e R s m args below meth c T locs cells slots X hx hZ hc hown _ (stp fs hr)⟩
theorem isRef_sh {n0 : Nat} {x : Value} (h : x.isRef = true) : (shV n0 x).isRef = true := by cases x <;> first | rfl | cases h
theorem P1_int {ls : List Slot} {k : Nat} {x : Int32} (h : ls[k]? = some (.val (.int x))) : P1 ls k = true := by unfold P1; rw [h]; rfl
theorem r_iloadN {k : Fin 4} {x : Int32} (hd : decode mi.2.1 pc = .ok (.iload_n k, 1) ∧ pc + 1 = np) (hl : ls[k.val]? = some (.val (.int x))) (kk : Runs K l Z n0 mi np ls (.int x :: st) H v H') : Runs K l Z n0 mi pc ls st H v H' := by
  obtain ⟨hd, rfl⟩ := hd
  exact Runs.pure (fun _ _ _ _ _ _ _ _ _ _ _ _ _ X hx hZ hc hown t h => XS.iloadN X.here hx rfl (hb hc hd) (loc_at hl) h) kk
theorem r_iload {k : Nat} {x : Int32} (hd : decode mi.2.1 pc = .ok (.iload k, 2) ∧ pc + 2 = np) (hl : ls[k]? = some (.val (.int x))) (kk : Runs K l Z n0 mi np ls (.int x :: st) H v H') : Runs K l Z n0 mi pc ls st H v H' := by
  obtain ⟨hd, rfl⟩ := hd
  exact Runs.pure (fun _ _ _ _ _ _ _ _ _ _ _ _ _ X hx hZ hc hown t h => XS.iload X.here hx rfl (hb hc hd) (loc_at hl) h) kk
theorem r_lloadN {k : Fin 4} {x : Int64} (hd : decode mi.2.1 pc = .ok (.lload_n k, 1) ∧ pc + 1 = np) (hl : ls[k.val]? = some (.val (.long x))) (kk : Runs K l Z n0 mi np ls (.long x :: st) H v H') : Runs K l Z n0 mi pc ls st H v H' := by
  obtain ⟨hd, rfl⟩ := hd
  exact Runs.pure (fun _ _ _ _ _ _ _ _ _ _ _ _ _ X hx hZ hc hown t h => XT.lloadN X.here hx rfl (hb hc hd) (loc_at hl) h) kk
theorem r_lload {k : Nat} {x : Int64} (hd : decode mi.2.1 pc = .ok (.lload k, 2) ∧ pc + 2 = np) (hl : ls[k]? = some (.val (.long x))) (kk : Runs K l Z n0 mi np ls (.long x :: st) H v H') : Runs K l Z n0 mi pc ls st H v H' := by
  obtain ⟨hd, rfl⟩ := hd
  exact Runs.pure (fun _ _ _ _ _ _ _ _ _ _ _ _ _ X hx hZ hc hown t h => XT.lload X.here hx rfl (hb hc hd) (loc_at hl) h) kk
theorem r_aloadN {k : Fin 4} {x : Value} (hd : decode mi.2.1 pc = .ok (.aload_n k, 1) ∧ pc + 1 = np) (hl : ls[k.val]? = some (.val x)) (hv : x.isRef = true) (kk : Runs K l Z n0 mi np ls (x :: st) H v H') : Runs K l Z n0 mi pc ls st H v H' := by
  obtain ⟨hd, rfl⟩ := hd
  exact Runs.pure (fun _ _ _ _ _ _ _ _ _ _ _ _ _ X hx hZ hc hown t h => XS.aloadN X.here hx rfl (hb hc hd) (loc_at hl) (isRef_sh hv) h) kk
theorem r_aload {k : Nat} {x : Value} (hd : decode mi.2.1 pc = .ok (.aload k, 2) ∧ pc + 2 = np) (hl : ls[k]? = some (.val x)) (hv : x.isRef = true) (kk : Runs K l Z n0 mi np ls (x :: st) H v H') : Runs K l Z n0 mi pc ls st H v H' := by
  obtain ⟨hd, rfl⟩ := hd
  exact Runs.pure (fun _ _ _ _ _ _ _ _ _ _ _ _ _ X hx hZ hc hown t h => XS.aload X.here hx rfl (hb hc hd) (loc_at hl) (isRef_sh hv) h) kk
theorem r_istoreN {k : Fin 4} {x : Int32} (hd : decode mi.2.1 pc = .ok (.istore_n k, 1) ∧ pc + 1 = np) (hp : P1 ls k.val = true) (hs : ls.set k.val (.val (.int x)) = ls') (kk : Runs K l Z n0 mi np ls' st H v H') : Runs K l Z n0 mi pc ls (.int x :: st) H v H' := by
  obtain ⟨hd, rfl⟩ := hd
  exact Runs.pure (fun _ _ _ _ _ _ _ _ _ _ _ _ _ X hx hZ hc hown t h => XS.istoreN X.here hx rfl (hb hc hd) rfl (st1 hp rfl hs) h) kk
theorem r_istore {k : Nat} {x : Int32} (hd : decode mi.2.1 pc = .ok (.istore k, 2) ∧ pc + 2 = np) (hp : P1 ls k = true) (hs : ls.set k (.val (.int x)) = ls') (kk : Runs K l Z n0 mi np ls' st H v H') : Runs K l Z n0 mi pc ls (.int x :: st) H v H' := by
  obtain ⟨hd, rfl⟩ := hd
  exact Runs.pure (fun _ _ _ _ _ _ _ _ _ _ _ _ _ X hx hZ hc hown t h => XS.istore X.here hx rfl (hb hc hd) rfl (st1 hp rfl hs) h) kk
theorem r_lstoreN {k : Fin 4} {x : Int64} (hd : decode mi.2.1 pc = .ok (.lstore_n k, 1) ∧ pc + 1 = np) (hp : P2 ls k.val = true) (hs : (ls.set k.val (.val (.long x))).set (k.val + 1) .second = ls') (kk : Runs K l Z n0 mi np ls' st H v H') : Runs K l Z n0 mi pc ls (.long x :: st) H v H' := by
  obtain ⟨hd, rfl⟩ := hd
  exact Runs.pure (fun _ _ _ _ _ _ _ _ _ _ _ _ _ X hx hZ hc hown t h => XT.lstoreN X.here hx rfl (hb hc hd) rfl (st2 hp rfl hs) h) kk
theorem r_lstore {k : Nat} {x : Int64} (hd : decode mi.2.1 pc = .ok (.lstore k, 2) ∧ pc + 2 = np) (hp : P2 ls k = true) (hs : (ls.set k (.val (.long x))).set (k + 1) .second = ls') (kk : Runs K l Z n0 mi np ls' st H v H') : Runs K l Z n0 mi pc ls (.long x :: st) H v H' := by
  obtain ⟨hd, rfl⟩ := hd
  exact Runs.pure (fun _ _ _ _ _ _ _ _ _ _ _ _ _ X hx hZ hc hown t h => XT.lstore X.here hx rfl (hb hc hd) rfl (st2 hp rfl hs) h) kk
theorem r_astoreN {k : Fin 4} {x : Value} (hd : decode mi.2.1 pc = .ok (.astore_n k, 1) ∧ pc + 1 = np) (hp : P1 ls k.val = true) (hv : x.isRef = true) (hs : ls.set k.val (.val x) = ls') (kk : Runs K l Z n0 mi np ls' st H v H') : Runs K l Z n0 mi pc ls (x :: st) H v H' := by
  obtain ⟨hd, rfl⟩ := hd
  exact Runs.pure (fun _ _ _ _ _ _ _ _ _ _ _ _ _ X hx hZ hc hown t h => XS.astoreN X.here hx rfl (hb hc hd) rfl (isRef_sh hv) (st1 hp (XT.cat1 hv) hs) h) kk
theorem r_astore {k : Nat} {x : Value} (hd : decode mi.2.1 pc = .ok (.astore k, 2) ∧ pc + 2 = np) (hp : P1 ls k = true) (hv : x.isRef = true) (hs : ls.set k (.val x) = ls') (kk : Runs K l Z n0 mi np ls' st H v H') : Runs K l Z n0 mi pc ls (x :: st) H v H' := by
  obtain ⟨hd, rfl⟩ := hd
  exact Runs.pure (fun _ _ _ _ _ _ _ _ _ _ _ _ _ X hx hZ hc hown t h => XS.astore X.here hx rfl (hb hc hd) rfl (isRef_sh hv) (st1 hp (XT.cat1 hv) hs) h) kk
theorem r_iadd {x y : Int32} (hd : decode mi.2.1 pc = .ok (.iadd, 1) ∧ pc + 1 = np) (kk : Runs K l Z n0 mi np ls (.int (x + y) :: st) H v H') : Runs K l Z n0 mi pc ls (.int y :: .int x :: st) H v H' := by
  obtain ⟨hd, rfl⟩ := hd
  exact Runs.pure (fun _ _ _ _ _ _ _ _ _ _ _ _ _ X hx hZ hc hown t h => XS.iadd X.here hx rfl (hb hc hd) rfl h) kk
theorem r_isub {x y : Int32} (hd : decode mi.2.1 pc = .ok (.isub, 1) ∧ pc + 1 = np) (kk : Runs K l Z n0 mi np ls (.int (x - y) :: st) H v H') : Runs K l Z n0 mi pc ls (.int y :: .int x :: st) H v H' := by
  obtain ⟨hd, rfl⟩ := hd
  exact Runs.pure (fun _ _ _ _ _ _ _ _ _ _ _ _ _ X hx hZ hc hown t h => XS.isub X.here hx rfl (hb hc hd) rfl h) kk
theorem r_imul {x y : Int32} (hd : decode mi.2.1 pc = .ok (.imul, 1) ∧ pc + 1 = np) (kk : Runs K l Z n0 mi np ls (.int (x * y) :: st) H v H') : Runs K l Z n0 mi pc ls (.int y :: .int x :: st) H v H' := by
  obtain ⟨hd, rfl⟩ := hd
  exact Runs.pure (fun _ _ _ _ _ _ _ _ _ _ _ _ _ X hx hZ hc hown t h => XS.imul X.here hx rfl (hb hc hd) rfl h) kk
theorem r_iand {x y : Int32} (hd : decode mi.2.1 pc = .ok (.iand, 1) ∧ pc + 1 = np) (kk : Runs K l Z n0 mi np ls (.int (x &&& y) :: st) H v H') : Runs K l Z n0 mi pc ls (.int y :: .int x :: st) H v H' := by
  obtain ⟨hd, rfl⟩ := hd
  exact Runs.pure (fun _ _ _ _ _ _ _ _ _ _ _ _ _ X hx hZ hc hown t h => XS.iand X.here hx rfl (hb hc hd) rfl h) kk
theorem r_ior {x y : Int32} (hd : decode mi.2.1 pc = .ok (.ior, 1) ∧ pc + 1 = np) (kk : Runs K l Z n0 mi np ls (.int (x ||| y) :: st) H v H') : Runs K l Z n0 mi pc ls (.int y :: .int x :: st) H v H' := by
  obtain ⟨hd, rfl⟩ := hd
  exact Runs.pure (fun _ _ _ _ _ _ _ _ _ _ _ _ _ X hx hZ hc hown t h => XT.ior X.here hx rfl (hb hc hd) rfl h) kk
theorem r_ixor {x y : Int32} (hd : decode mi.2.1 pc = .ok (.ixor, 1) ∧ pc + 1 = np) (kk : Runs K l Z n0 mi np ls (.int (x ^^^ y) :: st) H v H') : Runs K l Z n0 mi pc ls (.int y :: .int x :: st) H v H' := by
  obtain ⟨hd, rfl⟩ := hd
  exact Runs.pure (fun _ _ _ _ _ _ _ _ _ _ _ _ _ X hx hZ hc hown t h => XT.ixor X.here hx rfl (hb hc hd) rfl h) kk
theorem r_ishl {x y : Int32} (hd : decode mi.2.1 pc = .ok (.ishl, 1) ∧ pc + 1 = np) (kk : Runs K l Z n0 mi np ls (.int (x <<< (y &&& 31)) :: st) H v H') : Runs K l Z n0 mi pc ls (.int y :: .int x :: st) H v H' := by
  obtain ⟨hd, rfl⟩ := hd
  exact Runs.pure (fun _ _ _ _ _ _ _ _ _ _ _ _ _ X hx hZ hc hown t h => XT.ishl X.here hx rfl (hb hc hd) rfl h) kk
theorem r_ishr {x y : Int32} (hd : decode mi.2.1 pc = .ok (.ishr, 1) ∧ pc + 1 = np) (kk : Runs K l Z n0 mi np ls (.int (x >>> (y &&& 31)) :: st) H v H') : Runs K l Z n0 mi pc ls (.int y :: .int x :: st) H v H' := by
  obtain ⟨hd, rfl⟩ := hd
  exact Runs.pure (fun _ _ _ _ _ _ _ _ _ _ _ _ _ X hx hZ hc hown t h => XT.ishr X.here hx rfl (hb hc hd) rfl h) kk
theorem r_iushr {x y : Int32} (hd : decode mi.2.1 pc = .ok (.iushr, 1) ∧ pc + 1 = np) (kk : Runs K l Z n0 mi np ls (.int (XT.ushr x y) :: st) H v H') : Runs K l Z n0 mi pc ls (.int y :: .int x :: st) H v H' := by
  obtain ⟨hd, rfl⟩ := hd
  exact Runs.pure (fun _ _ _ _ _ _ _ _ _ _ _ _ _ X hx hZ hc hown t h => XT.iushr X.here hx rfl (hb hc hd) rfl h) kk
theorem r_idiv {x y : Int32} (hd : decode mi.2.1 pc = .ok (.idiv, 1) ∧ pc + 1 = np) (hy : y ≠ 0) (kk : Runs K l Z n0 mi np ls (.int (x / y) :: st) H v H') : Runs K l Z n0 mi pc ls (.int y :: .int x :: st) H v H' := by
  obtain ⟨hd, rfl⟩ := hd
  exact Runs.pure (fun _ _ _ _ _ _ _ _ _ _ _ _ _ X hx hZ hc hown t h => XS.idiv X.here hx rfl (hb hc hd) rfl hy h) kk
theorem r_irem {x y : Int32} (hd : decode mi.2.1 pc = .ok (.irem, 1) ∧ pc + 1 = np) (hy : y ≠ 0) (kk : Runs K l Z n0 mi np ls (.int (x % y) :: st) H v H') : Runs K l Z n0 mi pc ls (.int y :: .int x :: st) H v H' := by
  obtain ⟨hd, rfl⟩ := hd
  exact Runs.pure (fun _ _ _ _ _ _ _ _ _ _ _ _ _ X hx hZ hc hown t h => iremM X hx rfl (hb hc hd) rfl hy h) kk
theorem r_ladd {x y : Int64} (hd : decode mi.2.1 pc = .ok (.ladd, 1) ∧ pc + 1 = np) (kk : Runs K l Z n0 mi np ls (.long (x + y) :: st) H v H') : Runs K l Z n0 mi pc ls (.long y :: .long x :: st) H v H' := by
  obtain ⟨hd, rfl⟩ := hd
  exact Runs.pure (fun _ _ _ _ _ _ _ _ _ _ _ _ _ X hx hZ hc hown t h => XT.ladd X.here hx rfl (hb hc hd) rfl h) kk
theorem r_lsub {x y : Int64} (hd : decode mi.2.1 pc = .ok (.lsub, 1) ∧ pc + 1 = np) (kk : Runs K l Z n0 mi np ls (.long (x - y) :: st) H v H') : Runs K l Z n0 mi pc ls (.long y :: .long x :: st) H v H' := by
  obtain ⟨hd, rfl⟩ := hd
  exact Runs.pure (fun _ _ _ _ _ _ _ _ _ _ _ _ _ X hx hZ hc hown t h => XT.lsub X.here hx rfl (hb hc hd) rfl h) kk
theorem r_lmul {x y : Int64} (hd : decode mi.2.1 pc = .ok (.lmul, 1) ∧ pc + 1 = np) (kk : Runs K l Z n0 mi np ls (.long (x * y) :: st) H v H') : Runs K l Z n0 mi pc ls (.long y :: .long x :: st) H v H' := by
  obtain ⟨hd, rfl⟩ := hd
  exact Runs.pure (fun _ _ _ _ _ _ _ _ _ _ _ _ _ X hx hZ hc hown t h => XT.lmul X.here hx rfl (hb hc hd) rfl h) kk
theorem r_land {x y : Int64} (hd : decode mi.2.1 pc = .ok (.land, 1) ∧ pc + 1 = np) (kk : Runs K l Z n0 mi np ls (.long (x &&& y) :: st) H v H') : Runs K l Z n0 mi pc ls (.long y :: .long x :: st) H v H' := by
  obtain ⟨hd, rfl⟩ := hd
  exact Runs.pure (fun _ _ _ _ _ _ _ _ _ _ _ _ _ X hx hZ hc hown t h => XT.land X.here hx rfl (hb hc hd) rfl h) kk
theorem r_lor {x y : Int64} (hd : decode mi.2.1 pc = .ok (.lor, 1) ∧ pc + 1 = np) (kk : Runs K l Z n0 mi np ls (.long (x ||| y) :: st) H v H') : Runs K l Z n0 mi pc ls (.long y :: .long x :: st) H v H' := by
  obtain ⟨hd, rfl⟩ := hd
  exact Runs.pure (fun _ _ _ _ _ _ _ _ _ _ _ _ _ X hx hZ hc hown t h => XT.lor X.here hx rfl (hb hc hd) rfl h) kk
theorem r_lxor {x y : Int64} (hd : decode mi.2.1 pc = .ok (.lxor, 1) ∧ pc + 1 = np) (kk : Runs K l Z n0 mi np ls (.long (x ^^^ y) :: st) H v H') : Runs K l Z n0 mi pc ls (.long y :: .long x :: st) H v H' := by
  obtain ⟨hd, rfl⟩ := hd
  exact Runs.pure (fun _ _ _ _ _ _ _ _ _ _ _ _ _ X hx hZ hc hown t h => XT.lxor X.here hx rfl (hb hc hd) rfl h) kk
theorem r_lshl {x : Int64} {y : Int32} (hd : decode mi.2.1 pc = .ok (.lshl, 1) ∧ pc + 1 = np) (kk : Runs K l Z n0 mi np ls (.long (x <<< (y.toInt64 &&& 63)) :: st) H v H') : Runs K l Z n0 mi pc ls (.int y :: .long x :: st) H v H' := by
  obtain ⟨hd, rfl⟩ := hd
  exact Runs.pure (fun _ _ _ _ _ _ _ _ _ _ _ _ _ X hx hZ hc hown t h => XT.lshl X.here hx rfl (hb hc hd) rfl h) kk
theorem r_lshr {x : Int64} {y : Int32} (hd : decode mi.2.1 pc = .ok (.lshr, 1) ∧ pc + 1 = np) (kk : Runs K l Z n0 mi np ls (.long (x >>> (y.toInt64 &&& 63)) :: st) H v H') : Runs K l Z n0 mi pc ls (.int y :: .long x :: st) H v H' := by
  obtain ⟨hd, rfl⟩ := hd
  exact Runs.pure (fun _ _ _ _ _ _ _ _ _ _ _ _ _ X hx hZ hc hown t h => XT.lshr X.here hx rfl (hb hc hd) rfl h) kk
theorem r_lushr {x : Int64} {y : Int32} (hd : decode mi.2.1 pc = .ok (.lushr, 1) ∧ pc + 1 = np) (kk : Runs K l Z n0 mi np ls (.long (XT.ushrL x y) :: st) H v H') : Runs K l Z n0 mi pc ls (.int y :: .long x :: st) H v H' := by
  obtain ⟨hd, rfl⟩ := hd
  exact Runs.pure (fun _ _ _ _ _ _ _ _ _ _ _ _ _ X hx hZ hc hown t h => XT.lushr X.here hx rfl (hb hc hd) rfl h) kk
theorem r_ldiv {x y : Int64} (hd : decode mi.2.1 pc = .ok (.ldiv, 1) ∧ pc + 1 = np) (hy : y ≠ 0) (kk : Runs K l Z n0 mi np ls (.long (x / y) :: st) H v H') : Runs K l Z n0 mi pc ls (.long y :: .long x :: st) H v H' := by
  obtain ⟨hd, rfl⟩ := hd
  exact Runs.pure (fun _ _ _ _ _ _ _ _ _ _ _ _ _ X hx hZ hc hown t h => XT.ldiv X.here hx rfl (hb hc hd) rfl hy h) kk
theorem r_lrem {x y : Int64} (hd : decode mi.2.1 pc = .ok (.lrem, 1) ∧ pc + 1 = np) (hy : y ≠ 0) (kk : Runs K l Z n0 mi np ls (.long (x % y) :: st) H v H') : Runs K l Z n0 mi pc ls (.long y :: .long x :: st) H v H' := by
  obtain ⟨hd, rfl⟩ := hd
  exact Runs.pure (fun _ _ _ _ _ _ _ _ _ _ _ _ _ X hx hZ hc hown t h => XT.lrem X.here hx rfl (hb hc hd) rfl hy (by rw [lrem_mod]; exact h)) kk
theorem r_lcmp {x y : Int64} (hd : decode mi.2.1 pc = .ok (.lcmp, 1) ∧ pc + 1 = np) (kk : Runs K l Z n0 mi np ls (.int (XT.cmpL x y) :: st) H v H') : Runs K l Z n0 mi pc ls (.long y :: .long x :: st) H v H' := by
  obtain ⟨hd, rfl⟩ := hd
  exact Runs.pure (fun _ _ _ _ _ _ _ _ _ _ _ _ _ X hx hZ hc hown t h => XT.lcmp X.here hx rfl (hb hc hd) rfl h) kk
theorem r_ineg {x : Int32} (hd : decode mi.2.1 pc = .ok (.ineg, 1) ∧ pc + 1 = np) (kk : Runs K l Z n0 mi np ls (.int (-x) :: st) H v H') : Runs K l Z n0 mi pc ls (.int x :: st) H v H' := by
  obtain ⟨hd, rfl⟩ := hd
  exact Runs.pure (fun _ _ _ _ _ _ _ _ _ _ _ _ _ X hx hZ hc hown t h => XS.ineg X.here hx rfl (hb hc hd) rfl h) kk
theorem r_lneg {x : Int64} (hd : decode mi.2.1 pc = .ok (.lneg, 1) ∧ pc + 1 = np) (kk : Runs K l Z n0 mi np ls (.long (-x) :: st) H v H') : Runs K l Z n0 mi pc ls (.long x :: st) H v H' := by
  obtain ⟨hd, rfl⟩ := hd
  exact Runs.pure (fun _ _ _ _ _ _ _ _ _ _ _ _ _ X hx hZ hc hown t h => XT.lneg X.here hx rfl (hb hc hd) rfl h) kk
theorem r_i2l {x : Int32} (hd : decode mi.2.1 pc = .ok (.i2l, 1) ∧ pc + 1 = np) (kk : Runs K l Z n0 mi np ls (.long x.toInt64 :: st) H v H') : Runs K l Z n0 mi pc ls (.int x :: st) H v H' := by
  obtain ⟨hd, rfl⟩ := hd
  exact Runs.pure (fun _ _ _ _ _ _ _ _ _ _ _ _ _ X hx hZ hc hown t h => XT.i2l X.here hx rfl (hb hc hd) rfl h) kk
theorem r_l2i {x : Int64} (hd : decode mi.2.1 pc = .ok (.l2i, 1) ∧ pc + 1 = np) (kk : Runs K l Z n0 mi np ls (.int x.toInt32 :: st) H v H') : Runs K l Z n0 mi pc ls (.long x :: st) H v H' := by
  obtain ⟨hd, rfl⟩ := hd
  exact Runs.pure (fun _ _ _ _ _ _ _ _ _ _ _ _ _ X hx hZ hc hown t h => XT.l2i X.here hx rfl (hb hc hd) rfl h) kk
theorem r_i2b {x : Int32} (hd : decode mi.2.1 pc = .ok (.i2b, 1) ∧ pc + 1 = np) (kk : Runs K l Z n0 mi np ls (.int x.toInt8.toInt32 :: st) H v H') : Runs K l Z n0 mi pc ls (.int x :: st) H v H' := by
  obtain ⟨hd, rfl⟩ := hd
  exact Runs.pure (fun _ _ _ _ _ _ _ _ _ _ _ _ _ X hx hZ hc hown t h => XT.i2b X.here hx rfl (hb hc hd) rfl h) kk
theorem r_i2s {x : Int32} (hd : decode mi.2.1 pc = .ok (.i2s, 1) ∧ pc + 1 = np) (kk : Runs K l Z n0 mi np ls (.int x.toInt16.toInt32 :: st) H v H') : Runs K l Z n0 mi pc ls (.int x :: st) H v H' := by
  obtain ⟨hd, rfl⟩ := hd
  exact Runs.pure (fun _ _ _ _ _ _ _ _ _ _ _ _ _ X hx hZ hc hown t h => XT.i2s X.here hx rfl (hb hc hd) rfl h) kk
theorem r_i2c {x : Int32} (hd : decode mi.2.1 pc = .ok (.i2c, 1) ∧ pc + 1 = np) (kk : Runs K l Z n0 mi np ls (.int x.toUInt32.toUInt16.toUInt32.toInt32 :: st) H v H') : Runs K l Z n0 mi pc ls (.int x :: st) H v H' := by
  obtain ⟨hd, rfl⟩ := hd
  exact Runs.pure (fun _ _ _ _ _ _ _ _ _ _ _ _ _ X hx hZ hc hown t h => XT.i2c X.here hx rfl (hb hc hd) rfl h) kk
theorem r_dup {x : Value} (hd : decode mi.2.1 pc = .ok (.dup, 1) ∧ pc + 1 = np) (hx1 : x.category = 1) (kk : Runs K l Z n0 mi np ls (x :: x :: st) H v H') : Runs K l Z n0 mi pc ls (x :: st) H v H' := by
  obtain ⟨hd, rfl⟩ := hd
  exact Runs.pure (fun _ _ _ _ _ _ _ _ _ _ _ _ _ X hx hZ hc hown t h => XS.dup X.here hx rfl (hb hc hd) rfl ((cat_sh _ _).trans hx1) h) kk
theorem r_pop {x : Value} (hd : decode mi.2.1 pc = .ok (.pop, 1) ∧ pc + 1 = np) (hx1 : x.category = 1) (kk : Runs K l Z n0 mi np ls st H v H') : Runs K l Z n0 mi pc ls (x :: st) H v H' := by
  obtain ⟨hd, rfl⟩ := hd
  exact Runs.pure (fun _ _ _ _ _ _ _ _ _ _ _ _ _ X hx hZ hc hown t h => XT.pop X.here hx rfl (hb hc hd) rfl ((cat_sh _ _).trans hx1) h) kk
theorem r_dupX1 {x y : Value} (hd : decode mi.2.1 pc = .ok (.dup_x1, 1) ∧ pc + 1 = np) (hx1 : x.category = 1) (hy1 : y.category = 1) (kk : Runs K l Z n0 mi np ls (x :: y :: x :: st) H v H') : Runs K l Z n0 mi pc ls (x :: y :: st) H v H' := by
  obtain ⟨hd, rfl⟩ := hd
  exact Runs.pure (fun _ _ _ _ _ _ _ _ _ _ _ _ _ X hx hZ hc hown t h => XT.dupX1 X.here hx rfl (hb hc hd) rfl ((cat_sh _ _).trans hx1) ((cat_sh _ _).trans hy1) h) kk
theorem r_dup2 {x y : Value} (hd : decode mi.2.1 pc = .ok (.dup2, 1) ∧ pc + 1 = np) (hx1 : x.category = 1) (hy1 : y.category = 1) (kk : Runs K l Z n0 mi np ls (x :: y :: x :: y :: st) H v H') : Runs K l Z n0 mi pc ls (x :: y :: st) H v H' := by
  obtain ⟨hd, rfl⟩ := hd
  exact Runs.pure (fun _ _ _ _ _ _ _ _ _ _ _ _ _ X hx hZ hc hown t h => XT.dup2 X.here hx rfl (hb hc hd) rfl ((cat_sh _ _).trans hx1) ((cat_sh _ _).trans hy1) h) kk
theorem r_dup2L {x : Int64} (hd : decode mi.2.1 pc = .ok (.dup2, 1) ∧ pc + 1 = np) (kk : Runs K l Z n0 mi np ls (.long x :: .long x :: st) H v H') : Runs K l Z n0 mi pc ls (.long x :: st) H v H' := by
  obtain ⟨hd, rfl⟩ := hd
  exact Runs.pure (fun _ _ _ _ _ _ _ _ _ _ _ _ _ X hx hZ hc hown t h => XT.dup2L X.here hx rfl (hb hc hd) rfl h) kk
theorem r_aconstNull  (hd : decode mi.2.1 pc = .ok (.aconst_null, 1) ∧ pc + 1 = np) (kk : Runs K l Z n0 mi np ls (.null :: st) H v H') : Runs K l Z n0 mi pc ls st H v H' := by
  obtain ⟨hd, rfl⟩ := hd
  exact Runs.pure (fun _ _ _ _ _ _ _ _ _ _ _ _ _ X hx hZ hc hown t h => XS.aconstNull X.here hx rfl (hb hc hd) h) kk
theorem r_iconst {i : Int} {x : Int32} (hd : decode mi.2.1 pc = .ok (.iconst i, 1) ∧ pc + 1 = np ∧ Int32.ofInt i = x) (kk : Runs K l Z n0 mi np ls (.int x :: st) H v H') : Runs K l Z n0 mi pc ls st H v H' := by
  obtain ⟨hd, rfl, hx0⟩ := hd
  exact Runs.pure (fun _ _ _ _ _ _ _ _ _ _ _ _ _ X hx hZ hc hown t h => XT.iconstV X.here hx rfl x (hb hc hd) hx0 h) kk
theorem r_bipush {i : Int} {x : Int32} (hd : decode mi.2.1 pc = .ok (.bipush i, 2) ∧ pc + 2 = np ∧ (Int8.ofInt i).toInt32 = x) (kk : Runs K l Z n0 mi np ls (.int x :: st) H v H') : Runs K l Z n0 mi pc ls st H v H' := by
  obtain ⟨hd, rfl, hx0⟩ := hd
  exact Runs.pure (fun _ _ _ _ _ _ _ _ _ _ _ _ _ X hx hZ hc hown t h => XT.bipushV X.here hx rfl x (hb hc hd) hx0 h) kk
theorem r_sipush {i : Int} {x : Int32} (hd : decode mi.2.1 pc = .ok (.sipush i, 3) ∧ pc + 3 = np ∧ (Int16.ofInt i).toInt32 = x) (kk : Runs K l Z n0 mi np ls (.int x :: st) H v H') : Runs K l Z n0 mi pc ls st H v H' := by
  obtain ⟨hd, rfl, hx0⟩ := hd
  exact Runs.pure (fun _ _ _ _ _ _ _ _ _ _ _ _ _ X hx hZ hc hown t h => XT.sipushV X.here hx rfl x (hb hc hd) hx0 h) kk
theorem r_lconst {i : Fin 2} {x : Int64} (hd : decode mi.2.1 pc = .ok (.lconst i, 1) ∧ pc + 1 = np ∧ Int64.ofNat i = x) (kk : Runs K l Z n0 mi np ls (.long x :: st) H v H') : Runs K l Z n0 mi pc ls st H v H' := by
  obtain ⟨hd, rfl, hx0⟩ := hd
  exact Runs.pure (fun _ _ _ _ _ _ _ _ _ _ _ _ _ X hx hZ hc hown t h => XT.lconstV X.here hx rfl x (hb hc hd) hx0 h) kk
theorem r_ldc {i : Nat} {x : Int32} (hd : decode mi.2.1 pc = .ok (.ldc i, 2) ∧ pc + 2 = np) (w : (Jvm.Cond.constant mi.1.cls i x).before a0 Z = true) (kk : Runs K l Z n0 mi np ls (.int x :: st) H v H') : Runs K l Z n0 mi pc ls st H v H' := by
  obtain ⟨hd, rfl⟩ := hd
  exact Runs.pure (fun _ _ _ _ _ _ _ _ _ _ _ _ _ X hx hZ hc hown t h => X.ldcI hx hown (mv hZ w) rfl (hb hc hd) h) kk
theorem r_ldcW {i : Nat} {x : Int32} (hd : decode mi.2.1 pc = .ok (.ldc_w i, 3) ∧ pc + 3 = np) (w : (Jvm.Cond.constant mi.1.cls i x).before a0 Z = true) (kk : Runs K l Z n0 mi np ls (.int x :: st) H v H') : Runs K l Z n0 mi pc ls st H v H' := by
  obtain ⟨hd, rfl⟩ := hd
  exact Runs.pure (fun _ _ _ _ _ _ _ _ _ _ _ _ _ X hx hZ hc hown t h => X.ldcWI hx hown (mv hZ w) rfl (hb hc hd) h) kk
theorem r_ldc2 {i : Nat} {x : Int64} (hd : decode mi.2.1 pc = .ok (.ldc2_w i, 3) ∧ pc + 3 = np) (w : (Jvm.Cond.constantLong mi.1.cls i x).before a0 Z = true) (kk : Runs K l Z n0 mi np ls (.long x :: st) H v H') : Runs K l Z n0 mi pc ls st H v H' := by
  obtain ⟨hd, rfl⟩ := hd
  exact Runs.pure (fun _ _ _ _ _ _ _ _ _ _ _ _ _ X hx hZ hc hown t h => X.ldc2J hx hown (mv hZ w) rfl (hb hc hd) h) kk
theorem r_iinc {k : Nat} {i : Int} {x y : Int32} (hd : decode mi.2.1 pc = .ok (.iinc k i, 3) ∧ pc + 3 = np ∧ Int32.ofInt i = y) (hl : ls[k]? = some (.val (.int x))) (hs : ls.set k (.val (.int (x + y))) = ls') (kk : Runs K l Z n0 mi np ls' st H v H') : Runs K l Z n0 mi pc ls st H v H' := by
  obtain ⟨hd, rfl, hx0⟩ := hd
  exact Runs.pure (fun _ _ _ _ _ _ _ _ _ _ _ _ _ X hx hZ hc hown t h => XT.iincV X.here hx rfl y (hb hc hd) hx0 (loc_at hl) (st1 (P1_int hl) rfl hs) h) kk
theorem r_goto  {o : Int} (hd : decode mi.2.1 pc = .ok (.goto o, 3) ∧ pc + 3 = np ∧ 0 ≤ (pc : Int) + o ∧ ((pc : Int) + o).toNat = tp) (kk : Runs K l Z n0 mi tp ls st H v H') : Runs K l Z n0 mi pc ls st H v H' := by
  obtain ⟨hd, hn, h1, h2⟩ := hd
  exact Runs.pure (fun _ _ _ _ _ _ _ _ _ _ _ _ _ X hx hZ hc hown t h => XS.goto X.here hx rfl rfl (hb hc hd) h1 h2 h) kk
theorem r_ifT {cd : ClassFile.Cond} {x : Int32} {o : Int} (hd : decode mi.2.1 pc = .ok (.ifCond cd o, 3) ∧ pc + 3 = np ∧ 0 ≤ (pc : Int) + o ∧ ((pc : Int) + o).toNat = tp) (hq : ifCond.holds cd x = true) (kk : Runs K l Z n0 mi tp ls st H v H') : Runs K l Z n0 mi pc ls (.int x :: st) H v H' := by
  obtain ⟨hd, hn, h1, h2⟩ := hd
  exact Runs.pure (fun _ _ _ _ _ _ _ _ _ _ _ _ _ X hx hZ hc hown t h => XS.ifYes X.here hx rfl rfl (hb hc hd) rfl hq h1 h2 h) kk
theorem r_ifF {cd : ClassFile.Cond} {x : Int32} {o : Int} (hd : decode mi.2.1 pc = .ok (.ifCond cd o, 3) ∧ pc + 3 = np ∧ 0 ≤ (pc : Int) + o ∧ ((pc : Int) + o).toNat = tp) (hq : ifCond.holds cd x = false) (kk : Runs K l Z n0 mi np ls st H v H') : Runs K l Z n0 mi pc ls (.int x :: st) H v H' := by
  obtain ⟨hd, rfl, h1, h2⟩ := hd
  exact Runs.pure (fun _ _ _ _ _ _ _ _ _ _ _ _ _ X hx hZ hc hown t h => XS.ifNo X.here hx rfl (hb hc hd) rfl hq h) kk
theorem r_icT {cd : ClassFile.Cond} {x y : Int32} {o : Int} (hd : decode mi.2.1 pc = .ok (.if_icmp cd o, 3) ∧ pc + 3 = np ∧ 0 ≤ (pc : Int) + o ∧ ((pc : Int) + o).toNat = tp) (hq : if_icmp.holds cd x y = true) (kk : Runs K l Z n0 mi tp ls st H v H') : Runs K l Z n0 mi pc ls (.int y :: .int x :: st) H v H' := by
  obtain ⟨hd, hn, h1, h2⟩ := hd
  exact Runs.pure (fun _ _ _ _ _ _ _ _ _ _ _ _ _ X hx hZ hc hown t h => XS.icmpYes X.here hx rfl rfl (hb hc hd) rfl hq h1 h2 h) kk
theorem r_icF {cd : ClassFile.Cond} {x y : Int32} {o : Int} (hd : decode mi.2.1 pc = .ok (.if_icmp cd o, 3) ∧ pc + 3 = np ∧ 0 ≤ (pc : Int) + o ∧ ((pc : Int) + o).toNat = tp) (hq : if_icmp.holds cd x y = false) (kk : Runs K l Z n0 mi np ls st H v H') : Runs K l Z n0 mi pc ls (.int y :: .int x :: st) H v H' := by
  obtain ⟨hd, rfl, h1, h2⟩ := hd
  exact Runs.pure (fun _ _ _ _ _ _ _ _ _ _ _ _ _ X hx hZ hc hown t h => XS.icmpNo X.here hx rfl (hb hc hd) rfl hq h) kk
theorem r_nullT  {o : Int} (hd : decode mi.2.1 pc = .ok (.ifnull o, 3) ∧ pc + 3 = np ∧ 0 ≤ (pc : Int) + o ∧ ((pc : Int) + o).toNat = tp) (kk : Runs K l Z n0 mi tp ls st H v H') : Runs K l Z n0 mi pc ls (.null :: st) H v H' := by
  obtain ⟨hd, hn, h1, h2⟩ := hd
  exact Runs.pure (fun _ _ _ _ _ _ _ _ _ _ _ _ _ X hx hZ hc hown t h => XS.ifnullYes X.here hx rfl rfl (hb hc hd) rfl h1 h2 h) kk
theorem r_nullF {a : Addr} {o : Int} (hd : decode mi.2.1 pc = .ok (.ifnull o, 3) ∧ pc + 3 = np ∧ 0 ≤ (pc : Int) + o ∧ ((pc : Int) + o).toNat = tp) (kk : Runs K l Z n0 mi np ls st H v H') : Runs K l Z n0 mi pc ls (.ref a :: st) H v H' := by
  obtain ⟨hd, rfl, h1, h2⟩ := hd
  exact Runs.pure (fun _ _ _ _ _ _ _ _ _ _ _ _ _ X hx hZ hc hown t h => XS.ifnullNo X.here hx rfl (hb hc hd) rfl h) kk
theorem r_nonnullT {a : Addr} {o : Int} (hd : decode mi.2.1 pc = .ok (.ifnonnull o, 3) ∧ pc + 3 = np ∧ 0 ≤ (pc : Int) + o ∧ ((pc : Int) + o).toNat = tp) (kk : Runs K l Z n0 mi tp ls st H v H') : Runs K l Z n0 mi pc ls (.ref a :: st) H v H' := by
  obtain ⟨hd, hn, h1, h2⟩ := hd
  exact Runs.pure (fun _ _ _ _ _ _ _ _ _ _ _ _ _ X hx hZ hc hown t h => XT.ifnonnullYes X.here hx rfl rfl (hb hc hd) rfl h1 h2 h) kk
theorem r_nonnullF  {o : Int} (hd : decode mi.2.1 pc = .ok (.ifnonnull o, 3) ∧ pc + 3 = np ∧ 0 ≤ (pc : Int) + o ∧ ((pc : Int) + o).toNat = tp) (kk : Runs K l Z n0 mi np ls st H v H') : Runs K l Z n0 mi pc ls (.null :: st) H v H' := by
  obtain ⟨hd, rfl, h1, h2⟩ := hd
  exact Runs.pure (fun _ _ _ _ _ _ _ _ _ _ _ _ _ X hx hZ hc hown t h => XT.ifnonnullNo X.here hx rfl (hb hc hd) rfl h) kk
/-- a step that may turn the heap -/
theorem Runs.heap {st2 : List Value} (m1 : H.length ≤ H1.length) (m2 : szs K H ≤ szs K H1) (hstep : ∀ (p : Program) (e : Env) (R : Room) (s : State) (m : MethodId) (args : Array Value) (below : List Frame) (meth : Method) (c : Code) (T : State) (locs : List Loc) (cells slots : Nat),
      Stand p l e R s m args below meth c T locs cells slots → p.tables.exec = Jvm.exec → Z.Warmed39 s.vm → c.code = mi.2.1 → c.maxLocals = mi.2.2.1 → s.vm.findClass mi.1.cls = some m.cls → meth.name = mi.1.name → Rel K Z n0 H T.heap → Fr n0 locs → mi.2.2.2.2.1 ≤ R.frames → mi.2.2.2.2.2 ≤ R.locals →
      s.heap.size + cells = n0 + H.length → cells + H1.length ≤ R.cells + H.length → slots + szs K H1 ≤ R.slots + szs K H →
      ∃ (T1 : State) (locs1 : List Loc) (cells1 slots1 : Nat), Stand p l e R s m args below meth c T1 locs1 cells1 slots1 ∧ Rel K Z n0 H1 T1.heap ∧ Fr n0 locs1 ∧ s.heap.size + cells1 = n0 + H1.length ∧ slots1 + szs K H ≤ slots + szs K H1 ∧
        ∀ target, Steps p.tables e below (T1.setTop (mkF m np (ls'.map (shS n0)).toArray (st2.map (shV n0)))) target → Steps p.tables e below (T.setTop (mkF m pc (ls.map (shS n0)).toArray (st.map (shV n0)))) target)
    (k : Runs K l Z n0 mi np ls' st2 H1 v H') : Runs K l Z n0 mi pc ls st H v H' := by
  have k1 := k.1
  have k2 := k.2.1
  refine ⟨Nat.le_trans m1 k1, Nat.le_trans m2 k2, fun p e R s m args below meth c T locs cells slots X hx hZ hc hml hret hown hnm hrel hfr hf hlo hsz hcl hsl => ?_⟩
  obtain ⟨T1, locs1, cells1, slots1, X1, rel1, fr1, hc1, hs1, st1⟩ := hstep p e R s m args below meth c T locs cells slots X hx hZ hc hml hown hnm hrel hfr hf hlo hsz (by omega) (by omega)
  obtain ⟨T', locs', cells', slots', X', rel', fr', hc', hs', stp⟩ := k.2.2 p e R s m args below meth c T1 locs1 cells1 slots1 X1 hx hZ hc hml hret hown hnm rel1 fr1 hf hlo hc1 (by omega) (by omega)
  exact ⟨T', locs', cells', slots', X', rel', fr', hc', by omega, fun fs hr => st1 _ (stp fs hr)⟩
theorem r_ret {x : Value} {t : FieldType} {i : Instr} (hd : decode mi.2.1 pc = .ok (i, 1)) (hret : mi.2.2.2.1 = some t) (hn : narrow t x = x)
    (hi : (i = .ireturn ∧ (t = .int ∨ t = .boolean ∨ t = .byte ∨ t = .char ∨ t = .short) ∧ ∃ z, x = .int z) ∨ (i = .lreturn ∧ t = .long ∧ ∃ z, x = .long z) ∨ (i = .areturn ∧ t.isReference = true ∧ x.isRef = true)) : Runs K l Z n0 mi pc ls (x :: st) H (some x) H := by
  refine ⟨Nat.le_refl _, Nat.le_refl _, fun p e R s m args below meth c T locs cells slots X hx hZ hc hml hret' hown hnm hrel hfr hf hlo hsz hcl hsl => ⟨T, locs, cells, slots, X, hrel, hfr, hsz, Nat.le_refl _, fun fs hr => ?_⟩⟩
  have hn' : narrow t (shV n0 x) = shV n0 x := by
    rcases hi with ⟨-, -, z, rfl⟩ | ⟨-, -, z, rfl⟩ | ⟨-, -, q⟩
    · exact hn
    · exact hn
    · cases x <;> first | (cases q; done) | (cases t <;> rfl)
  refine retOut X hx (hret'.trans hret) hn' ?_ (hb hc hd) hr
  rcases hi with ⟨h1, h2, z, rfl⟩ | ⟨h1, h2, z, rfl⟩ | ⟨h1, h2, q⟩
  · exact Or.inl ⟨h1, h2, z, rfl⟩
  · exact Or.inr (Or.inl ⟨h1, h2, z, rfl⟩)
  · exact Or.inr (Or.inr (Or.inr (Or.inr ⟨h1, h2, isRef_sh q⟩)))
theorem r_ireturn {z : Int32} (hd : decode mi.2.1 pc = .ok (.ireturn, 1)) (hret : mi.2.2.2.1 = some .int) : Runs K l Z n0 mi pc ls (.int z :: st) H (some (.int z)) H := r_ret hd hret rfl (Or.inl ⟨rfl, Or.inl rfl, z, rfl⟩)
theorem r_ireturnE {z z' : Int32} (hd : decode mi.2.1 pc = .ok (.ireturn, 1)) (hret : mi.2.2.2.1 = some .int) (h : z = z') : Runs K l Z n0 mi pc ls (.int z :: st) H (some (.int z')) H := h ▸ r_ireturn hd hret
theorem r_zreturn {z : Int32} (hd : decode mi.2.1 pc = .ok (.ireturn, 1)) (hret : mi.2.2.2.1 = some .boolean) (hz : z = 0 ∨ z = 1) : Runs K l Z n0 mi pc ls (.int z :: st) H (some (.int z)) H := r_ret hd hret (by rcases hz with rfl | rfl <;> rfl) (Or.inl ⟨rfl, Or.inr (Or.inl rfl), z, rfl⟩)
theorem r_lreturn {z : Int64} (hd : decode mi.2.1 pc = .ok (.lreturn, 1)) (hret : mi.2.2.2.1 = some .long) : Runs K l Z n0 mi pc ls (.long z :: st) H (some (.long z)) H := r_ret hd hret rfl (Or.inr (Or.inl ⟨rfl, rfl, z, rfl⟩))
theorem r_areturn {x : Value} {t : FieldType} (hd : decode mi.2.1 pc = .ok (.areturn, 1)) (hret : mi.2.2.2.1 = some t) (ht : t.isReference = true) (hx : x.isRef = true) : Runs K l Z n0 mi pc ls (x :: st) H (some x) H := r_ret hd hret (by cases x <;> first | (cases hx; done) | (cases t <;> rfl)) (Or.inr (Or.inr ⟨rfl, ht, hx⟩))
theorem r_return (hd : decode mi.2.1 pc = .ok (.return_, 1)) (hret : mi.2.2.2.1 = none) : Runs K l Z n0 mi pc ls [] H none H := by
  refine ⟨Nat.le_refl _, Nat.le_refl _, fun p e R s m args below meth c T locs cells slots X hx hZ hc hml hret' hown hnm hrel hfr hf hlo hsz hcl hsl => ⟨T, locs, cells, slots, X, hrel, hfr, hsz, Nat.le_refl _, fun fs hr => ?_⟩⟩
  exact X.returnOut hx (hret'.trans hret) (hb hc hd) hr
theorem r_tswIn {dflt low high o : Int} {offs : Array Int} {len : Nat} {i : Int32} (hd : decode mi.2.1 pc = .ok (.tableswitch dflt low high offs, len)) (hin : ¬ (i.toInt < low ∨ i.toInt > high)) (hoff : offs[(i.toInt - low).toNat]? = some o) (ho : 0 ≤ (pc : Int) + o) (hp : ((pc : Int) + o).toNat = tp)
    (kk : Runs K l Z n0 mi tp ls st H v H') : Runs K l Z n0 mi pc ls (.int i :: st) H v H' :=
  Runs.pure (fun _ _ _ _ _ _ _ _ _ _ _ _ _ X hx hZ hc hown t h => XS.tswIn X.here hx rfl rfl (hb hc hd) rfl hin hoff ho hp h) kk
theorem r_tswOut {dflt low high : Int} {offs : Array Int} {len : Nat} {i : Int32} (hd : decode mi.2.1 pc = .ok (.tableswitch dflt low high offs, len)) (hout : i.toInt < low ∨ i.toInt > high) (ho : 0 ≤ (pc : Int) + dflt) (hp : ((pc : Int) + dflt).toNat = tp)
    (kk : Runs K l Z n0 mi tp ls st H v H') : Runs K l Z n0 mi pc ls (.int i :: st) H v H' :=
  Runs.pure (fun _ _ _ _ _ _ _ _ _ _ _ _ _ X hx hZ hc hown t h => XS.tswOut X.here hx rfl rfl (hb hc hd) rfl hout ho hp h) kk
/-! ### the heap -/
theorem OOk.ext {h h' : Heap} {a : Addr} {o : Ob} (E : Ext h h') (q : OOk K Z n0 h a o) : OOk K Z n0 h' a o := by
  cases o with
  | inl o => obtain ⟨ci, h1, h2, h3⟩ := q; exact ⟨ci, h1, h2.ext E, fun i f v a b => (h3 i f v a b).ext E⟩
  | inr o => obtain ⟨cl, h1, h2⟩ := q; exact ⟨cl, h1.ext E, h2⟩
theorem OOk.other {h h' : Heap} {a b : Addr} {sl : Nat} {x : Value} {o : Ob} (W : Wr h h' b sl x) (ne : a ≠ b) (q : OOk K Z n0 h a o) : OOk K Z n0 h' a o := by
  cases o with
  | inl o => obtain ⟨ci, h1, h2, h3⟩ := q; exact ⟨ci, h1, h2.wr W, fun i f v a b => (h3 i f v a b).other W (Or.inl ne)⟩
  | inr o => obtain ⟨cl, h1, h2⟩ := q; exact ⟨cl, h1.other W ne, h2⟩
theorem Rel.push {h h' : Heap} {o : Ob} (r : Rel K Z n0 H h) (E : Ext h h') (hs : h'.size = h.size + 1) (ho : OOk K Z n0 h' h.size o) : Rel K Z n0 (H ++ [o]) h' := by
  refine ⟨by rw [hs, r.1, List.length_append]; rfl, fun k q hk => ?_⟩
  by_cases hl : k < H.length
  · rw [List.getElem?_append_left hl] at hk; exact (r.2 k q hk).ext E
  · rw [List.getElem?_append_right (Nat.le_of_not_lt hl)] at hk
    have e : k - H.length = 0 := by
      cases hq : k - H.length with
      | zero => rfl
      | succ j => rw [hq] at hk; simp at hk
    rw [e] at hk
    simp at hk
    subst hk
    have : k = H.length := by omega
    subst this
    rw [← r.1]; exact ho
theorem Rel.put {h h' : Heap} {o : Ob} {a sl : Nat} {x : Value} (r : Rel K Z n0 H h) (W : Wr h h' (n0 + a) sl x) (ha : a < H.length) (ho : OOk K Z n0 h' (n0 + a) o) : Rel K Z n0 (H.set a o) h' := by
  refine ⟨by rw [W.size, r.1, List.length_set], fun k q hk => ?_⟩
  by_cases e : a = k
  · subst e
    rw [List.getElem?_set_self ha] at hk
    cases hk; exact ho
  · rw [List.getElem?_set_ne e] at hk
    exact (r.2 k q hk).other W (fun z => e (Nat.add_left_cancel z).symm)
theorem map_set_same {α β : Type} (f : α → β) : ∀ (H : List α) (a : Nat) (o o' : α), H[a]? = some o' → f o = f o' → (H.set a o).map f = H.map f
  | [], _, _, _, h, _ => by simp at h
  | x :: r, 0, o, o', h, e => by simp at h; subst h; simp [e]
  | x :: r, a + 1, o, o', h, e => by simp at h; simp [map_set_same f r a o o' h e]
theorem szs_set {a : Nat} {o o' : Ob} (h : H[a]? = some o') (e : osz K o = osz K o') : szs K (H.set a o) = szs K H := by unfold szs; rw [map_set_same (osz K) H a o o' h e]
theorem szs_push {o : Ob} : szs K (H ++ [o]) = szs K H + osz K o := by simp [szs]
theorem lt_of_at {α : Type} {L : List α} {a : Nat} {o : α} (h : L[a]? = some o) : a < L.length := (List.getElem?_eq_some_iff.mp h).1
theorem nar_sh {t : FieldType} {x : Value} (h : narrow t x = x) : narrow t (shV n0 x) = shV n0 x := by cases x <;> first | exact h | (cases t <;> rfl)
theorem fits_sh {t : FieldType} {x : Value} (h : fits t x = true) : fits t (shV n0 x) = true := by cases x <;> first | exact h | (cases t <;> first | rfl | cases h)
theorem sh_dflt (ty : FieldType) : shV n0 (defaultValue ty) = defaultValue ty := by cases ty <;> rfl
theorem r_getF {a cid i idx : Nat} {vs : List Value} {ci : CI} {f : FI} {x : Value} {R0 : String} (hd : decode mi.2.1 pc = .ok (.getfield idx, 3) ∧ pc + 3 = np) (w : (Jvm.Cond.fieldLink mi.1.cls idx R0 f.2.1 f.2.2.1).before a0 Z = true) (via : Via Z R0 f.1 f.2.1 f.2.2.1) (hci : K[cid]? = some ci) (hf : ci.2.2[i]? = some f)
    (ho : H[a]? = some (.inl (cid, vs))) (hv : vs[i]? = some x) (kk : Runs K l Z n0 mi np ls (x :: st) H v H') : Runs K l Z n0 mi pc ls (.ref a :: st) H v H' := by
  obtain ⟨hd, rfl⟩ := hd
  refine Runs.heap (Nat.le_refl _) (Nat.le_refl _) (fun p e R s m args below meth c T locs cells slots X hx hZ hc hml hown hnm hrel hfr hf' hlo hsz hcl hsl => ?_) kk
  obtain ⟨ci', q1, E, F⟩ := hrel.2 a _ ho
  cases hci.symm.trans q1
  obtain ⟨T1, X1, e1, st1⟩ := getF X hx hZ hown (host := "") (Or.inl w) via rfl (F i f x hf hv) (g := mkF m pc (ls.map (shS n0)).toArray (.ref (n0 + a) :: st.map (shV n0))) rfl rfl (hb hc hd)
  exact ⟨T1, _, _, _, X1, by rw [e1]; exact hrel, hfr, hsz, Nat.le_refl _, st1⟩
theorem r_putF {a cid i idx : Nat} {vs vs' : List Value} {ci : CI} {f : FI} {x : Value} {R0 : String} (hK : KOk K Z a0) (hd : decode mi.2.1 pc = .ok (.putfield idx, 3) ∧ pc + 3 = np) (w : (Jvm.Cond.fieldLink mi.1.cls idx R0 f.2.1 f.2.2.1).before a0 Z = true) (via : Via Z R0 f.1 f.2.1 f.2.2.1) (hci : K[cid]? = some ci) (hf : ci.2.2[i]? = some f)
    (L : (Jvm.Cond.lays ci.1 f.1 f.2.1 f.2.2.1).before a0 Z = true ∨ ((Jvm.Cond.laysFinal ci.1 f.1 f.2.1 f.2.2.1).before a0 Z = true ∧ mi.1.cls = f.1 ∧ mi.1.name = "<init>"))
    (ho : H[a]? = some (.inl (cid, vs))) (hi : i < vs.length) (hn : narrow f.2.2.2 x = x) (hft : fits f.2.2.2 x = true) (hvs : vs.set i x = vs') (hH : H.set a (.inl (cid, vs')) = H1) (kk : Runs K l Z n0 mi np ls st H1 v H') : Runs K l Z n0 mi pc ls (x :: .ref a :: st) H v H' := by
  obtain ⟨hd, rfl⟩ := hd
  subst hvs hH
  have ha := lt_of_at ho
  have es : szs K (H.set a (.inl (cid, vs.set i x))) = szs K H := szs_set ho rfl
  refine Runs.heap (by rw [List.length_set]; exact Nat.le_refl _) (by rw [es]; exact Nat.le_refl _) (fun p e R s m args below meth c T locs cells slots X hx hZ hc hml hown hnm hrel hfr hf' hlo hsz hcl hsl => ?_) kk
  obtain ⟨ci', q1, E, F⟩ := hrel.2 a _ ho
  cases hci.symm.trans q1
  obtain ⟨kk1, kk2, kk3⟩ := hK cid ci hci
  have hfm : f ∈ ci.2.2 := List.mem_of_getElem? hf
  obtain ⟨T1, h1, X1, e1, W1, st1⟩ := putF X hx hZ hown (host := "") (Or.inl w) via rfl (F i f _ hf (List.getElem?_eq_getElem hi)) E (L.imp id fun q => ⟨q.1, q.2.1, hnm.trans q.2.2⟩) kk1 (kk2 f hfm).2 (nar_sh hn) (fits_sh hft)
    (g := mkF m pc (ls.map (shS n0)).toArray (shV n0 x :: .ref (n0 + a) :: st.map (shV n0))) rfl rfl (hb hc hd)
  refine ⟨T1, _, _, _, X1, ?_, Fr.snoc X1 hfr (Nat.le_add_right _ _), by rw [List.length_set]; exact hsz, by rw [es]; exact Nat.le_refl _, st1⟩
  rw [e1]
  refine hrel.put W1 ha ⟨ci, hci, E.wr W1, fun j g y hg hy => ?_⟩
  by_cases ji : i = j
  · subst ji
    cases hf.symm.trans hg
    rw [List.getElem?_set_self hi] at hy
    cases hy
    exact (F i f _ hf (List.getElem?_eq_getElem hi)).same W1
  · rw [List.getElem?_set_ne ji] at hy
    have hgm : g ∈ ci.2.2 := List.mem_of_getElem? hg
    refine (F j g y hg hy).other W1 (Or.inr (slot_ne (kk2 g hgm).1 (kk2 f hfm).1 ?_ (kk2 g hgm).2 (kk2 f hfm).2))
    obtain ⟨li, ei⟩ := List.getElem?_eq_some_iff.mp hf
    obtain ⟨lj, ej⟩ := List.getElem?_eq_some_iff.mp hg
    have pw := List.pairwise_iff_getElem.mp kk3
    rcases Nat.lt_or_gt_of_ne ji with q | q
    · have := pw i j li lj q; rw [ei, ej] at this; exact fun z => this z.symm
    · have := pw j i lj li q; rw [ei, ej] at this; exact this
theorem r_new {a cid idx : Nat} {ci : CI} {o : List Value} (hK : KOk K Z a0) (hd : decode mi.2.1 pc = .ok (.new idx, 3) ∧ pc + 3 = np) (w : (Jvm.Cond.classLink mi.1.cls idx ci.1).before a0 Z = true) (wz : (Jvm.Cond.initialized ci.1).before a0 Z = true) (hci : K[cid]? = some ci)
    (ho : ci.2.2.map (fun f => defaultValue f.2.2.2) = o) (ha : H.length = a) (hH : H ++ [.inl (cid, o)] = H1) (kk : Runs K l Z n0 mi np ls (.ref a :: st) H1 v H') : Runs K l Z n0 mi pc ls st H v H' := by
  obtain ⟨hd, rfl⟩ := hd
  subst ho ha hH
  obtain ⟨kk1, kk2, kk3⟩ := hK cid ci hci
  have es : osz K (.inl (cid, ci.2.2.map (fun f => defaultValue f.2.2.2))) = ci.2.1 := by show ((K[cid]?).map (fun ci => ci.2.1)).getD 0 = _; rw [hci]; rfl
  refine Runs.heap (by simp) (by rw [szs_push]; exact Nat.le_add_right _ _) (fun p e R s m args below meth c T locs cells slots X hx hZ hc hml hown hnm hrel hfr hf' hlo hsz hcl hsl => ?_) kk
  rw [szs_push, es] at hsl
  simp only [List.length_append, List.length_cons, List.length_nil] at hcl
  obtain ⟨T1, h1, X1, e1, E1, A1, D1, -, st1⟩ := newO X hx hZ hown w kk1 wz rfl (g := mkF m pc (ls.map (shS n0)).toArray (st.map (shV n0))) rfl (hb hc hd) (by omega) (by omega)
  have hs1 := X1.heapSize
  have hlt : T.heap.size < h1.size := A1.lt
  have hh := hrel.1
  rw [e1] at hs1
  refine ⟨T1, _, _, _, X1, ?_, hfr, by simp only [List.length_append, List.length_cons, List.length_nil]; omega, by rw [szs_push, es]; omega, fun t q => st1 t ?_⟩
  · rw [e1]
    refine hrel.push E1 (by omega) ⟨ci, hci, A1, fun i f x hf hx => ?_⟩
    have hfm : f ∈ ci.2.2 := List.mem_of_getElem? hf
    rw [List.getElem?_map, hf] at hx
    cases hx
    show Fld Z h1 T.heap.size f.1 f.2.1 f.2.2.1 (shV n0 (defaultValue f.2.2.2))
    rw [sh_dflt]
    exact D1 (kk2 f hfm).1 (kk2 f hfm).2
  · show Steps _ _ _ (T1.setTop (mkF m (pc + 3) _ (.ref T.heap.size :: _))) t
    rw [hh]; exact q
theorem toNat_of {n : Int32} (h : ¬ n < 0) : n.toNatClampNeg < 2 ^ 31 := (back32 h).2
theorem r_newA {a : Nat} {n : Int32} {aty : ArrayType} {o : List Value} (hd : decode mi.2.1 pc = .ok (.newarray aty, 2) ∧ pc + 2 = np) (w : (Jvm.Cond.arrayClass (newarray.typeOf aty)).before a0 Z = true) (hn : ¬ n < 0) (hb8 : n.toNatClampNeg * 8 ≤ 536870912)
    (ho : List.replicate n.toNatClampNeg (defaultValue (newarray.typeOf aty)) = o) (ha : H.length = a) (hH : H ++ [.inr (newarray.typeOf aty, o)] = H1) (kk : Runs K l Z n0 mi np ls (.ref a :: st) H1 v H') : Runs K l Z n0 mi pc ls (.int n :: st) H v H' := by
  obtain ⟨hd, rfl⟩ := hd
  subst ho ha hH
  have es : osz K (.inr (newarray.typeOf aty, List.replicate n.toNatClampNeg (defaultValue (newarray.typeOf aty)))) = n.toNatClampNeg := by show (List.replicate _ _).length = _; simp
  refine Runs.heap (by simp) (by rw [szs_push]; exact Nat.le_add_right _ _) (fun p e R s m args below meth c T locs cells slots X hx hZ hc hml hown hnm hrel hfr hf' hlo hsz hcl hsl => ?_) kk
  rw [szs_push, es] at hsl
  simp only [List.length_append, List.length_cons, List.length_nil] at hcl
  obtain ⟨T1, h1, cA, X1, e1, E1, A1, st1⟩ := newP X hx hZ w rfl (g := mkF m pc (ls.map (shS n0)).toArray (.int n :: st.map (shV n0))) rfl (hb hc hd) rfl hn (cap := n.toNatClampNeg) (Nat.le_refl _) hb8 (by omega) (by omega)
  have hs1 := X1.heapSize
  have hlt : T.heap.size < h1.size := A1.lt
  have hh := hrel.1
  rw [e1] at hs1
  refine ⟨T1, _, _, _, X1, ?_, hfr, by simp only [List.length_append, List.length_cons, List.length_nil]; omega, by rw [szs_push, es]; omega, fun t q => st1 t ?_⟩
  · rw [e1]
    refine hrel.push E1 (by omega) ⟨_, A1, by rw [sz_new]; simp, by simpa using toNat_of hn, fun i x hx => ?_⟩
    rw [List.getElem?_replicate] at hx
    split at hx
    · rename_i hi
      cases hx
      have q1 : (newA cA (newarray.typeOf aty) n).slots[i]? = some (defaultValue (newarray.typeOf aty)) := by simp [newA, hi]
      exact ⟨by rw [q1]; cases newarray.typeOf aty <;> rfl, by cases newarray.typeOf aty <;> rfl⟩
    · cases hx
  · show Steps _ _ _ (T1.setTop (mkF m (pc + 2) _ (.ref T.heap.size :: _))) t
    rw [hh]; exact q
theorem fits_byte (x : Int32) : fits .byte (.int x.toInt8.toInt32) = true := by
  have h1 : (x.toInt8.toInt32).toInt = x.toInt8.toInt := Int8.toInt_toInt32 _
  have h2 := x.toInt8.toInt_lt
  have h3 := x.toInt8.le_toInt
  have e1 : (-128 : Int32).toInt = -128 := by decide
  have e2 : (127 : Int32).toInt = 127 := by decide
  simp only [fits, Bool.and_eq_true, decide_eq_true_eq]
  rw [Int32.le_iff_toInt_le, Int32.le_iff_toInt_le, h1, e1, e2]
  omega
/-- the int j names the place i -/
def Ix (j : Int32) (i : Nat) : Prop := ¬ j < 0 ∧ j.toNatClampNeg = i
theorem r_len {a : Nat} {ty : FieldType} {vs : List Value} {n : Int32} (hd : decode mi.2.1 pc = .ok (.arraylength, 1) ∧ pc + 1 = np) (ho : H[a]? = some (.inr (ty, vs))) (hn : vs.length.toInt32 = n) (kk : Runs K l Z n0 mi np ls (.int n :: st) H v H') : Runs K l Z n0 mi pc ls (.ref a :: st) H v H' := by
  obtain ⟨hd, rfl⟩ := hd
  subst hn
  refine Runs.heap (Nat.le_refl _) (Nat.le_refl _) (fun p e R s m args below meth c T locs cells slots X hx hZ hc hml hown hnm hrel hfr hf' hlo hsz hcl hsl => ?_) kk
  obtain ⟨cl, A, hs, hl, hv⟩ := hrel.2 a _ ho
  refine ⟨T, _, _, _, X, hrel, hfr, hsz, Nat.le_refl _, fun t q => ?_⟩
  refine X.arraylength hx A.1 (State.isArrayOf_alike hZ.alike A.2.1) (g := mkF m pc (ls.map (shS n0)).toArray (.ref (n0 + a) :: st.map (shV n0))) rfl rfl (hb hc hd) _ ?_
  rw [hs]; exact q
theorem r_iaload {a i : Nat} {vs : List Value} {j : Int32} {x : Value} (hd : decode mi.2.1 pc = .ok (.iaload, 1) ∧ pc + 1 = np) (ho : H[a]? = some (.inr (.int, vs))) (hj : Ix j i) (hv : vs[i]? = some x) (kk : Runs K l Z n0 mi np ls (x :: st) H v H') : Runs K l Z n0 mi pc ls (.int j :: .ref a :: st) H v H' := by
  obtain ⟨hd, rfl⟩ := hd
  obtain ⟨hj0, rfl⟩ := hj
  refine Runs.heap (Nat.le_refl _) (Nat.le_refl _) (fun p e R s m args below meth c T locs cells slots X hx hZ hc hml hown hnm hrel hfr hf' hlo hsz hcl hsl => ?_) kk
  obtain ⟨cl, A, hs, hl, hvs⟩ := hrel.2 a _ ho
  have hi := lt_of_at hv
  refine ⟨T, _, _, _, X, hrel, hfr, hsz, Nat.le_refl _, fun t q => ?_⟩
  exact X.iaload hx (j := j) (v := shV n0 x) A.1 (State.isArrayOf_alike hZ.alike A.2.1) A.2.2 (fun z => z.elim hj0 (fun q => by rw [hs] at q; omega)) (hvs _ _ hv).1 (g := mkF m pc (ls.map (shS n0)).toArray (.int j :: .ref (n0 + a) :: st.map (shV n0))) rfl rfl (hb hc hd) _ q
theorem r_laload {a i : Nat} {vs : List Value} {j : Int32} {x : Value} (hd : decode mi.2.1 pc = .ok (.laload, 1) ∧ pc + 1 = np) (ho : H[a]? = some (.inr (.long, vs))) (hj : Ix j i) (hv : vs[i]? = some x) (kk : Runs K l Z n0 mi np ls (x :: st) H v H') : Runs K l Z n0 mi pc ls (.int j :: .ref a :: st) H v H' := by
  obtain ⟨hd, rfl⟩ := hd
  obtain ⟨hj0, rfl⟩ := hj
  refine Runs.heap (Nat.le_refl _) (Nat.le_refl _) (fun p e R s m args below meth c T locs cells slots X hx hZ hc hml hown hnm hrel hfr hf' hlo hsz hcl hsl => ?_) kk
  obtain ⟨cl, A, hs, hl, hvs⟩ := hrel.2 a _ ho
  have hi := lt_of_at hv
  refine ⟨T, _, _, _, X, hrel, hfr, hsz, Nat.le_refl _, fun t q => ?_⟩
  exact X.laload hx (j := j) (v := shV n0 x) A.1 (State.isArrayOf_alike hZ.alike A.2.1) A.2.2 (fun z => z.elim hj0 (fun q => by rw [hs] at q; omega)) (hvs _ _ hv).1 (g := mkF m pc (ls.map (shS n0)).toArray (.int j :: .ref (n0 + a) :: st.map (shV n0))) rfl rfl (hb hc hd) _ q
theorem r_baload {a i : Nat} {vs : List Value} {j : Int32} {x : Value} (hd : decode mi.2.1 pc = .ok (.baload, 1) ∧ pc + 1 = np) (ho : H[a]? = some (.inr (.byte, vs))) (hj : Ix j i) (hv : vs[i]? = some x) (kk : Runs K l Z n0 mi np ls (x :: st) H v H') : Runs K l Z n0 mi pc ls (.int j :: .ref a :: st) H v H' := by
  obtain ⟨hd, rfl⟩ := hd
  obtain ⟨hj0, rfl⟩ := hj
  refine Runs.heap (Nat.le_refl _) (Nat.le_refl _) (fun p e R s m args below meth c T locs cells slots X hx hZ hc hml hown hnm hrel hfr hf' hlo hsz hcl hsl => ?_) kk
  obtain ⟨cl, A, hs, hl, hvs⟩ := hrel.2 a _ ho
  have hi := lt_of_at hv
  refine ⟨T, _, _, _, X, hrel, hfr, hsz, Nat.le_refl _, fun t q => ?_⟩
  exact X.baloadBytes hx (j := j) (v := shV n0 x) A.1 (State.isArrayOf_alike hZ.alike A.2.1) A.2.2 (fun z => z.elim hj0 (fun q => by rw [hs] at q; omega)) (hvs _ _ hv).1 (g := mkF m pc (ls.map (shS n0)).toArray (.int j :: .ref (n0 + a) :: st.map (shV n0))) rfl rfl (hb hc hd) _ q
theorem r_caload {a i : Nat} {vs : List Value} {j : Int32} {x : Value} (hd : decode mi.2.1 pc = .ok (.caload, 1) ∧ pc + 1 = np) (ho : H[a]? = some (.inr (.char, vs))) (hj : Ix j i) (hv : vs[i]? = some x) (kk : Runs K l Z n0 mi np ls (x :: st) H v H') : Runs K l Z n0 mi pc ls (.int j :: .ref a :: st) H v H' := by
  obtain ⟨hd, rfl⟩ := hd
  obtain ⟨hj0, rfl⟩ := hj
  refine Runs.heap (Nat.le_refl _) (Nat.le_refl _) (fun p e R s m args below meth c T locs cells slots X hx hZ hc hml hown hnm hrel hfr hf' hlo hsz hcl hsl => ?_) kk
  obtain ⟨cl, A, hs, hl, hvs⟩ := hrel.2 a _ ho
  have hi := lt_of_at hv
  refine ⟨T, _, _, _, X, hrel, hfr, hsz, Nat.le_refl _, fun t q => ?_⟩
  exact X.caload hx (j := j) (v := shV n0 x) A.1 (State.isArrayOf_alike hZ.alike A.2.1) A.2.2 (fun z => z.elim hj0 (fun q => by rw [hs] at q; omega)) (hvs _ _ hv).1 (g := mkF m pc (ls.map (shS n0)).toArray (.int j :: .ref (n0 + a) :: st.map (shV n0))) rfl rfl (hb hc hd) _ q
theorem r_iastore {a i : Nat} {vs vs' : List Value} {j : Int32} {x : Int32} (hd : decode mi.2.1 pc = .ok (.iastore, 1) ∧ pc + 1 = np) (ho : H[a]? = some (.inr (.int, vs))) (hj : Ix j i) (hi : i < vs.length) (hvs : vs.set i (.int x) = vs') (hH : H.set a (.inr (.int, vs')) = H1) (kk : Runs K l Z n0 mi np ls st H1 v H') : Runs K l Z n0 mi pc ls (.int x :: .int j :: .ref a :: st) H v H' := by
  obtain ⟨hd, rfl⟩ := hd
  obtain ⟨hj0, rfl⟩ := hj
  subst hvs hH
  have ha := lt_of_at ho
  have es : szs K (H.set a (.inr (.int, vs.set j.toNatClampNeg (.int x)))) = szs K H := szs_set ho (by show (List.set _ _ _).length = _; simp [osz])
  refine Runs.heap (by rw [List.length_set]; exact Nat.le_refl _) (by rw [es]; exact Nat.le_refl _) (fun p e R s m args below meth c T locs cells slots X hx hZ hc hml hown hnm hrel hfr hf' hlo hsz hcl hsl => ?_) kk
  obtain ⟨cl, A, hs, hl, hvs⟩ := hrel.2 a _ ho
  have hin : ¬ (j < 0 ∨ cl.slots.size ≤ j.toNatClampNeg) := fun z => z.elim hj0 (fun q => by rw [hs] at q; omega)
  obtain ⟨T1, h1, X1, e1, W1, st1⟩ := stI X hx hZ rfl A hin (g := mkF m pc (ls.map (shS n0)).toArray (.int x :: .int j :: .ref (n0 + a) :: st.map (shV n0))) rfl rfl (hb hc hd)
  refine ⟨T1, _, _, _, X1, ?_, Fr.snoc X1 hfr (Nat.le_add_right _ _), by rw [List.length_set]; exact hsz, by rw [es]; exact Nat.le_refl _, st1⟩
  rw [e1]
  refine hrel.put W1 ha ⟨_, A.same W1, by rw [sz_set, hs, List.length_set], by rw [List.length_set]; exact hl, fun k y hy => ?_⟩
  by_cases e : j.toNatClampNeg = k
  · subst e
    rw [List.getElem?_set_self hi] at hy
    cases hy
    exact ⟨by simp [Cell.setSlot, hs, hi, shV, nar], rfl⟩
  · rw [List.getElem?_set_ne e] at hy
    refine ⟨?_, (hvs k y hy).2⟩
    exact (Array.getElem?_setIfInBounds_ne e).trans (hvs k y hy).1
theorem r_lastore {a i : Nat} {vs vs' : List Value} {j : Int32} {x : Int64} (hd : decode mi.2.1 pc = .ok (.lastore, 1) ∧ pc + 1 = np) (ho : H[a]? = some (.inr (.long, vs))) (hj : Ix j i) (hi : i < vs.length) (hvs : vs.set i (.long x) = vs') (hH : H.set a (.inr (.long, vs')) = H1) (kk : Runs K l Z n0 mi np ls st H1 v H') : Runs K l Z n0 mi pc ls (.long x :: .int j :: .ref a :: st) H v H' := by
  obtain ⟨hd, rfl⟩ := hd
  obtain ⟨hj0, rfl⟩ := hj
  subst hvs hH
  have ha := lt_of_at ho
  have es : szs K (H.set a (.inr (.long, vs.set j.toNatClampNeg (.long x)))) = szs K H := szs_set ho (by show (List.set _ _ _).length = _; simp [osz])
  refine Runs.heap (by rw [List.length_set]; exact Nat.le_refl _) (by rw [es]; exact Nat.le_refl _) (fun p e R s m args below meth c T locs cells slots X hx hZ hc hml hown hnm hrel hfr hf' hlo hsz hcl hsl => ?_) kk
  obtain ⟨cl, A, hs, hl, hvs⟩ := hrel.2 a _ ho
  have hin : ¬ (j < 0 ∨ cl.slots.size ≤ j.toNatClampNeg) := fun z => z.elim hj0 (fun q => by rw [hs] at q; omega)
  obtain ⟨T1, h1, X1, e1, W1, st1⟩ := stJ X hx hZ rfl A hin (g := mkF m pc (ls.map (shS n0)).toArray (.long x :: .int j :: .ref (n0 + a) :: st.map (shV n0))) rfl rfl (hb hc hd)
  refine ⟨T1, _, _, _, X1, ?_, Fr.snoc X1 hfr (Nat.le_add_right _ _), by rw [List.length_set]; exact hsz, by rw [es]; exact Nat.le_refl _, st1⟩
  rw [e1]
  refine hrel.put W1 ha ⟨_, A.same W1, by rw [sz_set, hs, List.length_set], by rw [List.length_set]; exact hl, fun k y hy => ?_⟩
  by_cases e : j.toNatClampNeg = k
  · subst e
    rw [List.getElem?_set_self hi] at hy
    cases hy
    exact ⟨by simp [Cell.setSlot, hs, hi, shV, nar], rfl⟩
  · rw [List.getElem?_set_ne e] at hy
    refine ⟨?_, (hvs k y hy).2⟩
    exact (Array.getElem?_setIfInBounds_ne e).trans (hvs k y hy).1
theorem r_bastore {a i : Nat} {vs vs' : List Value} {j : Int32} {x : Int32} (hd : decode mi.2.1 pc = .ok (.bastore, 1) ∧ pc + 1 = np) (ho : H[a]? = some (.inr (.byte, vs))) (hj : Ix j i) (hi : i < vs.length) (hvs : vs.set i (.int x.toInt8.toInt32) = vs') (hH : H.set a (.inr (.byte, vs')) = H1) (kk : Runs K l Z n0 mi np ls st H1 v H') : Runs K l Z n0 mi pc ls (.int x :: .int j :: .ref a :: st) H v H' := by
  obtain ⟨hd, rfl⟩ := hd
  obtain ⟨hj0, rfl⟩ := hj
  subst hvs hH
  have ha := lt_of_at ho
  have es : szs K (H.set a (.inr (.byte, vs.set j.toNatClampNeg (.int x.toInt8.toInt32)))) = szs K H := szs_set ho (by show (List.set _ _ _).length = _; simp [osz])
  refine Runs.heap (by rw [List.length_set]; exact Nat.le_refl _) (by rw [es]; exact Nat.le_refl _) (fun p e R s m args below meth c T locs cells slots X hx hZ hc hml hown hnm hrel hfr hf' hlo hsz hcl hsl => ?_) kk
  obtain ⟨cl, A, hs, hl, hvs⟩ := hrel.2 a _ ho
  have hin : ¬ (j < 0 ∨ cl.slots.size ≤ j.toNatClampNeg) := fun z => z.elim hj0 (fun q => by rw [hs] at q; omega)
  obtain ⟨T1, h1, X1, e1, W1, st1⟩ := stB X hx hZ rfl A hin (g := mkF m pc (ls.map (shS n0)).toArray (.int x :: .int j :: .ref (n0 + a) :: st.map (shV n0))) rfl rfl (hb hc hd)
  refine ⟨T1, _, _, _, X1, ?_, Fr.snoc X1 hfr (Nat.le_add_right _ _), by rw [List.length_set]; exact hsz, by rw [es]; exact Nat.le_refl _, st1⟩
  rw [e1]
  refine hrel.put W1 ha ⟨_, A.same W1, by rw [sz_set, hs, List.length_set], by rw [List.length_set]; exact hl, fun k y hy => ?_⟩
  by_cases e : j.toNatClampNeg = k
  · subst e
    rw [List.getElem?_set_self hi] at hy
    cases hy
    exact ⟨by simp [Cell.setSlot, hs, hi, shV, nar], fits_byte x⟩
  · rw [List.getElem?_set_ne e] at hy
    refine ⟨?_, (hvs k y hy).2⟩
    exact (Array.getElem?_setIfInBounds_ne e).trans (hvs k y hy).1
/-! ### calls -/
theorem map_toList (w : Option Value) (rest : List Value) : ((w.toList ++ rest).map (shV n0)) = (w.map (shV n0)).toList ++ rest.map (shV n0) := by cases w <;> simp
theorem r_initO {a idx : Nat} (hd : decode mi.2.1 pc = .ok (.invokespecial idx, 3) ∧ pc + 3 = np) (w1 : (Jvm.Cond.methodLink mi.1.cls idx Lib.objectInit).before a0 Z = true) (w2 : (Jvm.Cond.instanceMethod Lib.objectInit).before a0 Z = true) (w3 : (Jvm.Cond.code Lib.objectInit ⟨#[0xb1]⟩ 1 none).before a0 Z = true)
    (hls : ls.length = mi.2.2.1) (hf : 1 ≤ mi.2.2.2.2.1) (hlo : (st.map fun v => v.category).sum + 12 ≤ mi.2.2.2.2.2) (kk : Runs K l Z n0 mi np ls st H v H') : Runs K l Z n0 mi pc ls (.ref a :: st) H v H' := by
  obtain ⟨hd, rfl⟩ := hd
  refine Runs.heap (Nat.le_refl _) (Nat.le_refl _) (fun p e R s m args below meth c T locs cells slots X hx hZ hc hml hown hnm hrel hfr hf' hlo' hsz hcl hsl => ?_) kk
  obtain ⟨T1, X1, e1, st1⟩ := initO X hx hZ hown w1 w2 w3 rfl (g := mkF m pc (ls.map (shS n0)).toArray (.ref (n0 + a) :: st.map (shV n0))) rfl (by rw [hml, ← hls]; simp) rfl (hb hc hd) (by omega) (W := (st.map fun v => v.category).sum) (by rw [cats_sh]; show 2 * 0 + _ ≤ _; omega) (by omega)
  exact ⟨T1, _, _, _, X1, by rw [e1]; exact hrel, hfr, hsz, Nat.le_refl _, st1⟩
theorem backM {mj : MI} {as : List Value} {w : Option Value} {h : Heap} {p : Program} {e : Env} {R : Room} {s : State} {args : Array Value} {below : List Frame} {len W : Nat} (M : Meets K l Z n0 mj as H w H1) (hrel : Rel K Z n0 H h) (hZ : Z.Warmed39 s.vm) (w4 : (Jvm.Cond.code mj.1 mj.2.1 mj.2.2.1 mj.2.2.2.1).before a0 Z = true) (w3 : (Jvm.Cond.initialized mj.1.cls).before a0 Z = true)
    (hf : mj.2.2.2.2.1 + 1 ≤ R.frames) (hl : W + (mj.2.2.1 + 11) + mj.2.2.2.2.2 ≤ R.locals) :
    Back l R p e below s args mj.1 len W (fun A a => a = (as.map (shV n0)).toArray ∧ A.U.heap = h ∧ A.cells + (H1.length - H.length) ≤ R.cells ∧ A.slots + (szs K H1 - szs K H) ≤ R.slots)
      (fun A _ v B => ∃ L, (v = w.map (shV n0) ∧ Rel K Z n0 H1 B.U.heap ∧ Fr n0 L) ∧ B.locs = A.locs ++ L ∧ B.cells = A.cells + (H1.length - H.length) ∧ B.slots = A.slots + (szs K H1 - szs K H)) :=
  backOf (rm := rmOf K mj H H1) (Q := fun v h L => v = w.map (shV n0) ∧ Rel K Z n0 H1 h ∧ Fr n0 L) (M.2.2 h hrel) hZ w4 w3 hf hl
theorem r_static {mj : MI} {as : List Value} {w : Option Value} {idx : Nat} (hd : decode mi.2.1 pc = .ok (.invokestatic idx, 3) ∧ pc + 3 = np) (w1 : (Jvm.Cond.methodLink mi.1.cls idx mj.1).before a0 Z = true) (w2 : (Jvm.Cond.static mj.1).before a0 Z = true) (w3 : (Jvm.Cond.initialized mj.1.cls).before a0 Z = true) (w4 : (Jvm.Cond.code mj.1 mj.2.1 mj.2.2.1 mj.2.2.2.1).before a0 Z = true)
    (hy : mj.1.cls ≠ "java/lang/invoke/MethodHandle" ∧ mj.1.cls ≠ "java/lang/invoke/VarHandle") (hlen : ∀ sig, parseMethodDescriptor mj.1.desc = some sig → as.length = sig.parameters.length) (hfr : mj.2.2.2.2.1 + 1 ≤ mi.2.2.2.2.1)
    (hst : as.reverse ++ rest = st) (hls : ls.length = mi.2.2.1) (hlo : (rest.map fun v => v.category).sum + (mj.2.2.1 + 11) + mj.2.2.2.2.2 ≤ mi.2.2.2.2.2)
    (M : Meets K l Z n0 mj as H w H1) (kk : Runs K l Z n0 mi np ls (w.toList ++ rest) H1 v H') : Runs K l Z n0 mi pc ls st H v H' := by
  obtain ⟨hd, rfl⟩ := hd
  subst hst
  have m1 := M.1
  have m2 := M.2.1
  refine Runs.heap m1 m2 (fun p e R s m args below meth c T locs cells slots X hx hZ hc hml hown hnm hrel hfr' hf' hlo' hsz hcl hsl => ?_) kk
  obtain ⟨_, _, ⟨T1, L1, k1, n1⟩, -, X1, ⟨Lc, hQ, l1, y1, z1⟩, st1⟩ := Jvm.LawKit.callS X hx (y := mj.1) hown (mvT hZ w1) (mvT hZ w2) (mvT hZ w3) (mvT hZ w4) hy
    (backM (W := (rest.map fun v => v.category).sum) M hrel hZ w4 w3 (by omega) (by omega))
    (g := mkF m pc (ls.map (shS n0)).toArray ((as.reverse ++ rest).map (shV n0))) rfl (by rw [hml, ← hls]; simp) (argsL := as.map (shV n0)) (rest := rest.map (shV n0)) (fun sig q => by rw [List.length_map]; exact hlen sig q) (by simp) (by rw [cats_sh]; show 2 * 0 + _ ≤ _; omega) (hb hc hd)
    (fun _ _ => ⟨rfl, rfl, (by show cells + (H1.length - H.length) ≤ _; omega), (by show slots + (szs K H1 - szs K H) ≤ _; omega)⟩)
  dsimp only [Pt.U, Pt.locs, Pt.cells, Pt.slots] at X1 l1 y1 z1 st1 hQ
  subst l1 y1 z1
  obtain ⟨rfl, R1, F1⟩ := hQ
  refine ⟨T1, _, _, _, X1, R1, Fr.app hfr' F1, by show s.heap.size + (cells + (H1.length - H.length)) = _; omega, by show slots + (szs K H1 - szs K H) + _ ≤ _; omega, fun t q => st1 t ?_⟩
  rw [map_toList] at q; exact q
theorem r_special {mj : MI} {as : List Value} {a idx : Nat} (hd : decode mi.2.1 pc = .ok (.invokespecial idx, 3) ∧ pc + 3 = np) (hy1 : mj.1.name = "<init>") (hr : mj.2.2.2.1 = none) (w1 : (Jvm.Cond.methodLink mi.1.cls idx mj.1).before a0 Z = true) (w2 : (Jvm.Cond.instanceMethod mj.1).before a0 Z = true) (w3 : (Jvm.Cond.initialized mj.1.cls).before a0 Z = true) (w4 : (Jvm.Cond.code mj.1 mj.2.1 mj.2.2.1 mj.2.2.2.1).before a0 Z = true)
    (hy : mj.1.cls ≠ "java/lang/invoke/MethodHandle" ∧ mj.1.cls ≠ "java/lang/invoke/VarHandle") (hlen : ∀ sig, parseMethodDescriptor mj.1.desc = some sig → as.length = sig.parameters.length) (hfr : mj.2.2.2.2.1 + 1 ≤ mi.2.2.2.2.1)
    (hst : as.reverse ++ .ref a :: rest = st) (hls : ls.length = mi.2.2.1) (hlo : (rest.map fun v => v.category).sum + (mj.2.2.1 + 11) + mj.2.2.2.2.2 ≤ mi.2.2.2.2.2)
    (M : Meets K l Z n0 mj (.ref a :: as) H none H1) (kk : Runs K l Z n0 mi np ls rest H1 v H') : Runs K l Z n0 mi pc ls st H v H' := by
  obtain ⟨hd, rfl⟩ := hd
  subst hst
  have m1 := M.1
  have m2 := M.2.1
  refine Runs.heap m1 m2 (fun p e R s m args below meth c T locs cells slots X hx hZ hc hml hown hnm hrel hfr' hf' hlo' hsz hcl hsl => ?_) kk
  have w4' := w4
  rw [hr] at w4'
  obtain ⟨_, _, ⟨T1, L1, k1, n1⟩, -, X1, ⟨Lc, hQ, l1, y1, z1⟩, st1⟩ := X.specialBack hx (y := mj.1) hy1 hown (mvT hZ w1) (mvT hZ w2) (mvT hZ w4') hy
    (backM (W := (rest.map fun v => v.category).sum) M hrel hZ w4 w3 (by omega) (by omega))
    (g := mkF m pc (ls.map (shS n0)).toArray ((as.reverse ++ .ref a :: rest).map (shV n0))) rfl (by rw [hml, ← hls]; simp) (Steps.refl _) (a := n0 + a) (argsL := as.map (shV n0)) (rest := rest.map (shV n0)) (fun sig q => by rw [List.length_map]; exact hlen sig q) (by simp [shV]) (by rw [cats_sh]; show 2 * 0 + _ ≤ _; omega) (hb hc hd)
    (fun _ _ => ⟨rfl, rfl, (by show cells + (H1.length - H.length) ≤ _; omega), (by show slots + (szs K H1 - szs K H) ≤ _; omega)⟩)
  dsimp only [Pt.U, Pt.locs, Pt.cells, Pt.slots] at X1 l1 y1 z1 st1 hQ
  subst l1 y1 z1
  obtain ⟨rfl, R1, F1⟩ := hQ
  exact ⟨T1, _, _, _, X1, R1, Fr.app hfr' F1, by show s.heap.size + (cells + (H1.length - H.length)) = _; omega, by show slots + (szs K H1 - szs K H) + _ ≤ _; omega, fun t q => st1.trans q⟩
theorem r_virtual {mj : MI} {as : List Value} {w : Option Value} {a cid idx : Nat} {ci : CI} {vs : List Value} (hd : decode mi.2.1 pc = .ok (.invokevirtual idx, 3) ∧ pc + 3 = np) (w1 : (Jvm.Cond.methodLink mi.1.cls idx mj.1).before a0 Z = true) (w2 : (Jvm.Cond.declares mj.1).before a0 Z = true) (w5 : (Jvm.Cond.selects ci.1 mj.1 mj.1).before a0 Z = true) (w6 : (Jvm.Cond.instanceMethod mj.1).before a0 Z = true) (w3 : (Jvm.Cond.initialized mj.1.cls).before a0 Z = true) (w4 : (Jvm.Cond.code mj.1 mj.2.1 mj.2.2.1 mj.2.2.2.1).before a0 Z = true)
    (hy : mj.1.cls ≠ "java/lang/invoke/MethodHandle" ∧ mj.1.cls ≠ "java/lang/invoke/VarHandle") (hlen : ∀ sig, parseMethodDescriptor mj.1.desc = some sig → as.length = sig.parameters.length) (hfr : mj.2.2.2.2.1 + 1 ≤ mi.2.2.2.2.1) (hci : K[cid]? = some ci)
    (hst : as.reverse ++ .ref a :: rest = st) (ho : H[a]? = some (.inl (cid, vs))) (hls : ls.length = mi.2.2.1) (hlo : (rest.map fun v => v.category).sum + (mj.2.2.1 + 11) + mj.2.2.2.2.2 ≤ mi.2.2.2.2.2)
    (M : Meets K l Z n0 mj (.ref a :: as) H w H1) (kk : Runs K l Z n0 mi np ls (w.toList ++ rest) H1 v H') : Runs K l Z n0 mi pc ls st H v H' := by
  obtain ⟨hd, rfl⟩ := hd
  subst hst
  have m1 := M.1
  have m2 := M.2.1
  refine Runs.heap m1 m2 (fun p e R s m args below meth c T locs cells slots X hx hZ hc hml hown hnm hrel hfr' hf' hlo' hsz hcl hsl => ?_) kk
  obtain ⟨ci', q1, E, F⟩ := hrel.2 a _ ho
  cases hci.symm.trans q1
  obtain ⟨cq, kq, qa, qb, qc⟩ := isOf hZ rfl E
  obtain ⟨_, _, ⟨T1, L1, k1, n1⟩, -, X1, ⟨Lc, hQ, l1, y1, z1⟩, st1⟩ := X.virtualBack hx (y := mj.1) (z := mj.1) hown (mvT hZ w1) (mvT hZ w2) (notFace_of_selects (args := #[]) (mvT hZ w5)) (mvT hZ w5) (mvT hZ w6) hy
    (backM (W := (rest.map fun v => v.category).sum) M hrel hZ w4 w3 (by omega) (by omega)) qa qc
    (g := mkF m pc (ls.map (shS n0)).toArray ((as.reverse ++ .ref a :: rest).map (shV n0))) rfl (by rw [hml, ← hls]; simp) (Steps.refl _) (argsL := as.map (shV n0)) (rest := rest.map (shV n0)) (fun sig q => by rw [List.length_map]; exact hlen sig q) (by simp [shV]) (by rw [cats_sh]; show 2 * 0 + _ ≤ _; omega) (hb hc hd)
    (fun _ _ => ⟨rfl, rfl, (by show cells + (H1.length - H.length) ≤ _; omega), (by show slots + (szs K H1 - szs K H) ≤ _; omega)⟩)
  dsimp only [Pt.U, Pt.locs, Pt.cells, Pt.slots] at X1 l1 y1 z1 st1 hQ
  subst l1 y1 z1
  obtain ⟨rfl, R1, F1⟩ := hQ
  refine ⟨T1, _, _, _, X1, R1, Fr.app hfr' F1, by show s.heap.size + (cells + (H1.length - H.length)) = _; omega, by show slots + (szs K H1 - szs K H) + _ ≤ _; omega, fun t q => st1.trans ?_⟩
  rw [map_toList] at q; exact q
theorem r_private {mj : MI} {as : List Value} {w : Option Value} {a cid idx : Nat} {ci : CI} {vs : List Value} (hd : decode mi.2.1 pc = .ok (.invokevirtual idx, 3) ∧ pc + 3 = np) (w1 : (Jvm.Cond.methodLink mi.1.cls idx mj.1).before a0 Z = true) (w5 : (Jvm.Cond.selects mj.1.cls mj.1 mj.1).before a0 Z = true) (w7 : (Jvm.Cond.privateMethod mj.1).before a0 Z = true) (w6 : (Jvm.Cond.instanceMethod mj.1).before a0 Z = true) (w3 : (Jvm.Cond.initialized mj.1.cls).before a0 Z = true) (w4 : (Jvm.Cond.code mj.1 mj.2.1 mj.2.2.1 mj.2.2.2.1).before a0 Z = true)
    (hy : mj.1.cls ≠ "java/lang/invoke/MethodHandle" ∧ mj.1.cls ≠ "java/lang/invoke/VarHandle") (hlen : ∀ sig, parseMethodDescriptor mj.1.desc = some sig → as.length = sig.parameters.length) (hfr : mj.2.2.2.2.1 + 1 ≤ mi.2.2.2.2.1) (hci : K[cid]? = some ci)
    (hst : as.reverse ++ .ref a :: rest = st) (ho : H[a]? = some (.inl (cid, vs))) (hls : ls.length = mi.2.2.1) (hlo : (rest.map fun v => v.category).sum + (mj.2.2.1 + 11) + mj.2.2.2.2.2 ≤ mi.2.2.2.2.2)
    (M : Meets K l Z n0 mj (.ref a :: as) H w H1) (kk : Runs K l Z n0 mi np ls (w.toList ++ rest) H1 v H') : Runs K l Z n0 mi pc ls st H v H' := by
  obtain ⟨hd, rfl⟩ := hd
  subst hst
  have m1 := M.1
  have m2 := M.2.1
  refine Runs.heap m1 m2 (fun p e R s m args below meth c T locs cells slots X hx hZ hc hml hown hnm hrel hfr' hf' hlo' hsz hcl hsl => ?_) kk
  obtain ⟨ci', q1, E, F⟩ := hrel.2 a _ ho
  cases hci.symm.trans q1
  obtain ⟨cq, qa, qc⟩ := E.cell
  obtain ⟨_, _, ⟨T1, L1, k1, n1⟩, -, X1, ⟨Lc, hQ, l1, y1, z1⟩, st1⟩ := X.privateBack hx (y := mj.1) hown (mvT hZ w1) (mvT hZ w6) (mvT hZ w5) (Cond.privateMethod_at (mvP hZ w7 (args := #[]))) (mvT hZ w4) hy
    (backM (W := (rest.map fun v => v.category).sum) M hrel hZ w4 w3 (by omega) (by omega))
    (g := mkF m pc (ls.map (shS n0)).toArray ((as.reverse ++ .ref a :: rest).map (shV n0))) rfl (by rw [hml, ← hls]; simp) (Steps.refl _) (a := n0 + a) qa qc (argsL := as.map (shV n0)) (rest := rest.map (shV n0)) (fun sig q => by rw [List.length_map]; exact hlen sig q) (by simp [shV]) (by rw [cats_sh]; show 2 * 0 + _ ≤ _; omega) (hb hc hd)
    (fun _ _ => ⟨rfl, rfl, (by show cells + (H1.length - H.length) ≤ _; omega), (by show slots + (szs K H1 - szs K H) ≤ _; omega)⟩)
  dsimp only [Pt.U, Pt.locs, Pt.cells, Pt.slots] at X1 l1 y1 z1 st1 hQ
  subst l1 y1 z1
  obtain ⟨rfl, R1, F1⟩ := hQ
  refine ⟨T1, _, _, _, X1, R1, Fr.app hfr' F1, by show s.heap.size + (cells + (H1.length - H.length)) = _; omega, by show slots + (szs K H1 - szs K H) + _ ≤ _; omega, fun t q => st1.trans ?_⟩
  rw [map_toList] at q; exact q
end Logic
abbrev HW (Z : State) (a0 : Array Value) : Prop := ∀ d ∈ tables_1, d.before a0 Z = true
def K : List CI := []
theorem allL0 {α : Type} {P : α → Prop} : ∀ x ∈ ([] : List α), P x := fun _ q => nomatch q
theorem allLS {α : Type} {P : α → Prop} {y : α} {L : List α} (q : P y) (r : ∀ x ∈ L, P x) : ∀ x ∈ y :: L, P x := fun x z => (List.mem_cons.mp z).elim (fun u => u ▸ q) (r x)
theorem kok {Z : State} {a0 : Array Value} (hw : HW Z a0) : KOk K Z a0 := by
  intro k ci h
  simp [K] at h
def m0 : MI := (x, code, 7, some .boolean, 1, 13)
def m1 : MI := (⟨"dev/lyewire/xml/XmlNames", "isXmlChar", "(I)Z"⟩, prog_81_method_18_code, 1, some .boolean, 0, 0)
def m2 : MI := (⟨"dev/lyewire/xml/XmlNamesIsXmlCharPinLaw", "expected", "(I)Z"⟩, method_2_code, 1, some .boolean, 0, 0)
theorem pd0 : parseMethodDescriptor "(III)Z" = some ⟨[.int, .int, .int], some .boolean⟩ := by decide +kernel
theorem pf0 : plainFor m0.1 = true := by first | exact plainFor_of_name (by first | (simp [m0, x, plainName, overriddenIn]; done) | decide +kernel) | decide +kernel
theorem pd1 : parseMethodDescriptor "(I)Z" = some ⟨[.int], some .boolean⟩ := by decide +kernel
theorem pf1 : plainFor m1.1 = true := by first | exact plainFor_of_name (by first | (simp [m1, x, plainName, overriddenIn]; done) | decide +kernel) | decide +kernel
theorem pd2 : parseMethodDescriptor "(I)Z" = some ⟨[.int], some .boolean⟩ := by decide +kernel
theorem pf2 : plainFor m2.1 = true := by first | exact plainFor_of_name (by first | (simp [m2, x, plainName, overriddenIn]; done) | decide +kernel) | decide +kernel
theorem i0_0 : decode m0.2.1 0 = .ok (.bipush 16, 2) ∧ 0 + 2 = 2 ∧ (Int8.ofInt 16).toInt32 = 16 := ⟨by decide +kernel, rfl, by decide⟩
theorem i0_2 : decode m0.2.1 2 = .ok (.newarray .int, 2) ∧ 2 + 2 = 4 := ⟨by decide +kernel, rfl⟩
theorem i0_4 : decode m0.2.1 4 = .ok (.dup, 1) ∧ 4 + 1 = 5 := ⟨by decide +kernel, rfl⟩
theorem i0_5 : decode m0.2.1 5 = .ok (.iconst 0, 1) ∧ 5 + 1 = 6 ∧ Int32.ofInt 0 = 0 := ⟨by decide +kernel, rfl, by decide⟩
theorem i0_6 : decode m0.2.1 6 = .ok (.iconst 0, 1) ∧ 6 + 1 = 7 ∧ Int32.ofInt 0 = 0 := ⟨by decide +kernel, rfl, by decide⟩
theorem i0_7 : decode m0.2.1 7 = .ok (.iastore, 1) ∧ 7 + 1 = 8 := ⟨by decide +kernel, rfl⟩
theorem i0_8 : decode m0.2.1 8 = .ok (.dup, 1) ∧ 8 + 1 = 9 := ⟨by decide +kernel, rfl⟩
theorem i0_9 : decode m0.2.1 9 = .ok (.iconst 1, 1) ∧ 9 + 1 = 10 ∧ Int32.ofInt 1 = 1 := ⟨by decide +kernel, rfl, by decide⟩
theorem i0_10 : decode m0.2.1 10 = .ok (.bipush 9, 2) ∧ 10 + 2 = 12 ∧ (Int8.ofInt 9).toInt32 = 9 := ⟨by decide +kernel, rfl, by decide⟩
theorem i0_12 : decode m0.2.1 12 = .ok (.iastore, 1) ∧ 12 + 1 = 13 := ⟨by decide +kernel, rfl⟩
theorem i0_13 : decode m0.2.1 13 = .ok (.dup, 1) ∧ 13 + 1 = 14 := ⟨by decide +kernel, rfl⟩
theorem i0_14 : decode m0.2.1 14 = .ok (.iconst 2, 1) ∧ 14 + 1 = 15 ∧ Int32.ofInt 2 = 2 := ⟨by decide +kernel, rfl, by decide⟩
theorem i0_15 : decode m0.2.1 15 = .ok (.bipush 10, 2) ∧ 15 + 2 = 17 ∧ (Int8.ofInt 10).toInt32 = 10 := ⟨by decide +kernel, rfl, by decide⟩
theorem i0_17 : decode m0.2.1 17 = .ok (.iastore, 1) ∧ 17 + 1 = 18 := ⟨by decide +kernel, rfl⟩
theorem i0_18 : decode m0.2.1 18 = .ok (.dup, 1) ∧ 18 + 1 = 19 := ⟨by decide +kernel, rfl⟩
theorem i0_19 : decode m0.2.1 19 = .ok (.iconst 3, 1) ∧ 19 + 1 = 20 ∧ Int32.ofInt 3 = 3 := ⟨by decide +kernel, rfl, by decide⟩
theorem i0_20 : decode m0.2.1 20 = .ok (.bipush 13, 2) ∧ 20 + 2 = 22 ∧ (Int8.ofInt 13).toInt32 = 13 := ⟨by decide +kernel, rfl, by decide⟩
theorem i0_22 : decode m0.2.1 22 = .ok (.iastore, 1) ∧ 22 + 1 = 23 := ⟨by decide +kernel, rfl⟩
theorem i0_23 : decode m0.2.1 23 = .ok (.dup, 1) ∧ 23 + 1 = 24 := ⟨by decide +kernel, rfl⟩
theorem i0_24 : decode m0.2.1 24 = .ok (.iconst 4, 1) ∧ 24 + 1 = 25 ∧ Int32.ofInt 4 = 4 := ⟨by decide +kernel, rfl, by decide⟩
theorem i0_25 : decode m0.2.1 25 = .ok (.bipush 32, 2) ∧ 25 + 2 = 27 ∧ (Int8.ofInt 32).toInt32 = 32 := ⟨by decide +kernel, rfl, by decide⟩
theorem i0_27 : decode m0.2.1 27 = .ok (.iastore, 1) ∧ 27 + 1 = 28 := ⟨by decide +kernel, rfl⟩
theorem i0_28 : decode m0.2.1 28 = .ok (.dup, 1) ∧ 28 + 1 = 29 := ⟨by decide +kernel, rfl⟩
theorem i0_29 : decode m0.2.1 29 = .ok (.iconst 5, 1) ∧ 29 + 1 = 30 ∧ Int32.ofInt 5 = 5 := ⟨by decide +kernel, rfl, by decide⟩
theorem i0_30 : decode m0.2.1 30 = .ok (.ldc 12, 2) ∧ 30 + 2 = 32 := ⟨by decide +kernel, rfl⟩
theorem i0_32 : decode m0.2.1 32 = .ok (.iastore, 1) ∧ 32 + 1 = 33 := ⟨by decide +kernel, rfl⟩
theorem i0_33 : decode m0.2.1 33 = .ok (.dup, 1) ∧ 33 + 1 = 34 := ⟨by decide +kernel, rfl⟩
theorem i0_34 : decode m0.2.1 34 = .ok (.bipush 6, 2) ∧ 34 + 2 = 36 ∧ (Int8.ofInt 6).toInt32 = 6 := ⟨by decide +kernel, rfl, by decide⟩
theorem i0_36 : decode m0.2.1 36 = .ok (.ldc 13, 2) ∧ 36 + 2 = 38 := ⟨by decide +kernel, rfl⟩
theorem i0_38 : decode m0.2.1 38 = .ok (.iastore, 1) ∧ 38 + 1 = 39 := ⟨by decide +kernel, rfl⟩
theorem i0_39 : decode m0.2.1 39 = .ok (.dup, 1) ∧ 39 + 1 = 40 := ⟨by decide +kernel, rfl⟩
theorem i0_40 : decode m0.2.1 40 = .ok (.bipush 7, 2) ∧ 40 + 2 = 42 ∧ (Int8.ofInt 7).toInt32 = 7 := ⟨by decide +kernel, rfl, by decide⟩
theorem i0_42 : decode m0.2.1 42 = .ok (.ldc 14, 2) ∧ 42 + 2 = 44 := ⟨by decide +kernel, rfl⟩
theorem i0_44 : decode m0.2.1 44 = .ok (.iastore, 1) ∧ 44 + 1 = 45 := ⟨by decide +kernel, rfl⟩
theorem i0_45 : decode m0.2.1 45 = .ok (.dup, 1) ∧ 45 + 1 = 46 := ⟨by decide +kernel, rfl⟩
theorem i0_46 : decode m0.2.1 46 = .ok (.bipush 8, 2) ∧ 46 + 2 = 48 ∧ (Int8.ofInt 8).toInt32 = 8 := ⟨by decide +kernel, rfl, by decide⟩
theorem i0_48 : decode m0.2.1 48 = .ok (.ldc 15, 2) ∧ 48 + 2 = 50 := ⟨by decide +kernel, rfl⟩
theorem i0_50 : decode m0.2.1 50 = .ok (.iastore, 1) ∧ 50 + 1 = 51 := ⟨by decide +kernel, rfl⟩
theorem i0_51 : decode m0.2.1 51 = .ok (.dup, 1) ∧ 51 + 1 = 52 := ⟨by decide +kernel, rfl⟩
theorem i0_52 : decode m0.2.1 52 = .ok (.bipush 9, 2) ∧ 52 + 2 = 54 ∧ (Int8.ofInt 9).toInt32 = 9 := ⟨by decide +kernel, rfl, by decide⟩
theorem i0_54 : decode m0.2.1 54 = .ok (.ldc 7, 2) ∧ 54 + 2 = 56 := ⟨by decide +kernel, rfl⟩
theorem i0_56 : decode m0.2.1 56 = .ok (.iastore, 1) ∧ 56 + 1 = 57 := ⟨by decide +kernel, rfl⟩
theorem i0_57 : decode m0.2.1 57 = .ok (.dup, 1) ∧ 57 + 1 = 58 := ⟨by decide +kernel, rfl⟩
theorem i0_58 : decode m0.2.1 58 = .ok (.bipush 10, 2) ∧ 58 + 2 = 60 ∧ (Int8.ofInt 10).toInt32 = 10 := ⟨by decide +kernel, rfl, by decide⟩
theorem i0_60 : decode m0.2.1 60 = .ok (.ldc 8, 2) ∧ 60 + 2 = 62 := ⟨by decide +kernel, rfl⟩
theorem i0_62 : decode m0.2.1 62 = .ok (.iastore, 1) ∧ 62 + 1 = 63 := ⟨by decide +kernel, rfl⟩
theorem i0_63 : decode m0.2.1 63 = .ok (.dup, 1) ∧ 63 + 1 = 64 := ⟨by decide +kernel, rfl⟩
theorem i0_64 : decode m0.2.1 64 = .ok (.bipush 11, 2) ∧ 64 + 2 = 66 ∧ (Int8.ofInt 11).toInt32 = 11 := ⟨by decide +kernel, rfl, by decide⟩
theorem i0_66 : decode m0.2.1 66 = .ok (.ldc 9, 2) ∧ 66 + 2 = 68 := ⟨by decide +kernel, rfl⟩
theorem i0_68 : decode m0.2.1 68 = .ok (.iastore, 1) ∧ 68 + 1 = 69 := ⟨by decide +kernel, rfl⟩
theorem i0_69 : decode m0.2.1 69 = .ok (.dup, 1) ∧ 69 + 1 = 70 := ⟨by decide +kernel, rfl⟩
theorem i0_70 : decode m0.2.1 70 = .ok (.bipush 12, 2) ∧ 70 + 2 = 72 ∧ (Int8.ofInt 12).toInt32 = 12 := ⟨by decide +kernel, rfl, by decide⟩
theorem i0_72 : decode m0.2.1 72 = .ok (.bipush 31, 2) ∧ 72 + 2 = 74 ∧ (Int8.ofInt 31).toInt32 = 31 := ⟨by decide +kernel, rfl, by decide⟩
theorem i0_74 : decode m0.2.1 74 = .ok (.iastore, 1) ∧ 74 + 1 = 75 := ⟨by decide +kernel, rfl⟩
theorem i0_75 : decode m0.2.1 75 = .ok (.dup, 1) ∧ 75 + 1 = 76 := ⟨by decide +kernel, rfl⟩
theorem i0_76 : decode m0.2.1 76 = .ok (.bipush 13, 2) ∧ 76 + 2 = 78 ∧ (Int8.ofInt 13).toInt32 = 13 := ⟨by decide +kernel, rfl, by decide⟩
theorem i0_78 : decode m0.2.1 78 = .ok (.ldc 18, 2) ∧ 78 + 2 = 80 := ⟨by decide +kernel, rfl⟩
theorem i0_80 : decode m0.2.1 80 = .ok (.iastore, 1) ∧ 80 + 1 = 81 := ⟨by decide +kernel, rfl⟩
theorem i0_81 : decode m0.2.1 81 = .ok (.dup, 1) ∧ 81 + 1 = 82 := ⟨by decide +kernel, rfl⟩
theorem i0_82 : decode m0.2.1 82 = .ok (.bipush 14, 2) ∧ 82 + 2 = 84 ∧ (Int8.ofInt 14).toInt32 = 14 := ⟨by decide +kernel, rfl, by decide⟩
theorem i0_84 : decode m0.2.1 84 = .ok (.ldc 19, 2) ∧ 84 + 2 = 86 := ⟨by decide +kernel, rfl⟩
theorem i0_86 : decode m0.2.1 86 = .ok (.iastore, 1) ∧ 86 + 1 = 87 := ⟨by decide +kernel, rfl⟩
theorem i0_87 : decode m0.2.1 87 = .ok (.dup, 1) ∧ 87 + 1 = 88 := ⟨by decide +kernel, rfl⟩
theorem i0_88 : decode m0.2.1 88 = .ok (.bipush 15, 2) ∧ 88 + 2 = 90 ∧ (Int8.ofInt 15).toInt32 = 15 := ⟨by decide +kernel, rfl, by decide⟩
theorem i0_90 : decode m0.2.1 90 = .ok (.ldc 11, 2) ∧ 90 + 2 = 92 := ⟨by decide +kernel, rfl⟩
theorem i0_92 : decode m0.2.1 92 = .ok (.iastore, 1) ∧ 92 + 1 = 93 := ⟨by decide +kernel, rfl⟩
theorem i0_93 : decode m0.2.1 93 = .ok (.astore_n 3, 1) ∧ 93 + 1 = 94 := ⟨by decide +kernel, rfl⟩
theorem i0_94 : decode m0.2.1 94 = .ok (.aload_n 3, 1) ∧ 94 + 1 = 95 := ⟨by decide +kernel, rfl⟩
theorem i0_95 : decode m0.2.1 95 = .ok (.iload_n 1, 1) ∧ 95 + 1 = 96 := ⟨by decide +kernel, rfl⟩
theorem i0_96 : decode m0.2.1 96 = .ok (.bipush 15, 2) ∧ 96 + 2 = 98 ∧ (Int8.ofInt 15).toInt32 = 15 := ⟨by decide +kernel, rfl, by decide⟩
theorem i0_98 : decode m0.2.1 98 = .ok (.iand, 1) ∧ 98 + 1 = 99 := ⟨by decide +kernel, rfl⟩
theorem i0_99 : decode m0.2.1 99 = .ok (.iaload, 1) ∧ 99 + 1 = 100 := ⟨by decide +kernel, rfl⟩
theorem i0_100 : decode m0.2.1 100 = .ok (.iload_n 2, 1) ∧ 100 + 1 = 101 := ⟨by decide +kernel, rfl⟩
theorem i0_101 : decode m0.2.1 101 = .ok (.iconst 3, 1) ∧ 101 + 1 = 102 ∧ Int32.ofInt 3 = 3 := ⟨by decide +kernel, rfl, by decide⟩
theorem i0_102 : decode m0.2.1 102 = .ok (.iand, 1) ∧ 102 + 1 = 103 := ⟨by decide +kernel, rfl⟩
theorem i0_103 : decode m0.2.1 103 = .ok (.iconst 1, 1) ∧ 103 + 1 = 104 ∧ Int32.ofInt 1 = 1 := ⟨by decide +kernel, rfl, by decide⟩
theorem i0_104 : decode m0.2.1 104 = .ok (.isub, 1) ∧ 104 + 1 = 105 := ⟨by decide +kernel, rfl⟩
theorem i0_105 : decode m0.2.1 105 = .ok (.iadd, 1) ∧ 105 + 1 = 106 := ⟨by decide +kernel, rfl⟩
theorem i0_106 : decode m0.2.1 106 = .ok (.istore 4, 2) ∧ 106 + 2 = 108 := ⟨by decide +kernel, rfl⟩
theorem i0_108 : decode m0.2.1 108 = .ok (.iload_n 0, 1) ∧ 108 + 1 = 109 := ⟨by decide +kernel, rfl⟩
theorem i0_109 : decode m0.2.1 109 = .ok (.invokestatic 20, 3) ∧ 109 + 3 = 112 := ⟨by decide +kernel, rfl⟩
theorem i0_112 : decode m0.2.1 112 = .ok (.iload_n 0, 1) ∧ 112 + 1 = 113 := ⟨by decide +kernel, rfl⟩
theorem i0_113 : decode m0.2.1 113 = .ok (.invokestatic 26, 3) ∧ 113 + 3 = 116 := ⟨by decide +kernel, rfl⟩
theorem i0_116 : decode m0.2.1 116 = .ok (.if_icmp .ne 7, 3) ∧ 116 + 3 = 119 ∧ 0 ≤ ((116 : Nat) : Int) + 7 ∧ (((116 : Nat) : Int) + 7).toNat = 123 := ⟨by decide +kernel, rfl, by decide, by decide⟩
theorem i0_119 : decode m0.2.1 119 = .ok (.iconst 1, 1) ∧ 119 + 1 = 120 ∧ Int32.ofInt 1 = 1 := ⟨by decide +kernel, rfl, by decide⟩
theorem i0_120 : decode m0.2.1 120 = .ok (.goto 4, 3) ∧ 120 + 3 = 123 ∧ 0 ≤ ((120 : Nat) : Int) + 4 ∧ (((120 : Nat) : Int) + 4).toNat = 124 := ⟨by decide +kernel, rfl, by decide, by decide⟩
theorem i0_123 : decode m0.2.1 123 = .ok (.iconst 0, 1) ∧ 123 + 1 = 124 ∧ Int32.ofInt 0 = 0 := ⟨by decide +kernel, rfl, by decide⟩
theorem i0_124 : decode m0.2.1 124 = .ok (.istore 5, 2) ∧ 124 + 2 = 126 := ⟨by decide +kernel, rfl⟩
theorem i0_126 : decode m0.2.1 126 = .ok (.iload 4, 2) ∧ 126 + 2 = 128 := ⟨by decide +kernel, rfl⟩
theorem i0_128 : decode m0.2.1 128 = .ok (.invokestatic 20, 3) ∧ 128 + 3 = 131 := ⟨by decide +kernel, rfl⟩
theorem i0_131 : decode m0.2.1 131 = .ok (.iload 4, 2) ∧ 131 + 2 = 133 := ⟨by decide +kernel, rfl⟩
theorem i0_133 : decode m0.2.1 133 = .ok (.invokestatic 26, 3) ∧ 133 + 3 = 136 := ⟨by decide +kernel, rfl⟩
theorem i0_136 : decode m0.2.1 136 = .ok (.if_icmp .ne 7, 3) ∧ 136 + 3 = 139 ∧ 0 ≤ ((136 : Nat) : Int) + 7 ∧ (((136 : Nat) : Int) + 7).toNat = 143 := ⟨by decide +kernel, rfl, by decide, by decide⟩
theorem i0_139 : decode m0.2.1 139 = .ok (.iconst 1, 1) ∧ 139 + 1 = 140 ∧ Int32.ofInt 1 = 1 := ⟨by decide +kernel, rfl, by decide⟩
theorem i0_140 : decode m0.2.1 140 = .ok (.goto 4, 3) ∧ 140 + 3 = 143 ∧ 0 ≤ ((140 : Nat) : Int) + 4 ∧ (((140 : Nat) : Int) + 4).toNat = 144 := ⟨by decide +kernel, rfl, by decide, by decide⟩
theorem i0_143 : decode m0.2.1 143 = .ok (.iconst 0, 1) ∧ 143 + 1 = 144 ∧ Int32.ofInt 0 = 0 := ⟨by decide +kernel, rfl, by decide⟩
theorem i0_144 : decode m0.2.1 144 = .ok (.istore 6, 2) ∧ 144 + 2 = 146 := ⟨by decide +kernel, rfl⟩
theorem i0_146 : decode m0.2.1 146 = .ok (.iload 5, 2) ∧ 146 + 2 = 148 := ⟨by decide +kernel, rfl⟩
theorem i0_148 : decode m0.2.1 148 = .ok (.ifCond .eq 12, 3) ∧ 148 + 3 = 151 ∧ 0 ≤ ((148 : Nat) : Int) + 12 ∧ (((148 : Nat) : Int) + 12).toNat = 160 := ⟨by decide +kernel, rfl, by decide, by decide⟩
theorem i0_151 : decode m0.2.1 151 = .ok (.iload 6, 2) ∧ 151 + 2 = 153 := ⟨by decide +kernel, rfl⟩
theorem i0_153 : decode m0.2.1 153 = .ok (.ifCond .eq 7, 3) ∧ 153 + 3 = 156 ∧ 0 ≤ ((153 : Nat) : Int) + 7 ∧ (((153 : Nat) : Int) + 7).toNat = 160 := ⟨by decide +kernel, rfl, by decide, by decide⟩
theorem i0_156 : decode m0.2.1 156 = .ok (.iconst 1, 1) ∧ 156 + 1 = 157 ∧ Int32.ofInt 1 = 1 := ⟨by decide +kernel, rfl, by decide⟩
theorem i0_157 : decode m0.2.1 157 = .ok (.goto 4, 3) ∧ 157 + 3 = 160 ∧ 0 ≤ ((157 : Nat) : Int) + 4 ∧ (((157 : Nat) : Int) + 4).toNat = 161 := ⟨by decide +kernel, rfl, by decide, by decide⟩
theorem i0_160 : decode m0.2.1 160 = .ok (.iconst 0, 1) ∧ 160 + 1 = 161 ∧ Int32.ofInt 0 = 0 := ⟨by decide +kernel, rfl, by decide⟩
theorem i0_161 : decode m0.2.1 161 = .ok (.ireturn, 1) := by decide +kernel
theorem i1_0 : decode m1.2.1 0 = .ok (.iload_n 0, 1) ∧ 0 + 1 = 1 := ⟨by decide +kernel, rfl⟩
theorem i1_1 : decode m1.2.1 1 = .ok (.bipush 9, 2) ∧ 1 + 2 = 3 ∧ (Int8.ofInt 9).toInt32 = 9 := ⟨by decide +kernel, rfl, by decide⟩
theorem i1_3 : decode m1.2.1 3 = .ok (.if_icmp .eq 51, 3) ∧ 3 + 3 = 6 ∧ 0 ≤ ((3 : Nat) : Int) + 51 ∧ (((3 : Nat) : Int) + 51).toNat = 54 := ⟨by decide +kernel, rfl, by decide, by decide⟩
theorem i1_6 : decode m1.2.1 6 = .ok (.iload_n 0, 1) ∧ 6 + 1 = 7 := ⟨by decide +kernel, rfl⟩
theorem i1_7 : decode m1.2.1 7 = .ok (.bipush 10, 2) ∧ 7 + 2 = 9 ∧ (Int8.ofInt 10).toInt32 = 10 := ⟨by decide +kernel, rfl, by decide⟩
theorem i1_9 : decode m1.2.1 9 = .ok (.if_icmp .eq 45, 3) ∧ 9 + 3 = 12 ∧ 0 ≤ ((9 : Nat) : Int) + 45 ∧ (((9 : Nat) : Int) + 45).toNat = 54 := ⟨by decide +kernel, rfl, by decide, by decide⟩
theorem i1_12 : decode m1.2.1 12 = .ok (.iload_n 0, 1) ∧ 12 + 1 = 13 := ⟨by decide +kernel, rfl⟩
theorem i1_13 : decode m1.2.1 13 = .ok (.bipush 13, 2) ∧ 13 + 2 = 15 ∧ (Int8.ofInt 13).toInt32 = 13 := ⟨by decide +kernel, rfl, by decide⟩
theorem i1_15 : decode m1.2.1 15 = .ok (.if_icmp .eq 39, 3) ∧ 15 + 3 = 18 ∧ 0 ≤ ((15 : Nat) : Int) + 39 ∧ (((15 : Nat) : Int) + 39).toNat = 54 := ⟨by decide +kernel, rfl, by decide, by decide⟩
theorem i1_18 : decode m1.2.1 18 = .ok (.iload_n 0, 1) ∧ 18 + 1 = 19 := ⟨by decide +kernel, rfl⟩
theorem i1_19 : decode m1.2.1 19 = .ok (.bipush 32, 2) ∧ 19 + 2 = 21 ∧ (Int8.ofInt 32).toInt32 = 32 := ⟨by decide +kernel, rfl, by decide⟩
theorem i1_21 : decode m1.2.1 21 = .ok (.if_icmp .lt 9, 3) ∧ 21 + 3 = 24 ∧ 0 ≤ ((21 : Nat) : Int) + 9 ∧ (((21 : Nat) : Int) + 9).toNat = 30 := ⟨by decide +kernel, rfl, by decide, by decide⟩
theorem i1_24 : decode m1.2.1 24 = .ok (.iload_n 0, 1) ∧ 24 + 1 = 25 := ⟨by decide +kernel, rfl⟩
theorem i1_25 : decode m1.2.1 25 = .ok (.ldc 177, 2) ∧ 25 + 2 = 27 := ⟨by decide +kernel, rfl⟩
theorem i1_27 : decode m1.2.1 27 = .ok (.if_icmp .le 27, 3) ∧ 27 + 3 = 30 ∧ 0 ≤ ((27 : Nat) : Int) + 27 ∧ (((27 : Nat) : Int) + 27).toNat = 54 := ⟨by decide +kernel, rfl, by decide, by decide⟩
theorem i1_30 : decode m1.2.1 30 = .ok (.iload_n 0, 1) ∧ 30 + 1 = 31 := ⟨by decide +kernel, rfl⟩
theorem i1_31 : decode m1.2.1 31 = .ok (.ldc 184, 2) ∧ 31 + 2 = 33 := ⟨by decide +kernel, rfl⟩
theorem i1_33 : decode m1.2.1 33 = .ok (.if_icmp .lt 9, 3) ∧ 33 + 3 = 36 ∧ 0 ≤ ((33 : Nat) : Int) + 9 ∧ (((33 : Nat) : Int) + 9).toNat = 42 := ⟨by decide +kernel, rfl, by decide, by decide⟩
theorem i1_36 : decode m1.2.1 36 = .ok (.iload_n 0, 1) ∧ 36 + 1 = 37 := ⟨by decide +kernel, rfl⟩
theorem i1_37 : decode m1.2.1 37 = .ok (.ldc 181, 2) ∧ 37 + 2 = 39 := ⟨by decide +kernel, rfl⟩
theorem i1_39 : decode m1.2.1 39 = .ok (.if_icmp .le 15, 3) ∧ 39 + 3 = 42 ∧ 0 ≤ ((39 : Nat) : Int) + 15 ∧ (((39 : Nat) : Int) + 15).toNat = 54 := ⟨by decide +kernel, rfl, by decide, by decide⟩
theorem i1_42 : decode m1.2.1 42 = .ok (.iload_n 0, 1) ∧ 42 + 1 = 43 := ⟨by decide +kernel, rfl⟩
theorem i1_43 : decode m1.2.1 43 = .ok (.ldc 182, 2) ∧ 43 + 2 = 45 := ⟨by decide +kernel, rfl⟩
theorem i1_45 : decode m1.2.1 45 = .ok (.if_icmp .lt 13, 3) ∧ 45 + 3 = 48 ∧ 0 ≤ ((45 : Nat) : Int) + 13 ∧ (((45 : Nat) : Int) + 13).toNat = 58 := ⟨by decide +kernel, rfl, by decide, by decide⟩
theorem i1_48 : decode m1.2.1 48 = .ok (.iload_n 0, 1) ∧ 48 + 1 = 49 := ⟨by decide +kernel, rfl⟩
theorem i1_49 : decode m1.2.1 49 = .ok (.ldc 185, 2) ∧ 49 + 2 = 51 := ⟨by decide +kernel, rfl⟩
theorem i1_51 : decode m1.2.1 51 = .ok (.if_icmp .gt 7, 3) ∧ 51 + 3 = 54 ∧ 0 ≤ ((51 : Nat) : Int) + 7 ∧ (((51 : Nat) : Int) + 7).toNat = 58 := ⟨by decide +kernel, rfl, by decide, by decide⟩
theorem i1_54 : decode m1.2.1 54 = .ok (.iconst 1, 1) ∧ 54 + 1 = 55 ∧ Int32.ofInt 1 = 1 := ⟨by decide +kernel, rfl, by decide⟩
theorem i1_55 : decode m1.2.1 55 = .ok (.goto 4, 3) ∧ 55 + 3 = 58 ∧ 0 ≤ ((55 : Nat) : Int) + 4 ∧ (((55 : Nat) : Int) + 4).toNat = 59 := ⟨by decide +kernel, rfl, by decide, by decide⟩
theorem i1_58 : decode m1.2.1 58 = .ok (.iconst 0, 1) ∧ 58 + 1 = 59 ∧ Int32.ofInt 0 = 0 := ⟨by decide +kernel, rfl, by decide⟩
theorem i1_59 : decode m1.2.1 59 = .ok (.ireturn, 1) := by decide +kernel
theorem i2_0 : decode m2.2.1 0 = .ok (.iload_n 0, 1) ∧ 0 + 1 = 1 := ⟨by decide +kernel, rfl⟩
theorem i2_1 : decode m2.2.1 1 = .ok (.ifCond .lt 9, 3) ∧ 1 + 3 = 4 ∧ 0 ≤ ((1 : Nat) : Int) + 9 ∧ (((1 : Nat) : Int) + 9).toNat = 10 := ⟨by decide +kernel, rfl, by decide, by decide⟩
theorem i2_4 : decode m2.2.1 4 = .ok (.iload_n 0, 1) ∧ 4 + 1 = 5 := ⟨by decide +kernel, rfl⟩
theorem i2_5 : decode m2.2.1 5 = .ok (.ldc 7, 2) ∧ 5 + 2 = 7 := ⟨by decide +kernel, rfl⟩
theorem i2_7 : decode m2.2.1 7 = .ok (.if_icmp .le 5, 3) ∧ 7 + 3 = 10 ∧ 0 ≤ ((7 : Nat) : Int) + 5 ∧ (((7 : Nat) : Int) + 5).toNat = 12 := ⟨by decide +kernel, rfl, by decide, by decide⟩
theorem i2_10 : decode m2.2.1 10 = .ok (.iconst 0, 1) ∧ 10 + 1 = 11 ∧ Int32.ofInt 0 = 0 := ⟨by decide +kernel, rfl, by decide⟩
theorem i2_11 : decode m2.2.1 11 = .ok (.ireturn, 1) := by decide +kernel
theorem i2_12 : decode m2.2.1 12 = .ok (.iload_n 0, 1) ∧ 12 + 1 = 13 := ⟨by decide +kernel, rfl⟩
theorem i2_13 : decode m2.2.1 13 = .ok (.bipush 32, 2) ∧ 13 + 2 = 15 ∧ (Int8.ofInt 32).toInt32 = 32 := ⟨by decide +kernel, rfl, by decide⟩
theorem i2_15 : decode m2.2.1 15 = .ok (.if_icmp .ge 27, 3) ∧ 15 + 3 = 18 ∧ 0 ≤ ((15 : Nat) : Int) + 27 ∧ (((15 : Nat) : Int) + 27).toNat = 42 := ⟨by decide +kernel, rfl, by decide, by decide⟩
theorem i2_18 : decode m2.2.1 18 = .ok (.iload_n 0, 1) ∧ 18 + 1 = 19 := ⟨by decide +kernel, rfl⟩
theorem i2_19 : decode m2.2.1 19 = .ok (.bipush 9, 2) ∧ 19 + 2 = 21 ∧ (Int8.ofInt 9).toInt32 = 9 := ⟨by decide +kernel, rfl, by decide⟩
theorem i2_21 : decode m2.2.1 21 = .ok (.if_icmp .eq 15, 3) ∧ 21 + 3 = 24 ∧ 0 ≤ ((21 : Nat) : Int) + 15 ∧ (((21 : Nat) : Int) + 15).toNat = 36 := ⟨by decide +kernel, rfl, by decide, by decide⟩
theorem i2_24 : decode m2.2.1 24 = .ok (.iload_n 0, 1) ∧ 24 + 1 = 25 := ⟨by decide +kernel, rfl⟩
theorem i2_25 : decode m2.2.1 25 = .ok (.bipush 10, 2) ∧ 25 + 2 = 27 ∧ (Int8.ofInt 10).toInt32 = 10 := ⟨by decide +kernel, rfl, by decide⟩
theorem i2_27 : decode m2.2.1 27 = .ok (.if_icmp .eq 9, 3) ∧ 27 + 3 = 30 ∧ 0 ≤ ((27 : Nat) : Int) + 9 ∧ (((27 : Nat) : Int) + 9).toNat = 36 := ⟨by decide +kernel, rfl, by decide, by decide⟩
theorem i2_30 : decode m2.2.1 30 = .ok (.iload_n 0, 1) ∧ 30 + 1 = 31 := ⟨by decide +kernel, rfl⟩
theorem i2_31 : decode m2.2.1 31 = .ok (.bipush 13, 2) ∧ 31 + 2 = 33 ∧ (Int8.ofInt 13).toInt32 = 13 := ⟨by decide +kernel, rfl, by decide⟩
theorem i2_33 : decode m2.2.1 33 = .ok (.if_icmp .ne 7, 3) ∧ 33 + 3 = 36 ∧ 0 ≤ ((33 : Nat) : Int) + 7 ∧ (((33 : Nat) : Int) + 7).toNat = 40 := ⟨by decide +kernel, rfl, by decide, by decide⟩
theorem i2_36 : decode m2.2.1 36 = .ok (.iconst 1, 1) ∧ 36 + 1 = 37 ∧ Int32.ofInt 1 = 1 := ⟨by decide +kernel, rfl, by decide⟩
theorem i2_37 : decode m2.2.1 37 = .ok (.goto 4, 3) ∧ 37 + 3 = 40 ∧ 0 ≤ ((37 : Nat) : Int) + 4 ∧ (((37 : Nat) : Int) + 4).toNat = 41 := ⟨by decide +kernel, rfl, by decide, by decide⟩
theorem i2_40 : decode m2.2.1 40 = .ok (.iconst 0, 1) ∧ 40 + 1 = 41 ∧ Int32.ofInt 0 = 0 := ⟨by decide +kernel, rfl, by decide⟩
theorem i2_41 : decode m2.2.1 41 = .ok (.ireturn, 1) := by decide +kernel
theorem i2_42 : decode m2.2.1 42 = .ok (.iload_n 0, 1) ∧ 42 + 1 = 43 := ⟨by decide +kernel, rfl⟩
theorem i2_43 : decode m2.2.1 43 = .ok (.ldc 8, 2) ∧ 43 + 2 = 45 := ⟨by decide +kernel, rfl⟩
theorem i2_45 : decode m2.2.1 45 = .ok (.if_icmp .lt 11, 3) ∧ 45 + 3 = 48 ∧ 0 ≤ ((45 : Nat) : Int) + 11 ∧ (((45 : Nat) : Int) + 11).toNat = 56 := ⟨by decide +kernel, rfl, by decide, by decide⟩
theorem i2_48 : decode m2.2.1 48 = .ok (.iload_n 0, 1) ∧ 48 + 1 = 49 := ⟨by decide +kernel, rfl⟩
theorem i2_49 : decode m2.2.1 49 = .ok (.ldc 9, 2) ∧ 49 + 2 = 51 := ⟨by decide +kernel, rfl⟩
theorem i2_51 : decode m2.2.1 51 = .ok (.if_icmp .gt 5, 3) ∧ 51 + 3 = 54 ∧ 0 ≤ ((51 : Nat) : Int) + 5 ∧ (((51 : Nat) : Int) + 5).toNat = 56 := ⟨by decide +kernel, rfl, by decide, by decide⟩
theorem i2_54 : decode m2.2.1 54 = .ok (.iconst 0, 1) ∧ 54 + 1 = 55 ∧ Int32.ofInt 0 = 0 := ⟨by decide +kernel, rfl, by decide⟩
theorem i2_55 : decode m2.2.1 55 = .ok (.ireturn, 1) := by decide +kernel
theorem i2_56 : decode m2.2.1 56 = .ok (.iload_n 0, 1) ∧ 56 + 1 = 57 := ⟨by decide +kernel, rfl⟩
theorem i2_57 : decode m2.2.1 57 = .ok (.ldc 10, 2) ∧ 57 + 2 = 59 := ⟨by decide +kernel, rfl⟩
theorem i2_59 : decode m2.2.1 59 = .ok (.if_icmp .eq 9, 3) ∧ 59 + 3 = 62 ∧ 0 ≤ ((59 : Nat) : Int) + 9 ∧ (((59 : Nat) : Int) + 9).toNat = 68 := ⟨by decide +kernel, rfl, by decide, by decide⟩
theorem i2_62 : decode m2.2.1 62 = .ok (.iload_n 0, 1) ∧ 62 + 1 = 63 := ⟨by decide +kernel, rfl⟩
theorem i2_63 : decode m2.2.1 63 = .ok (.ldc 11, 2) ∧ 63 + 2 = 65 := ⟨by decide +kernel, rfl⟩
theorem i2_65 : decode m2.2.1 65 = .ok (.if_icmp .ne 5, 3) ∧ 65 + 3 = 68 ∧ 0 ≤ ((65 : Nat) : Int) + 5 ∧ (((65 : Nat) : Int) + 5).toNat = 70 := ⟨by decide +kernel, rfl, by decide, by decide⟩
theorem i2_68 : decode m2.2.1 68 = .ok (.iconst 0, 1) ∧ 68 + 1 = 69 ∧ Int32.ofInt 0 = 0 := ⟨by decide +kernel, rfl, by decide⟩
theorem i2_69 : decode m2.2.1 69 = .ok (.ireturn, 1) := by decide +kernel
theorem i2_70 : decode m2.2.1 70 = .ok (.iconst 1, 1) ∧ 70 + 1 = 71 ∧ Int32.ofInt 1 = 1 := ⟨by decide +kernel, rfl, by decide⟩
theorem i2_71 : decode m2.2.1 71 = .ok (.ireturn, 1) := by decide +kernel
theorem s0_2 {l : Launch} {Z : State} {a0 : Array Value} {n0 : Nat} {ls : List Slot} {st : List Value} {H H' H1 : List Ob} {v : Option Value} (hw : HW Z a0) {a : Nat} {n : Int32} {o : List Value} (hn : ¬ n < 0) (h8 : n.toNatClampNeg * 8 ≤ 536870912) (ho : List.replicate n.toNatClampNeg (.int 0) = o) (ha : H.length = a) (hH : H ++ [.inr (.int, o)] = H1) (kk : Runs K l Z n0 m0 4 ls (.ref a :: st) H1 v H') : Runs K l Z n0 m0 2 ls (.int n :: st) H v H' := r_newA i0_2 (hw _ (List.mem_of_getElem? (i := 0) rfl)) hn h8 ho ha hH kk
theorem s0_30 {l : Launch} {Z : State} {a0 : Array Value} {n0 : Nat} {ls : List Slot} {st : List Value} {H H' : List Ob} {v : Option Value} (hw : HW Z a0) (kk : Runs K l Z n0 m0 32 ls (.int 55295 :: st) H v H') : Runs K l Z n0 m0 30 ls st H v H' := r_ldc i0_30 (hw _ (List.mem_of_getElem? (i := 1) rfl)) kk
theorem s0_36 {l : Launch} {Z : State} {a0 : Array Value} {n0 : Nat} {ls : List Slot} {st : List Value} {H H' : List Ob} {v : Option Value} (hw : HW Z a0) (kk : Runs K l Z n0 m0 38 ls (.int 57344 :: st) H v H') : Runs K l Z n0 m0 36 ls st H v H' := r_ldc i0_36 (hw _ (List.mem_of_getElem? (i := 2) rfl)) kk
theorem s0_42 {l : Launch} {Z : State} {a0 : Array Value} {n0 : Nat} {ls : List Slot} {st : List Value} {H H' : List Ob} {v : Option Value} (hw : HW Z a0) (kk : Runs K l Z n0 m0 44 ls (.int 65533 :: st) H v H') : Runs K l Z n0 m0 42 ls st H v H' := r_ldc i0_42 (hw _ (List.mem_of_getElem? (i := 3) rfl)) kk
theorem s0_48 {l : Launch} {Z : State} {a0 : Array Value} {n0 : Nat} {ls : List Slot} {st : List Value} {H H' : List Ob} {v : Option Value} (hw : HW Z a0) (kk : Runs K l Z n0 m0 50 ls (.int 65536 :: st) H v H') : Runs K l Z n0 m0 48 ls st H v H' := r_ldc i0_48 (hw _ (List.mem_of_getElem? (i := 4) rfl)) kk
theorem s0_54 {l : Launch} {Z : State} {a0 : Array Value} {n0 : Nat} {ls : List Slot} {st : List Value} {H H' : List Ob} {v : Option Value} (hw : HW Z a0) (kk : Runs K l Z n0 m0 56 ls (.int 1114111 :: st) H v H') : Runs K l Z n0 m0 54 ls st H v H' := r_ldc i0_54 (hw _ (List.mem_of_getElem? (i := 5) rfl)) kk
theorem s0_60 {l : Launch} {Z : State} {a0 : Array Value} {n0 : Nat} {ls : List Slot} {st : List Value} {H H' : List Ob} {v : Option Value} (hw : HW Z a0) (kk : Runs K l Z n0 m0 62 ls (.int 55296 :: st) H v H') : Runs K l Z n0 m0 60 ls st H v H' := r_ldc i0_60 (hw _ (List.mem_of_getElem? (i := 6) rfl)) kk
theorem s0_66 {l : Launch} {Z : State} {a0 : Array Value} {n0 : Nat} {ls : List Slot} {st : List Value} {H H' : List Ob} {v : Option Value} (hw : HW Z a0) (kk : Runs K l Z n0 m0 68 ls (.int 57343 :: st) H v H') : Runs K l Z n0 m0 66 ls st H v H' := r_ldc i0_66 (hw _ (List.mem_of_getElem? (i := 7) rfl)) kk
theorem s0_78 {l : Launch} {Z : State} {a0 : Array Value} {n0 : Nat} {ls : List Slot} {st : List Value} {H H' : List Ob} {v : Option Value} (hw : HW Z a0) (kk : Runs K l Z n0 m0 80 ls (.int (-2147483648) :: st) H v H') : Runs K l Z n0 m0 78 ls st H v H' := r_ldc i0_78 (hw _ (List.mem_of_getElem? (i := 8) rfl)) kk
theorem s0_84 {l : Launch} {Z : State} {a0 : Array Value} {n0 : Nat} {ls : List Slot} {st : List Value} {H H' : List Ob} {v : Option Value} (hw : HW Z a0) (kk : Runs K l Z n0 m0 86 ls (.int 2147483647 :: st) H v H') : Runs K l Z n0 m0 84 ls st H v H' := r_ldc i0_84 (hw _ (List.mem_of_getElem? (i := 9) rfl)) kk
theorem s0_90 {l : Launch} {Z : State} {a0 : Array Value} {n0 : Nat} {ls : List Slot} {st : List Value} {H H' : List Ob} {v : Option Value} (hw : HW Z a0) (kk : Runs K l Z n0 m0 92 ls (.int 65535 :: st) H v H') : Runs K l Z n0 m0 90 ls st H v H' := r_ldc i0_90 (hw _ (List.mem_of_getElem? (i := 10) rfl)) kk
theorem s0_109 {l : Launch} {Z : State} {a0 : Array Value} {n0 : Nat} {ls : List Slot} {st : List Value} {H H' H1 : List Ob} {v : Option Value} (hw : HW Z a0) {x0 : Value} {w : Value} (M : Meets K l Z n0 m1 [x0] H (some w) H1) (hls : ls.length = 7) (hlo : (st.map fun v => v.category).sum ≤ 1) (kk : Runs K l Z n0 m0 112 ls (w :: st) H1 v H') : Runs K l Z n0 m0 109 ls (x0 :: st) H v H' := r_static (mj := m1) (as := [x0]) (rest := st) i0_109 (hw _ (List.mem_of_getElem? (i := 11) rfl)) (hw _ (List.mem_of_getElem? (i := 12) rfl)) (hw _ (List.mem_of_getElem? (i := 13) rfl)) (hw _ (List.mem_of_getElem? (i := 14) rfl)) (by decide) (lenOf pd1 rfl) (by decide) rfl hls (by show _ + (1 + 11) + 0 ≤ 13; omega) M kk
theorem s0_113 {l : Launch} {Z : State} {a0 : Array Value} {n0 : Nat} {ls : List Slot} {st : List Value} {H H' H1 : List Ob} {v : Option Value} (hw : HW Z a0) {x0 : Value} {w : Value} (M : Meets K l Z n0 m2 [x0] H (some w) H1) (hls : ls.length = 7) (hlo : (st.map fun v => v.category).sum ≤ 1) (kk : Runs K l Z n0 m0 116 ls (w :: st) H1 v H') : Runs K l Z n0 m0 113 ls (x0 :: st) H v H' := r_static (mj := m2) (as := [x0]) (rest := st) i0_113 (hw _ (List.mem_of_getElem? (i := 17) rfl)) (hw _ (List.mem_of_getElem? (i := 18) rfl)) (hw _ (List.mem_of_getElem? (i := 19) rfl)) (hw _ (List.mem_of_getElem? (i := 20) rfl)) (by decide) (lenOf pd2 rfl) (by decide) rfl hls (by show _ + (1 + 11) + 0 ≤ 13; omega) M kk
theorem s0_128 {l : Launch} {Z : State} {a0 : Array Value} {n0 : Nat} {ls : List Slot} {st : List Value} {H H' H1 : List Ob} {v : Option Value} (hw : HW Z a0) {x0 : Value} {w : Value} (M : Meets K l Z n0 m1 [x0] H (some w) H1) (hls : ls.length = 7) (hlo : (st.map fun v => v.category).sum ≤ 1) (kk : Runs K l Z n0 m0 131 ls (w :: st) H1 v H') : Runs K l Z n0 m0 128 ls (x0 :: st) H v H' := r_static (mj := m1) (as := [x0]) (rest := st) i0_128 (hw _ (List.mem_of_getElem? (i := 11) rfl)) (hw _ (List.mem_of_getElem? (i := 12) rfl)) (hw _ (List.mem_of_getElem? (i := 13) rfl)) (hw _ (List.mem_of_getElem? (i := 14) rfl)) (by decide) (lenOf pd1 rfl) (by decide) rfl hls (by show _ + (1 + 11) + 0 ≤ 13; omega) M kk
theorem s0_133 {l : Launch} {Z : State} {a0 : Array Value} {n0 : Nat} {ls : List Slot} {st : List Value} {H H' H1 : List Ob} {v : Option Value} (hw : HW Z a0) {x0 : Value} {w : Value} (M : Meets K l Z n0 m2 [x0] H (some w) H1) (hls : ls.length = 7) (hlo : (st.map fun v => v.category).sum ≤ 1) (kk : Runs K l Z n0 m0 136 ls (w :: st) H1 v H') : Runs K l Z n0 m0 133 ls (x0 :: st) H v H' := r_static (mj := m2) (as := [x0]) (rest := st) i0_133 (hw _ (List.mem_of_getElem? (i := 17) rfl)) (hw _ (List.mem_of_getElem? (i := 18) rfl)) (hw _ (List.mem_of_getElem? (i := 19) rfl)) (hw _ (List.mem_of_getElem? (i := 20) rfl)) (by decide) (lenOf pd2 rfl) (by decide) rfl hls (by show _ + (1 + 11) + 0 ≤ 13; omega) M kk
theorem s1_25 {l : Launch} {Z : State} {a0 : Array Value} {n0 : Nat} {ls : List Slot} {st : List Value} {H H' : List Ob} {v : Option Value} (hw : HW Z a0) (kk : Runs K l Z n0 m1 27 ls (.int 55295 :: st) H v H') : Runs K l Z n0 m1 25 ls st H v H' := r_ldc i1_25 (hw _ (List.mem_of_getElem? (i := 21) rfl)) kk
theorem s1_31 {l : Launch} {Z : State} {a0 : Array Value} {n0 : Nat} {ls : List Slot} {st : List Value} {H H' : List Ob} {v : Option Value} (hw : HW Z a0) (kk : Runs K l Z n0 m1 33 ls (.int 57344 :: st) H v H') : Runs K l Z n0 m1 31 ls st H v H' := r_ldc i1_31 (hw _ (List.mem_of_getElem? (i := 15) rfl)) kk
theorem s1_37 {l : Launch} {Z : State} {a0 : Array Value} {n0 : Nat} {ls : List Slot} {st : List Value} {H H' : List Ob} {v : Option Value} (hw : HW Z a0) (kk : Runs K l Z n0 m1 39 ls (.int 65533 :: st) H v H') : Runs K l Z n0 m1 37 ls st H v H' := r_ldc i1_37 (hw _ (List.mem_of_getElem? (i := 23) rfl)) kk
theorem s1_43 {l : Launch} {Z : State} {a0 : Array Value} {n0 : Nat} {ls : List Slot} {st : List Value} {H H' : List Ob} {v : Option Value} (hw : HW Z a0) (kk : Runs K l Z n0 m1 45 ls (.int 65536 :: st) H v H') : Runs K l Z n0 m1 43 ls st H v H' := r_ldc i1_43 (hw _ (List.mem_of_getElem? (i := 16) rfl)) kk
theorem s1_49 {l : Launch} {Z : State} {a0 : Array Value} {n0 : Nat} {ls : List Slot} {st : List Value} {H H' : List Ob} {v : Option Value} (hw : HW Z a0) (kk : Runs K l Z n0 m1 51 ls (.int 1114111 :: st) H v H') : Runs K l Z n0 m1 49 ls st H v H' := r_ldc i1_49 (hw _ (List.mem_of_getElem? (i := 24) rfl)) kk
theorem s2_5 {l : Launch} {Z : State} {a0 : Array Value} {n0 : Nat} {ls : List Slot} {st : List Value} {H H' : List Ob} {v : Option Value} (hw : HW Z a0) (kk : Runs K l Z n0 m2 7 ls (.int 1114111 :: st) H v H') : Runs K l Z n0 m2 5 ls st H v H' := r_ldc i2_5 (hw _ (List.mem_of_getElem? (i := 5) rfl)) kk
theorem s2_43 {l : Launch} {Z : State} {a0 : Array Value} {n0 : Nat} {ls : List Slot} {st : List Value} {H H' : List Ob} {v : Option Value} (hw : HW Z a0) (kk : Runs K l Z n0 m2 45 ls (.int 55296 :: st) H v H') : Runs K l Z n0 m2 43 ls st H v H' := r_ldc i2_43 (hw _ (List.mem_of_getElem? (i := 6) rfl)) kk
theorem s2_49 {l : Launch} {Z : State} {a0 : Array Value} {n0 : Nat} {ls : List Slot} {st : List Value} {H H' : List Ob} {v : Option Value} (hw : HW Z a0) (kk : Runs K l Z n0 m2 51 ls (.int 57343 :: st) H v H') : Runs K l Z n0 m2 49 ls st H v H' := r_ldc i2_49 (hw _ (List.mem_of_getElem? (i := 7) rfl)) kk
theorem s2_57 {l : Launch} {Z : State} {a0 : Array Value} {n0 : Nat} {ls : List Slot} {st : List Value} {H H' : List Ob} {v : Option Value} (hw : HW Z a0) (kk : Runs K l Z n0 m2 59 ls (.int 65534 :: st) H v H') : Runs K l Z n0 m2 57 ls st H v H' := r_ldc i2_57 (hw _ (List.mem_of_getElem? (i := 22) rfl)) kk
theorem s2_63 {l : Launch} {Z : State} {a0 : Array Value} {n0 : Nat} {ls : List Slot} {st : List Value} {H H' : List Ob} {v : Option Value} (hw : HW Z a0) (kk : Runs K l Z n0 m2 65 ls (.int 65535 :: st) H v H') : Runs K l Z n0 m2 63 ls st H v H' := r_ldc i2_63 (hw _ (List.mem_of_getElem? (i := 10) rfl)) kk
def own_b (P : Prop) [Decidable P] : Int32 := if P then 1 else 0
theorem own_b_congr {P Q : Prop} [Decidable P] [Decidable Q] (h : P ↔ Q) : own_b P = own_b Q := by
  unfold own_b
  by_cases p : P
  · rw [if_pos p, if_pos (h.mp p)]
  · rw [if_neg p, if_neg (fun q => p (h.mpr q))]
theorem own_b0 {P : Prop} [Decidable P] : own_b P = 0 ↔ ¬ P := by
  unfold own_b
  by_cases p : P
  · rw [if_pos p]; exact ⟨fun h => absurd h (by decide), fun h => absurd p h⟩
  · rw [if_neg p]; exact ⟨fun _ => p, fun _ => rfl⟩
theorem own_b1 {P : Prop} [Decidable P] : own_b P = 1 ↔ P := by
  unfold own_b
  by_cases p : P
  · rw [if_pos p]; exact ⟨fun _ => p, fun _ => rfl⟩
  · rw [if_neg p]; exact ⟨fun h => absurd h (by decide), fun h => absurd h p⟩
theorem own_pos {P : Prop} [Decidable P] (h : P) : (1 : Int32) = own_b P := (own_b1.mpr h).symm
theorem own_neg {P : Prop} [Decidable P] (h : ¬ P) : (0 : Int32) = own_b P := (own_b0.mpr h).symm
theorem own_r0 (c lo hi : Int32) (a b : Int) (ha : lo.toInt = a) (hb : hi.toInt = b) : (if c < lo then (0 : Int32) else (if hi < c then 0 else 1)) = own_b (a ≤ c.toInt ∧ c.toInt ≤ b) := by
  subst ha hb
  simp only [Int32.lt_iff_toInt_lt]
  by_cases h1 : c.toInt < lo.toInt
  · rw [if_pos h1]; exact own_neg (by omega)
  · by_cases h2 : hi.toInt < c.toInt
    · rw [if_neg h1, if_pos h2]; exact own_neg (by omega)
    · rw [if_neg h1, if_neg h2]; exact own_pos (by omega)
theorem own_r1 (c lo hi : Int32) (a b : Int) {P : Prop} [Decidable P] (ha : lo.toInt = a) (hb : hi.toInt = b) : (if c < lo then own_b P else (if hi < c then own_b P else 1)) = own_b ((a ≤ c.toInt ∧ c.toInt ≤ b) ∨ P) := by
  subst ha hb
  simp only [Int32.lt_iff_toInt_lt]
  by_cases h1 : c.toInt < lo.toInt
  · rw [if_pos h1]; exact own_b_congr ⟨Or.inr, fun h => h.elim (fun q => by omega) id⟩
  · by_cases h2 : hi.toInt < c.toInt
    · rw [if_neg h1, if_pos h2]; exact own_b_congr ⟨Or.inr, fun h => h.elim (fun q => by omega) id⟩
    · rw [if_neg h1, if_neg h2]; exact own_pos (Or.inl (by omega))
theorem own_e1 (c k : Int32) (a : Int) {P : Prop} [Decidable P] (ha : k.toInt = a) : (if c = k then (1 : Int32) else own_b P) = own_b (c.toInt = a ∨ P) := by
  subst ha
  by_cases h1 : c = k
  · rw [if_pos h1]; exact own_pos (P := c.toInt = k.toInt ∨ P) (Or.inl (congrArg Int32.toInt h1))
  · rw [if_neg h1]; exact own_b_congr ⟨Or.inr, fun h => h.elim (fun q => absurd (Int32.toInt_inj.mp q) h1) id⟩
theorem own_o1 {P Q : Prop} [Decidable P] [Decidable Q] : (if own_b P = 0 then own_b Q else (1 : Int32)) = own_b (P ∨ Q) := by
  by_cases p : P
  · rw [if_neg (fun h => own_b0.mp h p)]; exact own_pos (Or.inl p)
  · rw [if_pos (own_b0.mpr p)]; exact own_b_congr ⟨Or.inr, fun h => h.elim (fun q => absurd q p) id⟩
theorem own_o0 {P : Prop} [Decidable P] : (if own_b P = 0 then (0 : Int32) else 1) = own_b P := by
  by_cases p : P
  · rw [if_neg (fun h => own_b0.mp h p)]; exact own_pos p
  · rw [if_pos (own_b0.mpr p)]; exact own_neg p

def f1_42 (x0 : Int32) : Int32 := (if x0 < 65536 then 0 else (if 1114111 < x0 then 0 else 1))
set_option maxRecDepth 4000 in
theorem g1_42 {l : Launch} {Z : State} {a0 : Array Value} {n0 : Nat} (hw : HW Z a0) {H : List Ob} (x0 : Int32) : Runs K l Z n0 m1 42 [.val (.int x0)] [] H (some (.int (f1_42 x0))) H := by
  unfold f1_42
  refine r_iloadN i1_42 rfl ?_
  refine s1_43 hw ?_
  by_cases h6 : x0 < 65536
  · rw [if_pos h6]
    refine r_icT i1_45 (XT.ii_lt_t h6) ?_
    refine r_iconst i1_58 ?_
    exact r_zreturn i1_59 rfl (by first | decide | simp)
  · rw [if_neg h6]
    refine r_icF i1_45 (XT.ii_lt_f h6) ?_
    refine r_iloadN i1_48 rfl ?_
    refine s1_49 hw ?_
    by_cases h7 : 1114111 < x0
    · rw [if_pos h7]
      refine r_icT i1_51 (XT.ii_gt_t h7) ?_
      refine r_iconst i1_58 ?_
      exact r_zreturn i1_59 rfl (by first | decide | simp)
    · rw [if_neg h7]
      refine r_icF i1_51 (XT.ii_gt_f h7) ?_
      refine r_iconst i1_54 ?_
      refine r_goto i1_55 ?_
      exact r_zreturn i1_59 rfl (by first | decide | simp)
def f1_30 (x0 : Int32) : Int32 := (if x0 < 57344 then f1_42 x0 else (if 65533 < x0 then f1_42 x0 else 1))
set_option maxRecDepth 4000 in
theorem g1_30 {l : Launch} {Z : State} {a0 : Array Value} {n0 : Nat} (hw : HW Z a0) {H : List Ob} (x0 : Int32) : Runs K l Z n0 m1 30 [.val (.int x0)] [] H (some (.int (f1_30 x0))) H := by
  unfold f1_30
  refine r_iloadN i1_30 rfl ?_
  refine s1_31 hw ?_
  by_cases h5 : x0 < 57344
  · rw [if_pos h5]
    refine r_icT i1_33 (XT.ii_lt_t h5) ?_
    exact g1_42 hw x0
  · rw [if_neg h5]
    refine r_icF i1_33 (XT.ii_lt_f h5) ?_
    refine r_iloadN i1_36 rfl ?_
    refine s1_37 hw ?_
    by_cases h8 : 65533 < x0
    · rw [if_pos h8]
      refine r_icF i1_39 (XT.ii_le_f h8) ?_
      exact g1_42 hw x0
    · rw [if_neg h8]
      refine r_icT i1_39 (XT.ii_le_t h8) ?_
      refine r_iconst i1_54 ?_
      refine r_goto i1_55 ?_
      exact r_zreturn i1_59 rfl (by first | decide | simp)
def f1_0 (x0 : Int32) : Int32 := (if x0 = 9 then 1 else (if x0 = 10 then 1 else (if x0 = 13 then 1 else (if x0 < 32 then f1_30 x0 else (if 55295 < x0 then f1_30 x0 else 1)))))
set_option maxRecDepth 4000 in
theorem g1_0 {l : Launch} {Z : State} {a0 : Array Value} {n0 : Nat} (hw : HW Z a0) {H : List Ob} (x0 : Int32) : Runs K l Z n0 m1 0 [.val (.int x0)] [] H (some (.int (f1_0 x0))) H := by
  unfold f1_0
  refine r_iloadN i1_0 rfl ?_
  refine r_bipush i1_1 ?_
  by_cases h1 : x0 = 9
  · rw [if_pos h1]
    refine r_icT i1_3 (XT.ii_eq_t h1) ?_
    refine r_iconst i1_54 ?_
    refine r_goto i1_55 ?_
    exact r_zreturn i1_59 rfl (by first | decide | simp)
  · rw [if_neg h1]
    refine r_icF i1_3 (XT.ii_eq_f h1) ?_
    refine r_iloadN i1_6 rfl ?_
    refine r_bipush i1_7 ?_
    by_cases h2 : x0 = 10
    · rw [if_pos h2]
      refine r_icT i1_9 (XT.ii_eq_t h2) ?_
      refine r_iconst i1_54 ?_
      refine r_goto i1_55 ?_
      exact r_zreturn i1_59 rfl (by first | decide | simp)
    · rw [if_neg h2]
      refine r_icF i1_9 (XT.ii_eq_f h2) ?_
      refine r_iloadN i1_12 rfl ?_
      refine r_bipush i1_13 ?_
      by_cases h3 : x0 = 13
      · rw [if_pos h3]
        refine r_icT i1_15 (XT.ii_eq_t h3) ?_
        refine r_iconst i1_54 ?_
        refine r_goto i1_55 ?_
        exact r_zreturn i1_59 rfl (by first | decide | simp)
      · rw [if_neg h3]
        refine r_icF i1_15 (XT.ii_eq_f h3) ?_
        refine r_iloadN i1_18 rfl ?_
        refine r_bipush i1_19 ?_
        by_cases h4 : x0 < 32
        · rw [if_pos h4]
          refine r_icT i1_21 (XT.ii_lt_t h4) ?_
          exact g1_30 hw x0
        · rw [if_neg h4]
          refine r_icF i1_21 (XT.ii_lt_f h4) ?_
          refine r_iloadN i1_24 rfl ?_
          refine s1_25 hw ?_
          by_cases h9 : 55295 < x0
          · rw [if_pos h9]
            refine r_icF i1_27 (XT.ii_le_f h9) ?_
            exact g1_30 hw x0
          · rw [if_neg h9]
            refine r_icT i1_27 (XT.ii_le_t h9) ?_
            refine r_iconst i1_54 ?_
            refine r_goto i1_55 ?_
            exact r_zreturn i1_59 rfl (by first | decide | simp)
theorem c1 {l : Launch} {Z : State} {a0 : Array Value} {n0 : Nat} (hw : HW Z a0) {H : List Ob} (x0 : Int32) : Meets K l Z n0 m1 [.int x0] H (some (.int (f1_0 x0))) H := meets pf1 rfl (fun h => nomatch h) (g1_0 hw x0)
theorem b1_42 (x0 : Int32) : f1_42 x0 = own_b (65536 ≤ x0.toInt ∧ x0.toInt ≤ 1114111) := (own_r0 x0 65536 1114111 65536 1114111 (by decide) (by decide))
theorem b1_30 (x0 : Int32) : f1_30 x0 = own_b ((57344 ≤ x0.toInt ∧ x0.toInt ≤ 65533) ∨ (65536 ≤ x0.toInt ∧ x0.toInt ≤ 1114111)) := ((congrArg (fun t => (if x0 < 57344 then t else (if 65533 < x0 then t else (1 : Int32)))) (b1_42 x0)).trans (own_r1 x0 57344 65533 57344 65533 (by decide) (by decide)))
theorem b1_0 (x0 : Int32) : f1_0 x0 = own_b (x0.toInt = 9 ∨ (x0.toInt = 10 ∨ (x0.toInt = 13 ∨ ((32 ≤ x0.toInt ∧ x0.toInt ≤ 55295) ∨ ((57344 ≤ x0.toInt ∧ x0.toInt ≤ 65533) ∨ (65536 ≤ x0.toInt ∧ x0.toInt ≤ 1114111)))))) := ((congrArg (fun t => (if x0 = 9 then (1 : Int32) else t)) ((congrArg (fun t => (if x0 = 10 then (1 : Int32) else t)) ((congrArg (fun t => (if x0 = 13 then (1 : Int32) else t)) ((congrArg (fun t => (if x0 < 32 then t else (if 55295 < x0 then t else (1 : Int32)))) (b1_30 x0)).trans (own_r1 x0 32 55295 32 55295 (by decide) (by decide)))).trans (own_e1 x0 13 13 (by decide)))).trans (own_e1 x0 10 10 (by decide)))).trans (own_e1 x0 9 9 (by decide)))
def f2_56 (x0 : Int32) : Int32 := (if x0 = 65534 then 0 else (if x0 = 65535 then 0 else 1))
set_option maxRecDepth 4000 in
theorem g2_56 {l : Launch} {Z : State} {a0 : Array Value} {n0 : Nat} (hw : HW Z a0) {H : List Ob} (x0 : Int32) : Runs K l Z n0 m2 56 [.val (.int x0)] [] H (some (.int (f2_56 x0))) H := by
  unfold f2_56
  refine r_iloadN i2_56 rfl ?_
  refine s2_57 hw ?_
  by_cases h8 : x0 = 65534
  · rw [if_pos h8]
    refine r_icT i2_59 (XT.ii_eq_t h8) ?_
    refine r_iconst i2_68 ?_
    exact r_zreturn i2_69 rfl (by first | decide | simp)
  · rw [if_neg h8]
    refine r_icF i2_59 (XT.ii_eq_f h8) ?_
    refine r_iloadN i2_62 rfl ?_
    refine s2_63 hw ?_
    by_cases h9 : x0 = 65535
    · rw [if_pos h9]
      refine r_icF i2_65 (XT.ii_ne_f h9) ?_
      refine r_iconst i2_68 ?_
      exact r_zreturn i2_69 rfl (by first | decide | simp)
    · rw [if_neg h9]
      refine r_icT i2_65 (XT.ii_ne_t h9) ?_
      refine r_iconst i2_70 ?_
      exact r_zreturn i2_71 rfl (by first | decide | simp)
def f2_0 (x0 : Int32) : Int32 := (if x0 < 0 then 0 else (if 1114111 < x0 then 0 else (if x0 < 32 then (if x0 = 9 then 1 else (if x0 = 10 then 1 else (if x0 = 13 then 1 else 0))) else (if x0 < 55296 then f2_56 x0 else (if 57343 < x0 then f2_56 x0 else 0)))))
set_option maxRecDepth 4000 in
theorem g2_0 {l : Launch} {Z : State} {a0 : Array Value} {n0 : Nat} (hw : HW Z a0) {H : List Ob} (x0 : Int32) : Runs K l Z n0 m2 0 [.val (.int x0)] [] H (some (.int (f2_0 x0))) H := by
  unfold f2_0
  refine r_iloadN i2_0 rfl ?_
  by_cases h1 : x0 < 0
  · rw [if_pos h1]
    refine r_ifT i2_1 (XT.i0_lt_t h1) ?_
    refine r_iconst i2_10 ?_
    exact r_zreturn i2_11 rfl (by first | decide | simp)
  · rw [if_neg h1]
    refine r_ifF i2_1 (XT.i0_lt_f h1) ?_
    refine r_iloadN i2_4 rfl ?_
    refine s2_5 hw ?_
    by_cases h2 : 1114111 < x0
    · rw [if_pos h2]
      refine r_icF i2_7 (XT.ii_le_f h2) ?_
      refine r_iconst i2_10 ?_
      exact r_zreturn i2_11 rfl (by first | decide | simp)
    · rw [if_neg h2]
      refine r_icT i2_7 (XT.ii_le_t h2) ?_
      refine r_iloadN i2_12 rfl ?_
      refine r_bipush i2_13 ?_
      by_cases h3 : x0 < 32
      · rw [if_pos h3]
        refine r_icF i2_15 (XT.ii_ge_f h3) ?_
        refine r_iloadN i2_18 rfl ?_
        refine r_bipush i2_19 ?_
        by_cases h4 : x0 = 9
        · rw [if_pos h4]
          refine r_icT i2_21 (XT.ii_eq_t h4) ?_
          refine r_iconst i2_36 ?_
          refine r_goto i2_37 ?_
          exact r_zreturn i2_41 rfl (by first | decide | simp)
        · rw [if_neg h4]
          refine r_icF i2_21 (XT.ii_eq_f h4) ?_
          refine r_iloadN i2_24 rfl ?_
          refine r_bipush i2_25 ?_
          by_cases h5 : x0 = 10
          · rw [if_pos h5]
            refine r_icT i2_27 (XT.ii_eq_t h5) ?_
            refine r_iconst i2_36 ?_
            refine r_goto i2_37 ?_
            exact r_zreturn i2_41 rfl (by first | decide | simp)
          · rw [if_neg h5]
            refine r_icF i2_27 (XT.ii_eq_f h5) ?_
            refine r_iloadN i2_30 rfl ?_
            refine r_bipush i2_31 ?_
            by_cases h6 : x0 = 13
            · rw [if_pos h6]
              refine r_icF i2_33 (XT.ii_ne_f h6) ?_
              refine r_iconst i2_36 ?_
              refine r_goto i2_37 ?_
              exact r_zreturn i2_41 rfl (by first | decide | simp)
            · rw [if_neg h6]
              refine r_icT i2_33 (XT.ii_ne_t h6) ?_
              refine r_iconst i2_40 ?_
              exact r_zreturn i2_41 rfl (by first | decide | simp)
      · rw [if_neg h3]
        refine r_icT i2_15 (XT.ii_ge_t h3) ?_
        refine r_iloadN i2_42 rfl ?_
        refine s2_43 hw ?_
        by_cases h7 : x0 < 55296
        · rw [if_pos h7]
          refine r_icT i2_45 (XT.ii_lt_t h7) ?_
          exact g2_56 hw x0
        · rw [if_neg h7]
          refine r_icF i2_45 (XT.ii_lt_f h7) ?_
          refine r_iloadN i2_48 rfl ?_
          refine s2_49 hw ?_
          by_cases h10 : 57343 < x0
          · rw [if_pos h10]
            refine r_icT i2_51 (XT.ii_gt_t h10) ?_
            exact g2_56 hw x0
          · rw [if_neg h10]
            refine r_icF i2_51 (XT.ii_gt_f h10) ?_
            refine r_iconst i2_54 ?_
            exact r_zreturn i2_55 rfl (by first | decide | simp)
theorem c2 {l : Launch} {Z : State} {a0 : Array Value} {n0 : Nat} (hw : HW Z a0) {H : List Ob} (x0 : Int32) : Meets K l Z n0 m2 [.int x0] H (some (.int (f2_0 x0))) H := meets pf2 rfl (fun h => nomatch h) (g2_0 hw x0)
theorem own_same (x0 : Int32) : f1_0 x0 = f2_0 x0 := by
  rw [b1_0]
  have e0 : (0 : Int32).toInt = 0 := by decide
  have e1 : (1114111 : Int32).toInt = 1114111 := by decide
  have e2 : (32 : Int32).toInt = 32 := by decide
  have e3 : (9 : Int32).toInt = 9 := by decide
  have e4 : (10 : Int32).toInt = 10 := by decide
  have e5 : (13 : Int32).toInt = 13 := by decide
  have e6 : (55296 : Int32).toInt = 55296 := by decide
  have e7 : (57343 : Int32).toInt = 57343 := by decide
  have e8 : (65534 : Int32).toInt = 65534 := by decide
  have e9 : (65535 : Int32).toInt = 65535 := by decide
  unfold f2_0 f2_56
  symm
  repeat' split
  all_goals first
    | (refine own_neg ?_; simp only [Int32.lt_iff_toInt_lt, ← Int32.toInt_inj, e0, e1, e2, e3, e4, e5, e6, e7, e8, e9] at *; omega)
    | (refine own_pos ?_; simp only [Int32.lt_iff_toInt_lt, ← Int32.toInt_inj, e0, e1, e2, e3, e4, e5, e6, e7, e8, e9] at *; omega)
theorem own_pick {vs : List Value} (L : List Int32) (e : vs = L.map Value.int) {i : Nat} (h : i < L.length) : ∃ w : Int32, vs[i]? = some (.int w) := by
  subst e
  exact ⟨L[i], by simp [h]⟩
theorem own_ix (p : Int32) : Ix (p &&& 15) (p &&& 15).toNatClampNeg ∧ (p &&& 15).toNatClampNeg < 16 := by
  have h := c_mask p 15 4 (by decide) (by decide)
  have e0 : (0 : Int32).toInt = 0 := by decide
  refine ⟨⟨?_, rfl⟩, ?_⟩
  · rw [Int32.lt_iff_toInt_lt]; omega
  · simp only [Int32.toNatClampNeg]; omega
set_option maxHeartbeats 4000000 in
theorem law_runs {l : Launch} {Z : State} {a0 : Array Value} {n0 : Nat} (hw : HW Z a0) (p0 : Int32) (p1 : Int32) (p2 : Int32) : RunsB K l Z n0 m0 0 [.val (.int p0), .val (.int p1), .val (.int p2), .unset, .unset, .unset, .unset] [] [] (some (.int 1)) 16 128 := by
  obtain ⟨jx, hx⟩ := own_ix p1
  obtain ⟨w, hv⟩ := own_pick [0, 9, 10, 13, 32, 55295, 57344, 65533, 65536, 1114111, 55296, 57343, 31, (-2147483648), 2147483647, 65535] rfl (i := (p1 &&& 15).toNatClampNeg) hx
  refine lift (fun _ kk => r_bipush i0_0 kk) ?_
  refine lift (fun _ kk => s0_2 hw (a := 0) (o := [.int 0, .int 0, .int 0, .int 0, .int 0, .int 0, .int 0, .int 0, .int 0, .int 0, .int 0, .int 0, .int 0, .int 0, .int 0, .int 0]) (H1 := [_]) (by decide) (by decide) rfl rfl rfl kk) ?_
  refine lift (fun _ kk => r_dup i0_4 rfl kk) ?_
  refine lift (fun _ kk => r_iconst i0_5 kk) ?_
  refine lift (fun _ kk => r_iconst i0_6 kk) ?_
  refine lift (fun _ kk => r_iastore (i := 0) (vs' := [_, _, _, _, _, _, _, _, _, _, _, _, _, _, _, _]) (H1 := [_]) i0_7 rfl ⟨by decide, by decide⟩ (ltB rfl) rfl rfl kk) ?_
  refine lift (fun _ kk => r_dup i0_8 rfl kk) ?_
  refine lift (fun _ kk => r_iconst i0_9 kk) ?_
  refine lift (fun _ kk => r_bipush i0_10 kk) ?_
  refine lift (fun _ kk => r_iastore (i := 1) (vs' := [_, _, _, _, _, _, _, _, _, _, _, _, _, _, _, _]) (H1 := [_]) i0_12 rfl ⟨by decide, by decide⟩ (ltB rfl) rfl rfl kk) ?_
  refine lift (fun _ kk => r_dup i0_13 rfl kk) ?_
  refine lift (fun _ kk => r_iconst i0_14 kk) ?_
  refine lift (fun _ kk => r_bipush i0_15 kk) ?_
  refine lift (fun _ kk => r_iastore (i := 2) (vs' := [_, _, _, _, _, _, _, _, _, _, _, _, _, _, _, _]) (H1 := [_]) i0_17 rfl ⟨by decide, by decide⟩ (ltB rfl) rfl rfl kk) ?_
  refine lift (fun _ kk => r_dup i0_18 rfl kk) ?_
  refine lift (fun _ kk => r_iconst i0_19 kk) ?_
  refine lift (fun _ kk => r_bipush i0_20 kk) ?_
  refine lift (fun _ kk => r_iastore (i := 3) (vs' := [_, _, _, _, _, _, _, _, _, _, _, _, _, _, _, _]) (H1 := [_]) i0_22 rfl ⟨by decide, by decide⟩ (ltB rfl) rfl rfl kk) ?_
  refine lift (fun _ kk => r_dup i0_23 rfl kk) ?_
  refine lift (fun _ kk => r_iconst i0_24 kk) ?_
  refine lift (fun _ kk => r_bipush i0_25 kk) ?_
  refine lift (fun _ kk => r_iastore (i := 4) (vs' := [_, _, _, _, _, _, _, _, _, _, _, _, _, _, _, _]) (H1 := [_]) i0_27 rfl ⟨by decide, by decide⟩ (ltB rfl) rfl rfl kk) ?_
  refine lift (fun _ kk => r_dup i0_28 rfl kk) ?_
  refine lift (fun _ kk => r_iconst i0_29 kk) ?_
  refine lift (fun _ kk => s0_30 hw kk) ?_
  refine lift (fun _ kk => r_iastore (i := 5) (vs' := [_, _, _, _, _, _, _, _, _, _, _, _, _, _, _, _]) (H1 := [_]) i0_32 rfl ⟨by decide, by decide⟩ (ltB rfl) rfl rfl kk) ?_
  refine lift (fun _ kk => r_dup i0_33 rfl kk) ?_
  refine lift (fun _ kk => r_bipush i0_34 kk) ?_
  refine lift (fun _ kk => s0_36 hw kk) ?_
  refine lift (fun _ kk => r_iastore (i := 6) (vs' := [_, _, _, _, _, _, _, _, _, _, _, _, _, _, _, _]) (H1 := [_]) i0_38 rfl ⟨by decide, by decide⟩ (ltB rfl) rfl rfl kk) ?_
  refine lift (fun _ kk => r_dup i0_39 rfl kk) ?_
  refine lift (fun _ kk => r_bipush i0_40 kk) ?_
  refine lift (fun _ kk => s0_42 hw kk) ?_
  refine lift (fun _ kk => r_iastore (i := 7) (vs' := [_, _, _, _, _, _, _, _, _, _, _, _, _, _, _, _]) (H1 := [_]) i0_44 rfl ⟨by decide, by decide⟩ (ltB rfl) rfl rfl kk) ?_
  refine lift (fun _ kk => r_dup i0_45 rfl kk) ?_
  refine lift (fun _ kk => r_bipush i0_46 kk) ?_
  refine lift (fun _ kk => s0_48 hw kk) ?_
  refine lift (fun _ kk => r_iastore (i := 8) (vs' := [_, _, _, _, _, _, _, _, _, _, _, _, _, _, _, _]) (H1 := [_]) i0_50 rfl ⟨by decide, by decide⟩ (ltB rfl) rfl rfl kk) ?_
  refine lift (fun _ kk => r_dup i0_51 rfl kk) ?_
  refine lift (fun _ kk => r_bipush i0_52 kk) ?_
  refine lift (fun _ kk => s0_54 hw kk) ?_
  refine lift (fun _ kk => r_iastore (i := 9) (vs' := [_, _, _, _, _, _, _, _, _, _, _, _, _, _, _, _]) (H1 := [_]) i0_56 rfl ⟨by decide, by decide⟩ (ltB rfl) rfl rfl kk) ?_
  refine lift (fun _ kk => r_dup i0_57 rfl kk) ?_
  refine lift (fun _ kk => r_bipush i0_58 kk) ?_
  refine lift (fun _ kk => s0_60 hw kk) ?_
  refine lift (fun _ kk => r_iastore (i := 10) (vs' := [_, _, _, _, _, _, _, _, _, _, _, _, _, _, _, _]) (H1 := [_]) i0_62 rfl ⟨by decide, by decide⟩ (ltB rfl) rfl rfl kk) ?_
  refine lift (fun _ kk => r_dup i0_63 rfl kk) ?_
  refine lift (fun _ kk => r_bipush i0_64 kk) ?_
  refine lift (fun _ kk => s0_66 hw kk) ?_
  refine lift (fun _ kk => r_iastore (i := 11) (vs' := [_, _, _, _, _, _, _, _, _, _, _, _, _, _, _, _]) (H1 := [_]) i0_68 rfl ⟨by decide, by decide⟩ (ltB rfl) rfl rfl kk) ?_
  refine lift (fun _ kk => r_dup i0_69 rfl kk) ?_
  refine lift (fun _ kk => r_bipush i0_70 kk) ?_
  refine lift (fun _ kk => r_bipush i0_72 kk) ?_
  refine lift (fun _ kk => r_iastore (i := 12) (vs' := [_, _, _, _, _, _, _, _, _, _, _, _, _, _, _, _]) (H1 := [_]) i0_74 rfl ⟨by decide, by decide⟩ (ltB rfl) rfl rfl kk) ?_
  refine lift (fun _ kk => r_dup i0_75 rfl kk) ?_
  refine lift (fun _ kk => r_bipush i0_76 kk) ?_
  refine lift (fun _ kk => s0_78 hw kk) ?_
  refine lift (fun _ kk => r_iastore (i := 13) (vs' := [_, _, _, _, _, _, _, _, _, _, _, _, _, _, _, _]) (H1 := [_]) i0_80 rfl ⟨by decide, by decide⟩ (ltB rfl) rfl rfl kk) ?_
  refine lift (fun _ kk => r_dup i0_81 rfl kk) ?_
  refine lift (fun _ kk => r_bipush i0_82 kk) ?_
  refine lift (fun _ kk => s0_84 hw kk) ?_
  refine lift (fun _ kk => r_iastore (i := 14) (vs' := [_, _, _, _, _, _, _, _, _, _, _, _, _, _, _, _]) (H1 := [_]) i0_86 rfl ⟨by decide, by decide⟩ (ltB rfl) rfl rfl kk) ?_
  refine lift (fun _ kk => r_dup i0_87 rfl kk) ?_
  refine lift (fun _ kk => r_bipush i0_88 kk) ?_
  refine lift (fun _ kk => s0_90 hw kk) ?_
  refine lift (fun _ kk => r_iastore (i := 15) (vs' := [_, _, _, _, _, _, _, _, _, _, _, _, _, _, _, _]) (H1 := [_]) i0_92 rfl ⟨by decide, by decide⟩ (ltB rfl) rfl rfl kk) ?_
  refine lift (fun _ kk => r_astoreN (ls' := [_, _, _, _, _, _, _]) i0_93 rfl rfl rfl kk) ?_
  refine lift (fun _ kk => r_aloadN i0_94 rfl rfl kk) ?_
  refine lift (fun _ kk => r_iloadN i0_95 rfl kk) ?_
  refine lift (fun _ kk => r_bipush i0_96 kk) ?_
  refine lift (fun _ kk => r_iand i0_98 kk) ?_
  refine lift (fun _ kk => r_iaload i0_99 rfl jx hv kk) ?_
  refine lift (fun _ kk => r_iloadN i0_100 rfl kk) ?_
  refine lift (fun _ kk => r_iconst i0_101 kk) ?_
  refine lift (fun _ kk => r_iand i0_102 kk) ?_
  refine lift (fun _ kk => r_iconst i0_103 kk) ?_
  refine lift (fun _ kk => r_isub i0_104 kk) ?_
  refine lift (fun _ kk => r_iadd i0_105 kk) ?_
  refine lift (fun _ kk => r_istore (ls' := [_, _, _, _, _, _, _]) i0_106 rfl rfl kk) ?_
  refine lift (fun _ kk => r_iloadN i0_108 rfl kk) ?_
  refine lift (fun _ kk => s0_109 hw (H1 := [_]) (c1 hw _) rfl (leB rfl) kk) ?_
  refine lift (fun _ kk => r_iloadN i0_112 rfl kk) ?_
  refine lift (fun _ kk => s0_113 hw (H1 := [_]) (c2 hw _) rfl (leB rfl) kk) ?_
  refine lift (fun _ kk => r_icF i0_116 (XT.ii_ne_f (own_same _)) kk) ?_
  refine lift (fun _ kk => r_iconst i0_119 kk) ?_
  refine lift (fun _ kk => r_goto i0_120 kk) ?_
  refine lift (fun _ kk => r_istore (ls' := [_, _, _, _, _, _, _]) i0_124 rfl rfl kk) ?_
  refine lift (fun _ kk => r_iload i0_126 rfl kk) ?_
  refine lift (fun _ kk => s0_128 hw (H1 := [_]) (c1 hw _) rfl (leB rfl) kk) ?_
  refine lift (fun _ kk => r_iload i0_131 rfl kk) ?_
  refine lift (fun _ kk => s0_133 hw (H1 := [_]) (c2 hw _) rfl (leB rfl) kk) ?_
  refine lift (fun _ kk => r_icF i0_136 (XT.ii_ne_f (own_same _)) kk) ?_
  refine lift (fun _ kk => r_iconst i0_139 kk) ?_
  refine lift (fun _ kk => r_goto i0_140 kk) ?_
  refine lift (fun _ kk => r_istore (ls' := [_, _, _, _, _, _, _]) i0_144 rfl rfl kk) ?_
  refine lift (fun _ kk => r_iload i0_146 rfl kk) ?_
  refine lift (fun _ kk => r_ifF i0_148 (XT.i0_eq_f (by decide)) kk) ?_
  refine lift (fun _ kk => r_iload i0_151 rfl kk) ?_
  refine lift (fun _ kk => r_ifF i0_153 (XT.i0_eq_f (by decide)) kk) ?_
  refine lift (fun _ kk => r_iconst i0_156 kk) ?_
  refine lift (fun _ kk => r_goto i0_157 kk) ?_
  exact ⟨_, r_zreturn i0_161 rfl (by first | decide | simp), leB rfl, leB rfl⟩
set_option maxRecDepth 65536 in
set_option maxHeartbeats 40000000 in
theorem comes_1 {Post : Tables → Env → Array Value → State → Outcome → State → Prop} (hpost : ∀ tb e args s v u, (limb_1_1.after args s (.returned v) u = true ∧ limb_1_2.after args s (.returned v) u = true ∧ True) → FrameEnd s (.returned v) u (Jvm.fieldLocs frame_1_writes args s ++ Jvm.arrayLocs frame_1_arrays args s ++ Jvm.staticLocs frame_1_statics s) 16 128 → Post tb e args s (.returned v) u) :
    ArmFor flags0 classFile x code maxLocals ret World_1 tables_1 room_1 Calls_1 rest_1 Pre_1 Post := by
  intro l hfl _ _ p e ha hc hk s m args below hf hA hF happ hP
  obtain ⟨hcalls, hrest, hpre⟩ := hP
  obtain ⟨-, -, -, hnamed, -, -, -, hat⟩ := (Spec.applies_iff hf).mp happ
  obtain ⟨hg, hn⟩ := and_e (Cond.before_iff.mp (show (Jvm.Cond.and given_1 narrow_1).before args s = true from hpre))
  obtain ⟨hcount, hk0⟩ := and_e hg
  obtain ⟨w0, w1, w2, rfl⟩ : ∃ w0 w1 w2 : Value, args = #[w0, w1, w2] := by
    have hs : args.size = 3 := by simpa [Cond.value, given_1] using hcount
    obtain ⟨L⟩ := args
    match L, hs with
    | [w0, w1, w2], _ => exact ⟨w0, w1, w2, rfl⟩
  have hw : HW s _ := fun d (hd : d ∈ tables_1) => atoms_spec (ws := Jvm.Cond.code x code maxLocals ret :: tables_1) hat d (List.mem_cons_of_mem _ hd)
  replace hk0 := and_e hk0
  obtain ⟨p0, e0⟩ := is_v hk0.1
  obtain rfl : w0 = (.int p0) := Option.some.inj e0
  have hk1 := hk0.2
  replace hk1 := and_e hk1
  obtain ⟨p1, e1⟩ := is_v hk1.1
  obtain rfl : w1 = (.int p1) := Option.some.inj e1
  have hk2 := hk1.2
  obtain ⟨p2, e2⟩ := is_v hk2
  obtain rfl : w2 = (.int p2) := Option.some.inj e2
  obtain ⟨H', k, hcl, hsl⟩ := law_runs (l := l) (n0 := s.heap.size) hw p0 p1 p2
  obtain ⟨n, o, h1, h2, h3, _, L, rfl, ⟨rfl, -, N⟩, hq⟩ := met_gen (mi := m0) (as := [.int p0, .int p1, .int p2]) tables_1 room_1 pf0 rfl (fun h => nomatch h) k (by decide) (by decide) (by show H'.length ≤ 16 + 0; omega) (by show szs K H' ≤ 128 + 0; omega) (h := s.heap) ⟨rfl, fun k o h => by simp at h⟩ p e ha hc hk s m _ below hf ((Spec.applies_iff_loose hf).mp happ).1 ⟨rfl, State.Warmed39.refl s, rfl⟩ trivial
  refine ⟨n, _, h1, h2, h3, hpost _ _ _ _ _ _ ⟨Cond.after_iff.mpr rfl, Cond.after_iff.mpr (eq_i res_at (Term.int_eval (1)) rfl), trivial⟩ ⟨hq.1, hq.2.1, (hq.2.2.sift fun y hy => Or.inr (N y hy)).mono (by show H'.length - 0 ≤ _; omega) (by show szs K H' - 0 ≤ _; omega)⟩⟩
theorem main_1_1 : Claimed_1_1 := comes_1 fun _ _ _ _ _ _ h hF => ⟨h.1, hF⟩
theorem main_1_2 : Claimed_1_2 := comes_1 fun _ _ _ _ _ _ h hF => ⟨h.2.1, hF⟩
end Jvm.Pilot.@@N@@
namespace Jvm.Pilot.@@N@@
open Jvm Jvm.ClassFile Sem Op Lib Jvm.Free Jvm.Stand Jvm.Pilot.@@N@@.Jvm.D
/-! MADE BY PROGRAM (witnessworld.py) out of the Statement's table words and the real class files: 9 classes; the members and pool entries that the words name. The judged class is class 1, her method 2. -/
namespace start1
open Jvm.ClassFile
def u (s : String) : CpInfo := .utf8 (stringToUtf16 s)
/-- a pool by its gaps: so many unusable entries, then the entry; so many at the end -/
def gap : Nat → List CpInfo → List CpInfo
  | 0, r => r
  | n + 1, r => .unusable :: gap n r
def poolList (es : List (Nat × CpInfo)) (last : Nat) : List CpInfo := es.foldr (fun e r => gap e.1 (e.2 :: r)) (gap last [])
def pool (es : List (Nat × CpInfo)) (last : Nat) : Array CpInfo := ⟨poolList es last⟩
def fileOf (pool : Array CpInfo) (this : Nat) (attrs : Array Attribute := #[]) (ms : Array MethodInfo := #[]) (fl : Nat := 33) (sup : Nat := 0) (ifs : Array Nat := #[]) (fds : Array FieldInfo := #[]) : ClassFile where
  minorVersion := 0
  majorVersion := 65
  constantPool := pool
  accessFlags := fl
  thisClass := this
  superClass := sup
  interfaces := ifs
  fields := fds
  methods := ms
  attributes := attrs
def plain (name : String) (sup : Option ClassId) : Class where
  name := name
  kind := .ordinary
  loader := none
  accessFlags := 33
  super := sup
  interfaces := #[]
  cf := none
  fields := #[]
  methods := #[]
  instanceTypes := #[]
  staticTypes := #[]
  resolved := #[]
  callSites := []
  init := .initialized
  statics := none
  mirror := none

def pool0 : Array CpInfo := pool [(5, u "<init>"), (0, u "()V"), (1, .class_ 10), (1, u "java/lang/Object")] 113

def k0m0 : Method := { name := "<init>", desc := "()V", sig := { parameters := [], returnType := none }, accessFlags := 1, code := none }
/-- java/lang/Object -/
def k0 : Class := { plain "java/lang/Object" none with
  accessFlags := 33
  interfaces := #[]
  cf := some (fileOf pool0 8 #[] #[{ accessFlags := 1, nameIndex := 5, descriptorIndex := 6, attributes := #[] }] 33 0 #[] #[])
  fields := #[]
  methods := #[k0m0]
  instanceTypes := #[]
  staticTypes := #[]
  resolved := Array.replicate 124 none
  statics := none }

def pool1 : Array CpInfo := pool [(2, .class_ 4), (1, u "java/lang/Object"), (0, u "<init>"), (0, u "()V"), (0, .integer 1114111), (0, .integer 55296), (0, .integer 57343), (0, .integer 65534), (0, .integer 65535), (0, .integer 55295), (0, .integer 57344), (0, .integer 65533), (0, .integer 65536), (2, .integer 2147483648), (0, .integer 2147483647), (0, .methodref 21 22), (0, .class_ 23), (0, .nameAndType 24 25), (0, u "dev/lyewire/xml/XmlNames"), (0, u "isXmlChar"), (0, u "(I)Z"), (0, .methodref 27 28), (0, .class_ 29), (0, .nameAndType 30 25), (0, u "dev/lyewire/xml/XmlNamesIsXmlCharPinLaw"), (0, u "expected"), (3, u "law"), (0, u "(III)Z")] 4

def k1m0 : Method := { name := "<init>", desc := "()V", sig := { parameters := [], returnType := none }, accessFlags := 2, code := none }
def k1c1 : Code := { maxStack := 2, maxLocals := 1, code := method_2_code, exceptionTable := #[], attributes := #[] }
def k1m1 : Method := { name := "expected", desc := "(I)Z", sig := { parameters := [.int], returnType := some .boolean }, accessFlags := 10, code := some k1c1 }
def k1c2 : Code := { maxStack := 4, maxLocals := 7, code := code, exceptionTable := #[], attributes := #[] }
def k1m2 : Method := { name := "law", desc := "(III)Z", sig := { parameters := [.int, .int, .int], returnType := some .boolean }, accessFlags := 9, code := some k1c2 }
/-- dev/lyewire/xml/XmlNamesIsXmlCharPinLaw -/
def k1 : Class := { plain "dev/lyewire/xml/XmlNamesIsXmlCharPinLaw" (some 0) with
  accessFlags := 49
  interfaces := #[]
  cf := some (fileOf pool1 27 #[] #[{ accessFlags := 2, nameIndex := 5, descriptorIndex := 6, attributes := #[] }, { accessFlags := 10, nameIndex := 30, descriptorIndex := 25, attributes := #[] }, { accessFlags := 9, nameIndex := 34, descriptorIndex := 35, attributes := #[] }] 49 2 #[] #[])
  fields := #[]
  methods := #[k1m0, k1m1, k1m2]
  instanceTypes := #[]
  staticTypes := #[]
  resolved := Array.replicate 40 none
  statics := none }

def pool2 : Array CpInfo := pool [(4, .class_ 6), (1, u "java/lang/Object"), (0, u "<init>"), (0, u "()V"), (1, .class_ 12), (1, u "dev/lyewire/xml/XmlNames"), (60, u "isXmlChar"), (0, u "(I)Z"), (79, .class_ 155), (0, u "dev/lyewire/xml/XmlNames$QualifiedName"), (21, .integer 55295), (3, .integer 65533), (0, .integer 65536), (1, .integer 57344), (0, .integer 1114111)] 67

def k2m0 : Method := { name := "<init>", desc := "()V", sig := { parameters := [], returnType := none }, accessFlags := 2, code := none }
def k2c1 : Code := { maxStack := 2, maxLocals := 1, code := prog_81_method_18_code, exceptionTable := #[], attributes := #[] }
def k2m1 : Method := { name := "isXmlChar", desc := "(I)Z", sig := { parameters := [.int], returnType := some .boolean }, accessFlags := 8, code := some k2c1 }
/-- dev/lyewire/xml/XmlNames -/
def k2 : Class := { plain "dev/lyewire/xml/XmlNames" (some 0) with
  accessFlags := 49
  interfaces := #[]
  cf := some (fileOf pool2 10 #[.nestMembers #[154]] #[{ accessFlags := 2, nameIndex := 7, descriptorIndex := 8, attributes := #[] }, { accessFlags := 8, nameIndex := 73, descriptorIndex := 74, attributes := #[] }] 49 4 #[] #[])
  fields := #[]
  methods := #[k2m0, k2m1]
  instanceTypes := #[]
  staticTypes := #[]
  resolved := Array.replicate 253 none
  statics := none }

def pool3 : Array CpInfo := pool [(1, u "java/lang/Cloneable"), (0, .class_ 1), (0, u "java/lang/Object"), (0, .class_ 3)] 3

/-- java/lang/Cloneable -/
def k3 : Class := { plain "java/lang/Cloneable" (some 0) with
  accessFlags := 1537
  interfaces := #[]
  cf := some (fileOf pool3 2 #[] #[] 1537 4 #[] #[])
  fields := #[]
  methods := #[]
  instanceTypes := #[]
  staticTypes := #[]
  resolved := Array.replicate 8 none
  statics := none }

def pool4 : Array CpInfo := pool [(1, u "java/io/Serializable"), (0, .class_ 1), (0, u "java/lang/Object"), (0, .class_ 3)] 3

/-- java/io/Serializable -/
def k4 : Class := { plain "java/io/Serializable" (some 0) with
  accessFlags := 1537
  interfaces := #[]
  cf := some (fileOf pool4 2 #[] #[] 1537 4 #[] #[])
  fields := #[]
  methods := #[]
  instanceTypes := #[]
  staticTypes := #[]
  resolved := Array.replicate 8 none
  statics := none }

/-- the primitive byte -/
def k5 : Class := { plain "byte" none with kind := .primitive 'B', accessFlags := 0x411 }
/-- [B -/
def k6 : Class := { plain "[B" (some 0) with kind := .array 5 .byte, interfaces := #[3, 4], accessFlags := 1041 }

/-- the primitive int -/
def k7 : Class := { plain "int" none with kind := .primitive 'I', accessFlags := 0x411 }
/-- [I -/
def k8 : Class := { plain "[I" (some 0) with kind := .array 7 .int, interfaces := #[3, 4], accessFlags := 1041 }

def heap : Heap := #[]
def classes : Array Class := #[k0, k1, k2, k3, k4, k5, k6, k7, k8]
def interned : List (Array UInt16 × Addr) := []
def slotsUsed : Nat := 0
def theMethod : MethodId := ⟨1, 2⟩
def args0 : Array Value := #[.int 5, .int 3, .int 2]
def aboutOver (below : List Frame) : State where
  vm := { classes := classes, interned := interned.toArray }
  heap := heap
  slotsUsed := slotsUsed
  threads := #[{ frames := .invoking theMethod args0 :: below }]
def below0 : List Frame := [.native { method := ⟨0, 0⟩, args := #[] }]
def about1 : State := aboutOver below0
def p0 : Program := .bare "" "" ""
def e0 : Env := launch0.env 0 0 0
theorem w_frames : about1.frames = Frame.invoking theMethod args0 :: below0 := rfl
set_option maxRecDepth 65536 in
theorem w_args : argsFit about1.vm theMethod args0 = true := by decide +kernel
set_option maxRecDepth 65536 in
theorem w_heap : heapFits about1 = true := by decide +kernel
set_option maxRecDepth 65536 in
theorem w_runnable : about1.curStatus? = some .runnable := by decide +kernel
set_option maxRecDepth 65536 in
theorem w_alone : about1.alone = true := by decide +kernel
set_option maxRecDepth 65536 in
theorem w_named : about1.methodNamed? x = some theMethod := by decide +kernel
set_option maxRecDepth 65536 in
theorem w_hears : about1.hears theMethod below0 = true := by decide +kernel
set_option maxRecDepth 65536 in
theorem w_ripe : about1.ripe theMethod args0 below0 = true := by decide +kernel
theorem w_running : about1.status = .running := rfl
set_option maxRecDepth 65536 in
theorem w_room : about1.hasRoom e0.platform room_1 = true :=
  launch0.hasRoom_least _ room_1 (by decide +kernel) (by decide +kernel) (by decide +kernel) (by decide +kernel) (by decide +kernel) (by decide +kernel)
theorem allAtoms_all (ts : List Jvm.Cond) (a : Array Jvm.Value) (st : Jvm.State) : (allAtoms ts).before a st = ts.all (fun c => c.before a st) := by
  induction ts with
  | nil => rfl
  | cons c t ih =>
    show (Jvm.Cond.and c (allAtoms t)).before a st = _
    rw [Jvm.Cond.before_and, ih, List.all_cons]
def words1 : List Jvm.Cond := Jvm.Cond.code x code maxLocals ret :: tables_1
/-- a 'code' word, met by the world's own term for the bytes: nothing is compared byte by byte -/
theorem code_word {y : MethodName} {bytes : ByteArray} {mx : Nat} {rt : Option FieldType} {a : Array Value} {s : State} {m : MethodId} {meth : Method} {c : Code} (h1 : s.methodNamed? y = some m) (h2 : s.vm.method? m = some meth) (h3 : meth.code = some c) (h4 : c.code = bytes)
    (h5 : (c.maxLocals == mx && c.exceptionTable.isEmpty && decide (c.maxStack ≤ mostOperands) && decide (meth.sig.returnType = rt) && !meth.locks && decide (parseMethodDescriptor y.desc = some meth.sig)) = true) : (Jvm.Cond.code y bytes mx rt).before a s = true := by
  simp only [Bool.and_eq_true, beq_iff_eq, Bool.not_eq_true', decide_eq_true_eq] at h5
  obtain ⟨⟨⟨⟨⟨g1, g2⟩, g3⟩, g4⟩, g5⟩, g6⟩ := h5
  simp [Cond.before, Cond.holds, Cond.value, h1, h2, h3, h4, g1, g2, g3, g4, g5, g6]
def isCode : Jvm.Cond → Bool
  | .code _ _ _ _ => true
  | _ => false
theorem all_split {L : List Jvm.Cond} {P : Jvm.Cond → Bool} (h1 : L.all (fun c => isCode c || P c) = true) (h2 : ∀ c ∈ L.filter isCode, P c = true) : L.all P = true := by
  refine List.all_eq_true.mpr fun c hc => ?_
  have h := List.all_eq_true.mp h1 c hc
  rcases Bool.eq_false_or_eq_true (isCode c) with hi | hi
  · exact h2 c (List.mem_filter.mpr ⟨hc, hi⟩)
  · simpa [hi] using h
set_option maxRecDepth 65536 in
theorem w_c0 : (Jvm.Cond.code x code maxLocals ret).before args0 about1 = true := code_word (m := ⟨1, 2⟩) (meth := k1m2) (c := k1c2) (by decide +kernel) rfl rfl rfl (by decide +kernel)
set_option maxRecDepth 65536 in
theorem w_c1 : (Jvm.Cond.code ({ cls := "dev/lyewire/xml/XmlNames", name := "isXmlChar", desc := "(I)Z" } : Jvm.MethodName) prog_81_method_18_code (1 : Nat) (Option.some Jvm.ClassFile.FieldType.boolean)).before args0 about1 = true := code_word (m := ⟨2, 1⟩) (meth := k2m1) (c := k2c1) (by decide +kernel) rfl rfl rfl (by decide +kernel)
set_option maxRecDepth 65536 in
theorem w_c2 : (Jvm.Cond.code ({ cls := "dev/lyewire/xml/XmlNamesIsXmlCharPinLaw", name := "expected", desc := "(I)Z" } : Jvm.MethodName) method_2_code (1 : Nat) (Option.some Jvm.ClassFile.FieldType.boolean)).before args0 about1 = true := code_word (m := ⟨1, 1⟩) (meth := k1m1) (c := k1c1) (by decide +kernel) rfl rfl rfl (by decide +kernel)
def codes1 : List Jvm.Cond := [Jvm.Cond.code x code maxLocals ret, Jvm.Cond.code ({ cls := "dev/lyewire/xml/XmlNames", name := "isXmlChar", desc := "(I)Z" } : Jvm.MethodName) prog_81_method_18_code (1 : Nat) (Option.some Jvm.ClassFile.FieldType.boolean), Jvm.Cond.code ({ cls := "dev/lyewire/xml/XmlNamesIsXmlCharPinLaw", name := "expected", desc := "(I)Z" } : Jvm.MethodName) method_2_code (1 : Nat) (Option.some Jvm.ClassFile.FieldType.boolean)]
set_option maxRecDepth 65536 in
theorem codes_eq : words1.filter isCode = codes1 := rfl
theorem w_codes : ∀ c ∈ words1.filter isCode, c.before args0 about1 = true := by
  rw [codes_eq]
  intro c hc
  simp only [codes1, List.mem_cons, List.not_mem_nil, or_false] at hc
  rcases hc with rfl | rfl | rfl
  · exact w_c0
  · exact w_c1
  · exact w_c2
set_option maxRecDepth 65536 in
theorem w_t1 : (words1.take 24).all (fun c => isCode c || c.before args0 about1) = true := by decide +kernel
set_option maxRecDepth 65536 in
theorem w_t2 : (words1.drop 24).all (fun c => isCode c || c.before args0 about1) = true := by decide +kernel
theorem w_tables : (allAtoms (Jvm.Cond.code x code maxLocals ret :: tables_1)).before args0 about1 = true := by
  rw [allAtoms_all]
  show words1.all (fun c => c.before args0 about1) = true
  refine all_split ?_ w_codes
  rw [← List.take_append_drop 24 words1, List.all_append, w_t1, w_t2]
  rfl
set_option maxRecDepth 65536 in
theorem w_case : (Jvm.Cond.and given_1 narrow_1).before args0 about1 = true := by decide +kernel
theorem w_applies : (headSpec (Jvm.Cond.code x code maxLocals ret :: tables_1) room_1).applies x e0.platform about1 = true :=
  (Spec.applies_iff w_frames).mpr ⟨w_running, w_runnable, w_alone, w_named, w_hears, w_ripe, w_room, w_tables⟩
theorem atStart : AtStart classFile x code maxLocals ret World_1 tables_1 room_1 Calls_1 rest_1 Pre_1 launch0 p0 e0 about1 theMethod args0 below0 :=
  ⟨lists_1, trivial, launch0.admits_env _ _ _, launch0.least_env, fairChoices_fair.cas, fairChoices_fair.clock, w_frames, w_args, w_heap, w_applies, trivial, trivial, w_case⟩
end start1
theorem witness_1 : WitnessClaimed_1 := ⟨start1.p0, start1.e0, start1.about1, start1.theMethod, start1.args0, start1.below0, start1.atStart⟩
end Jvm.Pilot.@@N@@
