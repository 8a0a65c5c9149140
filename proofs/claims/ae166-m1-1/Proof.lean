import JvmDerived
import JvmDerived.Pilot.@@N@@Statement
import JvmDerived.Pilot.@@N@@Code
set_option linter.unusedVariables false
set_option linter.unusedSimpArgs false
namespace Jvm.Pilot.@@N@@
open Jvm Jvm.ClassFile Sem Op Lib Jvm.Free Jvm.Stand Jvm.LawKit Jvm.RoadKit Bundle Jvm.Pilot.@@N@@.Jvm.D
/-! ## A small logic of runs over a virtual heap (own work, the same text in every proof of this seat)
References count from the first cell that the law makes (n0): `shV n0`. `Ob`: an object by its class (a place in K) and its laid fields, or an array by its component type and values.
`Runs K l Z n0 mi pc ls st H v H'`: whoever stands in the method mi at pc with locals ls, stack st and virtual heap H comes out returning v with heap H'. -/
def shV (n0 : Nat) : Value → Value
  | .ref a => .ref (n0 + a)
  | v => v
def shS (n0 : Nat) : Slot → Slot
  | .val v => .val (shV n0 v)
  | s => s
abbrev Ob : Type := (Nat × List Value) ⊕ (FieldType × List Value)
/-- a field: who declares it, its name, its descriptor, its type -/
abbrev FI : Type := String × String × String × FieldType
/-- a class: its name, the number of its slots, its fields -/
abbrev CI : Type := String × Nat × List FI
/-- a method: name, bytes, max_locals, return type; frames and words that its callees need -/
abbrev MI : Type := MethodName × ByteArray × Nat × Option FieldType × Nat × Nat
def osz (K : List CI) : Ob → Nat
  | .inl (c, _) => ((K[c]?).map (fun ci => ci.2.1)).getD 0
  | .inr (_, vs) => vs.length
def szs (K : List CI) (H : List Ob) : Nat := (H.map (osz K)).sum
def OOk (K : List CI) (Z : State) (n0 : Nat) (h : Heap) (a : Addr) : Ob → Prop
  | .inl (c, vs) => ∃ ci, K[c]? = some ci ∧ Exa Z h a ci.1 ∧ ∀ (i : Nat) (f : FI) (v : Value), ci.2.2[i]? = some f → vs[i]? = some v → Fld Z h a f.1 f.2.1 f.2.2.1 (shV n0 v)
  | .inr (ty, vs) => ∃ cl, Arr Z h a cl ty ∧ cl.slots.size = vs.length ∧ vs.length < 2 ^ 31 ∧ ∀ (i : Nat) (v : Value), vs[i]? = some v → cl.slots[i]? = some (shV n0 v) ∧ fits ty v = true
def Rel (K : List CI) (Z : State) (n0 : Nat) (H : List Ob) (h : Heap) : Prop := h.size = n0 + H.length ∧ ∀ (k : Nat) (o : Ob), H[k]? = some o → OOk K Z n0 h (n0 + k) o
def KOk (K : List CI) (Z : State) (a0 : Array Value) : Prop := ∀ (k : Nat) (ci : CI), K[k]? = some ci → (Jvm.Cond.instantiable ci.1 ci.2.1).before a0 Z = true ∧ (∀ f ∈ ci.2.2, Laid Z a0 ci.1 f.1 f.2.1 f.2.2.1 ∧ parseFieldDescriptor f.2.2.1 = some f.2.2.2) ∧ ci.2.2.Pairwise (fun f g => f.2.1 ≠ g.2.1)
theorem cat_sh (n0 : Nat) (v : Value) : (shV n0 v).category = v.category := by cases v <;> rfl
theorem cats_sh (n0 : Nat) (st : List Value) : ((st.map (shV n0)).map fun v => v.category).sum = (st.map fun v => v.category).sum := by
  rw [List.map_map]; congr 1; exact List.map_congr_left fun v _ => cat_sh n0 v
theorem laid_map (n0 : Nat) : ∀ as : List Value, Jvm.Sym.laidSlots (as.map (shV n0)) = (Jvm.Sym.laidSlots as).map (shS n0)
  | [] => rfl
  | v :: vs => by
    simp only [List.map_cons, Jvm.Sym.laidSlots, cat_sh, laid_map n0 vs]
    split <;> rfl
theorem entry_eq (n0 : Nat) (m : MethodId) (as : List Value) (n : Nat) {ls : List Slot} (h : Jvm.Sym.laidSlots as ++ List.replicate (n - (Jvm.Sym.laidSlots as).length) .unset = ls) :
    entryFrame m (as.map (shV n0)).toArray n = mkF m 0 (ls.map (shS n0)).toArray [] := by
  have e : argsToLocals (as.map (shV n0)).toArray n = (ls.map (shS n0)).toArray := Array.toList_inj.mp (by
    rw [Jvm.Sym.argsToLocals_toList]
    simp only [laid_map, List.length_map, ← h, List.map_append, List.map_replicate]
    rfl)
  show ({ method := m, pc := 0, locals := argsToLocals (as.map (shV n0)).toArray n, stack := [], locked := none } : JFrame) = _
  rw [e]
theorem loc_at {n0 : Nat} {ls : List Slot} {k : Nat} {s : Slot} (h : ls[k]? = some s) : ((ls.map (shS n0)).toArray)[k]? = some (shS n0 s) := by
  simp [h]
/-- the place k may take a value of one word -/
def P1 (ls : List Slot) (k : Nat) : Bool := match ls[k]? with | some .unset => true | some (.val w) => w.category == 1 | _ => false
/-- the places k and k + 1 may take a value of two words -/
def P2 (ls : List Slot) (k : Nat) : Bool := match ls[k]?, ls[k + 1]? with | some (.val w), some .second => w.category == 2 | _, _ => P1 ls k && P1 ls (k + 1)
theorem P1_slot {ls : List Slot} {k : Nat} (h : P1 ls k = true) : ∃ s, ls[k]? = some s ∧ (match s with | .second => False | .val old => old.category = 1 | .unset => True) := by
  unfold P1 at h
  split at h
  · rename_i e; exact ⟨_, e, trivial⟩
  · rename_i w e; exact ⟨_, e, by simpa using h⟩
  · cases h
theorem st1 {n0 : Nat} {ls ls' : List Slot} {k : Nat} {v : Value} (hp : P1 ls k = true) (hv : v.category = 1) (hs : ls.set k (.val v) = ls') : storeLocals (ls.map (shS n0)).toArray k (shV n0 v) = some (ls'.map (shS n0)).toArray := by
  obtain ⟨s, e, q⟩ := P1_slot hp
  rw [storeLocals_cat1 (loc_at (n0 := n0) e) (by rw [cat_sh]; exact hv) (by cases s <;> simp_all [shS, cat_sh]), ← hs]
  simp [List.map_set, shS]
theorem st2 {n0 : Nat} {ls ls' : List Slot} {k : Nat} {v : Value} (hp : P2 ls k = true) (hv : v.category = 2) (hs : (ls.set k (.val v)).set (k + 1) .second = ls') : storeLocals (ls.map (shS n0)).toArray k (shV n0 v) = some (ls'.map (shS n0)).toArray := by
  have key : ∃ x y, ls[k]? = some x ∧ ls[k + 1]? = some y ∧ ((Jvm.Free.Fl.Plain1 (shS n0 x) ∧ Jvm.Free.Fl.Plain1 (shS n0 y)) ∨ ((∃ old, shS n0 x = .val old ∧ old.category = 2) ∧ shS n0 y = .second)) := by
    unfold P2 at hp
    split at hp
    · rename_i w e1 e2
      exact ⟨_, _, e1, e2, Or.inr ⟨⟨_, rfl, by rw [cat_sh]; simpa using hp⟩, rfl⟩⟩
    · rw [Bool.and_eq_true] at hp
      obtain ⟨s, e, q⟩ := P1_slot hp.1
      obtain ⟨s', e', q'⟩ := P1_slot hp.2
      exact ⟨s, s', e, e', Or.inl ⟨by cases s <;> simp_all [shS, cat_sh, Jvm.Free.Fl.Plain1], by cases s' <;> simp_all [shS, cat_sh, Jvm.Free.Fl.Plain1]⟩⟩
  obtain ⟨x, y, e1, e2, q⟩ := key
  rw [Jvm.Free.Fl.storeLocals_cat2 (loc_at (n0 := n0) e1) (loc_at (n0 := n0) e2) (by rw [cat_sh]; exact hv) q, ← hs]
  simp [List.map_set, shS]
def Runs (K : List CI) (l : Launch) (Z : State) (n0 : Nat) (mi : MI) (pc : Nat) (ls : List Slot) (st : List Value) (H : List Ob) (v : Option Value) (H' : List Ob) : Prop :=
  H.length ≤ H'.length ∧ szs K H ≤ szs K H' ∧
  ∀ (p : Program) (e : Env) (R : Room) (s : State) (m : MethodId) (args : Array Value) (below : List Frame) (meth : Method) (c : Code) (T : State) (locs : List Loc) (cells slots : Nat),
    Stand p l e R s m args below meth c T locs cells slots → p.tables.exec = Jvm.exec → Z.Warmed39 s.vm → c.code = mi.2.1 → c.maxLocals = mi.2.2.1 → meth.sig.returnType = mi.2.2.2.1 → s.vm.findClass mi.1.cls = some m.cls → meth.name = mi.1.name →
    Rel K Z n0 H T.heap → Fr n0 locs → mi.2.2.2.2.1 ≤ R.frames → mi.2.2.2.2.2 ≤ R.locals → s.heap.size + cells = n0 + H.length → cells + H'.length ≤ R.cells + H.length → slots + szs K H' ≤ R.slots + szs K H →
    ∃ (T' : State) (locs' : List Loc) (cells' slots' : Nat), Stand p l e R s m args below meth c T' locs' cells' slots' ∧ Rel K Z n0 H' T'.heap ∧ Fr n0 locs' ∧ s.heap.size + cells' = n0 + H'.length ∧ slots' + szs K H ≤ slots + szs K H' ∧
      ∀ fs, (∀ (f : JFrame) (acts : List Action), f.method = m → f.locked = none → f.entered = [] → (doReturn e (T'.setTop f) acts (v.map (shV n0))).1 = T'.setFrames fs) →
        Steps p.tables e below (T.setTop (mkF m pc (ls.map (shS n0)).toArray (st.map (shV n0)))) (T'.setFrames fs)
def rmOf (K : List CI) (mi : MI) (H H' : List Ob) : Room := { frames := mi.2.2.2.2.1, cells := H'.length - H.length, slots := szs K H' - szs K H, locals := mi.2.2.2.2.2 }
def Meets (K : List CI) (l : Launch) (Z : State) (n0 : Nat) (mi : MI) (as : List Value) (H : List Ob) (v : Option Value) (H' : List Ob) : Prop :=
  H.length ≤ H'.length ∧ szs K H ≤ szs K H' ∧ ∀ h, Rel K Z n0 H h →
    MetFree l mi.1 (head1 [Jvm.Cond.code mi.1 mi.2.1 mi.2.2.1 mi.2.2.2.1] (rmOf K mi H H')) (fun a U => a = (as.map (shV n0)).toArray ∧ Z.Warmed39 U.vm ∧ U.heap = h) (fun _ _ _ _ _ => True)
      (fun _ U o U' => ∃ w L, o = .returned w ∧ (w = v.map (shV n0) ∧ Rel K Z n0 H' U'.heap ∧ Fr n0 L) ∧ FrameEnd U o U' L (rmOf K mi H H').cells (rmOf K mi H H').slots)
theorem leB {a b : Nat} (h : Nat.ble a b = true) : a ≤ b := Nat.le_of_ble_eq_true h
theorem ltB {a b : Nat} (h : Nat.ble (a + 1) b = true) : a < b := Nat.le_of_ble_eq_true h
section Logic
variable {K : List CI} {l : Launch} {Z : State} {a0 : Array Value} {n0 : Nat} {mi : MI} {pc np tp : Nat} {ls ls' : List Slot} {st rest : List Value} {H H' H1 : List Ob} {v : Option Value}
/-- from a run of the body to the method's contract, in any room that holds it -/
theorem met_gen {as : List Value} (ws : List Jvm.Cond) (R0 : Room) (hp : plainFor mi.1 = true) (hls : Jvm.Sym.laidSlots as ++ List.replicate (mi.2.2.1 - (Jvm.Sym.laidSlots as).length) .unset = ls) (hv : mi.2.2.2.1 = none → v = none)
    (k : Runs K l Z n0 mi 0 ls [] H v H') (hfr : mi.2.2.2.2.1 ≤ R0.frames) (hlo : mi.2.2.2.2.2 ≤ R0.locals) (hcl : H'.length ≤ R0.cells + H.length) (hsl : szs K H' ≤ R0.slots + szs K H) {h : Heap} (hrel : Rel K Z n0 H h) :
    MetFree l mi.1 (head1 (Jvm.Cond.code mi.1 mi.2.1 mi.2.2.1 mi.2.2.2.1 :: ws) R0) (fun a U => a = (as.map (shV n0)).toArray ∧ Z.Warmed39 U.vm ∧ U.heap = h) (fun _ _ _ _ _ => True)
      (fun _ U o U' => ∃ w L, o = .returned w ∧ (w = v.map (shV n0) ∧ Rel K Z n0 H' U'.heap ∧ Fr n0 L) ∧ FrameEnd U o U' L (H'.length - H.length) (szs K H' - szs K H)) := by
  refine MetFree.of_bodySF hp hisR ?_
  intro p e s m args below meth c s₁ Bd hml0 hP hK
  obtain ⟨rfl, hZ, hh⟩ := hP
  have hx := Bd.exec
  have hby := Bd.bytes
  have hown : s.vm.findClass mi.1.cls = some m.cls := findClass_of_methodNamed Bd.named
  have hnm := (name_of_methodNamed Bd.named Bd.method).1
  have X0 : Stand p l e R0 s m (as.map (shV n0)).toArray below meth c s₁ [] 0 0 := Stand.of_body Bd
  have e0 : s₁.heap = h := by rw [← hh, Bd.state]; rfl
  obtain ⟨T', locs', cells', slots', X', rel', fr', hc', hs', stp⟩ := k.2.2 p e R0 s m _ below meth c s₁ [] 0 0 X0 hx hZ hby hml0 Bd.returns hown hnm (e0 ▸ hrel) (Fr.nil n0) hfr hlo (by rw [hh, hrel.1]; rfl) (by omega) (by omega)
  have hsz : s.heap.size = n0 + H.length := by rw [hh, hrel.1]
  obtain ⟨fs, hr, hrun, hended, hW, hsame⟩ := X'.leave (v := v.map (shV n0)) (fun q => by rw [Bd.returns] at q; rw [hv q]; rfl)
  exact ⟨_, _, castTop (entry_eq n0 m as mi.2.2.1 hls) (stp fs hr), hrun, hended, _, _, rfl, ⟨rfl, rel', fr'⟩, ⟨_, rfl⟩, hW, hsame.mono (by omega) (by omega)⟩
theorem meets {as : List Value} (hp : plainFor mi.1 = true) (hls : Jvm.Sym.laidSlots as ++ List.replicate (mi.2.2.1 - (Jvm.Sym.laidSlots as).length) .unset = ls) (hv : mi.2.2.2.1 = none → v = none) (k : Runs K l Z n0 mi 0 ls [] H v H') : Meets K l Z n0 mi as H v H' :=
  ⟨k.1, k.2.1, fun h hrel => met_gen [] (rmOf K mi H H') hp hls hv k (Nat.le_refl _) (Nat.le_refl _) (by have := k.1; show _ ≤ (H'.length - H.length) + _; omega) (by have := k.2.1; show _ ≤ (szs K H' - szs K H) + _; omega) hrel⟩
/-- a run that ends in some heap of at most c cells and n slots -/
def RunsB (K : List CI) (l : Launch) (Z : State) (n0 : Nat) (mi : MI) (pc : Nat) (ls : List Slot) (st : List Value) (H : List Ob) (v : Option Value) (c n : Nat) : Prop := ∃ H' : List Ob, Runs K l Z n0 mi pc ls st H v H' ∧ H'.length ≤ c ∧ szs K H' ≤ n
theorem lift {st2 : List Value} {c n : Nat} (f : ∀ H' : List Ob, Runs K l Z n0 mi np ls' st2 H1 v H' → Runs K l Z n0 mi pc ls st H v H') (k : RunsB K l Z n0 mi np ls' st2 H1 v c n) : RunsB K l Z n0 mi pc ls st H v c n := by
  obtain ⟨H', k1, k2⟩ := k
  exact ⟨H', f H' k1, k2⟩
/-- a step that reads no heap -/
theorem Runs.pure {st2 : List Value} (hstep : ∀ (p : Program) (e : Env) (R : Room) (s : State) (m : MethodId) (args : Array Value) (below : List Frame) (meth : Method) (c : Code) (T : State) (locs : List Loc) (cells slots : Nat),
      Stand p l e R s m args below meth c T locs cells slots → p.tables.exec = Jvm.exec → Z.Warmed39 s.vm → c.code = mi.2.1 → s.vm.findClass mi.1.cls = some m.cls → ∀ target,
      Steps p.tables e below (T.setTop (mkF m np (ls'.map (shS n0)).toArray (st2.map (shV n0)))) target → Steps p.tables e below (T.setTop (mkF m pc (ls.map (shS n0)).toArray (st.map (shV n0)))) target)
    (k : Runs K l Z n0 mi np ls' st2 H v H') : Runs K l Z n0 mi pc ls st H v H' := by
  refine ⟨k.1, k.2.1, fun p e R s m args below meth c T locs cells slots X hx hZ hc hml hret hown hnm hrel hfr hf hlo hsz hcl hsl => ?_⟩
  obtain ⟨T', locs', cells', slots', X', rel', fr', hc', hs', stp⟩ := k.2.2 p e R s m args below meth c T locs cells slots X hx hZ hc hml hret hown hnm hrel hfr hf hlo hsz hcl hsl
  exact ⟨T', locs', cells', slots', X', rel', fr', hc', hs', fun fs hr => hstep p e R s m args below meth c T locs cells slots X hx hZ hc hown _ (stp fs hr)⟩
theorem isRef_sh {n0 : Nat} {x : Value} (h : x.isRef = true) : (shV n0 x).isRef = true := by cases x <;> first | rfl | cases h
theorem P1_int {ls : List Slot} {k : Nat} {x : Int32} (h : ls[k]? = some (.val (.int x))) : P1 ls k = true := by unfold P1; rw [h]; rfl
theorem r_iloadN {k : Fin 4} {x : Int32} (hd : decode mi.2.1 pc = .ok (.iload_n k, 1) ∧ pc + 1 = np) (hl : ls[k.val]? = some (.val (.int x))) (kk : Runs K l Z n0 mi np ls (.int x :: st) H v H') : Runs K l Z n0 mi pc ls st H v H' := by
  obtain ⟨hd, rfl⟩ := hd
  exact Runs.pure (fun _ _ _ _ _ _ _ _ _ _ _ _ _ X hx hZ hc hown t h => XS.iloadN X.here hx rfl (hb hc hd) (loc_at hl) h) kk
theorem r_iload {k : Nat} {x : Int32} (hd : decode mi.2.1 pc = .ok (.iload k, 2) ∧ pc + 2 = np) (hl : ls[k]? = some (.val (.int x))) (kk : Runs K l Z n0 mi np ls (.int x :: st) H v H') : Runs K l Z n0 mi pc ls st H v H' := by
  obtain ⟨hd, rfl⟩ := hd
  exact Runs.pure (fun _ _ _ _ _ _ _ _ _ _ _ _ _ X hx hZ hc hown t h => XS.iload X.here hx rfl (hb hc hd) (loc_at hl) h) kk
theorem r_lloadN {k : Fin 4} {x : Int64} (hd : decode mi.2.1 pc = .ok (.lload_n k, 1) ∧ pc + 1 = np) (hl : ls[k.val]? = some (.val (.long x))) (kk : Runs K l Z n0 mi np ls (.long x :: st) H v H') : Runs K l Z n0 mi pc ls st H v H' := by
  obtain ⟨hd, rfl⟩ := hd
  exact Runs.pure (fun _ _ _ _ _ _ _ _ _ _ _ _ _ X hx hZ hc hown t h => XT.lloadN X.here hx rfl (hb hc hd) (loc_at hl) h) kk
theorem r_lload {k : Nat} {x : Int64} (hd : decode mi.2.1 pc = .ok (.lload k, 2) ∧ pc + 2 = np) (hl : ls[k]? = some (.val (.long x))) (kk : Runs K l Z n0 mi np ls (.long x :: st) H v H') : Runs K l Z n0 mi pc ls st H v H' := by
  obtain ⟨hd, rfl⟩ := hd
  exact Runs.pure (fun _ _ _ _ _ _ _ _ _ _ _ _ _ X hx hZ hc hown t h => XT.lload X.here hx rfl (hb hc hd) (loc_at hl) h) kk
theorem r_aloadN {k : Fin 4} {x : Value} (hd : decode mi.2.1 pc = .ok (.aload_n k, 1) ∧ pc + 1 = np) (hl : ls[k.val]? = some (.val x)) (hv : x.isRef = true) (kk : Runs K l Z n0 mi np ls (x :: st) H v H') : Runs K l Z n0 mi pc ls st H v H' := by
  obtain ⟨hd, rfl⟩ := hd
  exact Runs.pure (fun _ _ _ _ _ _ _ _ _ _ _ _ _ X hx hZ hc hown t h => XS.aloadN X.here hx rfl (hb hc hd) (loc_at hl) (isRef_sh hv) h) kk
theorem r_aload {k : Nat} {x : Value} (hd : decode mi.2.1 pc = .ok (.aload k, 2) ∧ pc + 2 = np) (hl : ls[k]? = some (.val x)) (hv : x.isRef = true) (kk : Runs K l Z n0 mi np ls (x :: st) H v H') : Runs K l Z n0 mi pc ls st H v H' := by
  obtain ⟨hd, rfl⟩ := hd
  exact Runs.pure (fun _ _ _ _ _ _ _ _ _ _ _ _ _ X hx hZ hc hown t h => XS.aload X.here hx rfl (hb hc hd) (loc_at hl) (isRef_sh hv) h) kk
theorem r_istoreN {k : Fin 4} {x : Int32} (hd : decode mi.2.1 pc = .ok (.istore_n k, 1) ∧ pc + 1 = np) (hp : P1 ls k.val = true) (hs : ls.set k.val (.val (.int x)) = ls') (kk : Runs K l Z n0 mi np ls' st H v H') : Runs K l Z n0 mi pc ls (.int x :: st) H v H' := by
  obtain ⟨hd, rfl⟩ := hd
  exact Runs.pure (fun _ _ _ _ _ _ _ _ _ _ _ _ _ X hx hZ hc hown t h => XS.istoreN X.here hx rfl (hb hc hd) rfl (st1 hp rfl hs) h) kk
theorem r_istore {k : Nat} {x : Int32} (hd : decode mi.2.1 pc = .ok (.istore k, 2) ∧ pc + 2 = np) (hp : P1 ls k = true) (hs : ls.set k (.val (.int x)) = ls') (kk : Runs K l Z n0 mi np ls' st H v H') : Runs K l Z n0 mi pc ls (.int x :: st) H v H' := by
  obtain ⟨hd, rfl⟩ := hd
  exact Runs.pure (fun _ _ _ _ _ _ _ _ _ _ _ _ _ X hx hZ hc hown t h => XS.istore X.here hx rfl (hb hc hd) rfl (st1 hp rfl hs) h) kk
theorem r_lstoreN {k : Fin 4} {x : Int64} (hd : decode mi.2.1 pc = .ok (.lstore_n k, 1) ∧ pc + 1 = np) (hp : P2 ls k.val = true) (hs : (ls.set k.val (.val (.long x))).set (k.val + 1) .second = ls') (kk : Runs K l Z n0 mi np ls' st H v H') : Runs K l Z n0 mi pc ls (.long x :: st) H v H' := by
  obtain ⟨hd, rfl⟩ := hd
  exact Runs.pure (fun _ _ _ _ _ _ _ _ _ _ _ _ _ X hx hZ hc hown t h => XT.lstoreN X.here hx rfl (hb hc hd) rfl (st2 hp rfl hs) h) kk
theorem r_lstore {k : Nat} {x : Int64} (hd : decode mi.2.1 pc = .ok (.lstore k, 2) ∧ pc + 2 = np) (hp : P2 ls k = true) (hs : (ls.set k (.val (.long x))).set (k + 1) .second = ls') (kk : Runs K l Z n0 mi np ls' st H v H') : Runs K l Z n0 mi pc ls (.long x :: st) H v H' := by
  obtain ⟨hd, rfl⟩ := hd
  exact Runs.pure (fun _ _ _ _ _ _ _ _ _ _ _ _ _ X hx hZ hc hown t h => XT.lstore X.here hx rfl (hb hc hd) rfl (st2 hp rfl hs) h) kk
theorem r_astoreN {k : Fin 4} {x : Value} (hd : decode mi.2.1 pc = .ok (.astore_n k, 1) ∧ pc + 1 = np) (hp : P1 ls k.val = true) (hv : x.isRef = true) (hs : ls.set k.val (.val x) = ls') (kk : Runs K l Z n0 mi np ls' st H v H') : Runs K l Z n0 mi pc ls (x :: st) H v H' := by
  obtain ⟨hd, rfl⟩ := hd
  exact Runs.pure (fun _ _ _ _ _ _ _ _ _ _ _ _ _ X hx hZ hc hown t h => XS.astoreN X.here hx rfl (hb hc hd) rfl (isRef_sh hv) (st1 hp (XT.cat1 hv) hs) h) kk
theorem r_astore {k : Nat} {x : Value} (hd : decode mi.2.1 pc = .ok (.astore k, 2) ∧ pc + 2 = np) (hp : P1 ls k = true) (hv : x.isRef = true) (hs : ls.set k (.val x) = ls') (kk : Runs K l Z n0 mi np ls' st H v H') : Runs K l Z n0 mi pc ls (x :: st) H v H' := by
  obtain ⟨hd, rfl⟩ := hd
  exact Runs.pure (fun _ _ _ _ _ _ _ _ _ _ _ _ _ X hx hZ hc hown t h => XS.astore X.here hx rfl (hb hc hd) rfl (isRef_sh hv) (st1 hp (XT.cat1 hv) hs) h) kk
theorem r_iadd {x y : Int32} (hd : decode mi.2.1 pc = .ok (.iadd, 1) ∧ pc + 1 = np) (kk : Runs K l Z n0 mi np ls (.int (x + y) :: st) H v H') : Runs K l Z n0 mi pc ls (.int y :: .int x :: st) H v H' := by
  obtain ⟨hd, rfl⟩ := hd
  exact Runs.pure (fun _ _ _ _ _ _ _ _ _ _ _ _ _ X hx hZ hc hown t h => XS.iadd X.here hx rfl (hb hc hd) rfl h) kk
theorem r_isub {x y : Int32} (hd : decode mi.2.1 pc = .ok (.isub, 1) ∧ pc + 1 = np) (kk : Runs K l Z n0 mi np ls (.int (x - y) :: st) H v H') : Runs K l Z n0 mi pc ls (.int y :: .int x :: st) H v H' := by
  obtain ⟨hd, rfl⟩ := hd
  exact Runs.pure (fun _ _ _ _ _ _ _ _ _ _ _ _ _ X hx hZ hc hown t h => XS.isub X.here hx rfl (hb hc hd) rfl h) kk
theorem r_imul {x y : Int32} (hd : decode mi.2.1 pc = .ok (.imul, 1) ∧ pc + 1 = np) (kk : Runs K l Z n0 mi np ls (.int (x * y) :: st) H v H') : Runs K l Z n0 mi pc ls (.int y :: .int x :: st) H v H' := by
  obtain ⟨hd, rfl⟩ := hd
  exact Runs.pure (fun _ _ _ _ _ _ _ _ _ _ _ _ _ X hx hZ hc hown t h => XS.imul X.here hx rfl (hb hc hd) rfl h) kk
theorem r_iand {x y : Int32} (hd : decode mi.2.1 pc = .ok (.iand, 1) ∧ pc + 1 = np) (kk : Runs K l Z n0 mi np ls (.int (x &&& y) :: st) H v H') : Runs K l Z n0 mi pc ls (.int y :: .int x :: st) H v H' := by
  obtain ⟨hd, rfl⟩ := hd
  exact Runs.pure (fun _ _ _ _ _ _ _ _ _ _ _ _ _ X hx hZ hc hown t h => XS.iand X.here hx rfl (hb hc hd) rfl h) kk
theorem r_ior {x y : Int32} (hd : decode mi.2.1 pc = .ok (.ior, 1) ∧ pc + 1 = np) (kk : Runs K l Z n0 mi np ls (.int (x ||| y) :: st) H v H') : Runs K l Z n0 mi pc ls (.int y :: .int x :: st) H v H' := by
  obtain ⟨hd, rfl⟩ := hd
  exact Runs.pure (fun _ _ _ _ _ _ _ _ _ _ _ _ _ X hx hZ hc hown t h => XT.ior X.here hx rfl (hb hc hd) rfl h) kk
theorem r_ixor {x y : Int32} (hd : decode mi.2.1 pc = .ok (.ixor, 1) ∧ pc + 1 = np) (kk : Runs K l Z n0 mi np ls (.int (x ^^^ y) :: st) H v H') : Runs K l Z n0 mi pc ls (.int y :: .int x :: st) H v H' := by
  obtain ⟨hd, rfl⟩ := hd
  exact Runs.pure (fun _ _ _ _ _ _ _ _ _ _ _ _ _ X hx hZ hc hown t h => XT.ixor X.here hx rfl (hb hc hd) rfl h) kk
theorem r_ishl {x y : Int32} (hd : decode mi.2.1 pc = .ok (.ishl, 1) ∧ pc + 1 = np) (kk : Runs K l Z n0 mi np ls (.int (x <<< (y &&& 31)) :: st) H v H') : Runs K l Z n0 mi pc ls (.int y :: .int x :: st) H v H' := by
  obtain ⟨hd, rfl⟩ := hd
  exact Runs.pure (fun _ _ _ _ _ _ _ _ _ _ _ _ _ X hx hZ hc hown t h => XT.ishl X.here hx rfl (hb hc hd) rfl h) kk
theorem r_ishr {x y : Int32} (hd : decode mi.2.1 pc = .ok (.ishr, 1) ∧ pc + 1 = np) (kk : Runs K l Z n0 mi np ls (.int (x >>> (y &&& 31)) :: st) H v H') : Runs K l Z n0 mi pc ls (.int y :: .int x :: st) H v H' := by
  obtain ⟨hd, rfl⟩ := hd
  exact Runs.pure (fun _ _ _ _ _ _ _ _ _ _ _ _ _ X hx hZ hc hown t h => XT.ishr X.here hx rfl (hb hc hd) rfl h) kk
theorem r_iushr {x y : Int32} (hd : decode mi.2.1 pc = .ok (.iushr, 1) ∧ pc + 1 = np) (kk : Runs K l Z n0 mi np ls (.int (XT.ushr x y) :: st) H v H') : Runs K l Z n0 mi pc ls (.int y :: .int x :: st) H v H' := by
  obtain ⟨hd, rfl⟩ := hd
  exact Runs.pure (fun _ _ _ _ _ _ _ _ _ _ _ _ _ X hx hZ hc hown t h => XT.iushr X.here hx rfl (hb hc hd) rfl h) kk
theorem r_idiv {x y : Int32} (hd : decode mi.2.1 pc = .ok (.idiv, 1) ∧ pc + 1 = np) (hy : y ≠ 0) (kk : Runs K l Z n0 mi np ls (.int (x / y) :: st) H v H') : Runs K l Z n0 mi pc ls (.int y :: .int x :: st) H v H' := by
  obtain ⟨hd, rfl⟩ := hd
  exact Runs.pure (fun _ _ _ _ _ _ _ _ _ _ _ _ _ X hx hZ hc hown t h => XS.idiv X.here hx rfl (hb hc hd) rfl hy h) kk
theorem r_irem {x y : Int32} (hd : decode mi.2.1 pc = .ok (.irem, 1) ∧ pc + 1 = np) (hy : y ≠ 0) (kk : Runs K l Z n0 mi np ls (.int (x % y) :: st) H v H') : Runs K l Z n0 mi pc ls (.int y :: .int x :: st) H v H' := by
  obtain ⟨hd, rfl⟩ := hd
  exact Runs.pure (fun _ _ _ _ _ _ _ _ _ _ _ _ _ X hx hZ hc hown t h => iremM X hx rfl (hb hc hd) rfl hy h) kk
theorem r_ladd {x y : Int64} (hd : decode mi.2.1 pc = .ok (.ladd, 1) ∧ pc + 1 = np) (kk : Runs K l Z n0 mi np ls (.long (x + y) :: st) H v H') : Runs K l Z n0 mi pc ls (.long y :: .long x :: st) H v H' := by
  obtain ⟨hd, rfl⟩ := hd
  exact Runs.pure (fun _ _ _ _ _ _ _ _ _ _ _ _ _ X hx hZ hc hown t h => XT.ladd X.here hx rfl (hb hc hd) rfl h) kk
theorem r_lsub {x y : Int64} (hd : decode mi.2.1 pc = .ok (.lsub, 1) ∧ pc + 1 = np) (kk : Runs K l Z n0 mi np ls (.long (x - y) :: st) H v H') : Runs K l Z n0 mi pc ls (.long y :: .long x :: st) H v H' := by
  obtain ⟨hd, rfl⟩ := hd
  exact Runs.pure (fun _ _ _ _ _ _ _ _ _ _ _ _ _ X hx hZ hc hown t h => XT.lsub X.here hx rfl (hb hc hd) rfl h) kk
theorem r_lmul {x y : Int64} (hd : decode mi.2.1 pc = .ok (.lmul, 1) ∧ pc + 1 = np) (kk : Runs K l Z n0 mi np ls (.long (x * y) :: st) H v H') : Runs K l Z n0 mi pc ls (.long y :: .long x :: st) H v H' := by
  obtain ⟨hd, rfl⟩ := hd
  exact Runs.pure (fun _ _ _ _ _ _ _ _ _ _ _ _ _ X hx hZ hc hown t h => XT.lmul X.here hx rfl (hb hc hd) rfl h) kk
theorem r_land {x y : Int64} (hd : decode mi.2.1 pc = .ok (.land, 1) ∧ pc + 1 = np) (kk : Runs K l Z n0 mi np ls (.long (x &&& y) :: st) H v H') : Runs K l Z n0 mi pc ls (.long y :: .long x :: st) H v H' := by
  obtain ⟨hd, rfl⟩ := hd
  exact Runs.pure (fun _ _ _ _ _ _ _ _ _ _ _ _ _ X hx hZ hc hown t h => XT.land X.here hx rfl (hb hc hd) rfl h) kk
theorem r_lor {x y : Int64} (hd : decode mi.2.1 pc = .ok (.lor, 1) ∧ pc + 1 = np) (kk : Runs K l Z n0 mi np ls (.long (x ||| y) :: st) H v H') : Runs K l Z n0 mi pc ls (.long y :: .long x :: st) H v H' := by
  obtain ⟨hd, rfl⟩ := hd
  exact Runs.pure (fun _ _ _ _ _ _ _ _ _ _ _ _ _ X hx hZ hc hown t h => XT.lor X.here hx rfl (hb hc hd) rfl h) kk
theorem r_lxor {x y : Int64} (hd : decode mi.2.1 pc = .ok (.lxor, 1) ∧ pc + 1 = np) (kk : Runs K l Z n0 mi np ls (.long (x ^^^ y) :: st) H v H') : Runs K l Z n0 mi pc ls (.long y :: .long x :: st) H v H' := by
  obtain ⟨hd, rfl⟩ := hd
  exact Runs.pure (fun _ _ _ _ _ _ _ _ _ _ _ _ _ X hx hZ hc hown t h => XT.lxor X.here hx rfl (hb hc hd) rfl h) kk
theorem r_lshl {x : Int64} {y : Int32} (hd : decode mi.2.1 pc = .ok (.lshl, 1) ∧ pc + 1 = np) (kk : Runs K l Z n0 mi np ls (.long (x <<< (y.toInt64 &&& 63)) :: st) H v H') : Runs K l Z n0 mi pc ls (.int y :: .long x :: st) H v H' := by
  obtain ⟨hd, rfl⟩ := hd
  exact Runs.pure (fun _ _ _ _ _ _ _ _ _ _ _ _ _ X hx hZ hc hown t h => XT.lshl X.here hx rfl (hb hc hd) rfl h) kk
theorem r_lshr {x : Int64} {y : Int32} (hd : decode mi.2.1 pc = .ok (.lshr, 1) ∧ pc + 1 = np) (kk : Runs K l Z n0 mi np ls (.long (x >>> (y.toInt64 &&& 63)) :: st) H v H') : Runs K l Z n0 mi pc ls (.int y :: .long x :: st) H v H' := by
  obtain ⟨hd, rfl⟩ := hd
  exact Runs.pure (fun _ _ _ _ _ _ _ _ _ _ _ _ _ X hx hZ hc hown t h => XT.lshr X.here hx rfl (hb hc hd) rfl h) kk
theorem r_lushr {x : Int64} {y : Int32} (hd : decode mi.2.1 pc = .ok (.lushr, 1) ∧ pc + 1 = np) (kk : Runs K l Z n0 mi np ls (.long (XT.ushrL x y) :: st) H v H') : Runs K l Z n0 mi pc ls (.int y :: .long x :: st) H v H' := by
  obtain ⟨hd, rfl⟩ := hd
  exact Runs.pure (fun _ _ _ _ _ _ _ _ _ _ _ _ _ X hx hZ hc hown t h => XT.lushr X.here hx rfl (hb hc hd) rfl h) kk
theorem r_ldiv {x y : Int64} (hd : decode mi.2.1 pc = .ok (.ldiv, 1) ∧ pc + 1 = np) (hy : y ≠ 0) (kk : Runs K l Z n0 mi np ls (.long (x / y) :: st) H v H') : Runs K l Z n0 mi pc ls (.long y :: .long x :: st) H v H' := by
  obtain ⟨hd, rfl⟩ := hd
  exact Runs.pure (fun _ _ _ _ _ _ _ _ _ _ _ _ _ X hx hZ hc hown t h => XT.ldiv X.here hx rfl (hb hc hd) rfl hy h) kk
theorem r_lrem {x y : Int64} (hd : decode mi.2.1 pc = .ok (.lrem, 1) ∧ pc + 1 = np) (hy : y ≠ 0) (kk : Runs K l Z n0 mi np ls (.long (x % y) :: st) H v H') : Runs K l Z n0 mi pc ls (.long y :: .long x :: st) H v H' := by
  obtain ⟨hd, rfl⟩ := hd
  exact Runs.pure (fun _ _ _ _ _ _ _ _ _ _ _ _ _ X hx hZ hc hown t h => XT.lrem X.here hx rfl (hb hc hd) rfl hy (by rw [lrem_mod]; exact h)) kk
theorem r_lcmp {x y : Int64} (hd : decode mi.2.1 pc = .ok (.lcmp, 1) ∧ pc + 1 = np) (kk : Runs K l Z n0 mi np ls (.int (XT.cmpL x y) :: st) H v H') : Runs K l Z n0 mi pc ls (.long y :: .long x :: st) H v H' := by
  obtain ⟨hd, rfl⟩ := hd
  exact Runs.pure (fun _ _ _ _ _ _ _ _ _ _ _ _ _ X hx hZ hc hown t h => XT.lcmp X.here hx rfl (hb hc hd) rfl h) kk
theorem r_ineg {x : Int32} (hd : decode mi.2.1 pc = .ok (.ineg, 1) ∧ pc + 1 = np) (kk : Runs K l Z n0 mi np ls (.int (-x) :: st) H v H') : Runs K l Z n0 mi pc ls (.int x :: st) H v H' := by
  obtain ⟨hd, rfl⟩ := hd
  exact Runs.pure (fun _ _ _ _ _ _ _ _ _ _ _ _ _ X hx hZ hc hown t h => XS.ineg X.here hx rfl (hb hc hd) rfl h) kk
theorem r_lneg {x : Int64} (hd : decode mi.2.1 pc = .ok (.lneg, 1) ∧ pc + 1 = np) (kk : Runs K l Z n0 mi np ls (.long (-x) :: st) H v H') : Runs K l Z n0 mi pc ls (.long x :: st) H v H' := by
  obtain ⟨hd, rfl⟩ := hd
  exact Runs.pure (fun _ _ _ _ _ _ _ _ _ _ _ _ _ X hx hZ hc hown t h => XT.lneg X.here hx rfl (hb hc hd) rfl h) kk
theorem r_i2l {x : Int32} (hd : decode mi.2.1 pc = .ok (.i2l, 1) ∧ pc + 1 = np) (kk : Runs K l Z n0 mi np ls (.long x.toInt64 :: st) H v H') : Runs K l Z n0 mi pc ls (.int x :: st) H v H' := by
  obtain ⟨hd, rfl⟩ := hd
  exact Runs.pure (fun _ _ _ _ _ _ _ _ _ _ _ _ _ X hx hZ hc hown t h => XT.i2l X.here hx rfl (hb hc hd) rfl h) kk
theorem r_l2i {x : Int64} (hd : decode mi.2.1 pc = .ok (.l2i, 1) ∧ pc + 1 = np) (kk : Runs K l Z n0 mi np ls (.int x.toInt32 :: st) H v H') : Runs K l Z n0 mi pc ls (.long x :: st) H v H' := by
  obtain ⟨hd, rfl⟩ := hd
  exact Runs.pure (fun _ _ _ _ _ _ _ _ _ _ _ _ _ X hx hZ hc hown t h => XT.l2i X.here hx rfl (hb hc hd) rfl h) kk
theorem r_i2b {x : Int32} (hd : decode mi.2.1 pc = .ok (.i2b, 1) ∧ pc + 1 = np) (kk : Runs K l Z n0 mi np ls (.int x.toInt8.toInt32 :: st) H v H') : Runs K l Z n0 mi pc ls (.int x :: st) H v H' := by
  obtain ⟨hd, rfl⟩ := hd
  exact Runs.pure (fun _ _ _ _ _ _ _ _ _ _ _ _ _ X hx hZ hc hown t h => XT.i2b X.here hx rfl (hb hc hd) rfl h) kk
theorem r_i2s {x : Int32} (hd : decode mi.2.1 pc = .ok (.i2s, 1) ∧ pc + 1 = np) (kk : Runs K l Z n0 mi np ls (.int x.toInt16.toInt32 :: st) H v H') : Runs K l Z n0 mi pc ls (.int x :: st) H v H' := by
  obtain ⟨hd, rfl⟩ := hd
  exact Runs.pure (fun _ _ _ _ _ _ _ _ _ _ _ _ _ X hx hZ hc hown t h => XT.i2s X.here hx rfl (hb hc hd) rfl h) kk
theorem r_i2c {x : Int32} (hd : decode mi.2.1 pc = .ok (.i2c, 1) ∧ pc + 1 = np) (kk : Runs K l Z n0 mi np ls (.int x.toUInt32.toUInt16.toUInt32.toInt32 :: st) H v H') : Runs K l Z n0 mi pc ls (.int x :: st) H v H' := by
  obtain ⟨hd, rfl⟩ := hd
  exact Runs.pure (fun _ _ _ _ _ _ _ _ _ _ _ _ _ X hx hZ hc hown t h => XT.i2c X.here hx rfl (hb hc hd) rfl h) kk
theorem r_dup {x : Value} (hd : decode mi.2.1 pc = .ok (.dup, 1) ∧ pc + 1 = np) (hx1 : x.category = 1) (kk : Runs K l Z n0 mi np ls (x :: x :: st) H v H') : Runs K l Z n0 mi pc ls (x :: st) H v H' := by
  obtain ⟨hd, rfl⟩ := hd
  exact Runs.pure (fun _ _ _ _ _ _ _ _ _ _ _ _ _ X hx hZ hc hown t h => XS.dup X.here hx rfl (hb hc hd) rfl ((cat_sh _ _).trans hx1) h) kk
theorem r_pop {x : Value} (hd : decode mi.2.1 pc = .ok (.pop, 1) ∧ pc + 1 = np) (hx1 : x.category = 1) (kk : Runs K l Z n0 mi np ls st H v H') : Runs K l Z n0 mi pc ls (x :: st) H v H' := by
  obtain ⟨hd, rfl⟩ := hd
  exact Runs.pure (fun _ _ _ _ _ _ _ _ _ _ _ _ _ X hx hZ hc hown t h => XT.pop X.here hx rfl (hb hc hd) rfl ((cat_sh _ _).trans hx1) h) kk
theorem r_dupX1 {x y : Value} (hd : decode mi.2.1 pc = .ok (.dup_x1, 1) ∧ pc + 1 = np) (hx1 : x.category = 1) (hy1 : y.category = 1) (kk : Runs K l Z n0 mi np ls (x :: y :: x :: st) H v H') : Runs K l Z n0 mi pc ls (x :: y :: st) H v H' := by
  obtain ⟨hd, rfl⟩ := hd
  exact Runs.pure (fun _ _ _ _ _ _ _ _ _ _ _ _ _ X hx hZ hc hown t h => XT.dupX1 X.here hx rfl (hb hc hd) rfl ((cat_sh _ _).trans hx1) ((cat_sh _ _).trans hy1) h) kk
theorem r_dup2 {x y : Value} (hd : decode mi.2.1 pc = .ok (.dup2, 1) ∧ pc + 1 = np) (hx1 : x.category = 1) (hy1 : y.category = 1) (kk : Runs K l Z n0 mi np ls (x :: y :: x :: y :: st) H v H') : Runs K l Z n0 mi pc ls (x :: y :: st) H v H' := by
  obtain ⟨hd, rfl⟩ := hd
  exact Runs.pure (fun _ _ _ _ _ _ _ _ _ _ _ _ _ X hx hZ hc hown t h => XT.dup2 X.here hx rfl (hb hc hd) rfl ((cat_sh _ _).trans hx1) ((cat_sh _ _).trans hy1) h) kk
theorem r_dup2L {x : Int64} (hd : decode mi.2.1 pc = .ok (.dup2, 1) ∧ pc + 1 = np) (kk : Runs K l Z n0 mi np ls (.long x :: .long x :: st) H v H') : Runs K l Z n0 mi pc ls (.long x :: st) H v H' := by
  obtain ⟨hd, rfl⟩ := hd
  exact Runs.pure (fun _ _ _ _ _ _ _ _ _ _ _ _ _ X hx hZ hc hown t h => XT.dup2L X.here hx rfl (hb hc hd) rfl h) kk
theorem r_aconstNull  (hd : decode mi.2.1 pc = .ok (.aconst_null, 1) ∧ pc + 1 = np) (kk : Runs K l Z n0 mi np ls (.null :: st) H v H') : Runs K l Z n0 mi pc ls st H v H' := by
  obtain ⟨hd, rfl⟩ := hd
  exact Runs.pure (fun _ _ _ _ _ _ _ _ _ _ _ _ _ X hx hZ hc hown t h => XS.aconstNull X.here hx rfl (hb hc hd) h) kk
theorem r_iconst {i : Int} {x : Int32} (hd : decode mi.2.1 pc = .ok (.iconst i, 1) ∧ pc + 1 = np ∧ Int32.ofInt i = x) (kk : Runs K l Z n0 mi np ls (.int x :: st) H v H') : Runs K l Z n0 mi pc ls st H v H' := by
  obtain ⟨hd, rfl, hx0⟩ := hd
  exact Runs.pure (fun _ _ _ _ _ _ _ _ _ _ _ _ _ X hx hZ hc hown t h => XT.iconstV X.here hx rfl x (hb hc hd) hx0 h) kk
theorem r_bipush {i : Int} {x : Int32} (hd : decode mi.2.1 pc = .ok (.bipush i, 2) ∧ pc + 2 = np ∧ (Int8.ofInt i).toInt32 = x) (kk : Runs K l Z n0 mi np ls (.int x :: st) H v H') : Runs K l Z n0 mi pc ls st H v H' := by
  obtain ⟨hd, rfl, hx0⟩ := hd
  exact Runs.pure (fun _ _ _ _ _ _ _ _ _ _ _ _ _ X hx hZ hc hown t h => XT.bipushV X.here hx rfl x (hb hc hd) hx0 h) kk
theorem r_sipush {i : Int} {x : Int32} (hd : decode mi.2.1 pc = .ok (.sipush i, 3) ∧ pc + 3 = np ∧ (Int16.ofInt i).toInt32 = x) (kk : Runs K l Z n0 mi np ls (.int x :: st) H v H') : Runs K l Z n0 mi pc ls st H v H' := by
  obtain ⟨hd, rfl, hx0⟩ := hd
  exact Runs.pure (fun _ _ _ _ _ _ _ _ _ _ _ _ _ X hx hZ hc hown t h => XT.sipushV X.here hx rfl x (hb hc hd) hx0 h) kk
theorem r_lconst {i : Fin 2} {x : Int64} (hd : decode mi.2.1 pc = .ok (.lconst i, 1) ∧ pc + 1 = np ∧ Int64.ofNat i = x) (kk : Runs K l Z n0 mi np ls (.long x :: st) H v H') : Runs K l Z n0 mi pc ls st H v H' := by
  obtain ⟨hd, rfl, hx0⟩ := hd
  exact Runs.pure (fun _ _ _ _ _ _ _ _ _ _ _ _ _ X hx hZ hc hown t h => XT.lconstV X.here hx rfl x (hb hc hd) hx0 h) kk
theorem r_ldc {i : Nat} {x : Int32} (hd : decode mi.2.1 pc = .ok (.ldc i, 2) ∧ pc + 2 = np) (w : (Jvm.Cond.constant mi.1.cls i x).before a0 Z = true) (kk : Runs K l Z n0 mi np ls (.int x :: st) H v H') : Runs K l Z n0 mi pc ls st H v H' := by
  obtain ⟨hd, rfl⟩ := hd
  exact Runs.pure (fun _ _ _ _ _ _ _ _ _ _ _ _ _ X hx hZ hc hown t h => X.ldcI hx hown (mv hZ w) rfl (hb hc hd) h) kk
theorem r_ldcW {i : Nat} {x : Int32} (hd : decode mi.2.1 pc = .ok (.ldc_w i, 3) ∧ pc + 3 = np) (w : (Jvm.Cond.constant mi.1.cls i x).before a0 Z = true) (kk : Runs K l Z n0 mi np ls (.int x :: st) H v H') : Runs K l Z n0 mi pc ls st H v H' := by
  obtain ⟨hd, rfl⟩ := hd
  exact Runs.pure (fun _ _ _ _ _ _ _ _ _ _ _ _ _ X hx hZ hc hown t h => X.ldcWI hx hown (mv hZ w) rfl (hb hc hd) h) kk
theorem r_ldc2 {i : Nat} {x : Int64} (hd : decode mi.2.1 pc = .ok (.ldc2_w i, 3) ∧ pc + 3 = np) (w : (Jvm.Cond.constantLong mi.1.cls i x).before a0 Z = true) (kk : Runs K l Z n0 mi np ls (.long x :: st) H v H') : Runs K l Z n0 mi pc ls st H v H' := by
  obtain ⟨hd, rfl⟩ := hd
  exact Runs.pure (fun _ _ _ _ _ _ _ _ _ _ _ _ _ X hx hZ hc hown t h => X.ldc2J hx hown (mv hZ w) rfl (hb hc hd) h) kk
theorem r_iinc {k : Nat} {i : Int} {x y : Int32} (hd : decode mi.2.1 pc = .ok (.iinc k i, 3) ∧ pc + 3 = np ∧ Int32.ofInt i = y) (hl : ls[k]? = some (.val (.int x))) (hs : ls.set k (.val (.int (x + y))) = ls') (kk : Runs K l Z n0 mi np ls' st H v H') : Runs K l Z n0 mi pc ls st H v H' := by
  obtain ⟨hd, rfl, hx0⟩ := hd
  exact Runs.pure (fun _ _ _ _ _ _ _ _ _ _ _ _ _ X hx hZ hc hown t h => XT.iincV X.here hx rfl y (hb hc hd) hx0 (loc_at hl) (st1 (P1_int hl) rfl hs) h) kk
theorem r_goto  {o : Int} (hd : decode mi.2.1 pc = .ok (.goto o, 3) ∧ pc + 3 = np ∧ 0 ≤ (pc : Int) + o ∧ ((pc : Int) + o).toNat = tp) (kk : Runs K l Z n0 mi tp ls st H v H') : Runs K l Z n0 mi pc ls st H v H' := by
  obtain ⟨hd, hn, h1, h2⟩ := hd
  exact Runs.pure (fun _ _ _ _ _ _ _ _ _ _ _ _ _ X hx hZ hc hown t h => XS.goto X.here hx rfl rfl (hb hc hd) h1 h2 h) kk
theorem r_ifT {cd : ClassFile.Cond} {x : Int32} {o : Int} (hd : decode mi.2.1 pc = .ok (.ifCond cd o, 3) ∧ pc + 3 = np ∧ 0 ≤ (pc : Int) + o ∧ ((pc : Int) + o).toNat = tp) (hq : ifCond.holds cd x = true) (kk : Runs K l Z n0 mi tp ls st H v H') : Runs K l Z n0 mi pc ls (.int x :: st) H v H' := by
  obtain ⟨hd, hn, h1, h2⟩ := hd
  exact Runs.pure (fun _ _ _ _ _ _ _ _ _ _ _ _ _ X hx hZ hc hown t h => XS.ifYes X.here hx rfl rfl (hb hc hd) rfl hq h1 h2 h) kk
theorem r_ifF {cd : ClassFile.Cond} {x : Int32} {o : Int} (hd : decode mi.2.1 pc = .ok (.ifCond cd o, 3) ∧ pc + 3 = np ∧ 0 ≤ (pc : Int) + o ∧ ((pc : Int) + o).toNat = tp) (hq : ifCond.holds cd x = false) (kk : Runs K l Z n0 mi np ls st H v H') : Runs K l Z n0 mi pc ls (.int x :: st) H v H' := by
  obtain ⟨hd, rfl, h1, h2⟩ := hd
  exact Runs.pure (fun _ _ _ _ _ _ _ _ _ _ _ _ _ X hx hZ hc hown t h => XS.ifNo X.here hx rfl (hb hc hd) rfl hq h) kk
theorem r_icT {cd : ClassFile.Cond} {x y : Int32} {o : Int} (hd : decode mi.2.1 pc = .ok (.if_icmp cd o, 3) ∧ pc + 3 = np ∧ 0 ≤ (pc : Int) + o ∧ ((pc : Int) + o).toNat = tp) (hq : if_icmp.holds cd x y = true) (kk : Runs K l Z n0 mi tp ls st H v H') : Runs K l Z n0 mi pc ls (.int y :: .int x :: st) H v H' := by
  obtain ⟨hd, hn, h1, h2⟩ := hd
  exact Runs.pure (fun _ _ _ _ _ _ _ _ _ _ _ _ _ X hx hZ hc hown t h => XS.icmpYes X.here hx rfl rfl (hb hc hd) rfl hq h1 h2 h) kk
theorem r_icF {cd : ClassFile.Cond} {x y : Int32} {o : Int} (hd : decode mi.2.1 pc = .ok (.if_icmp cd o, 3) ∧ pc + 3 = np ∧ 0 ≤ (pc : Int) + o ∧ ((pc : Int) + o).toNat = tp) (hq : if_icmp.holds cd x y = false) (kk : Runs K l Z n0 mi np ls st H v H') : Runs K l Z n0 mi pc ls (.int y :: .int x :: st) H v H' := by
  obtain ⟨hd, rfl, h1, h2⟩ := hd
  exact Runs.pure (fun _ _ _ _ _ _ _ _ _ _ _ _ _ X hx hZ hc hown t h => XS.icmpNo X.here hx rfl (hb hc hd) rfl hq h) kk
theorem r_nullT  {o : Int} (hd : decode mi.2.1 pc = .ok (.ifnull o, 3) ∧ pc + 3 = np ∧ 0 ≤ (pc : Int) + o ∧ ((pc : Int) + o).toNat = tp) (kk : Runs K l Z n0 mi tp ls st H v H') : Runs K l Z n0 mi pc ls (.null :: st) H v H' := by
  obtain ⟨hd, hn, h1, h2⟩ := hd
  exact Runs.pure (fun _ _ _ _ _ _ _ _ _ _ _ _ _ X hx hZ hc hown t h => XS.ifnullYes X.here hx rfl rfl (hb hc hd) rfl h1 h2 h) kk
theorem r_nullF {a : Addr} {o : Int} (hd : decode mi.2.1 pc = .ok (.ifnull o, 3) ∧ pc + 3 = np ∧ 0 ≤ (pc : Int) + o ∧ ((pc : Int) + o).toNat = tp) (kk : Runs K l Z n0 mi np ls st H v H') : Runs K l Z n0 mi pc ls (.ref a :: st) H v H' := by
  obtain ⟨hd, rfl, h1, h2⟩ := hd
  exact Runs.pure (fun _ _ _ _ _ _ _ _ _ _ _ _ _ X hx hZ hc hown t h => XS.ifnullNo X.here hx rfl (hb hc hd) rfl h) kk
theorem r_nonnullT {a : Addr} {o : Int} (hd : decode mi.2.1 pc = .ok (.ifnonnull o, 3) ∧ pc + 3 = np ∧ 0 ≤ (pc : Int) + o ∧ ((pc : Int) + o).toNat = tp) (kk : Runs K l Z n0 mi tp ls st H v H') : Runs K l Z n0 mi pc ls (.ref a :: st) H v H' := by
  obtain ⟨hd, hn, h1, h2⟩ := hd
  exact Runs.pure (fun _ _ _ _ _ _ _ _ _ _ _ _ _ X hx hZ hc hown t h => XT.ifnonnullYes X.here hx rfl rfl (hb hc hd) rfl h1 h2 h) kk
theorem r_nonnullF  {o : Int} (hd : decode mi.2.1 pc = .ok (.ifnonnull o, 3) ∧ pc + 3 = np ∧ 0 ≤ (pc : Int) + o ∧ ((pc : Int) + o).toNat = tp) (kk : Runs K l Z n0 mi np ls st H v H') : Runs K l Z n0 mi pc ls (.null :: st) H v H' := by
  obtain ⟨hd, rfl, h1, h2⟩ := hd
  exact Runs.pure (fun _ _ _ _ _ _ _ _ _ _ _ _ _ X hx hZ hc hown t h => XT.ifnonnullNo X.here hx rfl (hb hc hd) rfl h) kk
/-- a step that may turn the heap -/
theorem Runs.heap {st2 : List Value} (m1 : H.length ≤ H1.length) (m2 : szs K H ≤ szs K H1) (hstep : ∀ (p : Program) (e : Env) (R : Room) (s : State) (m : MethodId) (args : Array Value) (below : List Frame) (meth : Method) (c : Code) (T : State) (locs : List Loc) (cells slots : Nat),
      Stand p l e R s m args below meth c T locs cells slots → p.tables.exec = Jvm.exec → Z.Warmed39 s.vm → c.code = mi.2.1 → c.maxLocals = mi.2.2.1 → s.vm.findClass mi.1.cls = some m.cls → meth.name = mi.1.name → Rel K Z n0 H T.heap → Fr n0 locs → mi.2.2.2.2.1 ≤ R.frames → mi.2.2.2.2.2 ≤ R.locals →
      s.heap.size + cells = n0 + H.length → cells + H1.length ≤ R.cells + H.length → slots + szs K H1 ≤ R.slots + szs K H →
      ∃ (T1 : State) (locs1 : List Loc) (cells1 slots1 : Nat), Stand p l e R s m args below meth c T1 locs1 cells1 slots1 ∧ Rel K Z n0 H1 T1.heap ∧ Fr n0 locs1 ∧ s.heap.size + cells1 = n0 + H1.length ∧ slots1 + szs K H ≤ slots + szs K H1 ∧
        ∀ target, Steps p.tables e below (T1.setTop (mkF m np (ls'.map (shS n0)).toArray (st2.map (shV n0)))) target → Steps p.tables e below (T.setTop (mkF m pc (ls.map (shS n0)).toArray (st.map (shV n0)))) target)
    (k : Runs K l Z n0 mi np ls' st2 H1 v H') : Runs K l Z n0 mi pc ls st H v H' := by
  have k1 := k.1
  have k2 := k.2.1
  refine ⟨Nat.le_trans m1 k1, Nat.le_trans m2 k2, fun p e R s m args below meth c T locs cells slots X hx hZ hc hml hret hown hnm hrel hfr hf hlo hsz hcl hsl => ?_⟩
  obtain ⟨T1, locs1, cells1, slots1, X1, rel1, fr1, hc1, hs1, st1⟩ := hstep p e R s m args below meth c T locs cells slots X hx hZ hc hml hown hnm hrel hfr hf hlo hsz (by omega) (by omega)
  obtain ⟨T', locs', cells', slots', X', rel', fr', hc', hs', stp⟩ := k.2.2 p e R s m args below meth c T1 locs1 cells1 slots1 X1 hx hZ hc hml hret hown hnm rel1 fr1 hf hlo hc1 (by omega) (by omega)
  exact ⟨T', locs', cells', slots', X', rel', fr', hc', by omega, fun fs hr => st1 _ (stp fs hr)⟩
theorem r_ret {x : Value} {t : FieldType} {i : Instr} (hd : decode mi.2.1 pc = .ok (i, 1)) (hret : mi.2.2.2.1 = some t) (hn : narrow t x = x)
    (hi : (i = .ireturn ∧ (t = .int ∨ t = .boolean ∨ t = .byte ∨ t = .char ∨ t = .short) ∧ ∃ z, x = .int z) ∨ (i = .lreturn ∧ t = .long ∧ ∃ z, x = .long z) ∨ (i = .areturn ∧ t.isReference = true ∧ x.isRef = true)) : Runs K l Z n0 mi pc ls (x :: st) H (some x) H := by
  refine ⟨Nat.le_refl _, Nat.le_refl _, fun p e R s m args below meth c T locs cells slots X hx hZ hc hml hret' hown hnm hrel hfr hf hlo hsz hcl hsl => ⟨T, locs, cells, slots, X, hrel, hfr, hsz, Nat.le_refl _, fun fs hr => ?_⟩⟩
  have hn' : narrow t (shV n0 x) = shV n0 x := by
    rcases hi with ⟨-, -, z, rfl⟩ | ⟨-, -, z, rfl⟩ | ⟨-, -, q⟩
    · exact hn
    · exact hn
    · cases x <;> first | (cases q; done) | (cases t <;> rfl)
  refine retOut X hx (hret'.trans hret) hn' ?_ (hb hc hd) hr
  rcases hi with ⟨h1, h2, z, rfl⟩ | ⟨h1, h2, z, rfl⟩ | ⟨h1, h2, q⟩
  · exact Or.inl ⟨h1, h2, z, rfl⟩
  · exact Or.inr (Or.inl ⟨h1, h2, z, rfl⟩)
  · exact Or.inr (Or.inr (Or.inr (Or.inr ⟨h1, h2, isRef_sh q⟩)))
theorem r_ireturn {z : Int32} (hd : decode mi.2.1 pc = .ok (.ireturn, 1)) (hret : mi.2.2.2.1 = some .int) : Runs K l Z n0 mi pc ls (.int z :: st) H (some (.int z)) H := r_ret hd hret rfl (Or.inl ⟨rfl, Or.inl rfl, z, rfl⟩)
theorem r_ireturnE {z z' : Int32} (hd : decode mi.2.1 pc = .ok (.ireturn, 1)) (hret : mi.2.2.2.1 = some .int) (h : z = z') : Runs K l Z n0 mi pc ls (.int z :: st) H (some (.int z')) H := h ▸ r_ireturn hd hret
theorem r_zreturn {z : Int32} (hd : decode mi.2.1 pc = .ok (.ireturn, 1)) (hret : mi.2.2.2.1 = some .boolean) (hz : z = 0 ∨ z = 1) : Runs K l Z n0 mi pc ls (.int z :: st) H (some (.int z)) H := r_ret hd hret (by rcases hz with rfl | rfl <;> rfl) (Or.inl ⟨rfl, Or.inr (Or.inl rfl), z, rfl⟩)
theorem r_lreturn {z : Int64} (hd : decode mi.2.1 pc = .ok (.lreturn, 1)) (hret : mi.2.2.2.1 = some .long) : Runs K l Z n0 mi pc ls (.long z :: st) H (some (.long z)) H := r_ret hd hret rfl (Or.inr (Or.inl ⟨rfl, rfl, z, rfl⟩))
theorem r_areturn {x : Value} {t : FieldType} (hd : decode mi.2.1 pc = .ok (.areturn, 1)) (hret : mi.2.2.2.1 = some t) (ht : t.isReference = true) (hx : x.isRef = true) : Runs K l Z n0 mi pc ls (x :: st) H (some x) H := r_ret hd hret (by cases x <;> first | (cases hx; done) | (cases t <;> rfl)) (Or.inr (Or.inr ⟨rfl, ht, hx⟩))
theorem r_return (hd : decode mi.2.1 pc = .ok (.return_, 1)) (hret : mi.2.2.2.1 = none) : Runs K l Z n0 mi pc ls [] H none H := by
  refine ⟨Nat.le_refl _, Nat.le_refl _, fun p e R s m args below meth c T locs cells slots X hx hZ hc hml hret' hown hnm hrel hfr hf hlo hsz hcl hsl => ⟨T, locs, cells, slots, X, hrel, hfr, hsz, Nat.le_refl _, fun fs hr => ?_⟩⟩
  exact X.returnOut hx (hret'.trans hret) (hb hc hd) hr
theorem r_tswIn {dflt low high o : Int} {offs : Array Int} {len : Nat} {i : Int32} (hd : decode mi.2.1 pc = .ok (.tableswitch dflt low high offs, len)) (hin : ¬ (i.toInt < low ∨ i.toInt > high)) (hoff : offs[(i.toInt - low).toNat]? = some o) (ho : 0 ≤ (pc : Int) + o) (hp : ((pc : Int) + o).toNat = tp)
    (kk : Runs K l Z n0 mi tp ls st H v H') : Runs K l Z n0 mi pc ls (.int i :: st) H v H' :=
  Runs.pure (fun _ _ _ _ _ _ _ _ _ _ _ _ _ X hx hZ hc hown t h => XS.tswIn X.here hx rfl rfl (hb hc hd) rfl hin hoff ho hp h) kk
theorem r_tswOut {dflt low high : Int} {offs : Array Int} {len : Nat} {i : Int32} (hd : decode mi.2.1 pc = .ok (.tableswitch dflt low high offs, len)) (hout : i.toInt < low ∨ i.toInt > high) (ho : 0 ≤ (pc : Int) + dflt) (hp : ((pc : Int) + dflt).toNat = tp)
    (kk : Runs K l Z n0 mi tp ls st H v H') : Runs K l Z n0 mi pc ls (.int i :: st) H v H' :=
  Runs.pure (fun _ _ _ _ _ _ _ _ _ _ _ _ _ X hx hZ hc hown t h => XS.tswOut X.here hx rfl rfl (hb hc hd) rfl hout ho hp h) kk
/-! ### the heap -/
theorem OOk.ext {h h' : Heap} {a : Addr} {o : Ob} (E : Ext h h') (q : OOk K Z n0 h a o) : OOk K Z n0 h' a o := by
  cases o with
  | inl o => obtain ⟨ci, h1, h2, h3⟩ := q; exact ⟨ci, h1, h2.ext E, fun i f v a b => (h3 i f v a b).ext E⟩
  | inr o => obtain ⟨cl, h1, h2⟩ := q; exact ⟨cl, h1.ext E, h2⟩
theorem OOk.other {h h' : Heap} {a b : Addr} {sl : Nat} {x : Value} {o : Ob} (W : Wr h h' b sl x) (ne : a ≠ b) (q : OOk K Z n0 h a o) : OOk K Z n0 h' a o := by
  cases o with
  | inl o => obtain ⟨ci, h1, h2, h3⟩ := q; exact ⟨ci, h1, h2.wr W, fun i f v a b => (h3 i f v a b).other W (Or.inl ne)⟩
  | inr o => obtain ⟨cl, h1, h2⟩ := q; exact ⟨cl, h1.other W ne, h2⟩
theorem Rel.push {h h' : Heap} {o : Ob} (r : Rel K Z n0 H h) (E : Ext h h') (hs : h'.size = h.size + 1) (ho : OOk K Z n0 h' h.size o) : Rel K Z n0 (H ++ [o]) h' := by
  refine ⟨by rw [hs, r.1, List.length_append]; rfl, fun k q hk => ?_⟩
  by_cases hl : k < H.length
  · rw [List.getElem?_append_left hl] at hk; exact (r.2 k q hk).ext E
  · rw [List.getElem?_append_right (Nat.le_of_not_lt hl)] at hk
    have e : k - H.length = 0 := by
      cases hq : k - H.length with
      | zero => rfl
      | succ j => rw [hq] at hk; simp at hk
    rw [e] at hk
    simp at hk
    subst hk
    have : k = H.length := by omega
    subst this
    rw [← r.1]; exact ho
theorem Rel.put {h h' : Heap} {o : Ob} {a sl : Nat} {x : Value} (r : Rel K Z n0 H h) (W : Wr h h' (n0 + a) sl x) (ha : a < H.length) (ho : OOk K Z n0 h' (n0 + a) o) : Rel K Z n0 (H.set a o) h' := by
  refine ⟨by rw [W.size, r.1, List.length_set], fun k q hk => ?_⟩
  by_cases e : a = k
  · subst e
    rw [List.getElem?_set_self ha] at hk
    cases hk; exact ho
  · rw [List.getElem?_set_ne e] at hk
    exact (r.2 k q hk).other W (fun z => e (Nat.add_left_cancel z).symm)
theorem map_set_same {α β : Type} (f : α → β) : ∀ (H : List α) (a : Nat) (o o' : α), H[a]? = some o' → f o = f o' → (H.set a o).map f = H.map f
  | [], _, _, _, h, _ => by simp at h
  | x :: r, 0, o, o', h, e => by simp at h; subst h; simp [e]
  | x :: r, a + 1, o, o', h, e => by simp at h; simp [map_set_same f r a o o' h e]
theorem szs_set {a : Nat} {o o' : Ob} (h : H[a]? = some o') (e : osz K o = osz K o') : szs K (H.set a o) = szs K H := by unfold szs; rw [map_set_same (osz K) H a o o' h e]
theorem szs_push {o : Ob} : szs K (H ++ [o]) = szs K H + osz K o := by simp [szs]
theorem lt_of_at {α : Type} {L : List α} {a : Nat} {o : α} (h : L[a]? = some o) : a < L.length := (List.getElem?_eq_some_iff.mp h).1
theorem nar_sh {t : FieldType} {x : Value} (h : narrow t x = x) : narrow t (shV n0 x) = shV n0 x := by cases x <;> first | exact h | (cases t <;> rfl)
theorem fits_sh {t : FieldType} {x : Value} (h : fits t x = true) : fits t (shV n0 x) = true := by cases x <;> first | exact h | (cases t <;> first | rfl | cases h)
theorem sh_dflt (ty : FieldType) : shV n0 (defaultValue ty) = defaultValue ty := by cases ty <;> rfl
theorem r_getF {a cid i idx : Nat} {vs : List Value} {ci : CI} {f : FI} {x : Value} {R0 : String} (hd : decode mi.2.1 pc = .ok (.getfield idx, 3) ∧ pc + 3 = np) (w : (Jvm.Cond.fieldLink mi.1.cls idx R0 f.2.1 f.2.2.1).before a0 Z = true) (via : Via Z R0 f.1 f.2.1 f.2.2.1) (hci : K[cid]? = some ci) (hf : ci.2.2[i]? = some f)
    (ho : H[a]? = some (.inl (cid, vs))) (hv : vs[i]? = some x) (kk : Runs K l Z n0 mi np ls (x :: st) H v H') : Runs K l Z n0 mi pc ls (.ref a :: st) H v H' := by
  obtain ⟨hd, rfl⟩ := hd
  refine Runs.heap (Nat.le_refl _) (Nat.le_refl _) (fun p e R s m args below meth c T locs cells slots X hx hZ hc hml hown hnm hrel hfr hf' hlo hsz hcl hsl => ?_) kk
  obtain ⟨ci', q1, E, F⟩ := hrel.2 a _ ho
  cases hci.symm.trans q1
  obtain ⟨T1, X1, e1, st1⟩ := getF X hx hZ hown (host := "") (Or.inl w) via rfl (F i f x hf hv) (g := mkF m pc (ls.map (shS n0)).toArray (.ref (n0 + a) :: st.map (shV n0))) rfl rfl (hb hc hd)
  exact ⟨T1, _, _, _, X1, by rw [e1]; exact hrel, hfr, hsz, Nat.le_refl _, st1⟩
theorem r_putF {a cid i idx : Nat} {vs vs' : List Value} {ci : CI} {f : FI} {x : Value} {R0 : String} (hK : KOk K Z a0) (hd : decode mi.2.1 pc = .ok (.putfield idx, 3) ∧ pc + 3 = np) (w : (Jvm.Cond.fieldLink mi.1.cls idx R0 f.2.1 f.2.2.1).before a0 Z = true) (via : Via Z R0 f.1 f.2.1 f.2.2.1) (hci : K[cid]? = some ci) (hf : ci.2.2[i]? = some f)
    (L : (Jvm.Cond.lays ci.1 f.1 f.2.1 f.2.2.1).before a0 Z = true ∨ ((Jvm.Cond.laysFinal ci.1 f.1 f.2.1 f.2.2.1).before a0 Z = true ∧ mi.1.cls = f.1 ∧ mi.1.name = "<init>"))
    (ho : H[a]? = some (.inl (cid, vs))) (hi : i < vs.length) (hn : narrow f.2.2.2 x = x) (hft : fits f.2.2.2 x = true) (hvs : vs.set i x = vs') (hH : H.set a (.inl (cid, vs')) = H1) (kk : Runs K l Z n0 mi np ls st H1 v H') : Runs K l Z n0 mi pc ls (x :: .ref a :: st) H v H' := by
  obtain ⟨hd, rfl⟩ := hd
  subst hvs hH
  have ha := lt_of_at ho
  have es : szs K (H.set a (.inl (cid, vs.set i x))) = szs K H := szs_set ho rfl
  refine Runs.heap (by rw [List.length_set]; exact Nat.le_refl _) (by rw [es]; exact Nat.le_refl _) (fun p e R s m args below meth c T locs cells slots X hx hZ hc hml hown hnm hrel hfr hf' hlo hsz hcl hsl => ?_) kk
  obtain ⟨ci', q1, E, F⟩ := hrel.2 a _ ho
  cases hci.symm.trans q1
  obtain ⟨kk1, kk2, kk3⟩ := hK cid ci hci
  have hfm : f ∈ ci.2.2 := List.mem_of_getElem? hf
  obtain ⟨T1, h1, X1, e1, W1, st1⟩ := putF X hx hZ hown (host := "") (Or.inl w) via rfl (F i f _ hf (List.getElem?_eq_getElem hi)) E (L.imp id fun q => ⟨q.1, q.2.1, hnm.trans q.2.2⟩) kk1 (kk2 f hfm).2 (nar_sh hn) (fits_sh hft)
    (g := mkF m pc (ls.map (shS n0)).toArray (shV n0 x :: .ref (n0 + a) :: st.map (shV n0))) rfl rfl (hb hc hd)
  refine ⟨T1, _, _, _, X1, ?_, Fr.snoc X1 hfr (Nat.le_add_right _ _), by rw [List.length_set]; exact hsz, by rw [es]; exact Nat.le_refl _, st1⟩
  rw [e1]
  refine hrel.put W1 ha ⟨ci, hci, E.wr W1, fun j g y hg hy => ?_⟩
  by_cases ji : i = j
  · subst ji
    cases hf.symm.trans hg
    rw [List.getElem?_set_self hi] at hy
    cases hy
    exact (F i f _ hf (List.getElem?_eq_getElem hi)).same W1
  · rw [List.getElem?_set_ne ji] at hy
    have hgm : g ∈ ci.2.2 := List.mem_of_getElem? hg
    refine (F j g y hg hy).other W1 (Or.inr (slot_ne (kk2 g hgm).1 (kk2 f hfm).1 ?_ (kk2 g hgm).2 (kk2 f hfm).2))
    obtain ⟨li, ei⟩ := List.getElem?_eq_some_iff.mp hf
    obtain ⟨lj, ej⟩ := List.getElem?_eq_some_iff.mp hg
    have pw := List.pairwise_iff_getElem.mp kk3
    rcases Nat.lt_or_gt_of_ne ji with q | q
    · have := pw i j li lj q; rw [ei, ej] at this; exact fun z => this z.symm
    · have := pw j i lj li q; rw [ei, ej] at this; exact this
theorem r_new {a cid idx : Nat} {ci : CI} {o : List Value} (hK : KOk K Z a0) (hd : decode mi.2.1 pc = .ok (.new idx, 3) ∧ pc + 3 = np) (w : (Jvm.Cond.classLink mi.1.cls idx ci.1).before a0 Z = true) (wz : (Jvm.Cond.initialized ci.1).before a0 Z = true) (hci : K[cid]? = some ci)
    (ho : ci.2.2.map (fun f => defaultValue f.2.2.2) = o) (ha : H.length = a) (hH : H ++ [.inl (cid, o)] = H1) (kk : Runs K l Z n0 mi np ls (.ref a :: st) H1 v H') : Runs K l Z n0 mi pc ls st H v H' := by
  obtain ⟨hd, rfl⟩ := hd
  subst ho ha hH
  obtain ⟨kk1, kk2, kk3⟩ := hK cid ci hci
  have es : osz K (.inl (cid, ci.2.2.map (fun f => defaultValue f.2.2.2))) = ci.2.1 := by show ((K[cid]?).map (fun ci => ci.2.1)).getD 0 = _; rw [hci]; rfl
  refine Runs.heap (by simp) (by rw [szs_push]; exact Nat.le_add_right _ _) (fun p e R s m args below meth c T locs cells slots X hx hZ hc hml hown hnm hrel hfr hf' hlo hsz hcl hsl => ?_) kk
  rw [szs_push, es] at hsl
  simp only [List.length_append, List.length_cons, List.length_nil] at hcl
  obtain ⟨T1, h1, X1, e1, E1, A1, D1, -, st1⟩ := newO X hx hZ hown w kk1 wz rfl (g := mkF m pc (ls.map (shS n0)).toArray (st.map (shV n0))) rfl (hb hc hd) (by omega) (by omega)
  have hs1 := X1.heapSize
  have hlt : T.heap.size < h1.size := A1.lt
  have hh := hrel.1
  rw [e1] at hs1
  refine ⟨T1, _, _, _, X1, ?_, hfr, by simp only [List.length_append, List.length_cons, List.length_nil]; omega, by rw [szs_push, es]; omega, fun t q => st1 t ?_⟩
  · rw [e1]
    refine hrel.push E1 (by omega) ⟨ci, hci, A1, fun i f x hf hx => ?_⟩
    have hfm : f ∈ ci.2.2 := List.mem_of_getElem? hf
    rw [List.getElem?_map, hf] at hx
    cases hx
    show Fld Z h1 T.heap.size f.1 f.2.1 f.2.2.1 (shV n0 (defaultValue f.2.2.2))
    rw [sh_dflt]
    exact D1 (kk2 f hfm).1 (kk2 f hfm).2
  · show Steps _ _ _ (T1.setTop (mkF m (pc + 3) _ (.ref T.heap.size :: _))) t
    rw [hh]; exact q
theorem toNat_of {n : Int32} (h : ¬ n < 0) : n.toNatClampNeg < 2 ^ 31 := (back32 h).2
theorem r_newA {a : Nat} {n : Int32} {aty : ArrayType} {o : List Value} (hd : decode mi.2.1 pc = .ok (.newarray aty, 2) ∧ pc + 2 = np) (w : (Jvm.Cond.arrayClass (newarray.typeOf aty)).before a0 Z = true) (hn : ¬ n < 0) (hb8 : n.toNatClampNeg * 8 ≤ 536870912)
    (ho : List.replicate n.toNatClampNeg (defaultValue (newarray.typeOf aty)) = o) (ha : H.length = a) (hH : H ++ [.inr (newarray.typeOf aty, o)] = H1) (kk : Runs K l Z n0 mi np ls (.ref a :: st) H1 v H') : Runs K l Z n0 mi pc ls (.int n :: st) H v H' := by
  obtain ⟨hd, rfl⟩ := hd
  subst ho ha hH
  have es : osz K (.inr (newarray.typeOf aty, List.replicate n.toNatClampNeg (defaultValue (newarray.typeOf aty)))) = n.toNatClampNeg := by show (List.replicate _ _).length = _; simp
  refine Runs.heap (by simp) (by rw [szs_push]; exact Nat.le_add_right _ _) (fun p e R s m args below meth c T locs cells slots X hx hZ hc hml hown hnm hrel hfr hf' hlo hsz hcl hsl => ?_) kk
  rw [szs_push, es] at hsl
  simp only [List.length_append, List.length_cons, List.length_nil] at hcl
  obtain ⟨T1, h1, cA, X1, e1, E1, A1, st1⟩ := newP X hx hZ w rfl (g := mkF m pc (ls.map (shS n0)).toArray (.int n :: st.map (shV n0))) rfl (hb hc hd) rfl hn (cap := n.toNatClampNeg) (Nat.le_refl _) hb8 (by omega) (by omega)
  have hs1 := X1.heapSize
  have hlt : T.heap.size < h1.size := A1.lt
  have hh := hrel.1
  rw [e1] at hs1
  refine ⟨T1, _, _, _, X1, ?_, hfr, by simp only [List.length_append, List.length_cons, List.length_nil]; omega, by rw [szs_push, es]; omega, fun t q => st1 t ?_⟩
  · rw [e1]
    refine hrel.push E1 (by omega) ⟨_, A1, by rw [sz_new]; simp, by simpa using toNat_of hn, fun i x hx => ?_⟩
    rw [List.getElem?_replicate] at hx
    split at hx
    · rename_i hi
      cases hx
      have q1 : (newA cA (newarray.typeOf aty) n).slots[i]? = some (defaultValue (newarray.typeOf aty)) := by simp [newA, hi]
      exact ⟨by rw [q1]; cases newarray.typeOf aty <;> rfl, by cases newarray.typeOf aty <;> rfl⟩
    · cases hx
  · show Steps _ _ _ (T1.setTop (mkF m (pc + 2) _ (.ref T.heap.size :: _))) t
    rw [hh]; exact q
theorem fits_byte (x : Int32) : fits .byte (.int x.toInt8.toInt32) = true := by
  have h1 : (x.toInt8.toInt32).toInt = x.toInt8.toInt := Int8.toInt_toInt32 _
  have h2 := x.toInt8.toInt_lt
  have h3 := x.toInt8.le_toInt
  have e1 : (-128 : Int32).toInt = -128 := by decide
  have e2 : (127 : Int32).toInt = 127 := by decide
  simp only [fits, Bool.and_eq_true, decide_eq_true_eq]
  rw [Int32.le_iff_toInt_le, Int32.le_iff_toInt_le, h1, e1, e2]
  omega
/-- the int j names the place i -/
def Ix (j : Int32) (i : Nat) : Prop := ¬ j < 0 ∧ j.toNatClampNeg = i
theorem r_len {a : Nat} {ty : FieldType} {vs : List Value} {n : Int32} (hd : decode mi.2.1 pc = .ok (.arraylength, 1) ∧ pc + 1 = np) (ho : H[a]? = some (.inr (ty, vs))) (hn : vs.length.toInt32 = n) (kk : Runs K l Z n0 mi np ls (.int n :: st) H v H') : Runs K l Z n0 mi pc ls (.ref a :: st) H v H' := by
  obtain ⟨hd, rfl⟩ := hd
  subst hn
  refine Runs.heap (Nat.le_refl _) (Nat.le_refl _) (fun p e R s m args below meth c T locs cells slots X hx hZ hc hml hown hnm hrel hfr hf' hlo hsz hcl hsl => ?_) kk
  obtain ⟨cl, A, hs, hl, hv⟩ := hrel.2 a _ ho
  refine ⟨T, _, _, _, X, hrel, hfr, hsz, Nat.le_refl _, fun t q => ?_⟩
  refine X.arraylength hx A.1 (State.isArrayOf_alike hZ.alike A.2.1) (g := mkF m pc (ls.map (shS n0)).toArray (.ref (n0 + a) :: st.map (shV n0))) rfl rfl (hb hc hd) _ ?_
  rw [hs]; exact q
theorem r_iaload {a i : Nat} {vs : List Value} {j : Int32} {x : Value} (hd : decode mi.2.1 pc = .ok (.iaload, 1) ∧ pc + 1 = np) (ho : H[a]? = some (.inr (.int, vs))) (hj : Ix j i) (hv : vs[i]? = some x) (kk : Runs K l Z n0 mi np ls (x :: st) H v H') : Runs K l Z n0 mi pc ls (.int j :: .ref a :: st) H v H' := by
  obtain ⟨hd, rfl⟩ := hd
  obtain ⟨hj0, rfl⟩ := hj
  refine Runs.heap (Nat.le_refl _) (Nat.le_refl _) (fun p e R s m args below meth c T locs cells slots X hx hZ hc hml hown hnm hrel hfr hf' hlo hsz hcl hsl => ?_) kk
  obtain ⟨cl, A, hs, hl, hvs⟩ := hrel.2 a _ ho
  have hi := lt_of_at hv
  refine ⟨T, _, _, _, X, hrel, hfr, hsz, Nat.le_refl _, fun t q => ?_⟩
  exact X.iaload hx (j := j) (v := shV n0 x) A.1 (State.isArrayOf_alike hZ.alike A.2.1) A.2.2 (fun z => z.elim hj0 (fun q => by rw [hs] at q; omega)) (hvs _ _ hv).1 (g := mkF m pc (ls.map (shS n0)).toArray (.int j :: .ref (n0 + a) :: st.map (shV n0))) rfl rfl (hb hc hd) _ q
theorem r_laload {a i : Nat} {vs : List Value} {j : Int32} {x : Value} (hd : decode mi.2.1 pc = .ok (.laload, 1) ∧ pc + 1 = np) (ho : H[a]? = some (.inr (.long, vs))) (hj : Ix j i) (hv : vs[i]? = some x) (kk : Runs K l Z n0 mi np ls (x :: st) H v H') : Runs K l Z n0 mi pc ls (.int j :: .ref a :: st) H v H' := by
  obtain ⟨hd, rfl⟩ := hd
  obtain ⟨hj0, rfl⟩ := hj
  refine Runs.heap (Nat.le_refl _) (Nat.le_refl _) (fun p e R s m args below meth c T locs cells slots X hx hZ hc hml hown hnm hrel hfr hf' hlo hsz hcl hsl => ?_) kk
  obtain ⟨cl, A, hs, hl, hvs⟩ := hrel.2 a _ ho
  have hi := lt_of_at hv
  refine ⟨T, _, _, _, X, hrel, hfr, hsz, Nat.le_refl _, fun t q => ?_⟩
  exact X.laload hx (j := j) (v := shV n0 x) A.1 (State.isArrayOf_alike hZ.alike A.2.1) A.2.2 (fun z => z.elim hj0 (fun q => by rw [hs] at q; omega)) (hvs _ _ hv).1 (g := mkF m pc (ls.map (shS n0)).toArray (.int j :: .ref (n0 + a) :: st.map (shV n0))) rfl rfl (hb hc hd) _ q
theorem r_baload {a i : Nat} {vs : List Value} {j : Int32} {x : Value} (hd : decode mi.2.1 pc = .ok (.baload, 1) ∧ pc + 1 = np) (ho : H[a]? = some (.inr (.byte, vs))) (hj : Ix j i) (hv : vs[i]? = some x) (kk : Runs K l Z n0 mi np ls (x :: st) H v H') : Runs K l Z n0 mi pc ls (.int j :: .ref a :: st) H v H' := by
  obtain ⟨hd, rfl⟩ := hd
  obtain ⟨hj0, rfl⟩ := hj
  refine Runs.heap (Nat.le_refl _) (Nat.le_refl _) (fun p e R s m args below meth c T locs cells slots X hx hZ hc hml hown hnm hrel hfr hf' hlo hsz hcl hsl => ?_) kk
  obtain ⟨cl, A, hs, hl, hvs⟩ := hrel.2 a _ ho
  have hi := lt_of_at hv
  refine ⟨T, _, _, _, X, hrel, hfr, hsz, Nat.le_refl _, fun t q => ?_⟩
  exact X.baloadBytes hx (j := j) (v := shV n0 x) A.1 (State.isArrayOf_alike hZ.alike A.2.1) A.2.2 (fun z => z.elim hj0 (fun q => by rw [hs] at q; omega)) (hvs _ _ hv).1 (g := mkF m pc (ls.map (shS n0)).toArray (.int j :: .ref (n0 + a) :: st.map (shV n0))) rfl rfl (hb hc hd) _ q
theorem r_caload {a i : Nat} {vs : List Value} {j : Int32} {x : Value} (hd : decode mi.2.1 pc = .ok (.caload, 1) ∧ pc + 1 = np) (ho : H[a]? = some (.inr (.char, vs))) (hj : Ix j i) (hv : vs[i]? = some x) (kk : Runs K l Z n0 mi np ls (x :: st) H v H') : Runs K l Z n0 mi pc ls (.int j :: .ref a :: st) H v H' := by
  obtain ⟨hd, rfl⟩ := hd
  obtain ⟨hj0, rfl⟩ := hj
  refine Runs.heap (Nat.le_refl _) (Nat.le_refl _) (fun p e R s m args below meth c T locs cells slots X hx hZ hc hml hown hnm hrel hfr hf' hlo hsz hcl hsl => ?_) kk
  obtain ⟨cl, A, hs, hl, hvs⟩ := hrel.2 a _ ho
  have hi := lt_of_at hv
  refine ⟨T, _, _, _, X, hrel, hfr, hsz, Nat.le_refl _, fun t q => ?_⟩
  exact X.caload hx (j := j) (v := shV n0 x) A.1 (State.isArrayOf_alike hZ.alike A.2.1) A.2.2 (fun z => z.elim hj0 (fun q => by rw [hs] at q; omega)) (hvs _ _ hv).1 (g := mkF m pc (ls.map (shS n0)).toArray (.int j :: .ref (n0 + a) :: st.map (shV n0))) rfl rfl (hb hc hd) _ q
theorem r_iastore {a i : Nat} {vs vs' : List Value} {j : Int32} {x : Int32} (hd : decode mi.2.1 pc = .ok (.iastore, 1) ∧ pc + 1 = np) (ho : H[a]? = some (.inr (.int, vs))) (hj : Ix j i) (hi : i < vs.length) (hvs : vs.set i (.int x) = vs') (hH : H.set a (.inr (.int, vs')) = H1) (kk : Runs K l Z n0 mi np ls st H1 v H') : Runs K l Z n0 mi pc ls (.int x :: .int j :: .ref a :: st) H v H' := by
  obtain ⟨hd, rfl⟩ := hd
  obtain ⟨hj0, rfl⟩ := hj
  subst hvs hH
  have ha := lt_of_at ho
  have es : szs K (H.set a (.inr (.int, vs.set j.toNatClampNeg (.int x)))) = szs K H := szs_set ho (by show (List.set _ _ _).length = _; simp [osz])
  refine Runs.heap (by rw [List.length_set]; exact Nat.le_refl _) (by rw [es]; exact Nat.le_refl _) (fun p e R s m args below meth c T locs cells slots X hx hZ hc hml hown hnm hrel hfr hf' hlo hsz hcl hsl => ?_) kk
  obtain ⟨cl, A, hs, hl, hvs⟩ := hrel.2 a _ ho
  have hin : ¬ (j < 0 ∨ cl.slots.size ≤ j.toNatClampNeg) := fun z => z.elim hj0 (fun q => by rw [hs] at q; omega)
  obtain ⟨T1, h1, X1, e1, W1, st1⟩ := stI X hx hZ rfl A hin (g := mkF m pc (ls.map (shS n0)).toArray (.int x :: .int j :: .ref (n0 + a) :: st.map (shV n0))) rfl rfl (hb hc hd)
  refine ⟨T1, _, _, _, X1, ?_, Fr.snoc X1 hfr (Nat.le_add_right _ _), by rw [List.length_set]; exact hsz, by rw [es]; exact Nat.le_refl _, st1⟩
  rw [e1]
  refine hrel.put W1 ha ⟨_, A.same W1, by rw [sz_set, hs, List.length_set], by rw [List.length_set]; exact hl, fun k y hy => ?_⟩
  by_cases e : j.toNatClampNeg = k
  · subst e
    rw [List.getElem?_set_self hi] at hy
    cases hy
    exact ⟨by simp [Cell.setSlot, hs, hi, shV, nar], rfl⟩
  · rw [List.getElem?_set_ne e] at hy
    refine ⟨?_, (hvs k y hy).2⟩
    exact (Array.getElem?_setIfInBounds_ne e).trans (hvs k y hy).1
theorem r_lastore {a i : Nat} {vs vs' : List Value} {j : Int32} {x : Int64} (hd : decode mi.2.1 pc = .ok (.lastore, 1) ∧ pc + 1 = np) (ho : H[a]? = some (.inr (.long, vs))) (hj : Ix j i) (hi : i < vs.length) (hvs : vs.set i (.long x) = vs') (hH : H.set a (.inr (.long, vs')) = H1) (kk : Runs K l Z n0 mi np ls st H1 v H') : Runs K l Z n0 mi pc ls (.long x :: .int j :: .ref a :: st) H v H' := by
  obtain ⟨hd, rfl⟩ := hd
  obtain ⟨hj0, rfl⟩ := hj
  subst hvs hH
  have ha := lt_of_at ho
  have es : szs K (H.set a (.inr (.long, vs.set j.toNatClampNeg (.long x)))) = szs K H := szs_set ho (by show (List.set _ _ _).length = _; simp [osz])
  refine Runs.heap (by rw [List.length_set]; exact Nat.le_refl _) (by rw [es]; exact Nat.le_refl _) (fun p e R s m args below meth c T locs cells slots X hx hZ hc hml hown hnm hrel hfr hf' hlo hsz hcl hsl => ?_) kk
  obtain ⟨cl, A, hs, hl, hvs⟩ := hrel.2 a _ ho
  have hin : ¬ (j < 0 ∨ cl.slots.size ≤ j.toNatClampNeg) := fun z => z.elim hj0 (fun q => by rw [hs] at q; omega)
  obtain ⟨T1, h1, X1, e1, W1, st1⟩ := stJ X hx hZ rfl A hin (g := mkF m pc (ls.map (shS n0)).toArray (.long x :: .int j :: .ref (n0 + a) :: st.map (shV n0))) rfl rfl (hb hc hd)
  refine ⟨T1, _, _, _, X1, ?_, Fr.snoc X1 hfr (Nat.le_add_right _ _), by rw [List.length_set]; exact hsz, by rw [es]; exact Nat.le_refl _, st1⟩
  rw [e1]
  refine hrel.put W1 ha ⟨_, A.same W1, by rw [sz_set, hs, List.length_set], by rw [List.length_set]; exact hl, fun k y hy => ?_⟩
  by_cases e : j.toNatClampNeg = k
  · subst e
    rw [List.getElem?_set_self hi] at hy
    cases hy
    exact ⟨by simp [Cell.setSlot, hs, hi, shV, nar], rfl⟩
  · rw [List.getElem?_set_ne e] at hy
    refine ⟨?_, (hvs k y hy).2⟩
    exact (Array.getElem?_setIfInBounds_ne e).trans (hvs k y hy).1
theorem r_bastore {a i : Nat} {vs vs' : List Value} {j : Int32} {x : Int32} (hd : decode mi.2.1 pc = .ok (.bastore, 1) ∧ pc + 1 = np) (ho : H[a]? = some (.inr (.byte, vs))) (hj : Ix j i) (hi : i < vs.length) (hvs : vs.set i (.int x.toInt8.toInt32) = vs') (hH : H.set a (.inr (.byte, vs')) = H1) (kk : Runs K l Z n0 mi np ls st H1 v H') : Runs K l Z n0 mi pc ls (.int x :: .int j :: .ref a :: st) H v H' := by
  obtain ⟨hd, rfl⟩ := hd
  obtain ⟨hj0, rfl⟩ := hj
  subst hvs hH
  have ha := lt_of_at ho
  have es : szs K (H.set a (.inr (.byte, vs.set j.toNatClampNeg (.int x.toInt8.toInt32)))) = szs K H := szs_set ho (by show (List.set _ _ _).length = _; simp [osz])
  refine Runs.heap (by rw [List.length_set]; exact Nat.le_refl _) (by rw [es]; exact Nat.le_refl _) (fun p e R s m args below meth c T locs cells slots X hx hZ hc hml hown hnm hrel hfr hf' hlo hsz hcl hsl => ?_) kk
  obtain ⟨cl, A, hs, hl, hvs⟩ := hrel.2 a _ ho
  have hin : ¬ (j < 0 ∨ cl.slots.size ≤ j.toNatClampNeg) := fun z => z.elim hj0 (fun q => by rw [hs] at q; omega)
  obtain ⟨T1, h1, X1, e1, W1, st1⟩ := stB X hx hZ rfl A hin (g := mkF m pc (ls.map (shS n0)).toArray (.int x :: .int j :: .ref (n0 + a) :: st.map (shV n0))) rfl rfl (hb hc hd)
  refine ⟨T1, _, _, _, X1, ?_, Fr.snoc X1 hfr (Nat.le_add_right _ _), by rw [List.length_set]; exact hsz, by rw [es]; exact Nat.le_refl _, st1⟩
  rw [e1]
  refine hrel.put W1 ha ⟨_, A.same W1, by rw [sz_set, hs, List.length_set], by rw [List.length_set]; exact hl, fun k y hy => ?_⟩
  by_cases e : j.toNatClampNeg = k
  · subst e
    rw [List.getElem?_set_self hi] at hy
    cases hy
    exact ⟨by simp [Cell.setSlot, hs, hi, shV, nar], fits_byte x⟩
  · rw [List.getElem?_set_ne e] at hy
    refine ⟨?_, (hvs k y hy).2⟩
    exact (Array.getElem?_setIfInBounds_ne e).trans (hvs k y hy).1
/-! ### calls -/
theorem map_toList (w : Option Value) (rest : List Value) : ((w.toList ++ rest).map (shV n0)) = (w.map (shV n0)).toList ++ rest.map (shV n0) := by cases w <;> simp
theorem r_initO {a idx : Nat} (hd : decode mi.2.1 pc = .ok (.invokespecial idx, 3) ∧ pc + 3 = np) (w1 : (Jvm.Cond.methodLink mi.1.cls idx Lib.objectInit).before a0 Z = true) (w2 : (Jvm.Cond.instanceMethod Lib.objectInit).before a0 Z = true) (w3 : (Jvm.Cond.code Lib.objectInit ⟨#[0xb1]⟩ 1 none).before a0 Z = true)
    (hls : ls.length = mi.2.2.1) (hf : 1 ≤ mi.2.2.2.2.1) (hlo : (st.map fun v => v.category).sum + 12 ≤ mi.2.2.2.2.2) (kk : Runs K l Z n0 mi np ls st H v H') : Runs K l Z n0 mi pc ls (.ref a :: st) H v H' := by
  obtain ⟨hd, rfl⟩ := hd
  refine Runs.heap (Nat.le_refl _) (Nat.le_refl _) (fun p e R s m args below meth c T locs cells slots X hx hZ hc hml hown hnm hrel hfr hf' hlo' hsz hcl hsl => ?_) kk
  obtain ⟨T1, X1, e1, st1⟩ := initO X hx hZ hown w1 w2 w3 rfl (g := mkF m pc (ls.map (shS n0)).toArray (.ref (n0 + a) :: st.map (shV n0))) rfl (by rw [hml, ← hls]; simp) rfl (hb hc hd) (by omega) (W := (st.map fun v => v.category).sum) (by rw [cats_sh]; show 2 * 0 + _ ≤ _; omega) (by omega)
  exact ⟨T1, _, _, _, X1, by rw [e1]; exact hrel, hfr, hsz, Nat.le_refl _, st1⟩
theorem backM {mj : MI} {as : List Value} {w : Option Value} {h : Heap} {p : Program} {e : Env} {R : Room} {s : State} {args : Array Value} {below : List Frame} {len W : Nat} (M : Meets K l Z n0 mj as H w H1) (hrel : Rel K Z n0 H h) (hZ : Z.Warmed39 s.vm) (w4 : (Jvm.Cond.code mj.1 mj.2.1 mj.2.2.1 mj.2.2.2.1).before a0 Z = true) (w3 : (Jvm.Cond.initialized mj.1.cls).before a0 Z = true)
    (hf : mj.2.2.2.2.1 + 1 ≤ R.frames) (hl : W + (mj.2.2.1 + 11) + mj.2.2.2.2.2 ≤ R.locals) :
    Back l R p e below s args mj.1 len W (fun A a => a = (as.map (shV n0)).toArray ∧ A.U.heap = h ∧ A.cells + (H1.length - H.length) ≤ R.cells ∧ A.slots + (szs K H1 - szs K H) ≤ R.slots)
      (fun A _ v B => ∃ L, (v = w.map (shV n0) ∧ Rel K Z n0 H1 B.U.heap ∧ Fr n0 L) ∧ B.locs = A.locs ++ L ∧ B.cells = A.cells + (H1.length - H.length) ∧ B.slots = A.slots + (szs K H1 - szs K H)) :=
  backOf (rm := rmOf K mj H H1) (Q := fun v h L => v = w.map (shV n0) ∧ Rel K Z n0 H1 h ∧ Fr n0 L) (M.2.2 h hrel) hZ w4 w3 hf hl
theorem r_static {mj : MI} {as : List Value} {w : Option Value} {idx : Nat} (hd : decode mi.2.1 pc = .ok (.invokestatic idx, 3) ∧ pc + 3 = np) (w1 : (Jvm.Cond.methodLink mi.1.cls idx mj.1).before a0 Z = true) (w2 : (Jvm.Cond.static mj.1).before a0 Z = true) (w3 : (Jvm.Cond.initialized mj.1.cls).before a0 Z = true) (w4 : (Jvm.Cond.code mj.1 mj.2.1 mj.2.2.1 mj.2.2.2.1).before a0 Z = true)
    (hy : mj.1.cls ≠ "java/lang/invoke/MethodHandle" ∧ mj.1.cls ≠ "java/lang/invoke/VarHandle") (hlen : ∀ sig, parseMethodDescriptor mj.1.desc = some sig → as.length = sig.parameters.length) (hfr : mj.2.2.2.2.1 + 1 ≤ mi.2.2.2.2.1)
    (hst : as.reverse ++ rest = st) (hls : ls.length = mi.2.2.1) (hlo : (rest.map fun v => v.category).sum + (mj.2.2.1 + 11) + mj.2.2.2.2.2 ≤ mi.2.2.2.2.2)
    (M : Meets K l Z n0 mj as H w H1) (kk : Runs K l Z n0 mi np ls (w.toList ++ rest) H1 v H') : Runs K l Z n0 mi pc ls st H v H' := by
  obtain ⟨hd, rfl⟩ := hd
  subst hst
  have m1 := M.1
  have m2 := M.2.1
  refine Runs.heap m1 m2 (fun p e R s m args below meth c T locs cells slots X hx hZ hc hml hown hnm hrel hfr' hf' hlo' hsz hcl hsl => ?_) kk
  obtain ⟨_, _, ⟨T1, L1, k1, n1⟩, -, X1, ⟨Lc, hQ, l1, y1, z1⟩, st1⟩ := Jvm.LawKit.callS X hx (y := mj.1) hown (mvT hZ w1) (mvT hZ w2) (mvT hZ w3) (mvT hZ w4) hy
    (backM (W := (rest.map fun v => v.category).sum) M hrel hZ w4 w3 (by omega) (by omega))
    (g := mkF m pc (ls.map (shS n0)).toArray ((as.reverse ++ rest).map (shV n0))) rfl (by rw [hml, ← hls]; simp) (argsL := as.map (shV n0)) (rest := rest.map (shV n0)) (fun sig q => by rw [List.length_map]; exact hlen sig q) (by simp) (by rw [cats_sh]; show 2 * 0 + _ ≤ _; omega) (hb hc hd)
    (fun _ _ => ⟨rfl, rfl, (by show cells + (H1.length - H.length) ≤ _; omega), (by show slots + (szs K H1 - szs K H) ≤ _; omega)⟩)
  dsimp only [Pt.U, Pt.locs, Pt.cells, Pt.slots] at X1 l1 y1 z1 st1 hQ
  subst l1 y1 z1
  obtain ⟨rfl, R1, F1⟩ := hQ
  refine ⟨T1, _, _, _, X1, R1, Fr.app hfr' F1, by show s.heap.size + (cells + (H1.length - H.length)) = _; omega, by show slots + (szs K H1 - szs K H) + _ ≤ _; omega, fun t q => st1 t ?_⟩
  rw [map_toList] at q; exact q
theorem r_special {mj : MI} {as : List Value} {a idx : Nat} (hd : decode mi.2.1 pc = .ok (.invokespecial idx, 3) ∧ pc + 3 = np) (hy1 : mj.1.name = "<init>") (hr : mj.2.2.2.1 = none) (w1 : (Jvm.Cond.methodLink mi.1.cls idx mj.1).before a0 Z = true) (w2 : (Jvm.Cond.instanceMethod mj.1).before a0 Z = true) (w3 : (Jvm.Cond.initialized mj.1.cls).before a0 Z = true) (w4 : (Jvm.Cond.code mj.1 mj.2.1 mj.2.2.1 mj.2.2.2.1).before a0 Z = true)
    (hy : mj.1.cls ≠ "java/lang/invoke/MethodHandle" ∧ mj.1.cls ≠ "java/lang/invoke/VarHandle") (hlen : ∀ sig, parseMethodDescriptor mj.1.desc = some sig → as.length = sig.parameters.length) (hfr : mj.2.2.2.2.1 + 1 ≤ mi.2.2.2.2.1)
    (hst : as.reverse ++ .ref a :: rest = st) (hls : ls.length = mi.2.2.1) (hlo : (rest.map fun v => v.category).sum + (mj.2.2.1 + 11) + mj.2.2.2.2.2 ≤ mi.2.2.2.2.2)
    (M : Meets K l Z n0 mj (.ref a :: as) H none H1) (kk : Runs K l Z n0 mi np ls rest H1 v H') : Runs K l Z n0 mi pc ls st H v H' := by
  obtain ⟨hd, rfl⟩ := hd
  subst hst
  have m1 := M.1
  have m2 := M.2.1
  refine Runs.heap m1 m2 (fun p e R s m args below meth c T locs cells slots X hx hZ hc hml hown hnm hrel hfr' hf' hlo' hsz hcl hsl => ?_) kk
  have w4' := w4
  rw [hr] at w4'
  obtain ⟨_, _, ⟨T1, L1, k1, n1⟩, -, X1, ⟨Lc, hQ, l1, y1, z1⟩, st1⟩ := X.specialBack hx (y := mj.1) hy1 hown (mvT hZ w1) (mvT hZ w2) (mvT hZ w4') hy
    (backM (W := (rest.map fun v => v.category).sum) M hrel hZ w4 w3 (by omega) (by omega))
    (g := mkF m pc (ls.map (shS n0)).toArray ((as.reverse ++ .ref a :: rest).map (shV n0))) rfl (by rw [hml, ← hls]; simp) (Steps.refl _) (a := n0 + a) (argsL := as.map (shV n0)) (rest := rest.map (shV n0)) (fun sig q => by rw [List.length_map]; exact hlen sig q) (by simp [shV]) (by rw [cats_sh]; show 2 * 0 + _ ≤ _; omega) (hb hc hd)
    (fun _ _ => ⟨rfl, rfl, (by show cells + (H1.length - H.length) ≤ _; omega), (by show slots + (szs K H1 - szs K H) ≤ _; omega)⟩)
  dsimp only [Pt.U, Pt.locs, Pt.cells, Pt.slots] at X1 l1 y1 z1 st1 hQ
  subst l1 y1 z1
  obtain ⟨rfl, R1, F1⟩ := hQ
  exact ⟨T1, _, _, _, X1, R1, Fr.app hfr' F1, by show s.heap.size + (cells + (H1.length - H.length)) = _; omega, by show slots + (szs K H1 - szs K H) + _ ≤ _; omega, fun t q => st1.trans q⟩
theorem r_virtual {mj : MI} {as : List Value} {w : Option Value} {a cid idx : Nat} {ci : CI} {vs : List Value} (hd : decode mi.2.1 pc = .ok (.invokevirtual idx, 3) ∧ pc + 3 = np) (w1 : (Jvm.Cond.methodLink mi.1.cls idx mj.1).before a0 Z = true) (w2 : (Jvm.Cond.declares mj.1).before a0 Z = true) (w5 : (Jvm.Cond.selects ci.1 mj.1 mj.1).before a0 Z = true) (w6 : (Jvm.Cond.instanceMethod mj.1).before a0 Z = true) (w3 : (Jvm.Cond.initialized mj.1.cls).before a0 Z = true) (w4 : (Jvm.Cond.code mj.1 mj.2.1 mj.2.2.1 mj.2.2.2.1).before a0 Z = true)
    (hy : mj.1.cls ≠ "java/lang/invoke/MethodHandle" ∧ mj.1.cls ≠ "java/lang/invoke/VarHandle") (hlen : ∀ sig, parseMethodDescriptor mj.1.desc = some sig → as.length = sig.parameters.length) (hfr : mj.2.2.2.2.1 + 1 ≤ mi.2.2.2.2.1) (hci : K[cid]? = some ci)
    (hst : as.reverse ++ .ref a :: rest = st) (ho : H[a]? = some (.inl (cid, vs))) (hls : ls.length = mi.2.2.1) (hlo : (rest.map fun v => v.category).sum + (mj.2.2.1 + 11) + mj.2.2.2.2.2 ≤ mi.2.2.2.2.2)
    (M : Meets K l Z n0 mj (.ref a :: as) H w H1) (kk : Runs K l Z n0 mi np ls (w.toList ++ rest) H1 v H') : Runs K l Z n0 mi pc ls st H v H' := by
  obtain ⟨hd, rfl⟩ := hd
  subst hst
  have m1 := M.1
  have m2 := M.2.1
  refine Runs.heap m1 m2 (fun p e R s m args below meth c T locs cells slots X hx hZ hc hml hown hnm hrel hfr' hf' hlo' hsz hcl hsl => ?_) kk
  obtain ⟨ci', q1, E, F⟩ := hrel.2 a _ ho
  cases hci.symm.trans q1
  obtain ⟨cq, kq, qa, qb, qc⟩ := isOf hZ rfl E
  obtain ⟨_, _, ⟨T1, L1, k1, n1⟩, -, X1, ⟨Lc, hQ, l1, y1, z1⟩, st1⟩ := X.virtualBack hx (y := mj.1) (z := mj.1) hown (mvT hZ w1) (mvT hZ w2) (notFace_of_selects (args := #[]) (mvT hZ w5)) (mvT hZ w5) (mvT hZ w6) hy
    (backM (W := (rest.map fun v => v.category).sum) M hrel hZ w4 w3 (by omega) (by omega)) qa qc
    (g := mkF m pc (ls.map (shS n0)).toArray ((as.reverse ++ .ref a :: rest).map (shV n0))) rfl (by rw [hml, ← hls]; simp) (Steps.refl _) (argsL := as.map (shV n0)) (rest := rest.map (shV n0)) (fun sig q => by rw [List.length_map]; exact hlen sig q) (by simp [shV]) (by rw [cats_sh]; show 2 * 0 + _ ≤ _; omega) (hb hc hd)
    (fun _ _ => ⟨rfl, rfl, (by show cells + (H1.length - H.length) ≤ _; omega), (by show slots + (szs K H1 - szs K H) ≤ _; omega)⟩)
  dsimp only [Pt.U, Pt.locs, Pt.cells, Pt.slots] at X1 l1 y1 z1 st1 hQ
  subst l1 y1 z1
  obtain ⟨rfl, R1, F1⟩ := hQ
  refine ⟨T1, _, _, _, X1, R1, Fr.app hfr' F1, by show s.heap.size + (cells + (H1.length - H.length)) = _; omega, by show slots + (szs K H1 - szs K H) + _ ≤ _; omega, fun t q => st1.trans ?_⟩
  rw [map_toList] at q; exact q
theorem r_private {mj : MI} {as : List Value} {w : Option Value} {a cid idx : Nat} {ci : CI} {vs : List Value} (hd : decode mi.2.1 pc = .ok (.invokevirtual idx, 3) ∧ pc + 3 = np) (w1 : (Jvm.Cond.methodLink mi.1.cls idx mj.1).before a0 Z = true) (w5 : (Jvm.Cond.selects mj.1.cls mj.1 mj.1).before a0 Z = true) (w7 : (Jvm.Cond.privateMethod mj.1).before a0 Z = true) (w6 : (Jvm.Cond.instanceMethod mj.1).before a0 Z = true) (w3 : (Jvm.Cond.initialized mj.1.cls).before a0 Z = true) (w4 : (Jvm.Cond.code mj.1 mj.2.1 mj.2.2.1 mj.2.2.2.1).before a0 Z = true)
    (hy : mj.1.cls ≠ "java/lang/invoke/MethodHandle" ∧ mj.1.cls ≠ "java/lang/invoke/VarHandle") (hlen : ∀ sig, parseMethodDescriptor mj.1.desc = some sig → as.length = sig.parameters.length) (hfr : mj.2.2.2.2.1 + 1 ≤ mi.2.2.2.2.1) (hci : K[cid]? = some ci)
    (hst : as.reverse ++ .ref a :: rest = st) (ho : H[a]? = some (.inl (cid, vs))) (hls : ls.length = mi.2.2.1) (hlo : (rest.map fun v => v.category).sum + (mj.2.2.1 + 11) + mj.2.2.2.2.2 ≤ mi.2.2.2.2.2)
    (M : Meets K l Z n0 mj (.ref a :: as) H w H1) (kk : Runs K l Z n0 mi np ls (w.toList ++ rest) H1 v H') : Runs K l Z n0 mi pc ls st H v H' := by
  obtain ⟨hd, rfl⟩ := hd
  subst hst
  have m1 := M.1
  have m2 := M.2.1
  refine Runs.heap m1 m2 (fun p e R s m args below meth c T locs cells slots X hx hZ hc hml hown hnm hrel hfr' hf' hlo' hsz hcl hsl => ?_) kk
  obtain ⟨ci', q1, E, F⟩ := hrel.2 a _ ho
  cases hci.symm.trans q1
  obtain ⟨cq, qa, qc⟩ := E.cell
  obtain ⟨_, _, ⟨T1, L1, k1, n1⟩, -, X1, ⟨Lc, hQ, l1, y1, z1⟩, st1⟩ := X.privateBack hx (y := mj.1) hown (mvT hZ w1) (mvT hZ w6) (mvT hZ w5) (Cond.privateMethod_at (mvP hZ w7 (args := #[]))) (mvT hZ w4) hy
    (backM (W := (rest.map fun v => v.category).sum) M hrel hZ w4 w3 (by omega) (by omega))
    (g := mkF m pc (ls.map (shS n0)).toArray ((as.reverse ++ .ref a :: rest).map (shV n0))) rfl (by rw [hml, ← hls]; simp) (Steps.refl _) (a := n0 + a) qa qc (argsL := as.map (shV n0)) (rest := rest.map (shV n0)) (fun sig q => by rw [List.length_map]; exact hlen sig q) (by simp [shV]) (by rw [cats_sh]; show 2 * 0 + _ ≤ _; omega) (hb hc hd)
    (fun _ _ => ⟨rfl, rfl, (by show cells + (H1.length - H.length) ≤ _; omega), (by show slots + (szs K H1 - szs K H) ≤ _; omega)⟩)
  dsimp only [Pt.U, Pt.locs, Pt.cells, Pt.slots] at X1 l1 y1 z1 st1 hQ
  subst l1 y1 z1
  obtain ⟨rfl, R1, F1⟩ := hQ
  refine ⟨T1, _, _, _, X1, R1, Fr.app hfr' F1, by show s.heap.size + (cells + (H1.length - H.length)) = _; omega, by show slots + (szs K H1 - szs K H) + _ ≤ _; omega, fun t q => st1.trans ?_⟩
  rw [map_toList] at q; exact q
end Logic
abbrev HW (Z : State) (a0 : Array Value) : Prop := ∀ d ∈ tables_1, d.before a0 Z = true
def K : List CI := []
theorem allL0 {α : Type} {P : α → Prop} : ∀ x ∈ ([] : List α), P x := fun _ q => nomatch q
theorem allLS {α : Type} {P : α → Prop} {y : α} {L : List α} (q : P y) (r : ∀ x ∈ L, P x) : ∀ x ∈ y :: L, P x := fun x z => (List.mem_cons.mp z).elim (fun u => u ▸ q) (r x)
theorem kok {Z : State} {a0 : Array Value} (hw : HW Z a0) : KOk K Z a0 := by
  intro k ci h
  simp [K] at h
def m0 : MI := (x, code, 10, some .boolean, 1, 15)
def m1 : MI := (⟨"com/example/fenced_disk_locks/fenceddisklocks/BigEndian", "putLong", "([BIJ)I"⟩, prog_1_method_2_code, 4, some .int, 0, 0)
def m2 : MI := (⟨"com/example/fenced_disk_locks/fenceddisklocks/BigEndianPutLongPinLaw", "keeps", "([BIIB)Z"⟩, method_3_code, 4, some .boolean, 0, 0)
theorem pd0 : parseMethodDescriptor "(JII)Z" = some ⟨[.long, .int, .int], some .boolean⟩ := by decide +kernel
theorem pf0 : plainFor m0.1 = true := by first | exact plainFor_of_name (by first | (simp [m0, x, plainName, overriddenIn]; done) | decide +kernel) | decide +kernel
theorem pd1 : parseMethodDescriptor "([BIJ)I" = some ⟨[(.array .byte), .int, .long], some .int⟩ := by decide +kernel
theorem pf1 : plainFor m1.1 = true := by first | exact plainFor_of_name (by first | (simp [m1, x, plainName, overriddenIn]; done) | decide +kernel) | decide +kernel
theorem pd2 : parseMethodDescriptor "([BIIB)Z" = some ⟨[(.array .byte), .int, .int, .byte], some .boolean⟩ := by decide +kernel
theorem pf2 : plainFor m2.1 = true := by first | exact plainFor_of_name (by first | (simp [m2, x, plainName, overriddenIn]; done) | decide +kernel) | decide +kernel
theorem i0_0 : decode m0.2.1 0 = .ok (.iload_n 2, 1) ∧ 0 + 1 = 1 := ⟨by decide +kernel, rfl⟩
theorem i0_1 : decode m0.2.1 1 = .ok (.ldc 7, 2) ∧ 1 + 2 = 3 := ⟨by decide +kernel, rfl⟩
theorem i0_3 : decode m0.2.1 3 = .ok (.iand, 1) ∧ 3 + 1 = 4 := ⟨by decide +kernel, rfl⟩
theorem i0_4 : decode m0.2.1 4 = .ok (.iconst 5, 1) ∧ 4 + 1 = 5 ∧ Int32.ofInt 5 = 5 := ⟨by decide +kernel, rfl, by decide⟩
theorem i0_5 : decode m0.2.1 5 = .ok (.irem, 1) ∧ 5 + 1 = 6 := ⟨by decide +kernel, rfl⟩
theorem i0_6 : decode m0.2.1 6 = .ok (.istore 4, 2) ∧ 6 + 2 = 8 := ⟨by decide +kernel, rfl⟩
theorem i0_8 : decode m0.2.1 8 = .ok (.iload_n 3, 1) ∧ 8 + 1 = 9 := ⟨by decide +kernel, rfl⟩
theorem i0_9 : decode m0.2.1 9 = .ok (.i2b, 1) ∧ 9 + 1 = 10 := ⟨by decide +kernel, rfl⟩
theorem i0_10 : decode m0.2.1 10 = .ok (.istore 5, 2) ∧ 10 + 2 = 12 := ⟨by decide +kernel, rfl⟩
theorem i0_12 : decode m0.2.1 12 = .ok (.bipush 12, 2) ∧ 12 + 2 = 14 ∧ (Int8.ofInt 12).toInt32 = 12 := ⟨by decide +kernel, rfl, by decide⟩
theorem i0_14 : decode m0.2.1 14 = .ok (.newarray .byte, 2) ∧ 14 + 2 = 16 := ⟨by decide +kernel, rfl⟩
theorem i0_16 : decode m0.2.1 16 = .ok (.astore 6, 2) ∧ 16 + 2 = 18 := ⟨by decide +kernel, rfl⟩
theorem i0_18 : decode m0.2.1 18 = .ok (.aload 6, 2) ∧ 18 + 2 = 20 := ⟨by decide +kernel, rfl⟩
theorem i0_20 : decode m0.2.1 20 = .ok (.iconst 0, 1) ∧ 20 + 1 = 21 ∧ Int32.ofInt 0 = 0 := ⟨by decide +kernel, rfl, by decide⟩
theorem i0_21 : decode m0.2.1 21 = .ok (.iload 5, 2) ∧ 21 + 2 = 23 := ⟨by decide +kernel, rfl⟩
theorem i0_23 : decode m0.2.1 23 = .ok (.bastore, 1) ∧ 23 + 1 = 24 := ⟨by decide +kernel, rfl⟩
theorem i0_24 : decode m0.2.1 24 = .ok (.aload 6, 2) ∧ 24 + 2 = 26 := ⟨by decide +kernel, rfl⟩
theorem i0_26 : decode m0.2.1 26 = .ok (.iconst 1, 1) ∧ 26 + 1 = 27 ∧ Int32.ofInt 1 = 1 := ⟨by decide +kernel, rfl, by decide⟩
theorem i0_27 : decode m0.2.1 27 = .ok (.iload 5, 2) ∧ 27 + 2 = 29 := ⟨by decide +kernel, rfl⟩
theorem i0_29 : decode m0.2.1 29 = .ok (.bastore, 1) ∧ 29 + 1 = 30 := ⟨by decide +kernel, rfl⟩
theorem i0_30 : decode m0.2.1 30 = .ok (.aload 6, 2) ∧ 30 + 2 = 32 := ⟨by decide +kernel, rfl⟩
theorem i0_32 : decode m0.2.1 32 = .ok (.iconst 2, 1) ∧ 32 + 1 = 33 ∧ Int32.ofInt 2 = 2 := ⟨by decide +kernel, rfl, by decide⟩
theorem i0_33 : decode m0.2.1 33 = .ok (.iload 5, 2) ∧ 33 + 2 = 35 := ⟨by decide +kernel, rfl⟩
theorem i0_35 : decode m0.2.1 35 = .ok (.bastore, 1) ∧ 35 + 1 = 36 := ⟨by decide +kernel, rfl⟩
theorem i0_36 : decode m0.2.1 36 = .ok (.aload 6, 2) ∧ 36 + 2 = 38 := ⟨by decide +kernel, rfl⟩
theorem i0_38 : decode m0.2.1 38 = .ok (.iconst 3, 1) ∧ 38 + 1 = 39 ∧ Int32.ofInt 3 = 3 := ⟨by decide +kernel, rfl, by decide⟩
theorem i0_39 : decode m0.2.1 39 = .ok (.iload 5, 2) ∧ 39 + 2 = 41 := ⟨by decide +kernel, rfl⟩
theorem i0_41 : decode m0.2.1 41 = .ok (.bastore, 1) ∧ 41 + 1 = 42 := ⟨by decide +kernel, rfl⟩
theorem i0_42 : decode m0.2.1 42 = .ok (.aload 6, 2) ∧ 42 + 2 = 44 := ⟨by decide +kernel, rfl⟩
theorem i0_44 : decode m0.2.1 44 = .ok (.iconst 4, 1) ∧ 44 + 1 = 45 ∧ Int32.ofInt 4 = 4 := ⟨by decide +kernel, rfl, by decide⟩
theorem i0_45 : decode m0.2.1 45 = .ok (.iload 5, 2) ∧ 45 + 2 = 47 := ⟨by decide +kernel, rfl⟩
theorem i0_47 : decode m0.2.1 47 = .ok (.bastore, 1) ∧ 47 + 1 = 48 := ⟨by decide +kernel, rfl⟩
theorem i0_48 : decode m0.2.1 48 = .ok (.aload 6, 2) ∧ 48 + 2 = 50 := ⟨by decide +kernel, rfl⟩
theorem i0_50 : decode m0.2.1 50 = .ok (.iconst 5, 1) ∧ 50 + 1 = 51 ∧ Int32.ofInt 5 = 5 := ⟨by decide +kernel, rfl, by decide⟩
theorem i0_51 : decode m0.2.1 51 = .ok (.iload 5, 2) ∧ 51 + 2 = 53 := ⟨by decide +kernel, rfl⟩
theorem i0_53 : decode m0.2.1 53 = .ok (.bastore, 1) ∧ 53 + 1 = 54 := ⟨by decide +kernel, rfl⟩
theorem i0_54 : decode m0.2.1 54 = .ok (.aload 6, 2) ∧ 54 + 2 = 56 := ⟨by decide +kernel, rfl⟩
theorem i0_56 : decode m0.2.1 56 = .ok (.bipush 6, 2) ∧ 56 + 2 = 58 ∧ (Int8.ofInt 6).toInt32 = 6 := ⟨by decide +kernel, rfl, by decide⟩
theorem i0_58 : decode m0.2.1 58 = .ok (.iload 5, 2) ∧ 58 + 2 = 60 := ⟨by decide +kernel, rfl⟩
theorem i0_60 : decode m0.2.1 60 = .ok (.bastore, 1) ∧ 60 + 1 = 61 := ⟨by decide +kernel, rfl⟩
theorem i0_61 : decode m0.2.1 61 = .ok (.aload 6, 2) ∧ 61 + 2 = 63 := ⟨by decide +kernel, rfl⟩
theorem i0_63 : decode m0.2.1 63 = .ok (.bipush 7, 2) ∧ 63 + 2 = 65 ∧ (Int8.ofInt 7).toInt32 = 7 := ⟨by decide +kernel, rfl, by decide⟩
theorem i0_65 : decode m0.2.1 65 = .ok (.iload 5, 2) ∧ 65 + 2 = 67 := ⟨by decide +kernel, rfl⟩
theorem i0_67 : decode m0.2.1 67 = .ok (.bastore, 1) ∧ 67 + 1 = 68 := ⟨by decide +kernel, rfl⟩
theorem i0_68 : decode m0.2.1 68 = .ok (.aload 6, 2) ∧ 68 + 2 = 70 := ⟨by decide +kernel, rfl⟩
theorem i0_70 : decode m0.2.1 70 = .ok (.bipush 8, 2) ∧ 70 + 2 = 72 ∧ (Int8.ofInt 8).toInt32 = 8 := ⟨by decide +kernel, rfl, by decide⟩
theorem i0_72 : decode m0.2.1 72 = .ok (.iload 5, 2) ∧ 72 + 2 = 74 := ⟨by decide +kernel, rfl⟩
theorem i0_74 : decode m0.2.1 74 = .ok (.bastore, 1) ∧ 74 + 1 = 75 := ⟨by decide +kernel, rfl⟩
theorem i0_75 : decode m0.2.1 75 = .ok (.aload 6, 2) ∧ 75 + 2 = 77 := ⟨by decide +kernel, rfl⟩
theorem i0_77 : decode m0.2.1 77 = .ok (.bipush 9, 2) ∧ 77 + 2 = 79 ∧ (Int8.ofInt 9).toInt32 = 9 := ⟨by decide +kernel, rfl, by decide⟩
theorem i0_79 : decode m0.2.1 79 = .ok (.iload 5, 2) ∧ 79 + 2 = 81 := ⟨by decide +kernel, rfl⟩
theorem i0_81 : decode m0.2.1 81 = .ok (.bastore, 1) ∧ 81 + 1 = 82 := ⟨by decide +kernel, rfl⟩
theorem i0_82 : decode m0.2.1 82 = .ok (.aload 6, 2) ∧ 82 + 2 = 84 := ⟨by decide +kernel, rfl⟩
theorem i0_84 : decode m0.2.1 84 = .ok (.bipush 10, 2) ∧ 84 + 2 = 86 ∧ (Int8.ofInt 10).toInt32 = 10 := ⟨by decide +kernel, rfl, by decide⟩
theorem i0_86 : decode m0.2.1 86 = .ok (.iload 5, 2) ∧ 86 + 2 = 88 := ⟨by decide +kernel, rfl⟩
theorem i0_88 : decode m0.2.1 88 = .ok (.bastore, 1) ∧ 88 + 1 = 89 := ⟨by decide +kernel, rfl⟩
theorem i0_89 : decode m0.2.1 89 = .ok (.aload 6, 2) ∧ 89 + 2 = 91 := ⟨by decide +kernel, rfl⟩
theorem i0_91 : decode m0.2.1 91 = .ok (.bipush 11, 2) ∧ 91 + 2 = 93 ∧ (Int8.ofInt 11).toInt32 = 11 := ⟨by decide +kernel, rfl, by decide⟩
theorem i0_93 : decode m0.2.1 93 = .ok (.iload 5, 2) ∧ 93 + 2 = 95 := ⟨by decide +kernel, rfl⟩
theorem i0_95 : decode m0.2.1 95 = .ok (.bastore, 1) ∧ 95 + 1 = 96 := ⟨by decide +kernel, rfl⟩
theorem i0_96 : decode m0.2.1 96 = .ok (.aload 6, 2) ∧ 96 + 2 = 98 := ⟨by decide +kernel, rfl⟩
theorem i0_98 : decode m0.2.1 98 = .ok (.iload 4, 2) ∧ 98 + 2 = 100 := ⟨by decide +kernel, rfl⟩
theorem i0_100 : decode m0.2.1 100 = .ok (.lload_n 0, 1) ∧ 100 + 1 = 101 := ⟨by decide +kernel, rfl⟩
theorem i0_101 : decode m0.2.1 101 = .ok (.invokestatic 8, 3) ∧ 101 + 3 = 104 := ⟨by decide +kernel, rfl⟩
theorem i0_104 : decode m0.2.1 104 = .ok (.istore 7, 2) ∧ 104 + 2 = 106 := ⟨by decide +kernel, rfl⟩
theorem i0_106 : decode m0.2.1 106 = .ok (.iload 7, 2) ∧ 106 + 2 = 108 := ⟨by decide +kernel, rfl⟩
theorem i0_108 : decode m0.2.1 108 = .ok (.iload 4, 2) ∧ 108 + 2 = 110 := ⟨by decide +kernel, rfl⟩
theorem i0_110 : decode m0.2.1 110 = .ok (.bipush 8, 2) ∧ 110 + 2 = 112 ∧ (Int8.ofInt 8).toInt32 = 8 := ⟨by decide +kernel, rfl, by decide⟩
theorem i0_112 : decode m0.2.1 112 = .ok (.iadd, 1) ∧ 112 + 1 = 113 := ⟨by decide +kernel, rfl⟩
theorem i0_113 : decode m0.2.1 113 = .ok (.if_icmp .eq 5, 3) ∧ 113 + 3 = 116 ∧ 0 ≤ ((113 : Nat) : Int) + 5 ∧ (((113 : Nat) : Int) + 5).toNat = 118 := ⟨by decide +kernel, rfl, by decide, by decide⟩
theorem i0_116 : decode m0.2.1 116 = .ok (.iconst 0, 1) ∧ 116 + 1 = 117 ∧ Int32.ofInt 0 = 0 := ⟨by decide +kernel, rfl, by decide⟩
theorem i0_117 : decode m0.2.1 117 = .ok (.ireturn, 1) := by decide +kernel
theorem i0_118 : decode m0.2.1 118 = .ok (.aload 6, 2) ∧ 118 + 2 = 120 := ⟨by decide +kernel, rfl⟩
theorem i0_120 : decode m0.2.1 120 = .ok (.iload 4, 2) ∧ 120 + 2 = 122 := ⟨by decide +kernel, rfl⟩
theorem i0_122 : decode m0.2.1 122 = .ok (.baload, 1) ∧ 122 + 1 = 123 := ⟨by decide +kernel, rfl⟩
theorem i0_123 : decode m0.2.1 123 = .ok (.sipush 255, 3) ∧ 123 + 3 = 126 ∧ (Int16.ofInt 255).toInt32 = 255 := ⟨by decide +kernel, rfl, by decide⟩
theorem i0_126 : decode m0.2.1 126 = .ok (.iand, 1) ∧ 126 + 1 = 127 := ⟨by decide +kernel, rfl⟩
theorem i0_127 : decode m0.2.1 127 = .ok (.i2l, 1) ∧ 127 + 1 = 128 := ⟨by decide +kernel, rfl⟩
theorem i0_128 : decode m0.2.1 128 = .ok (.bipush 56, 2) ∧ 128 + 2 = 130 ∧ (Int8.ofInt 56).toInt32 = 56 := ⟨by decide +kernel, rfl, by decide⟩
theorem i0_130 : decode m0.2.1 130 = .ok (.lshl, 1) ∧ 130 + 1 = 131 := ⟨by decide +kernel, rfl⟩
theorem i0_131 : decode m0.2.1 131 = .ok (.aload 6, 2) ∧ 131 + 2 = 133 := ⟨by decide +kernel, rfl⟩
theorem i0_133 : decode m0.2.1 133 = .ok (.iload 4, 2) ∧ 133 + 2 = 135 := ⟨by decide +kernel, rfl⟩
theorem i0_135 : decode m0.2.1 135 = .ok (.iconst 1, 1) ∧ 135 + 1 = 136 ∧ Int32.ofInt 1 = 1 := ⟨by decide +kernel, rfl, by decide⟩
theorem i0_136 : decode m0.2.1 136 = .ok (.iadd, 1) ∧ 136 + 1 = 137 := ⟨by decide +kernel, rfl⟩
theorem i0_137 : decode m0.2.1 137 = .ok (.baload, 1) ∧ 137 + 1 = 138 := ⟨by decide +kernel, rfl⟩
theorem i0_138 : decode m0.2.1 138 = .ok (.sipush 255, 3) ∧ 138 + 3 = 141 ∧ (Int16.ofInt 255).toInt32 = 255 := ⟨by decide +kernel, rfl, by decide⟩
theorem i0_141 : decode m0.2.1 141 = .ok (.iand, 1) ∧ 141 + 1 = 142 := ⟨by decide +kernel, rfl⟩
theorem i0_142 : decode m0.2.1 142 = .ok (.i2l, 1) ∧ 142 + 1 = 143 := ⟨by decide +kernel, rfl⟩
theorem i0_143 : decode m0.2.1 143 = .ok (.bipush 48, 2) ∧ 143 + 2 = 145 ∧ (Int8.ofInt 48).toInt32 = 48 := ⟨by decide +kernel, rfl, by decide⟩
theorem i0_145 : decode m0.2.1 145 = .ok (.lshl, 1) ∧ 145 + 1 = 146 := ⟨by decide +kernel, rfl⟩
theorem i0_146 : decode m0.2.1 146 = .ok (.lor, 1) ∧ 146 + 1 = 147 := ⟨by decide +kernel, rfl⟩
theorem i0_147 : decode m0.2.1 147 = .ok (.aload 6, 2) ∧ 147 + 2 = 149 := ⟨by decide +kernel, rfl⟩
theorem i0_149 : decode m0.2.1 149 = .ok (.iload 4, 2) ∧ 149 + 2 = 151 := ⟨by decide +kernel, rfl⟩
theorem i0_151 : decode m0.2.1 151 = .ok (.iconst 2, 1) ∧ 151 + 1 = 152 ∧ Int32.ofInt 2 = 2 := ⟨by decide +kernel, rfl, by decide⟩
theorem i0_152 : decode m0.2.1 152 = .ok (.iadd, 1) ∧ 152 + 1 = 153 := ⟨by decide +kernel, rfl⟩
theorem i0_153 : decode m0.2.1 153 = .ok (.baload, 1) ∧ 153 + 1 = 154 := ⟨by decide +kernel, rfl⟩
theorem i0_154 : decode m0.2.1 154 = .ok (.sipush 255, 3) ∧ 154 + 3 = 157 ∧ (Int16.ofInt 255).toInt32 = 255 := ⟨by decide +kernel, rfl, by decide⟩
theorem i0_157 : decode m0.2.1 157 = .ok (.iand, 1) ∧ 157 + 1 = 158 := ⟨by decide +kernel, rfl⟩
theorem i0_158 : decode m0.2.1 158 = .ok (.i2l, 1) ∧ 158 + 1 = 159 := ⟨by decide +kernel, rfl⟩
theorem i0_159 : decode m0.2.1 159 = .ok (.bipush 40, 2) ∧ 159 + 2 = 161 ∧ (Int8.ofInt 40).toInt32 = 40 := ⟨by decide +kernel, rfl, by decide⟩
theorem i0_161 : decode m0.2.1 161 = .ok (.lshl, 1) ∧ 161 + 1 = 162 := ⟨by decide +kernel, rfl⟩
theorem i0_162 : decode m0.2.1 162 = .ok (.lor, 1) ∧ 162 + 1 = 163 := ⟨by decide +kernel, rfl⟩
theorem i0_163 : decode m0.2.1 163 = .ok (.aload 6, 2) ∧ 163 + 2 = 165 := ⟨by decide +kernel, rfl⟩
theorem i0_165 : decode m0.2.1 165 = .ok (.iload 4, 2) ∧ 165 + 2 = 167 := ⟨by decide +kernel, rfl⟩
theorem i0_167 : decode m0.2.1 167 = .ok (.iconst 3, 1) ∧ 167 + 1 = 168 ∧ Int32.ofInt 3 = 3 := ⟨by decide +kernel, rfl, by decide⟩
theorem i0_168 : decode m0.2.1 168 = .ok (.iadd, 1) ∧ 168 + 1 = 169 := ⟨by decide +kernel, rfl⟩
theorem i0_169 : decode m0.2.1 169 = .ok (.baload, 1) ∧ 169 + 1 = 170 := ⟨by decide +kernel, rfl⟩
theorem i0_170 : decode m0.2.1 170 = .ok (.sipush 255, 3) ∧ 170 + 3 = 173 ∧ (Int16.ofInt 255).toInt32 = 255 := ⟨by decide +kernel, rfl, by decide⟩
theorem i0_173 : decode m0.2.1 173 = .ok (.iand, 1) ∧ 173 + 1 = 174 := ⟨by decide +kernel, rfl⟩
theorem i0_174 : decode m0.2.1 174 = .ok (.i2l, 1) ∧ 174 + 1 = 175 := ⟨by decide +kernel, rfl⟩
theorem i0_175 : decode m0.2.1 175 = .ok (.bipush 32, 2) ∧ 175 + 2 = 177 ∧ (Int8.ofInt 32).toInt32 = 32 := ⟨by decide +kernel, rfl, by decide⟩
theorem i0_177 : decode m0.2.1 177 = .ok (.lshl, 1) ∧ 177 + 1 = 178 := ⟨by decide +kernel, rfl⟩
theorem i0_178 : decode m0.2.1 178 = .ok (.lor, 1) ∧ 178 + 1 = 179 := ⟨by decide +kernel, rfl⟩
theorem i0_179 : decode m0.2.1 179 = .ok (.aload 6, 2) ∧ 179 + 2 = 181 := ⟨by decide +kernel, rfl⟩
theorem i0_181 : decode m0.2.1 181 = .ok (.iload 4, 2) ∧ 181 + 2 = 183 := ⟨by decide +kernel, rfl⟩
theorem i0_183 : decode m0.2.1 183 = .ok (.iconst 4, 1) ∧ 183 + 1 = 184 ∧ Int32.ofInt 4 = 4 := ⟨by decide +kernel, rfl, by decide⟩
theorem i0_184 : decode m0.2.1 184 = .ok (.iadd, 1) ∧ 184 + 1 = 185 := ⟨by decide +kernel, rfl⟩
theorem i0_185 : decode m0.2.1 185 = .ok (.baload, 1) ∧ 185 + 1 = 186 := ⟨by decide +kernel, rfl⟩
theorem i0_186 : decode m0.2.1 186 = .ok (.sipush 255, 3) ∧ 186 + 3 = 189 ∧ (Int16.ofInt 255).toInt32 = 255 := ⟨by decide +kernel, rfl, by decide⟩
theorem i0_189 : decode m0.2.1 189 = .ok (.iand, 1) ∧ 189 + 1 = 190 := ⟨by decide +kernel, rfl⟩
theorem i0_190 : decode m0.2.1 190 = .ok (.i2l, 1) ∧ 190 + 1 = 191 := ⟨by decide +kernel, rfl⟩
theorem i0_191 : decode m0.2.1 191 = .ok (.bipush 24, 2) ∧ 191 + 2 = 193 ∧ (Int8.ofInt 24).toInt32 = 24 := ⟨by decide +kernel, rfl, by decide⟩
theorem i0_193 : decode m0.2.1 193 = .ok (.lshl, 1) ∧ 193 + 1 = 194 := ⟨by decide +kernel, rfl⟩
theorem i0_194 : decode m0.2.1 194 = .ok (.lor, 1) ∧ 194 + 1 = 195 := ⟨by decide +kernel, rfl⟩
theorem i0_195 : decode m0.2.1 195 = .ok (.aload 6, 2) ∧ 195 + 2 = 197 := ⟨by decide +kernel, rfl⟩
theorem i0_197 : decode m0.2.1 197 = .ok (.iload 4, 2) ∧ 197 + 2 = 199 := ⟨by decide +kernel, rfl⟩
theorem i0_199 : decode m0.2.1 199 = .ok (.iconst 5, 1) ∧ 199 + 1 = 200 ∧ Int32.ofInt 5 = 5 := ⟨by decide +kernel, rfl, by decide⟩
theorem i0_200 : decode m0.2.1 200 = .ok (.iadd, 1) ∧ 200 + 1 = 201 := ⟨by decide +kernel, rfl⟩
theorem i0_201 : decode m0.2.1 201 = .ok (.baload, 1) ∧ 201 + 1 = 202 := ⟨by decide +kernel, rfl⟩
theorem i0_202 : decode m0.2.1 202 = .ok (.sipush 255, 3) ∧ 202 + 3 = 205 ∧ (Int16.ofInt 255).toInt32 = 255 := ⟨by decide +kernel, rfl, by decide⟩
theorem i0_205 : decode m0.2.1 205 = .ok (.iand, 1) ∧ 205 + 1 = 206 := ⟨by decide +kernel, rfl⟩
theorem i0_206 : decode m0.2.1 206 = .ok (.i2l, 1) ∧ 206 + 1 = 207 := ⟨by decide +kernel, rfl⟩
theorem i0_207 : decode m0.2.1 207 = .ok (.bipush 16, 2) ∧ 207 + 2 = 209 ∧ (Int8.ofInt 16).toInt32 = 16 := ⟨by decide +kernel, rfl, by decide⟩
theorem i0_209 : decode m0.2.1 209 = .ok (.lshl, 1) ∧ 209 + 1 = 210 := ⟨by decide +kernel, rfl⟩
theorem i0_210 : decode m0.2.1 210 = .ok (.lor, 1) ∧ 210 + 1 = 211 := ⟨by decide +kernel, rfl⟩
theorem i0_211 : decode m0.2.1 211 = .ok (.aload 6, 2) ∧ 211 + 2 = 213 := ⟨by decide +kernel, rfl⟩
theorem i0_213 : decode m0.2.1 213 = .ok (.iload 4, 2) ∧ 213 + 2 = 215 := ⟨by decide +kernel, rfl⟩
theorem i0_215 : decode m0.2.1 215 = .ok (.bipush 6, 2) ∧ 215 + 2 = 217 ∧ (Int8.ofInt 6).toInt32 = 6 := ⟨by decide +kernel, rfl, by decide⟩
theorem i0_217 : decode m0.2.1 217 = .ok (.iadd, 1) ∧ 217 + 1 = 218 := ⟨by decide +kernel, rfl⟩
theorem i0_218 : decode m0.2.1 218 = .ok (.baload, 1) ∧ 218 + 1 = 219 := ⟨by decide +kernel, rfl⟩
theorem i0_219 : decode m0.2.1 219 = .ok (.sipush 255, 3) ∧ 219 + 3 = 222 ∧ (Int16.ofInt 255).toInt32 = 255 := ⟨by decide +kernel, rfl, by decide⟩
theorem i0_222 : decode m0.2.1 222 = .ok (.iand, 1) ∧ 222 + 1 = 223 := ⟨by decide +kernel, rfl⟩
theorem i0_223 : decode m0.2.1 223 = .ok (.i2l, 1) ∧ 223 + 1 = 224 := ⟨by decide +kernel, rfl⟩
theorem i0_224 : decode m0.2.1 224 = .ok (.bipush 8, 2) ∧ 224 + 2 = 226 ∧ (Int8.ofInt 8).toInt32 = 8 := ⟨by decide +kernel, rfl, by decide⟩
theorem i0_226 : decode m0.2.1 226 = .ok (.lshl, 1) ∧ 226 + 1 = 227 := ⟨by decide +kernel, rfl⟩
theorem i0_227 : decode m0.2.1 227 = .ok (.lor, 1) ∧ 227 + 1 = 228 := ⟨by decide +kernel, rfl⟩
theorem i0_228 : decode m0.2.1 228 = .ok (.aload 6, 2) ∧ 228 + 2 = 230 := ⟨by decide +kernel, rfl⟩
theorem i0_230 : decode m0.2.1 230 = .ok (.iload 4, 2) ∧ 230 + 2 = 232 := ⟨by decide +kernel, rfl⟩
theorem i0_232 : decode m0.2.1 232 = .ok (.bipush 7, 2) ∧ 232 + 2 = 234 ∧ (Int8.ofInt 7).toInt32 = 7 := ⟨by decide +kernel, rfl, by decide⟩
theorem i0_234 : decode m0.2.1 234 = .ok (.iadd, 1) ∧ 234 + 1 = 235 := ⟨by decide +kernel, rfl⟩
theorem i0_235 : decode m0.2.1 235 = .ok (.baload, 1) ∧ 235 + 1 = 236 := ⟨by decide +kernel, rfl⟩
theorem i0_236 : decode m0.2.1 236 = .ok (.sipush 255, 3) ∧ 236 + 3 = 239 ∧ (Int16.ofInt 255).toInt32 = 255 := ⟨by decide +kernel, rfl, by decide⟩
theorem i0_239 : decode m0.2.1 239 = .ok (.iand, 1) ∧ 239 + 1 = 240 := ⟨by decide +kernel, rfl⟩
theorem i0_240 : decode m0.2.1 240 = .ok (.i2l, 1) ∧ 240 + 1 = 241 := ⟨by decide +kernel, rfl⟩
theorem i0_241 : decode m0.2.1 241 = .ok (.lor, 1) ∧ 241 + 1 = 242 := ⟨by decide +kernel, rfl⟩
theorem i0_242 : decode m0.2.1 242 = .ok (.lstore 8, 2) ∧ 242 + 2 = 244 := ⟨by decide +kernel, rfl⟩
theorem i0_244 : decode m0.2.1 244 = .ok (.lload 8, 2) ∧ 244 + 2 = 246 := ⟨by decide +kernel, rfl⟩
theorem i0_246 : decode m0.2.1 246 = .ok (.lload_n 0, 1) ∧ 246 + 1 = 247 := ⟨by decide +kernel, rfl⟩
theorem i0_247 : decode m0.2.1 247 = .ok (.lcmp, 1) ∧ 247 + 1 = 248 := ⟨by decide +kernel, rfl⟩
theorem i0_248 : decode m0.2.1 248 = .ok (.ifCond .eq 5, 3) ∧ 248 + 3 = 251 ∧ 0 ≤ ((248 : Nat) : Int) + 5 ∧ (((248 : Nat) : Int) + 5).toNat = 253 := ⟨by decide +kernel, rfl, by decide, by decide⟩
theorem i0_251 : decode m0.2.1 251 = .ok (.iconst 0, 1) ∧ 251 + 1 = 252 ∧ Int32.ofInt 0 = 0 := ⟨by decide +kernel, rfl, by decide⟩
theorem i0_252 : decode m0.2.1 252 = .ok (.ireturn, 1) := by decide +kernel
theorem i0_253 : decode m0.2.1 253 = .ok (.aload 6, 2) ∧ 253 + 2 = 255 := ⟨by decide +kernel, rfl⟩
theorem i0_255 : decode m0.2.1 255 = .ok (.iconst 0, 1) ∧ 255 + 1 = 256 ∧ Int32.ofInt 0 = 0 := ⟨by decide +kernel, rfl, by decide⟩
theorem i0_256 : decode m0.2.1 256 = .ok (.iload 4, 2) ∧ 256 + 2 = 258 := ⟨by decide +kernel, rfl⟩
theorem i0_258 : decode m0.2.1 258 = .ok (.iload 5, 2) ∧ 258 + 2 = 260 := ⟨by decide +kernel, rfl⟩
theorem i0_260 : decode m0.2.1 260 = .ok (.invokestatic 14, 3) ∧ 260 + 3 = 263 := ⟨by decide +kernel, rfl⟩
theorem i0_263 : decode m0.2.1 263 = .ok (.ifCond .eq 156, 3) ∧ 263 + 3 = 266 ∧ 0 ≤ ((263 : Nat) : Int) + 156 ∧ (((263 : Nat) : Int) + 156).toNat = 419 := ⟨by decide +kernel, rfl, by decide, by decide⟩
theorem i0_266 : decode m0.2.1 266 = .ok (.aload 6, 2) ∧ 266 + 2 = 268 := ⟨by decide +kernel, rfl⟩
theorem i0_268 : decode m0.2.1 268 = .ok (.iconst 1, 1) ∧ 268 + 1 = 269 ∧ Int32.ofInt 1 = 1 := ⟨by decide +kernel, rfl, by decide⟩
theorem i0_269 : decode m0.2.1 269 = .ok (.iload 4, 2) ∧ 269 + 2 = 271 := ⟨by decide +kernel, rfl⟩
theorem i0_271 : decode m0.2.1 271 = .ok (.iload 5, 2) ∧ 271 + 2 = 273 := ⟨by decide +kernel, rfl⟩
theorem i0_273 : decode m0.2.1 273 = .ok (.invokestatic 14, 3) ∧ 273 + 3 = 276 := ⟨by decide +kernel, rfl⟩
theorem i0_276 : decode m0.2.1 276 = .ok (.ifCond .eq 143, 3) ∧ 276 + 3 = 279 ∧ 0 ≤ ((276 : Nat) : Int) + 143 ∧ (((276 : Nat) : Int) + 143).toNat = 419 := ⟨by decide +kernel, rfl, by decide, by decide⟩
theorem i0_279 : decode m0.2.1 279 = .ok (.aload 6, 2) ∧ 279 + 2 = 281 := ⟨by decide +kernel, rfl⟩
theorem i0_281 : decode m0.2.1 281 = .ok (.iconst 2, 1) ∧ 281 + 1 = 282 ∧ Int32.ofInt 2 = 2 := ⟨by decide +kernel, rfl, by decide⟩
theorem i0_282 : decode m0.2.1 282 = .ok (.iload 4, 2) ∧ 282 + 2 = 284 := ⟨by decide +kernel, rfl⟩
theorem i0_284 : decode m0.2.1 284 = .ok (.iload 5, 2) ∧ 284 + 2 = 286 := ⟨by decide +kernel, rfl⟩
theorem i0_286 : decode m0.2.1 286 = .ok (.invokestatic 14, 3) ∧ 286 + 3 = 289 := ⟨by decide +kernel, rfl⟩
theorem i0_289 : decode m0.2.1 289 = .ok (.ifCond .eq 130, 3) ∧ 289 + 3 = 292 ∧ 0 ≤ ((289 : Nat) : Int) + 130 ∧ (((289 : Nat) : Int) + 130).toNat = 419 := ⟨by decide +kernel, rfl, by decide, by decide⟩
theorem i0_292 : decode m0.2.1 292 = .ok (.aload 6, 2) ∧ 292 + 2 = 294 := ⟨by decide +kernel, rfl⟩
theorem i0_294 : decode m0.2.1 294 = .ok (.iconst 3, 1) ∧ 294 + 1 = 295 ∧ Int32.ofInt 3 = 3 := ⟨by decide +kernel, rfl, by decide⟩
theorem i0_295 : decode m0.2.1 295 = .ok (.iload 4, 2) ∧ 295 + 2 = 297 := ⟨by decide +kernel, rfl⟩
theorem i0_297 : decode m0.2.1 297 = .ok (.iload 5, 2) ∧ 297 + 2 = 299 := ⟨by decide +kernel, rfl⟩
theorem i0_299 : decode m0.2.1 299 = .ok (.invokestatic 14, 3) ∧ 299 + 3 = 302 := ⟨by decide +kernel, rfl⟩
theorem i0_302 : decode m0.2.1 302 = .ok (.ifCond .eq 117, 3) ∧ 302 + 3 = 305 ∧ 0 ≤ ((302 : Nat) : Int) + 117 ∧ (((302 : Nat) : Int) + 117).toNat = 419 := ⟨by decide +kernel, rfl, by decide, by decide⟩
theorem i0_305 : decode m0.2.1 305 = .ok (.aload 6, 2) ∧ 305 + 2 = 307 := ⟨by decide +kernel, rfl⟩
theorem i0_307 : decode m0.2.1 307 = .ok (.iconst 4, 1) ∧ 307 + 1 = 308 ∧ Int32.ofInt 4 = 4 := ⟨by decide +kernel, rfl, by decide⟩
theorem i0_308 : decode m0.2.1 308 = .ok (.iload 4, 2) ∧ 308 + 2 = 310 := ⟨by decide +kernel, rfl⟩
theorem i0_310 : decode m0.2.1 310 = .ok (.iload 5, 2) ∧ 310 + 2 = 312 := ⟨by decide +kernel, rfl⟩
theorem i0_312 : decode m0.2.1 312 = .ok (.invokestatic 14, 3) ∧ 312 + 3 = 315 := ⟨by decide +kernel, rfl⟩
theorem i0_315 : decode m0.2.1 315 = .ok (.ifCond .eq 104, 3) ∧ 315 + 3 = 318 ∧ 0 ≤ ((315 : Nat) : Int) + 104 ∧ (((315 : Nat) : Int) + 104).toNat = 419 := ⟨by decide +kernel, rfl, by decide, by decide⟩
theorem i0_318 : decode m0.2.1 318 = .ok (.aload 6, 2) ∧ 318 + 2 = 320 := ⟨by decide +kernel, rfl⟩
theorem i0_320 : decode m0.2.1 320 = .ok (.iconst 5, 1) ∧ 320 + 1 = 321 ∧ Int32.ofInt 5 = 5 := ⟨by decide +kernel, rfl, by decide⟩
theorem i0_321 : decode m0.2.1 321 = .ok (.iload 4, 2) ∧ 321 + 2 = 323 := ⟨by decide +kernel, rfl⟩
theorem i0_323 : decode m0.2.1 323 = .ok (.iload 5, 2) ∧ 323 + 2 = 325 := ⟨by decide +kernel, rfl⟩
theorem i0_325 : decode m0.2.1 325 = .ok (.invokestatic 14, 3) ∧ 325 + 3 = 328 := ⟨by decide +kernel, rfl⟩
theorem i0_328 : decode m0.2.1 328 = .ok (.ifCond .eq 91, 3) ∧ 328 + 3 = 331 ∧ 0 ≤ ((328 : Nat) : Int) + 91 ∧ (((328 : Nat) : Int) + 91).toNat = 419 := ⟨by decide +kernel, rfl, by decide, by decide⟩
theorem i0_331 : decode m0.2.1 331 = .ok (.aload 6, 2) ∧ 331 + 2 = 333 := ⟨by decide +kernel, rfl⟩
theorem i0_333 : decode m0.2.1 333 = .ok (.bipush 6, 2) ∧ 333 + 2 = 335 ∧ (Int8.ofInt 6).toInt32 = 6 := ⟨by decide +kernel, rfl, by decide⟩
theorem i0_335 : decode m0.2.1 335 = .ok (.iload 4, 2) ∧ 335 + 2 = 337 := ⟨by decide +kernel, rfl⟩
theorem i0_337 : decode m0.2.1 337 = .ok (.iload 5, 2) ∧ 337 + 2 = 339 := ⟨by decide +kernel, rfl⟩
theorem i0_339 : decode m0.2.1 339 = .ok (.invokestatic 14, 3) ∧ 339 + 3 = 342 := ⟨by decide +kernel, rfl⟩
theorem i0_342 : decode m0.2.1 342 = .ok (.ifCond .eq 77, 3) ∧ 342 + 3 = 345 ∧ 0 ≤ ((342 : Nat) : Int) + 77 ∧ (((342 : Nat) : Int) + 77).toNat = 419 := ⟨by decide +kernel, rfl, by decide, by decide⟩
theorem i0_345 : decode m0.2.1 345 = .ok (.aload 6, 2) ∧ 345 + 2 = 347 := ⟨by decide +kernel, rfl⟩
theorem i0_347 : decode m0.2.1 347 = .ok (.bipush 7, 2) ∧ 347 + 2 = 349 ∧ (Int8.ofInt 7).toInt32 = 7 := ⟨by decide +kernel, rfl, by decide⟩
theorem i0_349 : decode m0.2.1 349 = .ok (.iload 4, 2) ∧ 349 + 2 = 351 := ⟨by decide +kernel, rfl⟩
theorem i0_351 : decode m0.2.1 351 = .ok (.iload 5, 2) ∧ 351 + 2 = 353 := ⟨by decide +kernel, rfl⟩
theorem i0_353 : decode m0.2.1 353 = .ok (.invokestatic 14, 3) ∧ 353 + 3 = 356 := ⟨by decide +kernel, rfl⟩
theorem i0_356 : decode m0.2.1 356 = .ok (.ifCond .eq 63, 3) ∧ 356 + 3 = 359 ∧ 0 ≤ ((356 : Nat) : Int) + 63 ∧ (((356 : Nat) : Int) + 63).toNat = 419 := ⟨by decide +kernel, rfl, by decide, by decide⟩
theorem i0_359 : decode m0.2.1 359 = .ok (.aload 6, 2) ∧ 359 + 2 = 361 := ⟨by decide +kernel, rfl⟩
theorem i0_361 : decode m0.2.1 361 = .ok (.bipush 8, 2) ∧ 361 + 2 = 363 ∧ (Int8.ofInt 8).toInt32 = 8 := ⟨by decide +kernel, rfl, by decide⟩
theorem i0_363 : decode m0.2.1 363 = .ok (.iload 4, 2) ∧ 363 + 2 = 365 := ⟨by decide +kernel, rfl⟩
theorem i0_365 : decode m0.2.1 365 = .ok (.iload 5, 2) ∧ 365 + 2 = 367 := ⟨by decide +kernel, rfl⟩
theorem i0_367 : decode m0.2.1 367 = .ok (.invokestatic 14, 3) ∧ 367 + 3 = 370 := ⟨by decide +kernel, rfl⟩
theorem i0_370 : decode m0.2.1 370 = .ok (.ifCond .eq 49, 3) ∧ 370 + 3 = 373 ∧ 0 ≤ ((370 : Nat) : Int) + 49 ∧ (((370 : Nat) : Int) + 49).toNat = 419 := ⟨by decide +kernel, rfl, by decide, by decide⟩
theorem i0_373 : decode m0.2.1 373 = .ok (.aload 6, 2) ∧ 373 + 2 = 375 := ⟨by decide +kernel, rfl⟩
theorem i0_375 : decode m0.2.1 375 = .ok (.bipush 9, 2) ∧ 375 + 2 = 377 ∧ (Int8.ofInt 9).toInt32 = 9 := ⟨by decide +kernel, rfl, by decide⟩
theorem i0_377 : decode m0.2.1 377 = .ok (.iload 4, 2) ∧ 377 + 2 = 379 := ⟨by decide +kernel, rfl⟩
theorem i0_379 : decode m0.2.1 379 = .ok (.iload 5, 2) ∧ 379 + 2 = 381 := ⟨by decide +kernel, rfl⟩
theorem i0_381 : decode m0.2.1 381 = .ok (.invokestatic 14, 3) ∧ 381 + 3 = 384 := ⟨by decide +kernel, rfl⟩
theorem i0_384 : decode m0.2.1 384 = .ok (.ifCond .eq 35, 3) ∧ 384 + 3 = 387 ∧ 0 ≤ ((384 : Nat) : Int) + 35 ∧ (((384 : Nat) : Int) + 35).toNat = 419 := ⟨by decide +kernel, rfl, by decide, by decide⟩
theorem i0_387 : decode m0.2.1 387 = .ok (.aload 6, 2) ∧ 387 + 2 = 389 := ⟨by decide +kernel, rfl⟩
theorem i0_389 : decode m0.2.1 389 = .ok (.bipush 10, 2) ∧ 389 + 2 = 391 ∧ (Int8.ofInt 10).toInt32 = 10 := ⟨by decide +kernel, rfl, by decide⟩
theorem i0_391 : decode m0.2.1 391 = .ok (.iload 4, 2) ∧ 391 + 2 = 393 := ⟨by decide +kernel, rfl⟩
theorem i0_393 : decode m0.2.1 393 = .ok (.iload 5, 2) ∧ 393 + 2 = 395 := ⟨by decide +kernel, rfl⟩
theorem i0_395 : decode m0.2.1 395 = .ok (.invokestatic 14, 3) ∧ 395 + 3 = 398 := ⟨by decide +kernel, rfl⟩
theorem i0_398 : decode m0.2.1 398 = .ok (.ifCond .eq 21, 3) ∧ 398 + 3 = 401 ∧ 0 ≤ ((398 : Nat) : Int) + 21 ∧ (((398 : Nat) : Int) + 21).toNat = 419 := ⟨by decide +kernel, rfl, by decide, by decide⟩
theorem i0_401 : decode m0.2.1 401 = .ok (.aload 6, 2) ∧ 401 + 2 = 403 := ⟨by decide +kernel, rfl⟩
theorem i0_403 : decode m0.2.1 403 = .ok (.bipush 11, 2) ∧ 403 + 2 = 405 ∧ (Int8.ofInt 11).toInt32 = 11 := ⟨by decide +kernel, rfl, by decide⟩
theorem i0_405 : decode m0.2.1 405 = .ok (.iload 4, 2) ∧ 405 + 2 = 407 := ⟨by decide +kernel, rfl⟩
theorem i0_407 : decode m0.2.1 407 = .ok (.iload 5, 2) ∧ 407 + 2 = 409 := ⟨by decide +kernel, rfl⟩
theorem i0_409 : decode m0.2.1 409 = .ok (.invokestatic 14, 3) ∧ 409 + 3 = 412 := ⟨by decide +kernel, rfl⟩
theorem i0_412 : decode m0.2.1 412 = .ok (.ifCond .eq 7, 3) ∧ 412 + 3 = 415 ∧ 0 ≤ ((412 : Nat) : Int) + 7 ∧ (((412 : Nat) : Int) + 7).toNat = 419 := ⟨by decide +kernel, rfl, by decide, by decide⟩
theorem i0_415 : decode m0.2.1 415 = .ok (.iconst 1, 1) ∧ 415 + 1 = 416 ∧ Int32.ofInt 1 = 1 := ⟨by decide +kernel, rfl, by decide⟩
theorem i0_416 : decode m0.2.1 416 = .ok (.goto 4, 3) ∧ 416 + 3 = 419 ∧ 0 ≤ ((416 : Nat) : Int) + 4 ∧ (((416 : Nat) : Int) + 4).toNat = 420 := ⟨by decide +kernel, rfl, by decide, by decide⟩
theorem i0_419 : decode m0.2.1 419 = .ok (.iconst 0, 1) ∧ 419 + 1 = 420 ∧ Int32.ofInt 0 = 0 := ⟨by decide +kernel, rfl, by decide⟩
theorem i0_420 : decode m0.2.1 420 = .ok (.ireturn, 1) := by decide +kernel
theorem i1_0 : decode m1.2.1 0 = .ok (.aload_n 0, 1) ∧ 0 + 1 = 1 := ⟨by decide +kernel, rfl⟩
theorem i1_1 : decode m1.2.1 1 = .ok (.iload_n 1, 1) ∧ 1 + 1 = 2 := ⟨by decide +kernel, rfl⟩
theorem i1_2 : decode m1.2.1 2 = .ok (.lload_n 2, 1) ∧ 2 + 1 = 3 := ⟨by decide +kernel, rfl⟩
theorem i1_3 : decode m1.2.1 3 = .ok (.bipush 56, 2) ∧ 3 + 2 = 5 ∧ (Int8.ofInt 56).toInt32 = 56 := ⟨by decide +kernel, rfl, by decide⟩
theorem i1_5 : decode m1.2.1 5 = .ok (.lushr, 1) ∧ 5 + 1 = 6 := ⟨by decide +kernel, rfl⟩
theorem i1_6 : decode m1.2.1 6 = .ok (.l2i, 1) ∧ 6 + 1 = 7 := ⟨by decide +kernel, rfl⟩
theorem i1_7 : decode m1.2.1 7 = .ok (.i2b, 1) ∧ 7 + 1 = 8 := ⟨by decide +kernel, rfl⟩
theorem i1_8 : decode m1.2.1 8 = .ok (.bastore, 1) ∧ 8 + 1 = 9 := ⟨by decide +kernel, rfl⟩
theorem i1_9 : decode m1.2.1 9 = .ok (.aload_n 0, 1) ∧ 9 + 1 = 10 := ⟨by decide +kernel, rfl⟩
theorem i1_10 : decode m1.2.1 10 = .ok (.iload_n 1, 1) ∧ 10 + 1 = 11 := ⟨by decide +kernel, rfl⟩
theorem i1_11 : decode m1.2.1 11 = .ok (.iconst 1, 1) ∧ 11 + 1 = 12 ∧ Int32.ofInt 1 = 1 := ⟨by decide +kernel, rfl, by decide⟩
theorem i1_12 : decode m1.2.1 12 = .ok (.iadd, 1) ∧ 12 + 1 = 13 := ⟨by decide +kernel, rfl⟩
theorem i1_13 : decode m1.2.1 13 = .ok (.lload_n 2, 1) ∧ 13 + 1 = 14 := ⟨by decide +kernel, rfl⟩
theorem i1_14 : decode m1.2.1 14 = .ok (.bipush 48, 2) ∧ 14 + 2 = 16 ∧ (Int8.ofInt 48).toInt32 = 48 := ⟨by decide +kernel, rfl, by decide⟩
theorem i1_16 : decode m1.2.1 16 = .ok (.lushr, 1) ∧ 16 + 1 = 17 := ⟨by decide +kernel, rfl⟩
theorem i1_17 : decode m1.2.1 17 = .ok (.l2i, 1) ∧ 17 + 1 = 18 := ⟨by decide +kernel, rfl⟩
theorem i1_18 : decode m1.2.1 18 = .ok (.i2b, 1) ∧ 18 + 1 = 19 := ⟨by decide +kernel, rfl⟩
theorem i1_19 : decode m1.2.1 19 = .ok (.bastore, 1) ∧ 19 + 1 = 20 := ⟨by decide +kernel, rfl⟩
theorem i1_20 : decode m1.2.1 20 = .ok (.aload_n 0, 1) ∧ 20 + 1 = 21 := ⟨by decide +kernel, rfl⟩
theorem i1_21 : decode m1.2.1 21 = .ok (.iload_n 1, 1) ∧ 21 + 1 = 22 := ⟨by decide +kernel, rfl⟩
theorem i1_22 : decode m1.2.1 22 = .ok (.iconst 2, 1) ∧ 22 + 1 = 23 ∧ Int32.ofInt 2 = 2 := ⟨by decide +kernel, rfl, by decide⟩
theorem i1_23 : decode m1.2.1 23 = .ok (.iadd, 1) ∧ 23 + 1 = 24 := ⟨by decide +kernel, rfl⟩
theorem i1_24 : decode m1.2.1 24 = .ok (.lload_n 2, 1) ∧ 24 + 1 = 25 := ⟨by decide +kernel, rfl⟩
theorem i1_25 : decode m1.2.1 25 = .ok (.bipush 40, 2) ∧ 25 + 2 = 27 ∧ (Int8.ofInt 40).toInt32 = 40 := ⟨by decide +kernel, rfl, by decide⟩
theorem i1_27 : decode m1.2.1 27 = .ok (.lushr, 1) ∧ 27 + 1 = 28 := ⟨by decide +kernel, rfl⟩
theorem i1_28 : decode m1.2.1 28 = .ok (.l2i, 1) ∧ 28 + 1 = 29 := ⟨by decide +kernel, rfl⟩
theorem i1_29 : decode m1.2.1 29 = .ok (.i2b, 1) ∧ 29 + 1 = 30 := ⟨by decide +kernel, rfl⟩
theorem i1_30 : decode m1.2.1 30 = .ok (.bastore, 1) ∧ 30 + 1 = 31 := ⟨by decide +kernel, rfl⟩
theorem i1_31 : decode m1.2.1 31 = .ok (.aload_n 0, 1) ∧ 31 + 1 = 32 := ⟨by decide +kernel, rfl⟩
theorem i1_32 : decode m1.2.1 32 = .ok (.iload_n 1, 1) ∧ 32 + 1 = 33 := ⟨by decide +kernel, rfl⟩
theorem i1_33 : decode m1.2.1 33 = .ok (.iconst 3, 1) ∧ 33 + 1 = 34 ∧ Int32.ofInt 3 = 3 := ⟨by decide +kernel, rfl, by decide⟩
theorem i1_34 : decode m1.2.1 34 = .ok (.iadd, 1) ∧ 34 + 1 = 35 := ⟨by decide +kernel, rfl⟩
theorem i1_35 : decode m1.2.1 35 = .ok (.lload_n 2, 1) ∧ 35 + 1 = 36 := ⟨by decide +kernel, rfl⟩
theorem i1_36 : decode m1.2.1 36 = .ok (.bipush 32, 2) ∧ 36 + 2 = 38 ∧ (Int8.ofInt 32).toInt32 = 32 := ⟨by decide +kernel, rfl, by decide⟩
theorem i1_38 : decode m1.2.1 38 = .ok (.lushr, 1) ∧ 38 + 1 = 39 := ⟨by decide +kernel, rfl⟩
theorem i1_39 : decode m1.2.1 39 = .ok (.l2i, 1) ∧ 39 + 1 = 40 := ⟨by decide +kernel, rfl⟩
theorem i1_40 : decode m1.2.1 40 = .ok (.i2b, 1) ∧ 40 + 1 = 41 := ⟨by decide +kernel, rfl⟩
theorem i1_41 : decode m1.2.1 41 = .ok (.bastore, 1) ∧ 41 + 1 = 42 := ⟨by decide +kernel, rfl⟩
theorem i1_42 : decode m1.2.1 42 = .ok (.aload_n 0, 1) ∧ 42 + 1 = 43 := ⟨by decide +kernel, rfl⟩
theorem i1_43 : decode m1.2.1 43 = .ok (.iload_n 1, 1) ∧ 43 + 1 = 44 := ⟨by decide +kernel, rfl⟩
theorem i1_44 : decode m1.2.1 44 = .ok (.iconst 4, 1) ∧ 44 + 1 = 45 ∧ Int32.ofInt 4 = 4 := ⟨by decide +kernel, rfl, by decide⟩
theorem i1_45 : decode m1.2.1 45 = .ok (.iadd, 1) ∧ 45 + 1 = 46 := ⟨by decide +kernel, rfl⟩
theorem i1_46 : decode m1.2.1 46 = .ok (.lload_n 2, 1) ∧ 46 + 1 = 47 := ⟨by decide +kernel, rfl⟩
theorem i1_47 : decode m1.2.1 47 = .ok (.bipush 24, 2) ∧ 47 + 2 = 49 ∧ (Int8.ofInt 24).toInt32 = 24 := ⟨by decide +kernel, rfl, by decide⟩
theorem i1_49 : decode m1.2.1 49 = .ok (.lushr, 1) ∧ 49 + 1 = 50 := ⟨by decide +kernel, rfl⟩
theorem i1_50 : decode m1.2.1 50 = .ok (.l2i, 1) ∧ 50 + 1 = 51 := ⟨by decide +kernel, rfl⟩
theorem i1_51 : decode m1.2.1 51 = .ok (.i2b, 1) ∧ 51 + 1 = 52 := ⟨by decide +kernel, rfl⟩
theorem i1_52 : decode m1.2.1 52 = .ok (.bastore, 1) ∧ 52 + 1 = 53 := ⟨by decide +kernel, rfl⟩
theorem i1_53 : decode m1.2.1 53 = .ok (.aload_n 0, 1) ∧ 53 + 1 = 54 := ⟨by decide +kernel, rfl⟩
theorem i1_54 : decode m1.2.1 54 = .ok (.iload_n 1, 1) ∧ 54 + 1 = 55 := ⟨by decide +kernel, rfl⟩
theorem i1_55 : decode m1.2.1 55 = .ok (.iconst 5, 1) ∧ 55 + 1 = 56 ∧ Int32.ofInt 5 = 5 := ⟨by decide +kernel, rfl, by decide⟩
theorem i1_56 : decode m1.2.1 56 = .ok (.iadd, 1) ∧ 56 + 1 = 57 := ⟨by decide +kernel, rfl⟩
theorem i1_57 : decode m1.2.1 57 = .ok (.lload_n 2, 1) ∧ 57 + 1 = 58 := ⟨by decide +kernel, rfl⟩
theorem i1_58 : decode m1.2.1 58 = .ok (.bipush 16, 2) ∧ 58 + 2 = 60 ∧ (Int8.ofInt 16).toInt32 = 16 := ⟨by decide +kernel, rfl, by decide⟩
theorem i1_60 : decode m1.2.1 60 = .ok (.lushr, 1) ∧ 60 + 1 = 61 := ⟨by decide +kernel, rfl⟩
theorem i1_61 : decode m1.2.1 61 = .ok (.l2i, 1) ∧ 61 + 1 = 62 := ⟨by decide +kernel, rfl⟩
theorem i1_62 : decode m1.2.1 62 = .ok (.i2b, 1) ∧ 62 + 1 = 63 := ⟨by decide +kernel, rfl⟩
theorem i1_63 : decode m1.2.1 63 = .ok (.bastore, 1) ∧ 63 + 1 = 64 := ⟨by decide +kernel, rfl⟩
theorem i1_64 : decode m1.2.1 64 = .ok (.aload_n 0, 1) ∧ 64 + 1 = 65 := ⟨by decide +kernel, rfl⟩
theorem i1_65 : decode m1.2.1 65 = .ok (.iload_n 1, 1) ∧ 65 + 1 = 66 := ⟨by decide +kernel, rfl⟩
theorem i1_66 : decode m1.2.1 66 = .ok (.bipush 6, 2) ∧ 66 + 2 = 68 ∧ (Int8.ofInt 6).toInt32 = 6 := ⟨by decide +kernel, rfl, by decide⟩
theorem i1_68 : decode m1.2.1 68 = .ok (.iadd, 1) ∧ 68 + 1 = 69 := ⟨by decide +kernel, rfl⟩
theorem i1_69 : decode m1.2.1 69 = .ok (.lload_n 2, 1) ∧ 69 + 1 = 70 := ⟨by decide +kernel, rfl⟩
theorem i1_70 : decode m1.2.1 70 = .ok (.bipush 8, 2) ∧ 70 + 2 = 72 ∧ (Int8.ofInt 8).toInt32 = 8 := ⟨by decide +kernel, rfl, by decide⟩
theorem i1_72 : decode m1.2.1 72 = .ok (.lushr, 1) ∧ 72 + 1 = 73 := ⟨by decide +kernel, rfl⟩
theorem i1_73 : decode m1.2.1 73 = .ok (.l2i, 1) ∧ 73 + 1 = 74 := ⟨by decide +kernel, rfl⟩
theorem i1_74 : decode m1.2.1 74 = .ok (.i2b, 1) ∧ 74 + 1 = 75 := ⟨by decide +kernel, rfl⟩
theorem i1_75 : decode m1.2.1 75 = .ok (.bastore, 1) ∧ 75 + 1 = 76 := ⟨by decide +kernel, rfl⟩
theorem i1_76 : decode m1.2.1 76 = .ok (.aload_n 0, 1) ∧ 76 + 1 = 77 := ⟨by decide +kernel, rfl⟩
theorem i1_77 : decode m1.2.1 77 = .ok (.iload_n 1, 1) ∧ 77 + 1 = 78 := ⟨by decide +kernel, rfl⟩
theorem i1_78 : decode m1.2.1 78 = .ok (.bipush 7, 2) ∧ 78 + 2 = 80 ∧ (Int8.ofInt 7).toInt32 = 7 := ⟨by decide +kernel, rfl, by decide⟩
theorem i1_80 : decode m1.2.1 80 = .ok (.iadd, 1) ∧ 80 + 1 = 81 := ⟨by decide +kernel, rfl⟩
theorem i1_81 : decode m1.2.1 81 = .ok (.lload_n 2, 1) ∧ 81 + 1 = 82 := ⟨by decide +kernel, rfl⟩
theorem i1_82 : decode m1.2.1 82 = .ok (.l2i, 1) ∧ 82 + 1 = 83 := ⟨by decide +kernel, rfl⟩
theorem i1_83 : decode m1.2.1 83 = .ok (.i2b, 1) ∧ 83 + 1 = 84 := ⟨by decide +kernel, rfl⟩
theorem i1_84 : decode m1.2.1 84 = .ok (.bastore, 1) ∧ 84 + 1 = 85 := ⟨by decide +kernel, rfl⟩
theorem i1_85 : decode m1.2.1 85 = .ok (.iload_n 1, 1) ∧ 85 + 1 = 86 := ⟨by decide +kernel, rfl⟩
theorem i1_86 : decode m1.2.1 86 = .ok (.bipush 8, 2) ∧ 86 + 2 = 88 ∧ (Int8.ofInt 8).toInt32 = 8 := ⟨by decide +kernel, rfl, by decide⟩
theorem i1_88 : decode m1.2.1 88 = .ok (.iadd, 1) ∧ 88 + 1 = 89 := ⟨by decide +kernel, rfl⟩
theorem i1_89 : decode m1.2.1 89 = .ok (.ireturn, 1) := by decide +kernel
theorem i2_0 : decode m2.2.1 0 = .ok (.iload_n 1, 1) ∧ 0 + 1 = 1 := ⟨by decide +kernel, rfl⟩
theorem i2_1 : decode m2.2.1 1 = .ok (.iload_n 2, 1) ∧ 1 + 1 = 2 := ⟨by decide +kernel, rfl⟩
theorem i2_2 : decode m2.2.1 2 = .ok (.if_icmp .lt 11, 3) ∧ 2 + 3 = 5 ∧ 0 ≤ ((2 : Nat) : Int) + 11 ∧ (((2 : Nat) : Int) + 11).toNat = 13 := ⟨by decide +kernel, rfl, by decide, by decide⟩
theorem i2_5 : decode m2.2.1 5 = .ok (.iload_n 1, 1) ∧ 5 + 1 = 6 := ⟨by decide +kernel, rfl⟩
theorem i2_6 : decode m2.2.1 6 = .ok (.iload_n 2, 1) ∧ 6 + 1 = 7 := ⟨by decide +kernel, rfl⟩
theorem i2_7 : decode m2.2.1 7 = .ok (.bipush 8, 2) ∧ 7 + 2 = 9 ∧ (Int8.ofInt 8).toInt32 = 8 := ⟨by decide +kernel, rfl, by decide⟩
theorem i2_9 : decode m2.2.1 9 = .ok (.iadd, 1) ∧ 9 + 1 = 10 := ⟨by decide +kernel, rfl⟩
theorem i2_10 : decode m2.2.1 10 = .ok (.if_icmp .lt 10, 3) ∧ 10 + 3 = 13 ∧ 0 ≤ ((10 : Nat) : Int) + 10 ∧ (((10 : Nat) : Int) + 10).toNat = 20 := ⟨by decide +kernel, rfl, by decide, by decide⟩
theorem i2_13 : decode m2.2.1 13 = .ok (.aload_n 0, 1) ∧ 13 + 1 = 14 := ⟨by decide +kernel, rfl⟩
theorem i2_14 : decode m2.2.1 14 = .ok (.iload_n 1, 1) ∧ 14 + 1 = 15 := ⟨by decide +kernel, rfl⟩
theorem i2_15 : decode m2.2.1 15 = .ok (.baload, 1) ∧ 15 + 1 = 16 := ⟨by decide +kernel, rfl⟩
theorem i2_16 : decode m2.2.1 16 = .ok (.iload_n 3, 1) ∧ 16 + 1 = 17 := ⟨by decide +kernel, rfl⟩
theorem i2_17 : decode m2.2.1 17 = .ok (.if_icmp .ne 7, 3) ∧ 17 + 3 = 20 ∧ 0 ≤ ((17 : Nat) : Int) + 7 ∧ (((17 : Nat) : Int) + 7).toNat = 24 := ⟨by decide +kernel, rfl, by decide, by decide⟩
theorem i2_20 : decode m2.2.1 20 = .ok (.iconst 1, 1) ∧ 20 + 1 = 21 ∧ Int32.ofInt 1 = 1 := ⟨by decide +kernel, rfl, by decide⟩
theorem i2_21 : decode m2.2.1 21 = .ok (.goto 4, 3) ∧ 21 + 3 = 24 ∧ 0 ≤ ((21 : Nat) : Int) + 4 ∧ (((21 : Nat) : Int) + 4).toNat = 25 := ⟨by decide +kernel, rfl, by decide, by decide⟩
theorem i2_24 : decode m2.2.1 24 = .ok (.iconst 0, 1) ∧ 24 + 1 = 25 ∧ Int32.ofInt 0 = 0 := ⟨by decide +kernel, rfl, by decide⟩
theorem i2_25 : decode m2.2.1 25 = .ok (.ireturn, 1) := by decide +kernel
theorem s0_1 {l : Launch} {Z : State} {a0 : Array Value} {n0 : Nat} {ls : List Slot} {st : List Value} {H H' : List Ob} {v : Option Value} (hw : HW Z a0) (kk : Runs K l Z n0 m0 3 ls (.int 2147483647 :: st) H v H') : Runs K l Z n0 m0 1 ls st H v H' := r_ldc i0_1 (hw _ (List.mem_of_getElem? (i := 0) rfl)) kk
theorem s0_14 {l : Launch} {Z : State} {a0 : Array Value} {n0 : Nat} {ls : List Slot} {st : List Value} {H H' H1 : List Ob} {v : Option Value} (hw : HW Z a0) {a : Nat} {n : Int32} {o : List Value} (hn : ¬ n < 0) (h8 : n.toNatClampNeg * 8 ≤ 536870912) (ho : List.replicate n.toNatClampNeg (.int 0) = o) (ha : H.length = a) (hH : H ++ [.inr (.byte, o)] = H1) (kk : Runs K l Z n0 m0 16 ls (.ref a :: st) H1 v H') : Runs K l Z n0 m0 14 ls (.int n :: st) H v H' := r_newA i0_14 (hw _ (List.mem_of_getElem? (i := 1) rfl)) hn h8 ho ha hH kk
theorem s0_101 {l : Launch} {Z : State} {a0 : Array Value} {n0 : Nat} {ls : List Slot} {st : List Value} {H H' H1 : List Ob} {v : Option Value} (hw : HW Z a0) {x0 x1 x2 : Value} {w : Value} (M : Meets K l Z n0 m1 [x0, x1, x2] H (some w) H1) (hls : ls.length = 10) (hlo : (st.map fun v => v.category).sum ≤ 0) (kk : Runs K l Z n0 m0 104 ls (w :: st) H1 v H') : Runs K l Z n0 m0 101 ls (x2 :: x1 :: x0 :: st) H v H' := r_static (mj := m1) (as := [x0, x1, x2]) (rest := st) i0_101 (hw _ (List.mem_of_getElem? (i := 2) rfl)) (hw _ (List.mem_of_getElem? (i := 3) rfl)) (hw _ (List.mem_of_getElem? (i := 4) rfl)) (hw _ (List.mem_of_getElem? (i := 5) rfl)) (by decide) (lenOf pd1 rfl) (by decide) rfl hls (by show _ + (4 + 11) + 0 ≤ 15; omega) M kk
theorem s0_260 {l : Launch} {Z : State} {a0 : Array Value} {n0 : Nat} {ls : List Slot} {st : List Value} {H H' H1 : List Ob} {v : Option Value} (hw : HW Z a0) {x0 x1 x2 x3 : Value} {w : Value} (M : Meets K l Z n0 m2 [x0, x1, x2, x3] H (some w) H1) (hls : ls.length = 10) (hlo : (st.map fun v => v.category).sum ≤ 0) (kk : Runs K l Z n0 m0 263 ls (w :: st) H1 v H') : Runs K l Z n0 m0 260 ls (x3 :: x2 :: x1 :: x0 :: st) H v H' := r_static (mj := m2) (as := [x0, x1, x2, x3]) (rest := st) i0_260 (hw _ (List.mem_of_getElem? (i := 6) rfl)) (hw _ (List.mem_of_getElem? (i := 7) rfl)) (hw _ (List.mem_of_getElem? (i := 8) rfl)) (hw _ (List.mem_of_getElem? (i := 9) rfl)) (by decide) (lenOf pd2 rfl) (by decide) rfl hls (by show _ + (4 + 11) + 0 ≤ 15; omega) M kk
theorem s0_273 {l : Launch} {Z : State} {a0 : Array Value} {n0 : Nat} {ls : List Slot} {st : List Value} {H H' H1 : List Ob} {v : Option Value} (hw : HW Z a0) {x0 x1 x2 x3 : Value} {w : Value} (M : Meets K l Z n0 m2 [x0, x1, x2, x3] H (some w) H1) (hls : ls.length = 10) (hlo : (st.map fun v => v.category).sum ≤ 0) (kk : Runs K l Z n0 m0 276 ls (w :: st) H1 v H') : Runs K l Z n0 m0 273 ls (x3 :: x2 :: x1 :: x0 :: st) H v H' := r_static (mj := m2) (as := [x0, x1, x2, x3]) (rest := st) i0_273 (hw _ (List.mem_of_getElem? (i := 6) rfl)) (hw _ (List.mem_of_getElem? (i := 7) rfl)) (hw _ (List.mem_of_getElem? (i := 8) rfl)) (hw _ (List.mem_of_getElem? (i := 9) rfl)) (by decide) (lenOf pd2 rfl) (by decide) rfl hls (by show _ + (4 + 11) + 0 ≤ 15; omega) M kk
theorem s0_286 {l : Launch} {Z : State} {a0 : Array Value} {n0 : Nat} {ls : List Slot} {st : List Value} {H H' H1 : List Ob} {v : Option Value} (hw : HW Z a0) {x0 x1 x2 x3 : Value} {w : Value} (M : Meets K l Z n0 m2 [x0, x1, x2, x3] H (some w) H1) (hls : ls.length = 10) (hlo : (st.map fun v => v.category).sum ≤ 0) (kk : Runs K l Z n0 m0 289 ls (w :: st) H1 v H') : Runs K l Z n0 m0 286 ls (x3 :: x2 :: x1 :: x0 :: st) H v H' := r_static (mj := m2) (as := [x0, x1, x2, x3]) (rest := st) i0_286 (hw _ (List.mem_of_getElem? (i := 6) rfl)) (hw _ (List.mem_of_getElem? (i := 7) rfl)) (hw _ (List.mem_of_getElem? (i := 8) rfl)) (hw _ (List.mem_of_getElem? (i := 9) rfl)) (by decide) (lenOf pd2 rfl) (by decide) rfl hls (by show _ + (4 + 11) + 0 ≤ 15; omega) M kk
theorem s0_299 {l : Launch} {Z : State} {a0 : Array Value} {n0 : Nat} {ls : List Slot} {st : List Value} {H H' H1 : List Ob} {v : Option Value} (hw : HW Z a0) {x0 x1 x2 x3 : Value} {w : Value} (M : Meets K l Z n0 m2 [x0, x1, x2, x3] H (some w) H1) (hls : ls.length = 10) (hlo : (st.map fun v => v.category).sum ≤ 0) (kk : Runs K l Z n0 m0 302 ls (w :: st) H1 v H') : Runs K l Z n0 m0 299 ls (x3 :: x2 :: x1 :: x0 :: st) H v H' := r_static (mj := m2) (as := [x0, x1, x2, x3]) (rest := st) i0_299 (hw _ (List.mem_of_getElem? (i := 6) rfl)) (hw _ (List.mem_of_getElem? (i := 7) rfl)) (hw _ (List.mem_of_getElem? (i := 8) rfl)) (hw _ (List.mem_of_getElem? (i := 9) rfl)) (by decide) (lenOf pd2 rfl) (by decide) rfl hls (by show _ + (4 + 11) + 0 ≤ 15; omega) M kk
theorem s0_312 {l : Launch} {Z : State} {a0 : Array Value} {n0 : Nat} {ls : List Slot} {st : List Value} {H H' H1 : List Ob} {v : Option Value} (hw : HW Z a0) {x0 x1 x2 x3 : Value} {w : Value} (M : Meets K l Z n0 m2 [x0, x1, x2, x3] H (some w) H1) (hls : ls.length = 10) (hlo : (st.map fun v => v.category).sum ≤ 0) (kk : Runs K l Z n0 m0 315 ls (w :: st) H1 v H') : Runs K l Z n0 m0 312 ls (x3 :: x2 :: x1 :: x0 :: st) H v H' := r_static (mj := m2) (as := [x0, x1, x2, x3]) (rest := st) i0_312 (hw _ (List.mem_of_getElem? (i := 6) rfl)) (hw _ (List.mem_of_getElem? (i := 7) rfl)) (hw _ (List.mem_of_getElem? (i := 8) rfl)) (hw _ (List.mem_of_getElem? (i := 9) rfl)) (by decide) (lenOf pd2 rfl) (by decide) rfl hls (by show _ + (4 + 11) + 0 ≤ 15; omega) M kk
theorem s0_325 {l : Launch} {Z : State} {a0 : Array Value} {n0 : Nat} {ls : List Slot} {st : List Value} {H H' H1 : List Ob} {v : Option Value} (hw : HW Z a0) {x0 x1 x2 x3 : Value} {w : Value} (M : Meets K l Z n0 m2 [x0, x1, x2, x3] H (some w) H1) (hls : ls.length = 10) (hlo : (st.map fun v => v.category).sum ≤ 0) (kk : Runs K l Z n0 m0 328 ls (w :: st) H1 v H') : Runs K l Z n0 m0 325 ls (x3 :: x2 :: x1 :: x0 :: st) H v H' := r_static (mj := m2) (as := [x0, x1, x2, x3]) (rest := st) i0_325 (hw _ (List.mem_of_getElem? (i := 6) rfl)) (hw _ (List.mem_of_getElem? (i := 7) rfl)) (hw _ (List.mem_of_getElem? (i := 8) rfl)) (hw _ (List.mem_of_getElem? (i := 9) rfl)) (by decide) (lenOf pd2 rfl) (by decide) rfl hls (by show _ + (4 + 11) + 0 ≤ 15; omega) M kk
theorem s0_339 {l : Launch} {Z : State} {a0 : Array Value} {n0 : Nat} {ls : List Slot} {st : List Value} {H H' H1 : List Ob} {v : Option Value} (hw : HW Z a0) {x0 x1 x2 x3 : Value} {w : Value} (M : Meets K l Z n0 m2 [x0, x1, x2, x3] H (some w) H1) (hls : ls.length = 10) (hlo : (st.map fun v => v.category).sum ≤ 0) (kk : Runs K l Z n0 m0 342 ls (w :: st) H1 v H') : Runs K l Z n0 m0 339 ls (x3 :: x2 :: x1 :: x0 :: st) H v H' := r_static (mj := m2) (as := [x0, x1, x2, x3]) (rest := st) i0_339 (hw _ (List.mem_of_getElem? (i := 6) rfl)) (hw _ (List.mem_of_getElem? (i := 7) rfl)) (hw _ (List.mem_of_getElem? (i := 8) rfl)) (hw _ (List.mem_of_getElem? (i := 9) rfl)) (by decide) (lenOf pd2 rfl) (by decide) rfl hls (by show _ + (4 + 11) + 0 ≤ 15; omega) M kk
theorem s0_353 {l : Launch} {Z : State} {a0 : Array Value} {n0 : Nat} {ls : List Slot} {st : List Value} {H H' H1 : List Ob} {v : Option Value} (hw : HW Z a0) {x0 x1 x2 x3 : Value} {w : Value} (M : Meets K l Z n0 m2 [x0, x1, x2, x3] H (some w) H1) (hls : ls.length = 10) (hlo : (st.map fun v => v.category).sum ≤ 0) (kk : Runs K l Z n0 m0 356 ls (w :: st) H1 v H') : Runs K l Z n0 m0 353 ls (x3 :: x2 :: x1 :: x0 :: st) H v H' := r_static (mj := m2) (as := [x0, x1, x2, x3]) (rest := st) i0_353 (hw _ (List.mem_of_getElem? (i := 6) rfl)) (hw _ (List.mem_of_getElem? (i := 7) rfl)) (hw _ (List.mem_of_getElem? (i := 8) rfl)) (hw _ (List.mem_of_getElem? (i := 9) rfl)) (by decide) (lenOf pd2 rfl) (by decide) rfl hls (by show _ + (4 + 11) + 0 ≤ 15; omega) M kk
theorem s0_367 {l : Launch} {Z : State} {a0 : Array Value} {n0 : Nat} {ls : List Slot} {st : List Value} {H H' H1 : List Ob} {v : Option Value} (hw : HW Z a0) {x0 x1 x2 x3 : Value} {w : Value} (M : Meets K l Z n0 m2 [x0, x1, x2, x3] H (some w) H1) (hls : ls.length = 10) (hlo : (st.map fun v => v.category).sum ≤ 0) (kk : Runs K l Z n0 m0 370 ls (w :: st) H1 v H') : Runs K l Z n0 m0 367 ls (x3 :: x2 :: x1 :: x0 :: st) H v H' := r_static (mj := m2) (as := [x0, x1, x2, x3]) (rest := st) i0_367 (hw _ (List.mem_of_getElem? (i := 6) rfl)) (hw _ (List.mem_of_getElem? (i := 7) rfl)) (hw _ (List.mem_of_getElem? (i := 8) rfl)) (hw _ (List.mem_of_getElem? (i := 9) rfl)) (by decide) (lenOf pd2 rfl) (by decide) rfl hls (by show _ + (4 + 11) + 0 ≤ 15; omega) M kk
theorem s0_381 {l : Launch} {Z : State} {a0 : Array Value} {n0 : Nat} {ls : List Slot} {st : List Value} {H H' H1 : List Ob} {v : Option Value} (hw : HW Z a0) {x0 x1 x2 x3 : Value} {w : Value} (M : Meets K l Z n0 m2 [x0, x1, x2, x3] H (some w) H1) (hls : ls.length = 10) (hlo : (st.map fun v => v.category).sum ≤ 0) (kk : Runs K l Z n0 m0 384 ls (w :: st) H1 v H') : Runs K l Z n0 m0 381 ls (x3 :: x2 :: x1 :: x0 :: st) H v H' := r_static (mj := m2) (as := [x0, x1, x2, x3]) (rest := st) i0_381 (hw _ (List.mem_of_getElem? (i := 6) rfl)) (hw _ (List.mem_of_getElem? (i := 7) rfl)) (hw _ (List.mem_of_getElem? (i := 8) rfl)) (hw _ (List.mem_of_getElem? (i := 9) rfl)) (by decide) (lenOf pd2 rfl) (by decide) rfl hls (by show _ + (4 + 11) + 0 ≤ 15; omega) M kk
theorem s0_395 {l : Launch} {Z : State} {a0 : Array Value} {n0 : Nat} {ls : List Slot} {st : List Value} {H H' H1 : List Ob} {v : Option Value} (hw : HW Z a0) {x0 x1 x2 x3 : Value} {w : Value} (M : Meets K l Z n0 m2 [x0, x1, x2, x3] H (some w) H1) (hls : ls.length = 10) (hlo : (st.map fun v => v.category).sum ≤ 0) (kk : Runs K l Z n0 m0 398 ls (w :: st) H1 v H') : Runs K l Z n0 m0 395 ls (x3 :: x2 :: x1 :: x0 :: st) H v H' := r_static (mj := m2) (as := [x0, x1, x2, x3]) (rest := st) i0_395 (hw _ (List.mem_of_getElem? (i := 6) rfl)) (hw _ (List.mem_of_getElem? (i := 7) rfl)) (hw _ (List.mem_of_getElem? (i := 8) rfl)) (hw _ (List.mem_of_getElem? (i := 9) rfl)) (by decide) (lenOf pd2 rfl) (by decide) rfl hls (by show _ + (4 + 11) + 0 ≤ 15; omega) M kk
theorem s0_409 {l : Launch} {Z : State} {a0 : Array Value} {n0 : Nat} {ls : List Slot} {st : List Value} {H H' H1 : List Ob} {v : Option Value} (hw : HW Z a0) {x0 x1 x2 x3 : Value} {w : Value} (M : Meets K l Z n0 m2 [x0, x1, x2, x3] H (some w) H1) (hls : ls.length = 10) (hlo : (st.map fun v => v.category).sum ≤ 0) (kk : Runs K l Z n0 m0 412 ls (w :: st) H1 v H') : Runs K l Z n0 m0 409 ls (x3 :: x2 :: x1 :: x0 :: st) H v H' := r_static (mj := m2) (as := [x0, x1, x2, x3]) (rest := st) i0_409 (hw _ (List.mem_of_getElem? (i := 6) rfl)) (hw _ (List.mem_of_getElem? (i := 7) rfl)) (hw _ (List.mem_of_getElem? (i := 8) rfl)) (hw _ (List.mem_of_getElem? (i := 9) rfl)) (by decide) (lenOf pd2 rfl) (by decide) rfl hls (by show _ + (4 + 11) + 0 ≤ 15; omega) M kk
theorem own_byte (x : Int32) : (x.toInt8.toInt32.toInt8.toInt32 &&& 255).toInt = x.toInt % 256 := by
  have h := c_mask (x.toInt8.toInt32.toInt8.toInt32) 255 8 (by decide) (by decide)
  have a := c_i2b x
  have b := c_i2b x.toInt8.toInt32
  omega
theorem own_ushr (v : Int64) (q : Int32) (k : Nat) (hk : q.toBitVec.toNat % 64 = k) (h0 : 0 < k) (he : (q.toInt64.toUInt64 &&& Int64.toUInt64 63) = (q &&& 0x3f).toInt64.toUInt64) : (XT.ushrL v q).toInt = (v.toInt % 18446744073709551616) / (2 ^ k : Nat) := by
  have h := c_lushr v q k hk h0
  rw [← he] at h
  exact h
theorem own_lb (x : Int64) : (((x.toInt32.toInt8.toInt32.toInt8.toInt32 &&& 255) : Int32).toInt64).toInt = x.toInt % 256 := by
  rw [c_i2l, own_byte]
  have := c_l2i x
  omega
theorem own_shl (x : Int64) (q : Int32) (k : Nat) (hk : q.toBitVec.toNat % 64 = k) (he : (q.toInt64 &&& 63) = (q &&& 0x3f).toInt64) : ((x <<< (q.toInt64 &&& 63)).toInt - x.toInt * (2 ^ k : Nat)) % 18446744073709551616 = 0 := by
  have h := c_lshl x q k hk
  rw [← he] at h
  exact h
theorem own_s56 (X Y : Int64) (c y : Int) (hX : (X.toInt - 72057594037927936 * c) % 18446744073709551616 = 0) (hY : Y.toInt = y) (h0 : 0 ≤ y) (h1 : y < 72057594037927936) : ((X ||| Y).toInt - (72057594037927936 * c + y)) % 18446744073709551616 = 0 := by
  have o := c_orL X Y 56 (by decide) 72057594037927936 (by decide) (by omega) (by omega) (by omega)
  omega
theorem own_s48 (X Y : Int64) (c y : Int) (hX : (X.toInt - 281474976710656 * c) % 18446744073709551616 = 0) (hY : Y.toInt = y) (h0 : 0 ≤ y) (h1 : y < 281474976710656) : ((X ||| Y).toInt - (281474976710656 * c + y)) % 18446744073709551616 = 0 := by
  have o := c_orL X Y 48 (by decide) 281474976710656 (by decide) (by omega) (by omega) (by omega)
  omega
theorem own_s40 (X Y : Int64) (c y : Int) (hX : (X.toInt - 1099511627776 * c) % 18446744073709551616 = 0) (hY : Y.toInt = y) (h0 : 0 ≤ y) (h1 : y < 1099511627776) : ((X ||| Y).toInt - (1099511627776 * c + y)) % 18446744073709551616 = 0 := by
  have o := c_orL X Y 40 (by decide) 1099511627776 (by decide) (by omega) (by omega) (by omega)
  omega
theorem own_s32 (X Y : Int64) (c y : Int) (hX : (X.toInt - 4294967296 * c) % 18446744073709551616 = 0) (hY : Y.toInt = y) (h0 : 0 ≤ y) (h1 : y < 4294967296) : ((X ||| Y).toInt - (4294967296 * c + y)) % 18446744073709551616 = 0 := by
  have o := c_orL X Y 32 (by decide) 4294967296 (by decide) (by omega) (by omega) (by omega)
  omega
theorem own_s24 (X Y : Int64) (c y : Int) (hX : (X.toInt - 16777216 * c) % 18446744073709551616 = 0) (hY : Y.toInt = y) (h0 : 0 ≤ y) (h1 : y < 16777216) : ((X ||| Y).toInt - (16777216 * c + y)) % 18446744073709551616 = 0 := by
  have o := c_orL X Y 24 (by decide) 16777216 (by decide) (by omega) (by omega) (by omega)
  omega
theorem own_s16 (X Y : Int64) (c y : Int) (hX : (X.toInt - 65536 * c) % 18446744073709551616 = 0) (hY : Y.toInt = y) (h0 : 0 ≤ y) (h1 : y < 65536) : ((X ||| Y).toInt - (65536 * c + y)) % 18446744073709551616 = 0 := by
  have o := c_orL X Y 16 (by decide) 65536 (by decide) (by omega) (by omega) (by omega)
  omega
theorem own_s8 (X Y : Int64) (c y : Int) (hX : (X.toInt - 256 * c) % 18446744073709551616 = 0) (hY : Y.toInt = y) (h0 : 0 ≤ y) (h1 : y < 256) : ((X ||| Y).toInt - (256 * c + y)) % 18446744073709551616 = 0 := by
  have o := c_orL X Y 8 (by decide) 256 (by decide) (by omega) (by omega) (by omega)
  omega
theorem own_x48 (x : Int64) (r : Int) (hr : x.toInt = r) (h0 : 0 ≤ r) (h1 : r < 256) : (x <<< ((48 : Int32).toInt64 &&& 63)).toInt = 281474976710656 * r := by
  have s := own_shl x 48 48 (by decide) (by decide)
  have l := Int64.le_toInt (x <<< ((48 : Int32).toInt64 &&& 63))
  have g := Int64.toInt_lt (x <<< ((48 : Int32).toInt64 &&& 63))
  omega
theorem own_x40 (x : Int64) (r : Int) (hr : x.toInt = r) (h0 : 0 ≤ r) (h1 : r < 256) : (x <<< ((40 : Int32).toInt64 &&& 63)).toInt = 1099511627776 * r := by
  have s := own_shl x 40 40 (by decide) (by decide)
  have l := Int64.le_toInt (x <<< ((40 : Int32).toInt64 &&& 63))
  have g := Int64.toInt_lt (x <<< ((40 : Int32).toInt64 &&& 63))
  omega
theorem own_x32 (x : Int64) (r : Int) (hr : x.toInt = r) (h0 : 0 ≤ r) (h1 : r < 256) : (x <<< ((32 : Int32).toInt64 &&& 63)).toInt = 4294967296 * r := by
  have s := own_shl x 32 32 (by decide) (by decide)
  have l := Int64.le_toInt (x <<< ((32 : Int32).toInt64 &&& 63))
  have g := Int64.toInt_lt (x <<< ((32 : Int32).toInt64 &&& 63))
  omega
theorem own_x24 (x : Int64) (r : Int) (hr : x.toInt = r) (h0 : 0 ≤ r) (h1 : r < 256) : (x <<< ((24 : Int32).toInt64 &&& 63)).toInt = 16777216 * r := by
  have s := own_shl x 24 24 (by decide) (by decide)
  have l := Int64.le_toInt (x <<< ((24 : Int32).toInt64 &&& 63))
  have g := Int64.toInt_lt (x <<< ((24 : Int32).toInt64 &&& 63))
  omega
theorem own_x16 (x : Int64) (r : Int) (hr : x.toInt = r) (h0 : 0 ≤ r) (h1 : r < 256) : (x <<< ((16 : Int32).toInt64 &&& 63)).toInt = 65536 * r := by
  have s := own_shl x 16 16 (by decide) (by decide)
  have l := Int64.le_toInt (x <<< ((16 : Int32).toInt64 &&& 63))
  have g := Int64.toInt_lt (x <<< ((16 : Int32).toInt64 &&& 63))
  omega
theorem own_x8 (x : Int64) (r : Int) (hr : x.toInt = r) (h0 : 0 ≤ r) (h1 : r < 256) : (x <<< ((8 : Int32).toInt64 &&& 63)).toInt = 256 * r := by
  have s := own_shl x 8 8 (by decide) (by decide)
  have l := Int64.le_toInt (x <<< ((8 : Int32).toInt64 &&& 63))
  have g := Int64.toInt_lt (x <<< ((8 : Int32).toInt64 &&& 63))
  omega
theorem own_join (a b c d e f g z v : Int64) (r0 r1 r2 r3 r4 r5 r6 r7 : Int) (ha : a.toInt = r7) (hb : b.toInt = r6) (hc : c.toInt = r5) (hd : d.toInt = r4) (he : e.toInt = r3) (hf : f.toInt = r2) (hg : g.toInt = r1) (hz : z.toInt = r0) (q0 : 0 ≤ r0 ∧ r0 < 256) (q1 : 0 ≤ r1 ∧ r1 < 256) (q2 : 0 ≤ r2 ∧ r2 < 256) (q3 : 0 ≤ r3 ∧ r3 < 256) (q4 : 0 ≤ r4 ∧ r4 < 256) (q5 : 0 ≤ r5 ∧ r5 < 256) (q6 : 0 ≤ r6 ∧ r6 < 256) (q7 : 0 ≤ r7 ∧ r7 < 256) (hv : v.toInt % 18446744073709551616 = r0 + 256 * (r1 + 256 * (r2 + 256 * (r3 + 256 * (r4 + 256 * (r5 + 256 * (r6 + 256 * r7))))))) : ((a <<< ((56 : Int32).toInt64 &&& 63)) ||| (b <<< ((48 : Int32).toInt64 &&& 63)) ||| (c <<< ((40 : Int32).toInt64 &&& 63)) ||| (d <<< ((32 : Int32).toInt64 &&& 63)) ||| (e <<< ((24 : Int32).toInt64 &&& 63)) ||| (f <<< ((16 : Int32).toInt64 &&& 63)) ||| (g <<< ((8 : Int32).toInt64 &&& 63)) ||| z) = v := by
  have s0 := own_shl a 56 56 (by decide) (by decide)
  have t0 : ((a <<< ((56 : Int32).toInt64 &&& 63)).toInt - 72057594037927936 * r7) % 18446744073709551616 = 0 := by
    clear hb hc hd he hf hg hz hv
    omega
  have x1 := own_x48 b r6 hb q6.1 q6.2
  have u1 := own_s56 _ _ (r7) _ t0 x1 (by omega) (by omega)
  have t1 := (show _ = (0 : Int) from u1)
  rw [show (72057594037927936 * (r7) + 281474976710656 * r6 : Int) = 281474976710656 * (256 * (r7) + r6) by omega] at t1
  have x2 := own_x40 c r5 hc q5.1 q5.2
  have u2 := own_s48 _ _ (256 * (r7) + r6) _ t1 x2 (by omega) (by omega)
  have t2 := (show _ = (0 : Int) from u2)
  rw [show (281474976710656 * (256 * (r7) + r6) + 1099511627776 * r5 : Int) = 1099511627776 * (256 * (256 * (r7) + r6) + r5) by omega] at t2
  have x3 := own_x32 d r4 hd q4.1 q4.2
  have u3 := own_s40 _ _ (256 * (256 * (r7) + r6) + r5) _ t2 x3 (by omega) (by omega)
  have t3 := (show _ = (0 : Int) from u3)
  rw [show (1099511627776 * (256 * (256 * (r7) + r6) + r5) + 4294967296 * r4 : Int) = 4294967296 * (256 * (256 * (256 * (r7) + r6) + r5) + r4) by omega] at t3
  have x4 := own_x24 e r3 he q3.1 q3.2
  have u4 := own_s32 _ _ (256 * (256 * (256 * (r7) + r6) + r5) + r4) _ t3 x4 (by omega) (by omega)
  have t4 := (show _ = (0 : Int) from u4)
  rw [show (4294967296 * (256 * (256 * (256 * (r7) + r6) + r5) + r4) + 16777216 * r3 : Int) = 16777216 * (256 * (256 * (256 * (256 * (r7) + r6) + r5) + r4) + r3) by omega] at t4
  have x5 := own_x16 f r2 hf q2.1 q2.2
  have u5 := own_s24 _ _ (256 * (256 * (256 * (256 * (r7) + r6) + r5) + r4) + r3) _ t4 x5 (by omega) (by omega)
  have t5 := (show _ = (0 : Int) from u5)
  rw [show (16777216 * (256 * (256 * (256 * (256 * (r7) + r6) + r5) + r4) + r3) + 65536 * r2 : Int) = 65536 * (256 * (256 * (256 * (256 * (256 * (r7) + r6) + r5) + r4) + r3) + r2) by omega] at t5
  have x6 := own_x8 g r1 hg q1.1 q1.2
  have u6 := own_s16 _ _ (256 * (256 * (256 * (256 * (256 * (r7) + r6) + r5) + r4) + r3) + r2) _ t5 x6 (by omega) (by omega)
  have t6 := (show _ = (0 : Int) from u6)
  rw [show (65536 * (256 * (256 * (256 * (256 * (256 * (r7) + r6) + r5) + r4) + r3) + r2) + 256 * r1 : Int) = 256 * (256 * (256 * (256 * (256 * (256 * (256 * (r7) + r6) + r5) + r4) + r3) + r2) + r1) by omega] at t6
  have u7 := own_s8 _ z (256 * (256 * (256 * (256 * (256 * (256 * (r7) + r6) + r5) + r4) + r3) + r2) + r1) _ t6 hz q0.1 q0.2
  have lv := Int64.le_toInt v; have gv := Int64.toInt_lt v
  have lw := Int64.le_toInt ((a <<< ((56 : Int32).toInt64 &&& 63)) ||| (b <<< ((48 : Int32).toInt64 &&& 63)) ||| (c <<< ((40 : Int32).toInt64 &&& 63)) ||| (d <<< ((32 : Int32).toInt64 &&& 63)) ||| (e <<< ((24 : Int32).toInt64 &&& 63)) ||| (f <<< ((16 : Int32).toInt64 &&& 63)) ||| (g <<< ((8 : Int32).toInt64 &&& 63)) ||| z); have gw := Int64.toInt_lt ((a <<< ((56 : Int32).toInt64 &&& 63)) ||| (b <<< ((48 : Int32).toInt64 &&& 63)) ||| (c <<< ((40 : Int32).toInt64 &&& 63)) ||| (d <<< ((32 : Int32).toInt64 &&& 63)) ||| (e <<< ((24 : Int32).toInt64 &&& 63)) ||| (f <<< ((16 : Int32).toInt64 &&& 63)) ||| (g <<< ((8 : Int32).toInt64 &&& 63)) ||| z)
  apply Int64.toInt_inj.mp
  generalize ((a <<< ((56 : Int32).toInt64 &&& 63)) ||| (b <<< ((48 : Int32).toInt64 &&& 63)) ||| (c <<< ((40 : Int32).toInt64 &&& 63)) ||| (d <<< ((32 : Int32).toInt64 &&& 63)) ||| (e <<< ((24 : Int32).toInt64 &&& 63)) ||| (f <<< ((16 : Int32).toInt64 &&& 63)) ||| (g <<< ((8 : Int32).toInt64 &&& 63)) ||| z).toInt = W at *
  clear s0 t0 t1 t2 t3 t4 t5 t6 u1 x1 u2 x2 u3 x3 u4 x4 u5 x5 u6 x6 ha hb hc hd he hf hg hz
  omega
theorem own_div (V : Int) (h0 : 0 ≤ V) (h1 : V < 18446744073709551616) : V = V % 256 + 256 * (V / 256 % 256 + 256 * (V / 65536 % 256 + 256 * (V / 16777216 % 256 + 256 * (V / 4294967296 % 256 + 256 * (V / 1099511627776 % 256 + 256 * (V / 281474976710656 % 256 + 256 * (V / 72057594037927936 % 256))))))) := by
  have e2 : V / 65536 = V / 256 / 256 := by omega
  have e3 : V / 16777216 = V / 256 / 256 / 256 := by omega
  have e4 : V / 4294967296 = V / 16777216 / 256 := by omega
  have e5 : V / 1099511627776 = V / 4294967296 / 256 := by omega
  have e6 : V / 281474976710656 = V / 1099511627776 / 256 := by omega
  have e7 : V / 72057594037927936 = V / 281474976710656 / 256 := by omega
  have b7 : 0 ≤ V / 72057594037927936 ∧ V / 72057594037927936 < 256 := by omega
  generalize V / 72057594037927936 = a7 at *
  generalize V / 281474976710656 = a6 at *
  generalize V / 1099511627776 = a5 at *
  generalize V / 4294967296 = a4 at *
  generalize V / 16777216 = a3 at *
  generalize V / 65536 = a2 at *
  omega
theorem own_back (v : Int64) : (((((XT.ushrL v 56).toInt32.toInt8.toInt32.toInt8.toInt32 &&& 255) : Int32).toInt64 <<< ((56 : Int32).toInt64 &&& 63)) ||| ((((XT.ushrL v 48).toInt32.toInt8.toInt32.toInt8.toInt32 &&& 255) : Int32).toInt64 <<< ((48 : Int32).toInt64 &&& 63)) ||| ((((XT.ushrL v 40).toInt32.toInt8.toInt32.toInt8.toInt32 &&& 255) : Int32).toInt64 <<< ((40 : Int32).toInt64 &&& 63)) ||| ((((XT.ushrL v 32).toInt32.toInt8.toInt32.toInt8.toInt32 &&& 255) : Int32).toInt64 <<< ((32 : Int32).toInt64 &&& 63)) ||| ((((XT.ushrL v 24).toInt32.toInt8.toInt32.toInt8.toInt32 &&& 255) : Int32).toInt64 <<< ((24 : Int32).toInt64 &&& 63)) ||| ((((XT.ushrL v 16).toInt32.toInt8.toInt32.toInt8.toInt32 &&& 255) : Int32).toInt64 <<< ((16 : Int32).toInt64 &&& 63)) ||| ((((XT.ushrL v 8).toInt32.toInt8.toInt32.toInt8.toInt32 &&& 255) : Int32).toInt64 <<< ((8 : Int32).toInt64 &&& 63)) ||| (((v.toInt32.toInt8.toInt32.toInt8.toInt32 &&& 255) : Int32).toInt64)) = v := own_join _ _ _ _ _ _ _ _ v ((v.toInt % 18446744073709551616) % 256) ((v.toInt % 18446744073709551616) / 256 % 256) ((v.toInt % 18446744073709551616) / 65536 % 256) ((v.toInt % 18446744073709551616) / 16777216 % 256) ((v.toInt % 18446744073709551616) / 4294967296 % 256) ((v.toInt % 18446744073709551616) / 1099511627776 % 256) ((v.toInt % 18446744073709551616) / 281474976710656 % 256) ((v.toInt % 18446744073709551616) / 72057594037927936 % 256) (by rw [own_lb, own_ushr v 56 56 (by decide) (by decide) (by decide)]; rfl) (by rw [own_lb, own_ushr v 48 48 (by decide) (by decide) (by decide)]; rfl) (by rw [own_lb, own_ushr v 40 40 (by decide) (by decide) (by decide)]; rfl) (by rw [own_lb, own_ushr v 32 32 (by decide) (by decide) (by decide)]; rfl) (by rw [own_lb, own_ushr v 24 24 (by decide) (by decide) (by decide)]; rfl) (by rw [own_lb, own_ushr v 16 16 (by decide) (by decide) (by decide)]; rfl) (by rw [own_lb, own_ushr v 8 8 (by decide) (by decide) (by decide)]; rfl) (by rw [own_lb]; omega) (by omega) (by omega) (by omega) (by omega) (by omega) (by omega) (by omega) (by omega) (own_div _ (by omega) (by omega))
theorem own_at (p : Int32) : (p &&& 2147483647) % 5 = 0 ∨ (p &&& 2147483647) % 5 = 1 ∨ (p &&& 2147483647) % 5 = 2 ∨ (p &&& 2147483647) % 5 = 3 ∨ (p &&& 2147483647) % 5 = 4 := by
  have h := c_mask p 2147483647 31 (by decide) (by decide)
  have q := (c_irem (p &&& 2147483647) 5 5 (by decide)).1 (by omega)
  generalize (p &&& 2147483647) % 5 = r at *
  have e0 : (0 : Int32).toInt = 0 := by decide
  have e1 : (1 : Int32).toInt = 1 := by decide
  have e2 : (2 : Int32).toInt = 2 := by decide
  have e3 : (3 : Int32).toInt = 3 := by decide
  have e4 : (4 : Int32).toInt = 4 := by decide
  simp only [← Int32.toInt_inj]
  omega
theorem own_bb (x : Int32) : x.toInt8.toInt32.toInt8.toInt32 = x.toInt8.toInt32 := by rw [Int8.toInt8_toInt32]
theorem put0 {l : Launch} {Z : State} {a0 : Array Value} {n0 : Nat} (hw : HW Z a0) {v : Int64} {b0 b1 b2 b3 b4 b5 b6 b7 b8 b9 b10 b11 : Int32} : Meets K l Z n0 m1 [.ref 0, .int 0, .long v] [.inr (.byte, [.int b0, .int b1, .int b2, .int b3, .int b4, .int b5, .int b6, .int b7, .int b8, .int b9, .int b10, .int b11])] (some (.int (0 + 8))) [.inr (.byte, [.int (XT.ushrL v 56).toInt32.toInt8.toInt32.toInt8.toInt32, .int (XT.ushrL v 48).toInt32.toInt8.toInt32.toInt8.toInt32, .int (XT.ushrL v 40).toInt32.toInt8.toInt32.toInt8.toInt32, .int (XT.ushrL v 32).toInt32.toInt8.toInt32.toInt8.toInt32, .int (XT.ushrL v 24).toInt32.toInt8.toInt32.toInt8.toInt32, .int (XT.ushrL v 16).toInt32.toInt8.toInt32.toInt8.toInt32, .int (XT.ushrL v 8).toInt32.toInt8.toInt32.toInt8.toInt32, .int v.toInt32.toInt8.toInt32.toInt8.toInt32, .int b8, .int b9, .int b10, .int b11])] := by
  refine meets (ls := [_, _, _, _]) pf1 rfl (fun h => nomatch h) ?_
  refine r_aloadN i1_0 rfl rfl ?_
  refine r_iloadN i1_1 rfl ?_
  refine r_lloadN i1_2 rfl ?_
  refine r_bipush i1_3 ?_
  refine r_lushr i1_5 ?_
  refine r_l2i i1_6 ?_
  refine r_i2b i1_7 ?_
  refine r_bastore (i := 0) (vs' := [_, _, _, _, _, _, _, _, _, _, _, _]) (H1 := [_]) i1_8 rfl ⟨by decide, by decide⟩ (ltB rfl) rfl rfl ?_
  refine r_aloadN i1_9 rfl rfl ?_
  refine r_iloadN i1_10 rfl ?_
  refine r_iconst i1_11 ?_
  refine r_iadd i1_12 ?_
  refine r_lloadN i1_13 rfl ?_
  refine r_bipush i1_14 ?_
  refine r_lushr i1_16 ?_
  refine r_l2i i1_17 ?_
  refine r_i2b i1_18 ?_
  refine r_bastore (i := 1) (vs' := [_, _, _, _, _, _, _, _, _, _, _, _]) (H1 := [_]) i1_19 rfl ⟨by decide, by decide⟩ (ltB rfl) rfl rfl ?_
  refine r_aloadN i1_20 rfl rfl ?_
  refine r_iloadN i1_21 rfl ?_
  refine r_iconst i1_22 ?_
  refine r_iadd i1_23 ?_
  refine r_lloadN i1_24 rfl ?_
  refine r_bipush i1_25 ?_
  refine r_lushr i1_27 ?_
  refine r_l2i i1_28 ?_
  refine r_i2b i1_29 ?_
  refine r_bastore (i := 2) (vs' := [_, _, _, _, _, _, _, _, _, _, _, _]) (H1 := [_]) i1_30 rfl ⟨by decide, by decide⟩ (ltB rfl) rfl rfl ?_
  refine r_aloadN i1_31 rfl rfl ?_
  refine r_iloadN i1_32 rfl ?_
  refine r_iconst i1_33 ?_
  refine r_iadd i1_34 ?_
  refine r_lloadN i1_35 rfl ?_
  refine r_bipush i1_36 ?_
  refine r_lushr i1_38 ?_
  refine r_l2i i1_39 ?_
  refine r_i2b i1_40 ?_
  refine r_bastore (i := 3) (vs' := [_, _, _, _, _, _, _, _, _, _, _, _]) (H1 := [_]) i1_41 rfl ⟨by decide, by decide⟩ (ltB rfl) rfl rfl ?_
  refine r_aloadN i1_42 rfl rfl ?_
  refine r_iloadN i1_43 rfl ?_
  refine r_iconst i1_44 ?_
  refine r_iadd i1_45 ?_
  refine r_lloadN i1_46 rfl ?_
  refine r_bipush i1_47 ?_
  refine r_lushr i1_49 ?_
  refine r_l2i i1_50 ?_
  refine r_i2b i1_51 ?_
  refine r_bastore (i := 4) (vs' := [_, _, _, _, _, _, _, _, _, _, _, _]) (H1 := [_]) i1_52 rfl ⟨by decide, by decide⟩ (ltB rfl) rfl rfl ?_
  refine r_aloadN i1_53 rfl rfl ?_
  refine r_iloadN i1_54 rfl ?_
  refine r_iconst i1_55 ?_
  refine r_iadd i1_56 ?_
  refine r_lloadN i1_57 rfl ?_
  refine r_bipush i1_58 ?_
  refine r_lushr i1_60 ?_
  refine r_l2i i1_61 ?_
  refine r_i2b i1_62 ?_
  refine r_bastore (i := 5) (vs' := [_, _, _, _, _, _, _, _, _, _, _, _]) (H1 := [_]) i1_63 rfl ⟨by decide, by decide⟩ (ltB rfl) rfl rfl ?_
  refine r_aloadN i1_64 rfl rfl ?_
  refine r_iloadN i1_65 rfl ?_
  refine r_bipush i1_66 ?_
  refine r_iadd i1_68 ?_
  refine r_lloadN i1_69 rfl ?_
  refine r_bipush i1_70 ?_
  refine r_lushr i1_72 ?_
  refine r_l2i i1_73 ?_
  refine r_i2b i1_74 ?_
  refine r_bastore (i := 6) (vs' := [_, _, _, _, _, _, _, _, _, _, _, _]) (H1 := [_]) i1_75 rfl ⟨by decide, by decide⟩ (ltB rfl) rfl rfl ?_
  refine r_aloadN i1_76 rfl rfl ?_
  refine r_iloadN i1_77 rfl ?_
  refine r_bipush i1_78 ?_
  refine r_iadd i1_80 ?_
  refine r_lloadN i1_81 rfl ?_
  refine r_l2i i1_82 ?_
  refine r_i2b i1_83 ?_
  refine r_bastore (i := 7) (vs' := [_, _, _, _, _, _, _, _, _, _, _, _]) (H1 := [_]) i1_84 rfl ⟨by decide, by decide⟩ (ltB rfl) rfl rfl ?_
  refine r_iloadN i1_85 rfl ?_
  refine r_bipush i1_86 ?_
  refine r_iadd i1_88 ?_
  exact r_ireturn i1_89 rfl
theorem put1 {l : Launch} {Z : State} {a0 : Array Value} {n0 : Nat} (hw : HW Z a0) {v : Int64} {b0 b1 b2 b3 b4 b5 b6 b7 b8 b9 b10 b11 : Int32} : Meets K l Z n0 m1 [.ref 0, .int 1, .long v] [.inr (.byte, [.int b0, .int b1, .int b2, .int b3, .int b4, .int b5, .int b6, .int b7, .int b8, .int b9, .int b10, .int b11])] (some (.int (1 + 8))) [.inr (.byte, [.int b0, .int (XT.ushrL v 56).toInt32.toInt8.toInt32.toInt8.toInt32, .int (XT.ushrL v 48).toInt32.toInt8.toInt32.toInt8.toInt32, .int (XT.ushrL v 40).toInt32.toInt8.toInt32.toInt8.toInt32, .int (XT.ushrL v 32).toInt32.toInt8.toInt32.toInt8.toInt32, .int (XT.ushrL v 24).toInt32.toInt8.toInt32.toInt8.toInt32, .int (XT.ushrL v 16).toInt32.toInt8.toInt32.toInt8.toInt32, .int (XT.ushrL v 8).toInt32.toInt8.toInt32.toInt8.toInt32, .int v.toInt32.toInt8.toInt32.toInt8.toInt32, .int b9, .int b10, .int b11])] := by
  refine meets (ls := [_, _, _, _]) pf1 rfl (fun h => nomatch h) ?_
  refine r_aloadN i1_0 rfl rfl ?_
  refine r_iloadN i1_1 rfl ?_
  refine r_lloadN i1_2 rfl ?_
  refine r_bipush i1_3 ?_
  refine r_lushr i1_5 ?_
  refine r_l2i i1_6 ?_
  refine r_i2b i1_7 ?_
  refine r_bastore (i := 1) (vs' := [_, _, _, _, _, _, _, _, _, _, _, _]) (H1 := [_]) i1_8 rfl ⟨by decide, by decide⟩ (ltB rfl) rfl rfl ?_
  refine r_aloadN i1_9 rfl rfl ?_
  refine r_iloadN i1_10 rfl ?_
  refine r_iconst i1_11 ?_
  refine r_iadd i1_12 ?_
  refine r_lloadN i1_13 rfl ?_
  refine r_bipush i1_14 ?_
  refine r_lushr i1_16 ?_
  refine r_l2i i1_17 ?_
  refine r_i2b i1_18 ?_
  refine r_bastore (i := 2) (vs' := [_, _, _, _, _, _, _, _, _, _, _, _]) (H1 := [_]) i1_19 rfl ⟨by decide, by decide⟩ (ltB rfl) rfl rfl ?_
  refine r_aloadN i1_20 rfl rfl ?_
  refine r_iloadN i1_21 rfl ?_
  refine r_iconst i1_22 ?_
  refine r_iadd i1_23 ?_
  refine r_lloadN i1_24 rfl ?_
  refine r_bipush i1_25 ?_
  refine r_lushr i1_27 ?_
  refine r_l2i i1_28 ?_
  refine r_i2b i1_29 ?_
  refine r_bastore (i := 3) (vs' := [_, _, _, _, _, _, _, _, _, _, _, _]) (H1 := [_]) i1_30 rfl ⟨by decide, by decide⟩ (ltB rfl) rfl rfl ?_
  refine r_aloadN i1_31 rfl rfl ?_
  refine r_iloadN i1_32 rfl ?_
  refine r_iconst i1_33 ?_
  refine r_iadd i1_34 ?_
  refine r_lloadN i1_35 rfl ?_
  refine r_bipush i1_36 ?_
  refine r_lushr i1_38 ?_
  refine r_l2i i1_39 ?_
  refine r_i2b i1_40 ?_
  refine r_bastore (i := 4) (vs' := [_, _, _, _, _, _, _, _, _, _, _, _]) (H1 := [_]) i1_41 rfl ⟨by decide, by decide⟩ (ltB rfl) rfl rfl ?_
  refine r_aloadN i1_42 rfl rfl ?_
  refine r_iloadN i1_43 rfl ?_
  refine r_iconst i1_44 ?_
  refine r_iadd i1_45 ?_
  refine r_lloadN i1_46 rfl ?_
  refine r_bipush i1_47 ?_
  refine r_lushr i1_49 ?_
  refine r_l2i i1_50 ?_
  refine r_i2b i1_51 ?_
  refine r_bastore (i := 5) (vs' := [_, _, _, _, _, _, _, _, _, _, _, _]) (H1 := [_]) i1_52 rfl ⟨by decide, by decide⟩ (ltB rfl) rfl rfl ?_
  refine r_aloadN i1_53 rfl rfl ?_
  refine r_iloadN i1_54 rfl ?_
  refine r_iconst i1_55 ?_
  refine r_iadd i1_56 ?_
  refine r_lloadN i1_57 rfl ?_
  refine r_bipush i1_58 ?_
  refine r_lushr i1_60 ?_
  refine r_l2i i1_61 ?_
  refine r_i2b i1_62 ?_
  refine r_bastore (i := 6) (vs' := [_, _, _, _, _, _, _, _, _, _, _, _]) (H1 := [_]) i1_63 rfl ⟨by decide, by decide⟩ (ltB rfl) rfl rfl ?_
  refine r_aloadN i1_64 rfl rfl ?_
  refine r_iloadN i1_65 rfl ?_
  refine r_bipush i1_66 ?_
  refine r_iadd i1_68 ?_
  refine r_lloadN i1_69 rfl ?_
  refine r_bipush i1_70 ?_
  refine r_lushr i1_72 ?_
  refine r_l2i i1_73 ?_
  refine r_i2b i1_74 ?_
  refine r_bastore (i := 7) (vs' := [_, _, _, _, _, _, _, _, _, _, _, _]) (H1 := [_]) i1_75 rfl ⟨by decide, by decide⟩ (ltB rfl) rfl rfl ?_
  refine r_aloadN i1_76 rfl rfl ?_
  refine r_iloadN i1_77 rfl ?_
  refine r_bipush i1_78 ?_
  refine r_iadd i1_80 ?_
  refine r_lloadN i1_81 rfl ?_
  refine r_l2i i1_82 ?_
  refine r_i2b i1_83 ?_
  refine r_bastore (i := 8) (vs' := [_, _, _, _, _, _, _, _, _, _, _, _]) (H1 := [_]) i1_84 rfl ⟨by decide, by decide⟩ (ltB rfl) rfl rfl ?_
  refine r_iloadN i1_85 rfl ?_
  refine r_bipush i1_86 ?_
  refine r_iadd i1_88 ?_
  exact r_ireturn i1_89 rfl
theorem put2 {l : Launch} {Z : State} {a0 : Array Value} {n0 : Nat} (hw : HW Z a0) {v : Int64} {b0 b1 b2 b3 b4 b5 b6 b7 b8 b9 b10 b11 : Int32} : Meets K l Z n0 m1 [.ref 0, .int 2, .long v] [.inr (.byte, [.int b0, .int b1, .int b2, .int b3, .int b4, .int b5, .int b6, .int b7, .int b8, .int b9, .int b10, .int b11])] (some (.int (2 + 8))) [.inr (.byte, [.int b0, .int b1, .int (XT.ushrL v 56).toInt32.toInt8.toInt32.toInt8.toInt32, .int (XT.ushrL v 48).toInt32.toInt8.toInt32.toInt8.toInt32, .int (XT.ushrL v 40).toInt32.toInt8.toInt32.toInt8.toInt32, .int (XT.ushrL v 32).toInt32.toInt8.toInt32.toInt8.toInt32, .int (XT.ushrL v 24).toInt32.toInt8.toInt32.toInt8.toInt32, .int (XT.ushrL v 16).toInt32.toInt8.toInt32.toInt8.toInt32, .int (XT.ushrL v 8).toInt32.toInt8.toInt32.toInt8.toInt32, .int v.toInt32.toInt8.toInt32.toInt8.toInt32, .int b10, .int b11])] := by
  refine meets (ls := [_, _, _, _]) pf1 rfl (fun h => nomatch h) ?_
  refine r_aloadN i1_0 rfl rfl ?_
  refine r_iloadN i1_1 rfl ?_
  refine r_lloadN i1_2 rfl ?_
  refine r_bipush i1_3 ?_
  refine r_lushr i1_5 ?_
  refine r_l2i i1_6 ?_
  refine r_i2b i1_7 ?_
  refine r_bastore (i := 2) (vs' := [_, _, _, _, _, _, _, _, _, _, _, _]) (H1 := [_]) i1_8 rfl ⟨by decide, by decide⟩ (ltB rfl) rfl rfl ?_
  refine r_aloadN i1_9 rfl rfl ?_
  refine r_iloadN i1_10 rfl ?_
  refine r_iconst i1_11 ?_
  refine r_iadd i1_12 ?_
  refine r_lloadN i1_13 rfl ?_
  refine r_bipush i1_14 ?_
  refine r_lushr i1_16 ?_
  refine r_l2i i1_17 ?_
  refine r_i2b i1_18 ?_
  refine r_bastore (i := 3) (vs' := [_, _, _, _, _, _, _, _, _, _, _, _]) (H1 := [_]) i1_19 rfl ⟨by decide, by decide⟩ (ltB rfl) rfl rfl ?_
  refine r_aloadN i1_20 rfl rfl ?_
  refine r_iloadN i1_21 rfl ?_
  refine r_iconst i1_22 ?_
  refine r_iadd i1_23 ?_
  refine r_lloadN i1_24 rfl ?_
  refine r_bipush i1_25 ?_
  refine r_lushr i1_27 ?_
  refine r_l2i i1_28 ?_
  refine r_i2b i1_29 ?_
  refine r_bastore (i := 4) (vs' := [_, _, _, _, _, _, _, _, _, _, _, _]) (H1 := [_]) i1_30 rfl ⟨by decide, by decide⟩ (ltB rfl) rfl rfl ?_
  refine r_aloadN i1_31 rfl rfl ?_
  refine r_iloadN i1_32 rfl ?_
  refine r_iconst i1_33 ?_
  refine r_iadd i1_34 ?_
  refine r_lloadN i1_35 rfl ?_
  refine r_bipush i1_36 ?_
  refine r_lushr i1_38 ?_
  refine r_l2i i1_39 ?_
  refine r_i2b i1_40 ?_
  refine r_bastore (i := 5) (vs' := [_, _, _, _, _, _, _, _, _, _, _, _]) (H1 := [_]) i1_41 rfl ⟨by decide, by decide⟩ (ltB rfl) rfl rfl ?_
  refine r_aloadN i1_42 rfl rfl ?_
  refine r_iloadN i1_43 rfl ?_
  refine r_iconst i1_44 ?_
  refine r_iadd i1_45 ?_
  refine r_lloadN i1_46 rfl ?_
  refine r_bipush i1_47 ?_
  refine r_lushr i1_49 ?_
  refine r_l2i i1_50 ?_
  refine r_i2b i1_51 ?_
  refine r_bastore (i := 6) (vs' := [_, _, _, _, _, _, _, _, _, _, _, _]) (H1 := [_]) i1_52 rfl ⟨by decide, by decide⟩ (ltB rfl) rfl rfl ?_
  refine r_aloadN i1_53 rfl rfl ?_
  refine r_iloadN i1_54 rfl ?_
  refine r_iconst i1_55 ?_
  refine r_iadd i1_56 ?_
  refine r_lloadN i1_57 rfl ?_
  refine r_bipush i1_58 ?_
  refine r_lushr i1_60 ?_
  refine r_l2i i1_61 ?_
  refine r_i2b i1_62 ?_
  refine r_bastore (i := 7) (vs' := [_, _, _, _, _, _, _, _, _, _, _, _]) (H1 := [_]) i1_63 rfl ⟨by decide, by decide⟩ (ltB rfl) rfl rfl ?_
  refine r_aloadN i1_64 rfl rfl ?_
  refine r_iloadN i1_65 rfl ?_
  refine r_bipush i1_66 ?_
  refine r_iadd i1_68 ?_
  refine r_lloadN i1_69 rfl ?_
  refine r_bipush i1_70 ?_
  refine r_lushr i1_72 ?_
  refine r_l2i i1_73 ?_
  refine r_i2b i1_74 ?_
  refine r_bastore (i := 8) (vs' := [_, _, _, _, _, _, _, _, _, _, _, _]) (H1 := [_]) i1_75 rfl ⟨by decide, by decide⟩ (ltB rfl) rfl rfl ?_
  refine r_aloadN i1_76 rfl rfl ?_
  refine r_iloadN i1_77 rfl ?_
  refine r_bipush i1_78 ?_
  refine r_iadd i1_80 ?_
  refine r_lloadN i1_81 rfl ?_
  refine r_l2i i1_82 ?_
  refine r_i2b i1_83 ?_
  refine r_bastore (i := 9) (vs' := [_, _, _, _, _, _, _, _, _, _, _, _]) (H1 := [_]) i1_84 rfl ⟨by decide, by decide⟩ (ltB rfl) rfl rfl ?_
  refine r_iloadN i1_85 rfl ?_
  refine r_bipush i1_86 ?_
  refine r_iadd i1_88 ?_
  exact r_ireturn i1_89 rfl
theorem put3 {l : Launch} {Z : State} {a0 : Array Value} {n0 : Nat} (hw : HW Z a0) {v : Int64} {b0 b1 b2 b3 b4 b5 b6 b7 b8 b9 b10 b11 : Int32} : Meets K l Z n0 m1 [.ref 0, .int 3, .long v] [.inr (.byte, [.int b0, .int b1, .int b2, .int b3, .int b4, .int b5, .int b6, .int b7, .int b8, .int b9, .int b10, .int b11])] (some (.int (3 + 8))) [.inr (.byte, [.int b0, .int b1, .int b2, .int (XT.ushrL v 56).toInt32.toInt8.toInt32.toInt8.toInt32, .int (XT.ushrL v 48).toInt32.toInt8.toInt32.toInt8.toInt32, .int (XT.ushrL v 40).toInt32.toInt8.toInt32.toInt8.toInt32, .int (XT.ushrL v 32).toInt32.toInt8.toInt32.toInt8.toInt32, .int (XT.ushrL v 24).toInt32.toInt8.toInt32.toInt8.toInt32, .int (XT.ushrL v 16).toInt32.toInt8.toInt32.toInt8.toInt32, .int (XT.ushrL v 8).toInt32.toInt8.toInt32.toInt8.toInt32, .int v.toInt32.toInt8.toInt32.toInt8.toInt32, .int b11])] := by
  refine meets (ls := [_, _, _, _]) pf1 rfl (fun h => nomatch h) ?_
  refine r_aloadN i1_0 rfl rfl ?_
  refine r_iloadN i1_1 rfl ?_
  refine r_lloadN i1_2 rfl ?_
  refine r_bipush i1_3 ?_
  refine r_lushr i1_5 ?_
  refine r_l2i i1_6 ?_
  refine r_i2b i1_7 ?_
  refine r_bastore (i := 3) (vs' := [_, _, _, _, _, _, _, _, _, _, _, _]) (H1 := [_]) i1_8 rfl ⟨by decide, by decide⟩ (ltB rfl) rfl rfl ?_
  refine r_aloadN i1_9 rfl rfl ?_
  refine r_iloadN i1_10 rfl ?_
  refine r_iconst i1_11 ?_
  refine r_iadd i1_12 ?_
  refine r_lloadN i1_13 rfl ?_
  refine r_bipush i1_14 ?_
  refine r_lushr i1_16 ?_
  refine r_l2i i1_17 ?_
  refine r_i2b i1_18 ?_
  refine r_bastore (i := 4) (vs' := [_, _, _, _, _, _, _, _, _, _, _, _]) (H1 := [_]) i1_19 rfl ⟨by decide, by decide⟩ (ltB rfl) rfl rfl ?_
  refine r_aloadN i1_20 rfl rfl ?_
  refine r_iloadN i1_21 rfl ?_
  refine r_iconst i1_22 ?_
  refine r_iadd i1_23 ?_
  refine r_lloadN i1_24 rfl ?_
  refine r_bipush i1_25 ?_
  refine r_lushr i1_27 ?_
  refine r_l2i i1_28 ?_
  refine r_i2b i1_29 ?_
  refine r_bastore (i := 5) (vs' := [_, _, _, _, _, _, _, _, _, _, _, _]) (H1 := [_]) i1_30 rfl ⟨by decide, by decide⟩ (ltB rfl) rfl rfl ?_
  refine r_aloadN i1_31 rfl rfl ?_
  refine r_iloadN i1_32 rfl ?_
  refine r_iconst i1_33 ?_
  refine r_iadd i1_34 ?_
  refine r_lloadN i1_35 rfl ?_
  refine r_bipush i1_36 ?_
  refine r_lushr i1_38 ?_
  refine r_l2i i1_39 ?_
  refine r_i2b i1_40 ?_
  refine r_bastore (i := 6) (vs' := [_, _, _, _, _, _, _, _, _, _, _, _]) (H1 := [_]) i1_41 rfl ⟨by decide, by decide⟩ (ltB rfl) rfl rfl ?_
  refine r_aloadN i1_42 rfl rfl ?_
  refine r_iloadN i1_43 rfl ?_
  refine r_iconst i1_44 ?_
  refine r_iadd i1_45 ?_
  refine r_lloadN i1_46 rfl ?_
  refine r_bipush i1_47 ?_
  refine r_lushr i1_49 ?_
  refine r_l2i i1_50 ?_
  refine r_i2b i1_51 ?_
  refine r_bastore (i := 7) (vs' := [_, _, _, _, _, _, _, _, _, _, _, _]) (H1 := [_]) i1_52 rfl ⟨by decide, by decide⟩ (ltB rfl) rfl rfl ?_
  refine r_aloadN i1_53 rfl rfl ?_
  refine r_iloadN i1_54 rfl ?_
  refine r_iconst i1_55 ?_
  refine r_iadd i1_56 ?_
  refine r_lloadN i1_57 rfl ?_
  refine r_bipush i1_58 ?_
  refine r_lushr i1_60 ?_
  refine r_l2i i1_61 ?_
  refine r_i2b i1_62 ?_
  refine r_bastore (i := 8) (vs' := [_, _, _, _, _, _, _, _, _, _, _, _]) (H1 := [_]) i1_63 rfl ⟨by decide, by decide⟩ (ltB rfl) rfl rfl ?_
  refine r_aloadN i1_64 rfl rfl ?_
  refine r_iloadN i1_65 rfl ?_
  refine r_bipush i1_66 ?_
  refine r_iadd i1_68 ?_
  refine r_lloadN i1_69 rfl ?_
  refine r_bipush i1_70 ?_
  refine r_lushr i1_72 ?_
  refine r_l2i i1_73 ?_
  refine r_i2b i1_74 ?_
  refine r_bastore (i := 9) (vs' := [_, _, _, _, _, _, _, _, _, _, _, _]) (H1 := [_]) i1_75 rfl ⟨by decide, by decide⟩ (ltB rfl) rfl rfl ?_
  refine r_aloadN i1_76 rfl rfl ?_
  refine r_iloadN i1_77 rfl ?_
  refine r_bipush i1_78 ?_
  refine r_iadd i1_80 ?_
  refine r_lloadN i1_81 rfl ?_
  refine r_l2i i1_82 ?_
  refine r_i2b i1_83 ?_
  refine r_bastore (i := 10) (vs' := [_, _, _, _, _, _, _, _, _, _, _, _]) (H1 := [_]) i1_84 rfl ⟨by decide, by decide⟩ (ltB rfl) rfl rfl ?_
  refine r_iloadN i1_85 rfl ?_
  refine r_bipush i1_86 ?_
  refine r_iadd i1_88 ?_
  exact r_ireturn i1_89 rfl
theorem put4 {l : Launch} {Z : State} {a0 : Array Value} {n0 : Nat} (hw : HW Z a0) {v : Int64} {b0 b1 b2 b3 b4 b5 b6 b7 b8 b9 b10 b11 : Int32} : Meets K l Z n0 m1 [.ref 0, .int 4, .long v] [.inr (.byte, [.int b0, .int b1, .int b2, .int b3, .int b4, .int b5, .int b6, .int b7, .int b8, .int b9, .int b10, .int b11])] (some (.int (4 + 8))) [.inr (.byte, [.int b0, .int b1, .int b2, .int b3, .int (XT.ushrL v 56).toInt32.toInt8.toInt32.toInt8.toInt32, .int (XT.ushrL v 48).toInt32.toInt8.toInt32.toInt8.toInt32, .int (XT.ushrL v 40).toInt32.toInt8.toInt32.toInt8.toInt32, .int (XT.ushrL v 32).toInt32.toInt8.toInt32.toInt8.toInt32, .int (XT.ushrL v 24).toInt32.toInt8.toInt32.toInt8.toInt32, .int (XT.ushrL v 16).toInt32.toInt8.toInt32.toInt8.toInt32, .int (XT.ushrL v 8).toInt32.toInt8.toInt32.toInt8.toInt32, .int v.toInt32.toInt8.toInt32.toInt8.toInt32])] := by
  refine meets (ls := [_, _, _, _]) pf1 rfl (fun h => nomatch h) ?_
  refine r_aloadN i1_0 rfl rfl ?_
  refine r_iloadN i1_1 rfl ?_
  refine r_lloadN i1_2 rfl ?_
  refine r_bipush i1_3 ?_
  refine r_lushr i1_5 ?_
  refine r_l2i i1_6 ?_
  refine r_i2b i1_7 ?_
  refine r_bastore (i := 4) (vs' := [_, _, _, _, _, _, _, _, _, _, _, _]) (H1 := [_]) i1_8 rfl ⟨by decide, by decide⟩ (ltB rfl) rfl rfl ?_
  refine r_aloadN i1_9 rfl rfl ?_
  refine r_iloadN i1_10 rfl ?_
  refine r_iconst i1_11 ?_
  refine r_iadd i1_12 ?_
  refine r_lloadN i1_13 rfl ?_
  refine r_bipush i1_14 ?_
  refine r_lushr i1_16 ?_
  refine r_l2i i1_17 ?_
  refine r_i2b i1_18 ?_
  refine r_bastore (i := 5) (vs' := [_, _, _, _, _, _, _, _, _, _, _, _]) (H1 := [_]) i1_19 rfl ⟨by decide, by decide⟩ (ltB rfl) rfl rfl ?_
  refine r_aloadN i1_20 rfl rfl ?_
  refine r_iloadN i1_21 rfl ?_
  refine r_iconst i1_22 ?_
  refine r_iadd i1_23 ?_
  refine r_lloadN i1_24 rfl ?_
  refine r_bipush i1_25 ?_
  refine r_lushr i1_27 ?_
  refine r_l2i i1_28 ?_
  refine r_i2b i1_29 ?_
  refine r_bastore (i := 6) (vs' := [_, _, _, _, _, _, _, _, _, _, _, _]) (H1 := [_]) i1_30 rfl ⟨by decide, by decide⟩ (ltB rfl) rfl rfl ?_
  refine r_aloadN i1_31 rfl rfl ?_
  refine r_iloadN i1_32 rfl ?_
  refine r_iconst i1_33 ?_
  refine r_iadd i1_34 ?_
  refine r_lloadN i1_35 rfl ?_
  refine r_bipush i1_36 ?_
  refine r_lushr i1_38 ?_
  refine r_l2i i1_39 ?_
  refine r_i2b i1_40 ?_
  refine r_bastore (i := 7) (vs' := [_, _, _, _, _, _, _, _, _, _, _, _]) (H1 := [_]) i1_41 rfl ⟨by decide, by decide⟩ (ltB rfl) rfl rfl ?_
  refine r_aloadN i1_42 rfl rfl ?_
  refine r_iloadN i1_43 rfl ?_
  refine r_iconst i1_44 ?_
  refine r_iadd i1_45 ?_
  refine r_lloadN i1_46 rfl ?_
  refine r_bipush i1_47 ?_
  refine r_lushr i1_49 ?_
  refine r_l2i i1_50 ?_
  refine r_i2b i1_51 ?_
  refine r_bastore (i := 8) (vs' := [_, _, _, _, _, _, _, _, _, _, _, _]) (H1 := [_]) i1_52 rfl ⟨by decide, by decide⟩ (ltB rfl) rfl rfl ?_
  refine r_aloadN i1_53 rfl rfl ?_
  refine r_iloadN i1_54 rfl ?_
  refine r_iconst i1_55 ?_
  refine r_iadd i1_56 ?_
  refine r_lloadN i1_57 rfl ?_
  refine r_bipush i1_58 ?_
  refine r_lushr i1_60 ?_
  refine r_l2i i1_61 ?_
  refine r_i2b i1_62 ?_
  refine r_bastore (i := 9) (vs' := [_, _, _, _, _, _, _, _, _, _, _, _]) (H1 := [_]) i1_63 rfl ⟨by decide, by decide⟩ (ltB rfl) rfl rfl ?_
  refine r_aloadN i1_64 rfl rfl ?_
  refine r_iloadN i1_65 rfl ?_
  refine r_bipush i1_66 ?_
  refine r_iadd i1_68 ?_
  refine r_lloadN i1_69 rfl ?_
  refine r_bipush i1_70 ?_
  refine r_lushr i1_72 ?_
  refine r_l2i i1_73 ?_
  refine r_i2b i1_74 ?_
  refine r_bastore (i := 10) (vs' := [_, _, _, _, _, _, _, _, _, _, _, _]) (H1 := [_]) i1_75 rfl ⟨by decide, by decide⟩ (ltB rfl) rfl rfl ?_
  refine r_aloadN i1_76 rfl rfl ?_
  refine r_iloadN i1_77 rfl ?_
  refine r_bipush i1_78 ?_
  refine r_iadd i1_80 ?_
  refine r_lloadN i1_81 rfl ?_
  refine r_l2i i1_82 ?_
  refine r_i2b i1_83 ?_
  refine r_bastore (i := 11) (vs' := [_, _, _, _, _, _, _, _, _, _, _, _]) (H1 := [_]) i1_84 rfl ⟨by decide, by decide⟩ (ltB rfl) rfl rfl ?_
  refine r_iloadN i1_85 rfl ?_
  refine r_bipush i1_86 ?_
  refine r_iadd i1_88 ?_
  exact r_ireturn i1_89 rfl
theorem kept_in {l : Launch} {Z : State} {a0 : Array Value} {n0 : Nat} (hw : HW Z a0) {i a f : Int32} {vs : List Value} (h1 : ¬ i < a) (h2 : i < a + 8) : Meets K l Z n0 m2 [.ref 0, .int i, .int a, .int f] [.inr (.byte, vs)] (some (.int 1)) [.inr (.byte, vs)] := by
  refine meets (ls := [_, _, _, _]) pf2 rfl (fun h => nomatch h) ?_
  refine r_iloadN i2_0 rfl ?_
  refine r_iloadN i2_1 rfl ?_
  refine r_icF i2_2 (XT.ii_lt_f h1) ?_
  refine r_iloadN i2_5 rfl ?_
  refine r_iloadN i2_6 rfl ?_
  refine r_bipush i2_7 ?_
  refine r_iadd i2_9 ?_
  refine r_icT i2_10 (XT.ii_lt_t h2) ?_
  refine r_iconst i2_20 ?_
  refine r_goto i2_21 ?_
  exact r_zreturn i2_25 rfl (by first | decide | simp)
theorem kept_lo {l : Launch} {Z : State} {a0 : Array Value} {n0 : Nat} (hw : HW Z a0) {i : Int32} {k : Nat} {a f w : Int32} {vs : List Value} (h1 : i < a) (hi : Ix i k) (hv : vs[k]? = some (.int w)) (he : w = f) : Meets K l Z n0 m2 [.ref 0, .int i, .int a, .int f] [.inr (.byte, vs)] (some (.int 1)) [.inr (.byte, vs)] := by
  refine meets (ls := [_, _, _, _]) pf2 rfl (fun h => nomatch h) ?_
  refine r_iloadN i2_0 rfl ?_
  refine r_iloadN i2_1 rfl ?_
  refine r_icT i2_2 (XT.ii_lt_t h1) ?_
  refine r_aloadN i2_13 rfl rfl ?_
  refine r_iloadN i2_14 rfl ?_
  refine r_baload i2_15 rfl hi hv ?_
  refine r_iloadN i2_16 rfl ?_
  refine r_icF i2_17 (XT.ii_ne_f he) ?_
  refine r_iconst i2_20 ?_
  refine r_goto i2_21 ?_
  exact r_zreturn i2_25 rfl (by first | decide | simp)
theorem kept_hi {l : Launch} {Z : State} {a0 : Array Value} {n0 : Nat} (hw : HW Z a0) {i : Int32} {k : Nat} {a f w : Int32} {vs : List Value} (h1 : ¬ i < a) (h2 : ¬ i < a + 8) (hi : Ix i k) (hv : vs[k]? = some (.int w)) (he : w = f) : Meets K l Z n0 m2 [.ref 0, .int i, .int a, .int f] [.inr (.byte, vs)] (some (.int 1)) [.inr (.byte, vs)] := by
  refine meets (ls := [_, _, _, _]) pf2 rfl (fun h => nomatch h) ?_
  refine r_iloadN i2_0 rfl ?_
  refine r_iloadN i2_1 rfl ?_
  refine r_icF i2_2 (XT.ii_lt_f h1) ?_
  refine r_iloadN i2_5 rfl ?_
  refine r_iloadN i2_6 rfl ?_
  refine r_bipush i2_7 ?_
  refine r_iadd i2_9 ?_
  refine r_icF i2_10 (XT.ii_lt_f h2) ?_
  refine r_aloadN i2_13 rfl rfl ?_
  refine r_iloadN i2_14 rfl ?_
  refine r_baload i2_15 rfl hi hv ?_
  refine r_iloadN i2_16 rfl ?_
  refine r_icF i2_17 (XT.ii_ne_f he) ?_
  refine r_iconst i2_20 ?_
  refine r_goto i2_21 ?_
  exact r_zreturn i2_25 rfl (by first | decide | simp)
set_option maxHeartbeats 8000000 in
theorem law_runs {l : Launch} {Z : State} {a0 : Array Value} {n0 : Nat} (hw : HW Z a0) (p0 : Int64) (p1 : Int32) (p2 : Int32) : RunsB K l Z n0 m0 0 [.val (.long p0), .second, .val (.int p1), .val (.int p2), .unset, .unset, .unset, .unset, .unset, .unset] [] [] (some (.int 1)) 16 128 := by
  refine lift (fun _ kk => r_iloadN i0_0 rfl kk) ?_
  refine lift (fun _ kk => s0_1 hw kk) ?_
  refine lift (fun _ kk => r_iand i0_3 kk) ?_
  refine lift (fun _ kk => r_iconst i0_4 kk) ?_
  refine lift (fun _ kk => r_irem i0_5 (by decide) kk) ?_
  refine lift (fun _ kk => r_istore (ls' := [_, _, _, _, _, _, _, _, _, _]) i0_6 rfl rfl kk) ?_
  rcases own_at p1 with h | h | h | h | h
  · rw [h]
    refine lift (fun _ kk => r_iloadN i0_8 rfl kk) ?_
    refine lift (fun _ kk => r_i2b i0_9 kk) ?_
    refine lift (fun _ kk => r_istore (ls' := [_, _, _, _, _, _, _, _, _, _]) i0_10 rfl rfl kk) ?_
    refine lift (fun _ kk => r_bipush i0_12 kk) ?_
    refine lift (fun _ kk => s0_14 hw (a := 0) (o := [.int 0, .int 0, .int 0, .int 0, .int 0, .int 0, .int 0, .int 0, .int 0, .int 0, .int 0, .int 0]) (H1 := [_]) (by decide) (by decide) rfl rfl rfl kk) ?_
    refine lift (fun _ kk => r_astore (ls' := [_, _, _, _, _, _, _, _, _, _]) i0_16 rfl rfl rfl kk) ?_
    refine lift (fun _ kk => r_aload i0_18 rfl rfl kk) ?_
    refine lift (fun _ kk => r_iconst i0_20 kk) ?_
    refine lift (fun _ kk => r_iload i0_21 rfl kk) ?_
    refine lift (fun _ kk => r_bastore (i := 0) (vs' := [_, _, _, _, _, _, _, _, _, _, _, _]) (H1 := [_]) i0_23 rfl ⟨by decide, by decide⟩ (ltB rfl) rfl rfl kk) ?_
    refine lift (fun _ kk => r_aload i0_24 rfl rfl kk) ?_
    refine lift (fun _ kk => r_iconst i0_26 kk) ?_
    refine lift (fun _ kk => r_iload i0_27 rfl kk) ?_
    refine lift (fun _ kk => r_bastore (i := 1) (vs' := [_, _, _, _, _, _, _, _, _, _, _, _]) (H1 := [_]) i0_29 rfl ⟨by decide, by decide⟩ (ltB rfl) rfl rfl kk) ?_
    refine lift (fun _ kk => r_aload i0_30 rfl rfl kk) ?_
    refine lift (fun _ kk => r_iconst i0_32 kk) ?_
    refine lift (fun _ kk => r_iload i0_33 rfl kk) ?_
    refine lift (fun _ kk => r_bastore (i := 2) (vs' := [_, _, _, _, _, _, _, _, _, _, _, _]) (H1 := [_]) i0_35 rfl ⟨by decide, by decide⟩ (ltB rfl) rfl rfl kk) ?_
    refine lift (fun _ kk => r_aload i0_36 rfl rfl kk) ?_
    refine lift (fun _ kk => r_iconst i0_38 kk) ?_
    refine lift (fun _ kk => r_iload i0_39 rfl kk) ?_
    refine lift (fun _ kk => r_bastore (i := 3) (vs' := [_, _, _, _, _, _, _, _, _, _, _, _]) (H1 := [_]) i0_41 rfl ⟨by decide, by decide⟩ (ltB rfl) rfl rfl kk) ?_
    refine lift (fun _ kk => r_aload i0_42 rfl rfl kk) ?_
    refine lift (fun _ kk => r_iconst i0_44 kk) ?_
    refine lift (fun _ kk => r_iload i0_45 rfl kk) ?_
    refine lift (fun _ kk => r_bastore (i := 4) (vs' := [_, _, _, _, _, _, _, _, _, _, _, _]) (H1 := [_]) i0_47 rfl ⟨by decide, by decide⟩ (ltB rfl) rfl rfl kk) ?_
    refine lift (fun _ kk => r_aload i0_48 rfl rfl kk) ?_
    refine lift (fun _ kk => r_iconst i0_50 kk) ?_
    refine lift (fun _ kk => r_iload i0_51 rfl kk) ?_
    refine lift (fun _ kk => r_bastore (i := 5) (vs' := [_, _, _, _, _, _, _, _, _, _, _, _]) (H1 := [_]) i0_53 rfl ⟨by decide, by decide⟩ (ltB rfl) rfl rfl kk) ?_
    refine lift (fun _ kk => r_aload i0_54 rfl rfl kk) ?_
    refine lift (fun _ kk => r_bipush i0_56 kk) ?_
    refine lift (fun _ kk => r_iload i0_58 rfl kk) ?_
    refine lift (fun _ kk => r_bastore (i := 6) (vs' := [_, _, _, _, _, _, _, _, _, _, _, _]) (H1 := [_]) i0_60 rfl ⟨by decide, by decide⟩ (ltB rfl) rfl rfl kk) ?_
    refine lift (fun _ kk => r_aload i0_61 rfl rfl kk) ?_
    refine lift (fun _ kk => r_bipush i0_63 kk) ?_
    refine lift (fun _ kk => r_iload i0_65 rfl kk) ?_
    refine lift (fun _ kk => r_bastore (i := 7) (vs' := [_, _, _, _, _, _, _, _, _, _, _, _]) (H1 := [_]) i0_67 rfl ⟨by decide, by decide⟩ (ltB rfl) rfl rfl kk) ?_
    refine lift (fun _ kk => r_aload i0_68 rfl rfl kk) ?_
    refine lift (fun _ kk => r_bipush i0_70 kk) ?_
    refine lift (fun _ kk => r_iload i0_72 rfl kk) ?_
    refine lift (fun _ kk => r_bastore (i := 8) (vs' := [_, _, _, _, _, _, _, _, _, _, _, _]) (H1 := [_]) i0_74 rfl ⟨by decide, by decide⟩ (ltB rfl) rfl rfl kk) ?_
    refine lift (fun _ kk => r_aload i0_75 rfl rfl kk) ?_
    refine lift (fun _ kk => r_bipush i0_77 kk) ?_
    refine lift (fun _ kk => r_iload i0_79 rfl kk) ?_
    refine lift (fun _ kk => r_bastore (i := 9) (vs' := [_, _, _, _, _, _, _, _, _, _, _, _]) (H1 := [_]) i0_81 rfl ⟨by decide, by decide⟩ (ltB rfl) rfl rfl kk) ?_
    refine lift (fun _ kk => r_aload i0_82 rfl rfl kk) ?_
    refine lift (fun _ kk => r_bipush i0_84 kk) ?_
    refine lift (fun _ kk => r_iload i0_86 rfl kk) ?_
    refine lift (fun _ kk => r_bastore (i := 10) (vs' := [_, _, _, _, _, _, _, _, _, _, _, _]) (H1 := [_]) i0_88 rfl ⟨by decide, by decide⟩ (ltB rfl) rfl rfl kk) ?_
    refine lift (fun _ kk => r_aload i0_89 rfl rfl kk) ?_
    refine lift (fun _ kk => r_bipush i0_91 kk) ?_
    refine lift (fun _ kk => r_iload i0_93 rfl kk) ?_
    refine lift (fun _ kk => r_bastore (i := 11) (vs' := [_, _, _, _, _, _, _, _, _, _, _, _]) (H1 := [_]) i0_95 rfl ⟨by decide, by decide⟩ (ltB rfl) rfl rfl kk) ?_
    refine lift (fun _ kk => r_aload i0_96 rfl rfl kk) ?_
    refine lift (fun _ kk => r_iload i0_98 rfl kk) ?_
    refine lift (fun _ kk => r_lloadN i0_100 rfl kk) ?_
    refine lift (fun _ kk => s0_101 hw (H1 := [_]) (put0 hw) rfl (leB rfl) kk) ?_
    refine lift (fun _ kk => r_istore (ls' := [_, _, _, _, _, _, _, _, _, _]) i0_104 rfl rfl kk) ?_
    refine lift (fun _ kk => r_iload i0_106 rfl kk) ?_
    refine lift (fun _ kk => r_iload i0_108 rfl kk) ?_
    refine lift (fun _ kk => r_bipush i0_110 kk) ?_
    refine lift (fun _ kk => r_iadd i0_112 kk) ?_
    refine lift (fun _ kk => r_icT i0_113 (XT.ii_eq_t rfl) kk) ?_
    refine lift (fun _ kk => r_aload i0_118 rfl rfl kk) ?_
    refine lift (fun _ kk => r_iload i0_120 rfl kk) ?_
    refine lift (fun _ kk => r_baload (i := 0) i0_122 rfl ⟨by decide, by decide⟩ rfl kk) ?_
    refine lift (fun _ kk => r_sipush i0_123 kk) ?_
    refine lift (fun _ kk => r_iand i0_126 kk) ?_
    refine lift (fun _ kk => r_i2l i0_127 kk) ?_
    refine lift (fun _ kk => r_bipush i0_128 kk) ?_
    refine lift (fun _ kk => r_lshl i0_130 kk) ?_
    refine lift (fun _ kk => r_aload i0_131 rfl rfl kk) ?_
    refine lift (fun _ kk => r_iload i0_133 rfl kk) ?_
    refine lift (fun _ kk => r_iconst i0_135 kk) ?_
    refine lift (fun _ kk => r_iadd i0_136 kk) ?_
    refine lift (fun _ kk => r_baload (i := 1) i0_137 rfl ⟨by decide, by decide⟩ rfl kk) ?_
    refine lift (fun _ kk => r_sipush i0_138 kk) ?_
    refine lift (fun _ kk => r_iand i0_141 kk) ?_
    refine lift (fun _ kk => r_i2l i0_142 kk) ?_
    refine lift (fun _ kk => r_bipush i0_143 kk) ?_
    refine lift (fun _ kk => r_lshl i0_145 kk) ?_
    refine lift (fun _ kk => r_lor i0_146 kk) ?_
    refine lift (fun _ kk => r_aload i0_147 rfl rfl kk) ?_
    refine lift (fun _ kk => r_iload i0_149 rfl kk) ?_
    refine lift (fun _ kk => r_iconst i0_151 kk) ?_
    refine lift (fun _ kk => r_iadd i0_152 kk) ?_
    refine lift (fun _ kk => r_baload (i := 2) i0_153 rfl ⟨by decide, by decide⟩ rfl kk) ?_
    refine lift (fun _ kk => r_sipush i0_154 kk) ?_
    refine lift (fun _ kk => r_iand i0_157 kk) ?_
    refine lift (fun _ kk => r_i2l i0_158 kk) ?_
    refine lift (fun _ kk => r_bipush i0_159 kk) ?_
    refine lift (fun _ kk => r_lshl i0_161 kk) ?_
    refine lift (fun _ kk => r_lor i0_162 kk) ?_
    refine lift (fun _ kk => r_aload i0_163 rfl rfl kk) ?_
    refine lift (fun _ kk => r_iload i0_165 rfl kk) ?_
    refine lift (fun _ kk => r_iconst i0_167 kk) ?_
    refine lift (fun _ kk => r_iadd i0_168 kk) ?_
    refine lift (fun _ kk => r_baload (i := 3) i0_169 rfl ⟨by decide, by decide⟩ rfl kk) ?_
    refine lift (fun _ kk => r_sipush i0_170 kk) ?_
    refine lift (fun _ kk => r_iand i0_173 kk) ?_
    refine lift (fun _ kk => r_i2l i0_174 kk) ?_
    refine lift (fun _ kk => r_bipush i0_175 kk) ?_
    refine lift (fun _ kk => r_lshl i0_177 kk) ?_
    refine lift (fun _ kk => r_lor i0_178 kk) ?_
    refine lift (fun _ kk => r_aload i0_179 rfl rfl kk) ?_
    refine lift (fun _ kk => r_iload i0_181 rfl kk) ?_
    refine lift (fun _ kk => r_iconst i0_183 kk) ?_
    refine lift (fun _ kk => r_iadd i0_184 kk) ?_
    refine lift (fun _ kk => r_baload (i := 4) i0_185 rfl ⟨by decide, by decide⟩ rfl kk) ?_
    refine lift (fun _ kk => r_sipush i0_186 kk) ?_
    refine lift (fun _ kk => r_iand i0_189 kk) ?_
    refine lift (fun _ kk => r_i2l i0_190 kk) ?_
    refine lift (fun _ kk => r_bipush i0_191 kk) ?_
    refine lift (fun _ kk => r_lshl i0_193 kk) ?_
    refine lift (fun _ kk => r_lor i0_194 kk) ?_
    refine lift (fun _ kk => r_aload i0_195 rfl rfl kk) ?_
    refine lift (fun _ kk => r_iload i0_197 rfl kk) ?_
    refine lift (fun _ kk => r_iconst i0_199 kk) ?_
    refine lift (fun _ kk => r_iadd i0_200 kk) ?_
    refine lift (fun _ kk => r_baload (i := 5) i0_201 rfl ⟨by decide, by decide⟩ rfl kk) ?_
    refine lift (fun _ kk => r_sipush i0_202 kk) ?_
    refine lift (fun _ kk => r_iand i0_205 kk) ?_
    refine lift (fun _ kk => r_i2l i0_206 kk) ?_
    refine lift (fun _ kk => r_bipush i0_207 kk) ?_
    refine lift (fun _ kk => r_lshl i0_209 kk) ?_
    refine lift (fun _ kk => r_lor i0_210 kk) ?_
    refine lift (fun _ kk => r_aload i0_211 rfl rfl kk) ?_
    refine lift (fun _ kk => r_iload i0_213 rfl kk) ?_
    refine lift (fun _ kk => r_bipush i0_215 kk) ?_
    refine lift (fun _ kk => r_iadd i0_217 kk) ?_
    refine lift (fun _ kk => r_baload (i := 6) i0_218 rfl ⟨by decide, by decide⟩ rfl kk) ?_
    refine lift (fun _ kk => r_sipush i0_219 kk) ?_
    refine lift (fun _ kk => r_iand i0_222 kk) ?_
    refine lift (fun _ kk => r_i2l i0_223 kk) ?_
    refine lift (fun _ kk => r_bipush i0_224 kk) ?_
    refine lift (fun _ kk => r_lshl i0_226 kk) ?_
    refine lift (fun _ kk => r_lor i0_227 kk) ?_
    refine lift (fun _ kk => r_aload i0_228 rfl rfl kk) ?_
    refine lift (fun _ kk => r_iload i0_230 rfl kk) ?_
    refine lift (fun _ kk => r_bipush i0_232 kk) ?_
    refine lift (fun _ kk => r_iadd i0_234 kk) ?_
    refine lift (fun _ kk => r_baload (i := 7) i0_235 rfl ⟨by decide, by decide⟩ rfl kk) ?_
    refine lift (fun _ kk => r_sipush i0_236 kk) ?_
    refine lift (fun _ kk => r_iand i0_239 kk) ?_
    refine lift (fun _ kk => r_i2l i0_240 kk) ?_
    refine lift (fun _ kk => r_lor i0_241 kk) ?_
    refine lift (fun _ kk => r_lstore (ls' := [_, _, _, _, _, _, _, _, _, _]) i0_242 rfl rfl kk) ?_
    refine lift (fun _ kk => r_lload i0_244 rfl kk) ?_
    refine lift (fun _ kk => r_lloadN i0_246 rfl kk) ?_
    refine lift (fun _ kk => r_lcmp i0_247 kk) ?_
    refine lift (fun _ kk => r_ifT i0_248 (XT.ll_eq_t (own_back p0)) kk) ?_
    refine lift (fun _ kk => r_aload i0_253 rfl rfl kk) ?_
    refine lift (fun _ kk => r_iconst i0_255 kk) ?_
    refine lift (fun _ kk => r_iload i0_256 rfl kk) ?_
    refine lift (fun _ kk => r_iload i0_258 rfl kk) ?_
    refine lift (fun _ kk => s0_260 hw (H1 := [_]) (kept_in hw (by decide) (by decide)) rfl (leB rfl) kk) ?_
    refine lift (fun _ kk => r_ifF i0_263 (XT.i0_eq_f (by decide)) kk) ?_
    refine lift (fun _ kk => r_aload i0_266 rfl rfl kk) ?_
    refine lift (fun _ kk => r_iconst i0_268 kk) ?_
    refine lift (fun _ kk => r_iload i0_269 rfl kk) ?_
    refine lift (fun _ kk => r_iload i0_271 rfl kk) ?_
    refine lift (fun _ kk => s0_273 hw (H1 := [_]) (kept_in hw (by decide) (by decide)) rfl (leB rfl) kk) ?_
    refine lift (fun _ kk => r_ifF i0_276 (XT.i0_eq_f (by decide)) kk) ?_
    refine lift (fun _ kk => r_aload i0_279 rfl rfl kk) ?_
    refine lift (fun _ kk => r_iconst i0_281 kk) ?_
    refine lift (fun _ kk => r_iload i0_282 rfl kk) ?_
    refine lift (fun _ kk => r_iload i0_284 rfl kk) ?_
    refine lift (fun _ kk => s0_286 hw (H1 := [_]) (kept_in hw (by decide) (by decide)) rfl (leB rfl) kk) ?_
    refine lift (fun _ kk => r_ifF i0_289 (XT.i0_eq_f (by decide)) kk) ?_
    refine lift (fun _ kk => r_aload i0_292 rfl rfl kk) ?_
    refine lift (fun _ kk => r_iconst i0_294 kk) ?_
    refine lift (fun _ kk => r_iload i0_295 rfl kk) ?_
    refine lift (fun _ kk => r_iload i0_297 rfl kk) ?_
    refine lift (fun _ kk => s0_299 hw (H1 := [_]) (kept_in hw (by decide) (by decide)) rfl (leB rfl) kk) ?_
    refine lift (fun _ kk => r_ifF i0_302 (XT.i0_eq_f (by decide)) kk) ?_
    refine lift (fun _ kk => r_aload i0_305 rfl rfl kk) ?_
    refine lift (fun _ kk => r_iconst i0_307 kk) ?_
    refine lift (fun _ kk => r_iload i0_308 rfl kk) ?_
    refine lift (fun _ kk => r_iload i0_310 rfl kk) ?_
    refine lift (fun _ kk => s0_312 hw (H1 := [_]) (kept_in hw (by decide) (by decide)) rfl (leB rfl) kk) ?_
    refine lift (fun _ kk => r_ifF i0_315 (XT.i0_eq_f (by decide)) kk) ?_
    refine lift (fun _ kk => r_aload i0_318 rfl rfl kk) ?_
    refine lift (fun _ kk => r_iconst i0_320 kk) ?_
    refine lift (fun _ kk => r_iload i0_321 rfl kk) ?_
    refine lift (fun _ kk => r_iload i0_323 rfl kk) ?_
    refine lift (fun _ kk => s0_325 hw (H1 := [_]) (kept_in hw (by decide) (by decide)) rfl (leB rfl) kk) ?_
    refine lift (fun _ kk => r_ifF i0_328 (XT.i0_eq_f (by decide)) kk) ?_
    refine lift (fun _ kk => r_aload i0_331 rfl rfl kk) ?_
    refine lift (fun _ kk => r_bipush i0_333 kk) ?_
    refine lift (fun _ kk => r_iload i0_335 rfl kk) ?_
    refine lift (fun _ kk => r_iload i0_337 rfl kk) ?_
    refine lift (fun _ kk => s0_339 hw (H1 := [_]) (kept_in hw (by decide) (by decide)) rfl (leB rfl) kk) ?_
    refine lift (fun _ kk => r_ifF i0_342 (XT.i0_eq_f (by decide)) kk) ?_
    refine lift (fun _ kk => r_aload i0_345 rfl rfl kk) ?_
    refine lift (fun _ kk => r_bipush i0_347 kk) ?_
    refine lift (fun _ kk => r_iload i0_349 rfl kk) ?_
    refine lift (fun _ kk => r_iload i0_351 rfl kk) ?_
    refine lift (fun _ kk => s0_353 hw (H1 := [_]) (kept_in hw (by decide) (by decide)) rfl (leB rfl) kk) ?_
    refine lift (fun _ kk => r_ifF i0_356 (XT.i0_eq_f (by decide)) kk) ?_
    refine lift (fun _ kk => r_aload i0_359 rfl rfl kk) ?_
    refine lift (fun _ kk => r_bipush i0_361 kk) ?_
    refine lift (fun _ kk => r_iload i0_363 rfl kk) ?_
    refine lift (fun _ kk => r_iload i0_365 rfl kk) ?_
    refine lift (fun _ kk => s0_367 hw (H1 := [_]) (kept_hi hw (k := 8) (by decide) (by decide) ⟨by decide, by decide⟩ rfl (own_bb _)) rfl (leB rfl) kk) ?_
    refine lift (fun _ kk => r_ifF i0_370 (XT.i0_eq_f (by decide)) kk) ?_
    refine lift (fun _ kk => r_aload i0_373 rfl rfl kk) ?_
    refine lift (fun _ kk => r_bipush i0_375 kk) ?_
    refine lift (fun _ kk => r_iload i0_377 rfl kk) ?_
    refine lift (fun _ kk => r_iload i0_379 rfl kk) ?_
    refine lift (fun _ kk => s0_381 hw (H1 := [_]) (kept_hi hw (k := 9) (by decide) (by decide) ⟨by decide, by decide⟩ rfl (own_bb _)) rfl (leB rfl) kk) ?_
    refine lift (fun _ kk => r_ifF i0_384 (XT.i0_eq_f (by decide)) kk) ?_
    refine lift (fun _ kk => r_aload i0_387 rfl rfl kk) ?_
    refine lift (fun _ kk => r_bipush i0_389 kk) ?_
    refine lift (fun _ kk => r_iload i0_391 rfl kk) ?_
    refine lift (fun _ kk => r_iload i0_393 rfl kk) ?_
    refine lift (fun _ kk => s0_395 hw (H1 := [_]) (kept_hi hw (k := 10) (by decide) (by decide) ⟨by decide, by decide⟩ rfl (own_bb _)) rfl (leB rfl) kk) ?_
    refine lift (fun _ kk => r_ifF i0_398 (XT.i0_eq_f (by decide)) kk) ?_
    refine lift (fun _ kk => r_aload i0_401 rfl rfl kk) ?_
    refine lift (fun _ kk => r_bipush i0_403 kk) ?_
    refine lift (fun _ kk => r_iload i0_405 rfl kk) ?_
    refine lift (fun _ kk => r_iload i0_407 rfl kk) ?_
    refine lift (fun _ kk => s0_409 hw (H1 := [_]) (kept_hi hw (k := 11) (by decide) (by decide) ⟨by decide, by decide⟩ rfl (own_bb _)) rfl (leB rfl) kk) ?_
    refine lift (fun _ kk => r_ifF i0_412 (XT.i0_eq_f (by decide)) kk) ?_
    refine lift (fun _ kk => r_iconst i0_415 kk) ?_
    refine lift (fun _ kk => r_goto i0_416 kk) ?_
    exact ⟨_, r_zreturn i0_420 rfl (by first | decide | simp), leB rfl, leB rfl⟩
  · rw [h]
    refine lift (fun _ kk => r_iloadN i0_8 rfl kk) ?_
    refine lift (fun _ kk => r_i2b i0_9 kk) ?_
    refine lift (fun _ kk => r_istore (ls' := [_, _, _, _, _, _, _, _, _, _]) i0_10 rfl rfl kk) ?_
    refine lift (fun _ kk => r_bipush i0_12 kk) ?_
    refine lift (fun _ kk => s0_14 hw (a := 0) (o := [.int 0, .int 0, .int 0, .int 0, .int 0, .int 0, .int 0, .int 0, .int 0, .int 0, .int 0, .int 0]) (H1 := [_]) (by decide) (by decide) rfl rfl rfl kk) ?_
    refine lift (fun _ kk => r_astore (ls' := [_, _, _, _, _, _, _, _, _, _]) i0_16 rfl rfl rfl kk) ?_
    refine lift (fun _ kk => r_aload i0_18 rfl rfl kk) ?_
    refine lift (fun _ kk => r_iconst i0_20 kk) ?_
    refine lift (fun _ kk => r_iload i0_21 rfl kk) ?_
    refine lift (fun _ kk => r_bastore (i := 0) (vs' := [_, _, _, _, _, _, _, _, _, _, _, _]) (H1 := [_]) i0_23 rfl ⟨by decide, by decide⟩ (ltB rfl) rfl rfl kk) ?_
    refine lift (fun _ kk => r_aload i0_24 rfl rfl kk) ?_
    refine lift (fun _ kk => r_iconst i0_26 kk) ?_
    refine lift (fun _ kk => r_iload i0_27 rfl kk) ?_
    refine lift (fun _ kk => r_bastore (i := 1) (vs' := [_, _, _, _, _, _, _, _, _, _, _, _]) (H1 := [_]) i0_29 rfl ⟨by decide, by decide⟩ (ltB rfl) rfl rfl kk) ?_
    refine lift (fun _ kk => r_aload i0_30 rfl rfl kk) ?_
    refine lift (fun _ kk => r_iconst i0_32 kk) ?_
    refine lift (fun _ kk => r_iload i0_33 rfl kk) ?_
    refine lift (fun _ kk => r_bastore (i := 2) (vs' := [_, _, _, _, _, _, _, _, _, _, _, _]) (H1 := [_]) i0_35 rfl ⟨by decide, by decide⟩ (ltB rfl) rfl rfl kk) ?_
    refine lift (fun _ kk => r_aload i0_36 rfl rfl kk) ?_
    refine lift (fun _ kk => r_iconst i0_38 kk) ?_
    refine lift (fun _ kk => r_iload i0_39 rfl kk) ?_
    refine lift (fun _ kk => r_bastore (i := 3) (vs' := [_, _, _, _, _, _, _, _, _, _, _, _]) (H1 := [_]) i0_41 rfl ⟨by decide, by decide⟩ (ltB rfl) rfl rfl kk) ?_
    refine lift (fun _ kk => r_aload i0_42 rfl rfl kk) ?_
    refine lift (fun _ kk => r_iconst i0_44 kk) ?_
    refine lift (fun _ kk => r_iload i0_45 rfl kk) ?_
    refine lift (fun _ kk => r_bastore (i := 4) (vs' := [_, _, _, _, _, _, _, _, _, _, _, _]) (H1 := [_]) i0_47 rfl ⟨by decide, by decide⟩ (ltB rfl) rfl rfl kk) ?_
    refine lift (fun _ kk => r_aload i0_48 rfl rfl kk) ?_
    refine lift (fun _ kk => r_iconst i0_50 kk) ?_
    refine lift (fun _ kk => r_iload i0_51 rfl kk) ?_
    refine lift (fun _ kk => r_bastore (i := 5) (vs' := [_, _, _, _, _, _, _, _, _, _, _, _]) (H1 := [_]) i0_53 rfl ⟨by decide, by decide⟩ (ltB rfl) rfl rfl kk) ?_
    refine lift (fun _ kk => r_aload i0_54 rfl rfl kk) ?_
    refine lift (fun _ kk => r_bipush i0_56 kk) ?_
    refine lift (fun _ kk => r_iload i0_58 rfl kk) ?_
    refine lift (fun _ kk => r_bastore (i := 6) (vs' := [_, _, _, _, _, _, _, _, _, _, _, _]) (H1 := [_]) i0_60 rfl ⟨by decide, by decide⟩ (ltB rfl) rfl rfl kk) ?_
    refine lift (fun _ kk => r_aload i0_61 rfl rfl kk) ?_
    refine lift (fun _ kk => r_bipush i0_63 kk) ?_
    refine lift (fun _ kk => r_iload i0_65 rfl kk) ?_
    refine lift (fun _ kk => r_bastore (i := 7) (vs' := [_, _, _, _, _, _, _, _, _, _, _, _]) (H1 := [_]) i0_67 rfl ⟨by decide, by decide⟩ (ltB rfl) rfl rfl kk) ?_
    refine lift (fun _ kk => r_aload i0_68 rfl rfl kk) ?_
    refine lift (fun _ kk => r_bipush i0_70 kk) ?_
    refine lift (fun _ kk => r_iload i0_72 rfl kk) ?_
    refine lift (fun _ kk => r_bastore (i := 8) (vs' := [_, _, _, _, _, _, _, _, _, _, _, _]) (H1 := [_]) i0_74 rfl ⟨by decide, by decide⟩ (ltB rfl) rfl rfl kk) ?_
    refine lift (fun _ kk => r_aload i0_75 rfl rfl kk) ?_
    refine lift (fun _ kk => r_bipush i0_77 kk) ?_
    refine lift (fun _ kk => r_iload i0_79 rfl kk) ?_
    refine lift (fun _ kk => r_bastore (i := 9) (vs' := [_, _, _, _, _, _, _, _, _, _, _, _]) (H1 := [_]) i0_81 rfl ⟨by decide, by decide⟩ (ltB rfl) rfl rfl kk) ?_
    refine lift (fun _ kk => r_aload i0_82 rfl rfl kk) ?_
    refine lift (fun _ kk => r_bipush i0_84 kk) ?_
    refine lift (fun _ kk => r_iload i0_86 rfl kk) ?_
    refine lift (fun _ kk => r_bastore (i := 10) (vs' := [_, _, _, _, _, _, _, _, _, _, _, _]) (H1 := [_]) i0_88 rfl ⟨by decide, by decide⟩ (ltB rfl) rfl rfl kk) ?_
    refine lift (fun _ kk => r_aload i0_89 rfl rfl kk) ?_
    refine lift (fun _ kk => r_bipush i0_91 kk) ?_
    refine lift (fun _ kk => r_iload i0_93 rfl kk) ?_
    refine lift (fun _ kk => r_bastore (i := 11) (vs' := [_, _, _, _, _, _, _, _, _, _, _, _]) (H1 := [_]) i0_95 rfl ⟨by decide, by decide⟩ (ltB rfl) rfl rfl kk) ?_
    refine lift (fun _ kk => r_aload i0_96 rfl rfl kk) ?_
    refine lift (fun _ kk => r_iload i0_98 rfl kk) ?_
    refine lift (fun _ kk => r_lloadN i0_100 rfl kk) ?_
    refine lift (fun _ kk => s0_101 hw (H1 := [_]) (put1 hw) rfl (leB rfl) kk) ?_
    refine lift (fun _ kk => r_istore (ls' := [_, _, _, _, _, _, _, _, _, _]) i0_104 rfl rfl kk) ?_
    refine lift (fun _ kk => r_iload i0_106 rfl kk) ?_
    refine lift (fun _ kk => r_iload i0_108 rfl kk) ?_
    refine lift (fun _ kk => r_bipush i0_110 kk) ?_
    refine lift (fun _ kk => r_iadd i0_112 kk) ?_
    refine lift (fun _ kk => r_icT i0_113 (XT.ii_eq_t rfl) kk) ?_
    refine lift (fun _ kk => r_aload i0_118 rfl rfl kk) ?_
    refine lift (fun _ kk => r_iload i0_120 rfl kk) ?_
    refine lift (fun _ kk => r_baload (i := 1) i0_122 rfl ⟨by decide, by decide⟩ rfl kk) ?_
    refine lift (fun _ kk => r_sipush i0_123 kk) ?_
    refine lift (fun _ kk => r_iand i0_126 kk) ?_
    refine lift (fun _ kk => r_i2l i0_127 kk) ?_
    refine lift (fun _ kk => r_bipush i0_128 kk) ?_
    refine lift (fun _ kk => r_lshl i0_130 kk) ?_
    refine lift (fun _ kk => r_aload i0_131 rfl rfl kk) ?_
    refine lift (fun _ kk => r_iload i0_133 rfl kk) ?_
    refine lift (fun _ kk => r_iconst i0_135 kk) ?_
    refine lift (fun _ kk => r_iadd i0_136 kk) ?_
    refine lift (fun _ kk => r_baload (i := 2) i0_137 rfl ⟨by decide, by decide⟩ rfl kk) ?_
    refine lift (fun _ kk => r_sipush i0_138 kk) ?_
    refine lift (fun _ kk => r_iand i0_141 kk) ?_
    refine lift (fun _ kk => r_i2l i0_142 kk) ?_
    refine lift (fun _ kk => r_bipush i0_143 kk) ?_
    refine lift (fun _ kk => r_lshl i0_145 kk) ?_
    refine lift (fun _ kk => r_lor i0_146 kk) ?_
    refine lift (fun _ kk => r_aload i0_147 rfl rfl kk) ?_
    refine lift (fun _ kk => r_iload i0_149 rfl kk) ?_
    refine lift (fun _ kk => r_iconst i0_151 kk) ?_
    refine lift (fun _ kk => r_iadd i0_152 kk) ?_
    refine lift (fun _ kk => r_baload (i := 3) i0_153 rfl ⟨by decide, by decide⟩ rfl kk) ?_
    refine lift (fun _ kk => r_sipush i0_154 kk) ?_
    refine lift (fun _ kk => r_iand i0_157 kk) ?_
    refine lift (fun _ kk => r_i2l i0_158 kk) ?_
    refine lift (fun _ kk => r_bipush i0_159 kk) ?_
    refine lift (fun _ kk => r_lshl i0_161 kk) ?_
    refine lift (fun _ kk => r_lor i0_162 kk) ?_
    refine lift (fun _ kk => r_aload i0_163 rfl rfl kk) ?_
    refine lift (fun _ kk => r_iload i0_165 rfl kk) ?_
    refine lift (fun _ kk => r_iconst i0_167 kk) ?_
    refine lift (fun _ kk => r_iadd i0_168 kk) ?_
    refine lift (fun _ kk => r_baload (i := 4) i0_169 rfl ⟨by decide, by decide⟩ rfl kk) ?_
    refine lift (fun _ kk => r_sipush i0_170 kk) ?_
    refine lift (fun _ kk => r_iand i0_173 kk) ?_
    refine lift (fun _ kk => r_i2l i0_174 kk) ?_
    refine lift (fun _ kk => r_bipush i0_175 kk) ?_
    refine lift (fun _ kk => r_lshl i0_177 kk) ?_
    refine lift (fun _ kk => r_lor i0_178 kk) ?_
    refine lift (fun _ kk => r_aload i0_179 rfl rfl kk) ?_
    refine lift (fun _ kk => r_iload i0_181 rfl kk) ?_
    refine lift (fun _ kk => r_iconst i0_183 kk) ?_
    refine lift (fun _ kk => r_iadd i0_184 kk) ?_
    refine lift (fun _ kk => r_baload (i := 5) i0_185 rfl ⟨by decide, by decide⟩ rfl kk) ?_
    refine lift (fun _ kk => r_sipush i0_186 kk) ?_
    refine lift (fun _ kk => r_iand i0_189 kk) ?_
    refine lift (fun _ kk => r_i2l i0_190 kk) ?_
    refine lift (fun _ kk => r_bipush i0_191 kk) ?_
    refine lift (fun _ kk => r_lshl i0_193 kk) ?_
    refine lift (fun _ kk => r_lor i0_194 kk) ?_
    refine lift (fun _ kk => r_aload i0_195 rfl rfl kk) ?_
    refine lift (fun _ kk => r_iload i0_197 rfl kk) ?_
    refine lift (fun _ kk => r_iconst i0_199 kk) ?_
    refine lift (fun _ kk => r_iadd i0_200 kk) ?_
    refine lift (fun _ kk => r_baload (i := 6) i0_201 rfl ⟨by decide, by decide⟩ rfl kk) ?_
    refine lift (fun _ kk => r_sipush i0_202 kk) ?_
    refine lift (fun _ kk => r_iand i0_205 kk) ?_
    refine lift (fun _ kk => r_i2l i0_206 kk) ?_
    refine lift (fun _ kk => r_bipush i0_207 kk) ?_
    refine lift (fun _ kk => r_lshl i0_209 kk) ?_
    refine lift (fun _ kk => r_lor i0_210 kk) ?_
    refine lift (fun _ kk => r_aload i0_211 rfl rfl kk) ?_
    refine lift (fun _ kk => r_iload i0_213 rfl kk) ?_
    refine lift (fun _ kk => r_bipush i0_215 kk) ?_
    refine lift (fun _ kk => r_iadd i0_217 kk) ?_
    refine lift (fun _ kk => r_baload (i := 7) i0_218 rfl ⟨by decide, by decide⟩ rfl kk) ?_
    refine lift (fun _ kk => r_sipush i0_219 kk) ?_
    refine lift (fun _ kk => r_iand i0_222 kk) ?_
    refine lift (fun _ kk => r_i2l i0_223 kk) ?_
    refine lift (fun _ kk => r_bipush i0_224 kk) ?_
    refine lift (fun _ kk => r_lshl i0_226 kk) ?_
    refine lift (fun _ kk => r_lor i0_227 kk) ?_
    refine lift (fun _ kk => r_aload i0_228 rfl rfl kk) ?_
    refine lift (fun _ kk => r_iload i0_230 rfl kk) ?_
    refine lift (fun _ kk => r_bipush i0_232 kk) ?_
    refine lift (fun _ kk => r_iadd i0_234 kk) ?_
    refine lift (fun _ kk => r_baload (i := 8) i0_235 rfl ⟨by decide, by decide⟩ rfl kk) ?_
    refine lift (fun _ kk => r_sipush i0_236 kk) ?_
    refine lift (fun _ kk => r_iand i0_239 kk) ?_
    refine lift (fun _ kk => r_i2l i0_240 kk) ?_
    refine lift (fun _ kk => r_lor i0_241 kk) ?_
    refine lift (fun _ kk => r_lstore (ls' := [_, _, _, _, _, _, _, _, _, _]) i0_242 rfl rfl kk) ?_
    refine lift (fun _ kk => r_lload i0_244 rfl kk) ?_
    refine lift (fun _ kk => r_lloadN i0_246 rfl kk) ?_
    refine lift (fun _ kk => r_lcmp i0_247 kk) ?_
    refine lift (fun _ kk => r_ifT i0_248 (XT.ll_eq_t (own_back p0)) kk) ?_
    refine lift (fun _ kk => r_aload i0_253 rfl rfl kk) ?_
    refine lift (fun _ kk => r_iconst i0_255 kk) ?_
    refine lift (fun _ kk => r_iload i0_256 rfl kk) ?_
    refine lift (fun _ kk => r_iload i0_258 rfl kk) ?_
    refine lift (fun _ kk => s0_260 hw (H1 := [_]) (kept_lo hw (k := 0) (by decide) ⟨by decide, by decide⟩ rfl (own_bb _)) rfl (leB rfl) kk) ?_
    refine lift (fun _ kk => r_ifF i0_263 (XT.i0_eq_f (by decide)) kk) ?_
    refine lift (fun _ kk => r_aload i0_266 rfl rfl kk) ?_
    refine lift (fun _ kk => r_iconst i0_268 kk) ?_
    refine lift (fun _ kk => r_iload i0_269 rfl kk) ?_
    refine lift (fun _ kk => r_iload i0_271 rfl kk) ?_
    refine lift (fun _ kk => s0_273 hw (H1 := [_]) (kept_in hw (by decide) (by decide)) rfl (leB rfl) kk) ?_
    refine lift (fun _ kk => r_ifF i0_276 (XT.i0_eq_f (by decide)) kk) ?_
    refine lift (fun _ kk => r_aload i0_279 rfl rfl kk) ?_
    refine lift (fun _ kk => r_iconst i0_281 kk) ?_
    refine lift (fun _ kk => r_iload i0_282 rfl kk) ?_
    refine lift (fun _ kk => r_iload i0_284 rfl kk) ?_
    refine lift (fun _ kk => s0_286 hw (H1 := [_]) (kept_in hw (by decide) (by decide)) rfl (leB rfl) kk) ?_
    refine lift (fun _ kk => r_ifF i0_289 (XT.i0_eq_f (by decide)) kk) ?_
    refine lift (fun _ kk => r_aload i0_292 rfl rfl kk) ?_
    refine lift (fun _ kk => r_iconst i0_294 kk) ?_
    refine lift (fun _ kk => r_iload i0_295 rfl kk) ?_
    refine lift (fun _ kk => r_iload i0_297 rfl kk) ?_
    refine lift (fun _ kk => s0_299 hw (H1 := [_]) (kept_in hw (by decide) (by decide)) rfl (leB rfl) kk) ?_
    refine lift (fun _ kk => r_ifF i0_302 (XT.i0_eq_f (by decide)) kk) ?_
    refine lift (fun _ kk => r_aload i0_305 rfl rfl kk) ?_
    refine lift (fun _ kk => r_iconst i0_307 kk) ?_
    refine lift (fun _ kk => r_iload i0_308 rfl kk) ?_
    refine lift (fun _ kk => r_iload i0_310 rfl kk) ?_
    refine lift (fun _ kk => s0_312 hw (H1 := [_]) (kept_in hw (by decide) (by decide)) rfl (leB rfl) kk) ?_
    refine lift (fun _ kk => r_ifF i0_315 (XT.i0_eq_f (by decide)) kk) ?_
    refine lift (fun _ kk => r_aload i0_318 rfl rfl kk) ?_
    refine lift (fun _ kk => r_iconst i0_320 kk) ?_
    refine lift (fun _ kk => r_iload i0_321 rfl kk) ?_
    refine lift (fun _ kk => r_iload i0_323 rfl kk) ?_
    refine lift (fun _ kk => s0_325 hw (H1 := [_]) (kept_in hw (by decide) (by decide)) rfl (leB rfl) kk) ?_
    refine lift (fun _ kk => r_ifF i0_328 (XT.i0_eq_f (by decide)) kk) ?_
    refine lift (fun _ kk => r_aload i0_331 rfl rfl kk) ?_
    refine lift (fun _ kk => r_bipush i0_333 kk) ?_
    refine lift (fun _ kk => r_iload i0_335 rfl kk) ?_
    refine lift (fun _ kk => r_iload i0_337 rfl kk) ?_
    refine lift (fun _ kk => s0_339 hw (H1 := [_]) (kept_in hw (by decide) (by decide)) rfl (leB rfl) kk) ?_
    refine lift (fun _ kk => r_ifF i0_342 (XT.i0_eq_f (by decide)) kk) ?_
    refine lift (fun _ kk => r_aload i0_345 rfl rfl kk) ?_
    refine lift (fun _ kk => r_bipush i0_347 kk) ?_
    refine lift (fun _ kk => r_iload i0_349 rfl kk) ?_
    refine lift (fun _ kk => r_iload i0_351 rfl kk) ?_
    refine lift (fun _ kk => s0_353 hw (H1 := [_]) (kept_in hw (by decide) (by decide)) rfl (leB rfl) kk) ?_
    refine lift (fun _ kk => r_ifF i0_356 (XT.i0_eq_f (by decide)) kk) ?_
    refine lift (fun _ kk => r_aload i0_359 rfl rfl kk) ?_
    refine lift (fun _ kk => r_bipush i0_361 kk) ?_
    refine lift (fun _ kk => r_iload i0_363 rfl kk) ?_
    refine lift (fun _ kk => r_iload i0_365 rfl kk) ?_
    refine lift (fun _ kk => s0_367 hw (H1 := [_]) (kept_in hw (by decide) (by decide)) rfl (leB rfl) kk) ?_
    refine lift (fun _ kk => r_ifF i0_370 (XT.i0_eq_f (by decide)) kk) ?_
    refine lift (fun _ kk => r_aload i0_373 rfl rfl kk) ?_
    refine lift (fun _ kk => r_bipush i0_375 kk) ?_
    refine lift (fun _ kk => r_iload i0_377 rfl kk) ?_
    refine lift (fun _ kk => r_iload i0_379 rfl kk) ?_
    refine lift (fun _ kk => s0_381 hw (H1 := [_]) (kept_hi hw (k := 9) (by decide) (by decide) ⟨by decide, by decide⟩ rfl (own_bb _)) rfl (leB rfl) kk) ?_
    refine lift (fun _ kk => r_ifF i0_384 (XT.i0_eq_f (by decide)) kk) ?_
    refine lift (fun _ kk => r_aload i0_387 rfl rfl kk) ?_
    refine lift (fun _ kk => r_bipush i0_389 kk) ?_
    refine lift (fun _ kk => r_iload i0_391 rfl kk) ?_
    refine lift (fun _ kk => r_iload i0_393 rfl kk) ?_
    refine lift (fun _ kk => s0_395 hw (H1 := [_]) (kept_hi hw (k := 10) (by decide) (by decide) ⟨by decide, by decide⟩ rfl (own_bb _)) rfl (leB rfl) kk) ?_
    refine lift (fun _ kk => r_ifF i0_398 (XT.i0_eq_f (by decide)) kk) ?_
    refine lift (fun _ kk => r_aload i0_401 rfl rfl kk) ?_
    refine lift (fun _ kk => r_bipush i0_403 kk) ?_
    refine lift (fun _ kk => r_iload i0_405 rfl kk) ?_
    refine lift (fun _ kk => r_iload i0_407 rfl kk) ?_
    refine lift (fun _ kk => s0_409 hw (H1 := [_]) (kept_hi hw (k := 11) (by decide) (by decide) ⟨by decide, by decide⟩ rfl (own_bb _)) rfl (leB rfl) kk) ?_
    refine lift (fun _ kk => r_ifF i0_412 (XT.i0_eq_f (by decide)) kk) ?_
    refine lift (fun _ kk => r_iconst i0_415 kk) ?_
    refine lift (fun _ kk => r_goto i0_416 kk) ?_
    exact ⟨_, r_zreturn i0_420 rfl (by first | decide | simp), leB rfl, leB rfl⟩
  · rw [h]
    refine lift (fun _ kk => r_iloadN i0_8 rfl kk) ?_
    refine lift (fun _ kk => r_i2b i0_9 kk) ?_
    refine lift (fun _ kk => r_istore (ls' := [_, _, _, _, _, _, _, _, _, _]) i0_10 rfl rfl kk) ?_
    refine lift (fun _ kk => r_bipush i0_12 kk) ?_
    refine lift (fun _ kk => s0_14 hw (a := 0) (o := [.int 0, .int 0, .int 0, .int 0, .int 0, .int 0, .int 0, .int 0, .int 0, .int 0, .int 0, .int 0]) (H1 := [_]) (by decide) (by decide) rfl rfl rfl kk) ?_
    refine lift (fun _ kk => r_astore (ls' := [_, _, _, _, _, _, _, _, _, _]) i0_16 rfl rfl rfl kk) ?_
    refine lift (fun _ kk => r_aload i0_18 rfl rfl kk) ?_
    refine lift (fun _ kk => r_iconst i0_20 kk) ?_
    refine lift (fun _ kk => r_iload i0_21 rfl kk) ?_
    refine lift (fun _ kk => r_bastore (i := 0) (vs' := [_, _, _, _, _, _, _, _, _, _, _, _]) (H1 := [_]) i0_23 rfl ⟨by decide, by decide⟩ (ltB rfl) rfl rfl kk) ?_
    refine lift (fun _ kk => r_aload i0_24 rfl rfl kk) ?_
    refine lift (fun _ kk => r_iconst i0_26 kk) ?_
    refine lift (fun _ kk => r_iload i0_27 rfl kk) ?_
    refine lift (fun _ kk => r_bastore (i := 1) (vs' := [_, _, _, _, _, _, _, _, _, _, _, _]) (H1 := [_]) i0_29 rfl ⟨by decide, by decide⟩ (ltB rfl) rfl rfl kk) ?_
    refine lift (fun _ kk => r_aload i0_30 rfl rfl kk) ?_
    refine lift (fun _ kk => r_iconst i0_32 kk) ?_
    refine lift (fun _ kk => r_iload i0_33 rfl kk) ?_
    refine lift (fun _ kk => r_bastore (i := 2) (vs' := [_, _, _, _, _, _, _, _, _, _, _, _]) (H1 := [_]) i0_35 rfl ⟨by decide, by decide⟩ (ltB rfl) rfl rfl kk) ?_
    refine lift (fun _ kk => r_aload i0_36 rfl rfl kk) ?_
    refine lift (fun _ kk => r_iconst i0_38 kk) ?_
    refine lift (fun _ kk => r_iload i0_39 rfl kk) ?_
    refine lift (fun _ kk => r_bastore (i := 3) (vs' := [_, _, _, _, _, _, _, _, _, _, _, _]) (H1 := [_]) i0_41 rfl ⟨by decide, by decide⟩ (ltB rfl) rfl rfl kk) ?_
    refine lift (fun _ kk => r_aload i0_42 rfl rfl kk) ?_
    refine lift (fun _ kk => r_iconst i0_44 kk) ?_
    refine lift (fun _ kk => r_iload i0_45 rfl kk) ?_
    refine lift (fun _ kk => r_bastore (i := 4) (vs' := [_, _, _, _, _, _, _, _, _, _, _, _]) (H1 := [_]) i0_47 rfl ⟨by decide, by decide⟩ (ltB rfl) rfl rfl kk) ?_
    refine lift (fun _ kk => r_aload i0_48 rfl rfl kk) ?_
    refine lift (fun _ kk => r_iconst i0_50 kk) ?_
    refine lift (fun _ kk => r_iload i0_51 rfl kk) ?_
    refine lift (fun _ kk => r_bastore (i := 5) (vs' := [_, _, _, _, _, _, _, _, _, _, _, _]) (H1 := [_]) i0_53 rfl ⟨by decide, by decide⟩ (ltB rfl) rfl rfl kk) ?_
    refine lift (fun _ kk => r_aload i0_54 rfl rfl kk) ?_
    refine lift (fun _ kk => r_bipush i0_56 kk) ?_
    refine lift (fun _ kk => r_iload i0_58 rfl kk) ?_
    refine lift (fun _ kk => r_bastore (i := 6) (vs' := [_, _, _, _, _, _, _, _, _, _, _, _]) (H1 := [_]) i0_60 rfl ⟨by decide, by decide⟩ (ltB rfl) rfl rfl kk) ?_
    refine lift (fun _ kk => r_aload i0_61 rfl rfl kk) ?_
    refine lift (fun _ kk => r_bipush i0_63 kk) ?_
    refine lift (fun _ kk => r_iload i0_65 rfl kk) ?_
    refine lift (fun _ kk => r_bastore (i := 7) (vs' := [_, _, _, _, _, _, _, _, _, _, _, _]) (H1 := [_]) i0_67 rfl ⟨by decide, by decide⟩ (ltB rfl) rfl rfl kk) ?_
    refine lift (fun _ kk => r_aload i0_68 rfl rfl kk) ?_
    refine lift (fun _ kk => r_bipush i0_70 kk) ?_
    refine lift (fun _ kk => r_iload i0_72 rfl kk) ?_
    refine lift (fun _ kk => r_bastore (i := 8) (vs' := [_, _, _, _, _, _, _, _, _, _, _, _]) (H1 := [_]) i0_74 rfl ⟨by decide, by decide⟩ (ltB rfl) rfl rfl kk) ?_
    refine lift (fun _ kk => r_aload i0_75 rfl rfl kk) ?_
    refine lift (fun _ kk => r_bipush i0_77 kk) ?_
    refine lift (fun _ kk => r_iload i0_79 rfl kk) ?_
    refine lift (fun _ kk => r_bastore (i := 9) (vs' := [_, _, _, _, _, _, _, _, _, _, _, _]) (H1 := [_]) i0_81 rfl ⟨by decide, by decide⟩ (ltB rfl) rfl rfl kk) ?_
    refine lift (fun _ kk => r_aload i0_82 rfl rfl kk) ?_
    refine lift (fun _ kk => r_bipush i0_84 kk) ?_
    refine lift (fun _ kk => r_iload i0_86 rfl kk) ?_
    refine lift (fun _ kk => r_bastore (i := 10) (vs' := [_, _, _, _, _, _, _, _, _, _, _, _]) (H1 := [_]) i0_88 rfl ⟨by decide, by decide⟩ (ltB rfl) rfl rfl kk) ?_
    refine lift (fun _ kk => r_aload i0_89 rfl rfl kk) ?_
    refine lift (fun _ kk => r_bipush i0_91 kk) ?_
    refine lift (fun _ kk => r_iload i0_93 rfl kk) ?_
    refine lift (fun _ kk => r_bastore (i := 11) (vs' := [_, _, _, _, _, _, _, _, _, _, _, _]) (H1 := [_]) i0_95 rfl ⟨by decide, by decide⟩ (ltB rfl) rfl rfl kk) ?_
    refine lift (fun _ kk => r_aload i0_96 rfl rfl kk) ?_
    refine lift (fun _ kk => r_iload i0_98 rfl kk) ?_
    refine lift (fun _ kk => r_lloadN i0_100 rfl kk) ?_
    refine lift (fun _ kk => s0_101 hw (H1 := [_]) (put2 hw) rfl (leB rfl) kk) ?_
    refine lift (fun _ kk => r_istore (ls' := [_, _, _, _, _, _, _, _, _, _]) i0_104 rfl rfl kk) ?_
    refine lift (fun _ kk => r_iload i0_106 rfl kk) ?_
    refine lift (fun _ kk => r_iload i0_108 rfl kk) ?_
    refine lift (fun _ kk => r_bipush i0_110 kk) ?_
    refine lift (fun _ kk => r_iadd i0_112 kk) ?_
    refine lift (fun _ kk => r_icT i0_113 (XT.ii_eq_t rfl) kk) ?_
    refine lift (fun _ kk => r_aload i0_118 rfl rfl kk) ?_
    refine lift (fun _ kk => r_iload i0_120 rfl kk) ?_
    refine lift (fun _ kk => r_baload (i := 2) i0_122 rfl ⟨by decide, by decide⟩ rfl kk) ?_
    refine lift (fun _ kk => r_sipush i0_123 kk) ?_
    refine lift (fun _ kk => r_iand i0_126 kk) ?_
    refine lift (fun _ kk => r_i2l i0_127 kk) ?_
    refine lift (fun _ kk => r_bipush i0_128 kk) ?_
    refine lift (fun _ kk => r_lshl i0_130 kk) ?_
    refine lift (fun _ kk => r_aload i0_131 rfl rfl kk) ?_
    refine lift (fun _ kk => r_iload i0_133 rfl kk) ?_
    refine lift (fun _ kk => r_iconst i0_135 kk) ?_
    refine lift (fun _ kk => r_iadd i0_136 kk) ?_
    refine lift (fun _ kk => r_baload (i := 3) i0_137 rfl ⟨by decide, by decide⟩ rfl kk) ?_
    refine lift (fun _ kk => r_sipush i0_138 kk) ?_
    refine lift (fun _ kk => r_iand i0_141 kk) ?_
    refine lift (fun _ kk => r_i2l i0_142 kk) ?_
    refine lift (fun _ kk => r_bipush i0_143 kk) ?_
    refine lift (fun _ kk => r_lshl i0_145 kk) ?_
    refine lift (fun _ kk => r_lor i0_146 kk) ?_
    refine lift (fun _ kk => r_aload i0_147 rfl rfl kk) ?_
    refine lift (fun _ kk => r_iload i0_149 rfl kk) ?_
    refine lift (fun _ kk => r_iconst i0_151 kk) ?_
    refine lift (fun _ kk => r_iadd i0_152 kk) ?_
    refine lift (fun _ kk => r_baload (i := 4) i0_153 rfl ⟨by decide, by decide⟩ rfl kk) ?_
    refine lift (fun _ kk => r_sipush i0_154 kk) ?_
    refine lift (fun _ kk => r_iand i0_157 kk) ?_
    refine lift (fun _ kk => r_i2l i0_158 kk) ?_
    refine lift (fun _ kk => r_bipush i0_159 kk) ?_
    refine lift (fun _ kk => r_lshl i0_161 kk) ?_
    refine lift (fun _ kk => r_lor i0_162 kk) ?_
    refine lift (fun _ kk => r_aload i0_163 rfl rfl kk) ?_
    refine lift (fun _ kk => r_iload i0_165 rfl kk) ?_
    refine lift (fun _ kk => r_iconst i0_167 kk) ?_
    refine lift (fun _ kk => r_iadd i0_168 kk) ?_
    refine lift (fun _ kk => r_baload (i := 5) i0_169 rfl ⟨by decide, by decide⟩ rfl kk) ?_
    refine lift (fun _ kk => r_sipush i0_170 kk) ?_
    refine lift (fun _ kk => r_iand i0_173 kk) ?_
    refine lift (fun _ kk => r_i2l i0_174 kk) ?_
    refine lift (fun _ kk => r_bipush i0_175 kk) ?_
    refine lift (fun _ kk => r_lshl i0_177 kk) ?_
    refine lift (fun _ kk => r_lor i0_178 kk) ?_
    refine lift (fun _ kk => r_aload i0_179 rfl rfl kk) ?_
    refine lift (fun _ kk => r_iload i0_181 rfl kk) ?_
    refine lift (fun _ kk => r_iconst i0_183 kk) ?_
    refine lift (fun _ kk => r_iadd i0_184 kk) ?_
    refine lift (fun _ kk => r_baload (i := 6) i0_185 rfl ⟨by decide, by decide⟩ rfl kk) ?_
    refine lift (fun _ kk => r_sipush i0_186 kk) ?_
    refine lift (fun _ kk => r_iand i0_189 kk) ?_
    refine lift (fun _ kk => r_i2l i0_190 kk) ?_
    refine lift (fun _ kk => r_bipush i0_191 kk) ?_
    refine lift (fun _ kk => r_lshl i0_193 kk) ?_
    refine lift (fun _ kk => r_lor i0_194 kk) ?_
    refine lift (fun _ kk => r_aload i0_195 rfl rfl kk) ?_
    refine lift (fun _ kk => r_iload i0_197 rfl kk) ?_
    refine lift (fun _ kk => r_iconst i0_199 kk) ?_
    refine lift (fun _ kk => r_iadd i0_200 kk) ?_
    refine lift (fun _ kk => r_baload (i := 7) i0_201 rfl ⟨by decide, by decide⟩ rfl kk) ?_
    refine lift (fun _ kk => r_sipush i0_202 kk) ?_
    refine lift (fun _ kk => r_iand i0_205 kk) ?_
    refine lift (fun _ kk => r_i2l i0_206 kk) ?_
    refine lift (fun _ kk => r_bipush i0_207 kk) ?_
    refine lift (fun _ kk => r_lshl i0_209 kk) ?_
    refine lift (fun _ kk => r_lor i0_210 kk) ?_
    refine lift (fun _ kk => r_aload i0_211 rfl rfl kk) ?_
    refine lift (fun _ kk => r_iload i0_213 rfl kk) ?_
    refine lift (fun _ kk => r_bipush i0_215 kk) ?_
    refine lift (fun _ kk => r_iadd i0_217 kk) ?_
    refine lift (fun _ kk => r_baload (i := 8) i0_218 rfl ⟨by decide, by decide⟩ rfl kk) ?_
    refine lift (fun _ kk => r_sipush i0_219 kk) ?_
    refine lift (fun _ kk => r_iand i0_222 kk) ?_
    refine lift (fun _ kk => r_i2l i0_223 kk) ?_
    refine lift (fun _ kk => r_bipush i0_224 kk) ?_
    refine lift (fun _ kk => r_lshl i0_226 kk) ?_
    refine lift (fun _ kk => r_lor i0_227 kk) ?_
    refine lift (fun _ kk => r_aload i0_228 rfl rfl kk) ?_
    refine lift (fun _ kk => r_iload i0_230 rfl kk) ?_
    refine lift (fun _ kk => r_bipush i0_232 kk) ?_
    refine lift (fun _ kk => r_iadd i0_234 kk) ?_
    refine lift (fun _ kk => r_baload (i := 9) i0_235 rfl ⟨by decide, by decide⟩ rfl kk) ?_
    refine lift (fun _ kk => r_sipush i0_236 kk) ?_
    refine lift (fun _ kk => r_iand i0_239 kk) ?_
    refine lift (fun _ kk => r_i2l i0_240 kk) ?_
    refine lift (fun _ kk => r_lor i0_241 kk) ?_
    refine lift (fun _ kk => r_lstore (ls' := [_, _, _, _, _, _, _, _, _, _]) i0_242 rfl rfl kk) ?_
    refine lift (fun _ kk => r_lload i0_244 rfl kk) ?_
    refine lift (fun _ kk => r_lloadN i0_246 rfl kk) ?_
    refine lift (fun _ kk => r_lcmp i0_247 kk) ?_
    refine lift (fun _ kk => r_ifT i0_248 (XT.ll_eq_t (own_back p0)) kk) ?_
    refine lift (fun _ kk => r_aload i0_253 rfl rfl kk) ?_
    refine lift (fun _ kk => r_iconst i0_255 kk) ?_
    refine lift (fun _ kk => r_iload i0_256 rfl kk) ?_
    refine lift (fun _ kk => r_iload i0_258 rfl kk) ?_
    refine lift (fun _ kk => s0_260 hw (H1 := [_]) (kept_lo hw (k := 0) (by decide) ⟨by decide, by decide⟩ rfl (own_bb _)) rfl (leB rfl) kk) ?_
    refine lift (fun _ kk => r_ifF i0_263 (XT.i0_eq_f (by decide)) kk) ?_
    refine lift (fun _ kk => r_aload i0_266 rfl rfl kk) ?_
    refine lift (fun _ kk => r_iconst i0_268 kk) ?_
    refine lift (fun _ kk => r_iload i0_269 rfl kk) ?_
    refine lift (fun _ kk => r_iload i0_271 rfl kk) ?_
    refine lift (fun _ kk => s0_273 hw (H1 := [_]) (kept_lo hw (k := 1) (by decide) ⟨by decide, by decide⟩ rfl (own_bb _)) rfl (leB rfl) kk) ?_
    refine lift (fun _ kk => r_ifF i0_276 (XT.i0_eq_f (by decide)) kk) ?_
    refine lift (fun _ kk => r_aload i0_279 rfl rfl kk) ?_
    refine lift (fun _ kk => r_iconst i0_281 kk) ?_
    refine lift (fun _ kk => r_iload i0_282 rfl kk) ?_
    refine lift (fun _ kk => r_iload i0_284 rfl kk) ?_
    refine lift (fun _ kk => s0_286 hw (H1 := [_]) (kept_in hw (by decide) (by decide)) rfl (leB rfl) kk) ?_
    refine lift (fun _ kk => r_ifF i0_289 (XT.i0_eq_f (by decide)) kk) ?_
    refine lift (fun _ kk => r_aload i0_292 rfl rfl kk) ?_
    refine lift (fun _ kk => r_iconst i0_294 kk) ?_
    refine lift (fun _ kk => r_iload i0_295 rfl kk) ?_
    refine lift (fun _ kk => r_iload i0_297 rfl kk) ?_
    refine lift (fun _ kk => s0_299 hw (H1 := [_]) (kept_in hw (by decide) (by decide)) rfl (leB rfl) kk) ?_
    refine lift (fun _ kk => r_ifF i0_302 (XT.i0_eq_f (by decide)) kk) ?_
    refine lift (fun _ kk => r_aload i0_305 rfl rfl kk) ?_
    refine lift (fun _ kk => r_iconst i0_307 kk) ?_
    refine lift (fun _ kk => r_iload i0_308 rfl kk) ?_
    refine lift (fun _ kk => r_iload i0_310 rfl kk) ?_
    refine lift (fun _ kk => s0_312 hw (H1 := [_]) (kept_in hw (by decide) (by decide)) rfl (leB rfl) kk) ?_
    refine lift (fun _ kk => r_ifF i0_315 (XT.i0_eq_f (by decide)) kk) ?_
    refine lift (fun _ kk => r_aload i0_318 rfl rfl kk) ?_
    refine lift (fun _ kk => r_iconst i0_320 kk) ?_
    refine lift (fun _ kk => r_iload i0_321 rfl kk) ?_
    refine lift (fun _ kk => r_iload i0_323 rfl kk) ?_
    refine lift (fun _ kk => s0_325 hw (H1 := [_]) (kept_in hw (by decide) (by decide)) rfl (leB rfl) kk) ?_
    refine lift (fun _ kk => r_ifF i0_328 (XT.i0_eq_f (by decide)) kk) ?_
    refine lift (fun _ kk => r_aload i0_331 rfl rfl kk) ?_
    refine lift (fun _ kk => r_bipush i0_333 kk) ?_
    refine lift (fun _ kk => r_iload i0_335 rfl kk) ?_
    refine lift (fun _ kk => r_iload i0_337 rfl kk) ?_
    refine lift (fun _ kk => s0_339 hw (H1 := [_]) (kept_in hw (by decide) (by decide)) rfl (leB rfl) kk) ?_
    refine lift (fun _ kk => r_ifF i0_342 (XT.i0_eq_f (by decide)) kk) ?_
    refine lift (fun _ kk => r_aload i0_345 rfl rfl kk) ?_
    refine lift (fun _ kk => r_bipush i0_347 kk) ?_
    refine lift (fun _ kk => r_iload i0_349 rfl kk) ?_
    refine lift (fun _ kk => r_iload i0_351 rfl kk) ?_
    refine lift (fun _ kk => s0_353 hw (H1 := [_]) (kept_in hw (by decide) (by decide)) rfl (leB rfl) kk) ?_
    refine lift (fun _ kk => r_ifF i0_356 (XT.i0_eq_f (by decide)) kk) ?_
    refine lift (fun _ kk => r_aload i0_359 rfl rfl kk) ?_
    refine lift (fun _ kk => r_bipush i0_361 kk) ?_
    refine lift (fun _ kk => r_iload i0_363 rfl kk) ?_
    refine lift (fun _ kk => r_iload i0_365 rfl kk) ?_
    refine lift (fun _ kk => s0_367 hw (H1 := [_]) (kept_in hw (by decide) (by decide)) rfl (leB rfl) kk) ?_
    refine lift (fun _ kk => r_ifF i0_370 (XT.i0_eq_f (by decide)) kk) ?_
    refine lift (fun _ kk => r_aload i0_373 rfl rfl kk) ?_
    refine lift (fun _ kk => r_bipush i0_375 kk) ?_
    refine lift (fun _ kk => r_iload i0_377 rfl kk) ?_
    refine lift (fun _ kk => r_iload i0_379 rfl kk) ?_
    refine lift (fun _ kk => s0_381 hw (H1 := [_]) (kept_in hw (by decide) (by decide)) rfl (leB rfl) kk) ?_
    refine lift (fun _ kk => r_ifF i0_384 (XT.i0_eq_f (by decide)) kk) ?_
    refine lift (fun _ kk => r_aload i0_387 rfl rfl kk) ?_
    refine lift (fun _ kk => r_bipush i0_389 kk) ?_
    refine lift (fun _ kk => r_iload i0_391 rfl kk) ?_
    refine lift (fun _ kk => r_iload i0_393 rfl kk) ?_
    refine lift (fun _ kk => s0_395 hw (H1 := [_]) (kept_hi hw (k := 10) (by decide) (by decide) ⟨by decide, by decide⟩ rfl (own_bb _)) rfl (leB rfl) kk) ?_
    refine lift (fun _ kk => r_ifF i0_398 (XT.i0_eq_f (by decide)) kk) ?_
    refine lift (fun _ kk => r_aload i0_401 rfl rfl kk) ?_
    refine lift (fun _ kk => r_bipush i0_403 kk) ?_
    refine lift (fun _ kk => r_iload i0_405 rfl kk) ?_
    refine lift (fun _ kk => r_iload i0_407 rfl kk) ?_
    refine lift (fun _ kk => s0_409 hw (H1 := [_]) (kept_hi hw (k := 11) (by decide) (by decide) ⟨by decide, by decide⟩ rfl (own_bb _)) rfl (leB rfl) kk) ?_
    refine lift (fun _ kk => r_ifF i0_412 (XT.i0_eq_f (by decide)) kk) ?_
    refine lift (fun _ kk => r_iconst i0_415 kk) ?_
    refine lift (fun _ kk => r_goto i0_416 kk) ?_
    exact ⟨_, r_zreturn i0_420 rfl (by first | decide | simp), leB rfl, leB rfl⟩
  · rw [h]
    refine lift (fun _ kk => r_iloadN i0_8 rfl kk) ?_
    refine lift (fun _ kk => r_i2b i0_9 kk) ?_
    refine lift (fun _ kk => r_istore (ls' := [_, _, _, _, _, _, _, _, _, _]) i0_10 rfl rfl kk) ?_
    refine lift (fun _ kk => r_bipush i0_12 kk) ?_
    refine lift (fun _ kk => s0_14 hw (a := 0) (o := [.int 0, .int 0, .int 0, .int 0, .int 0, .int 0, .int 0, .int 0, .int 0, .int 0, .int 0, .int 0]) (H1 := [_]) (by decide) (by decide) rfl rfl rfl kk) ?_
    refine lift (fun _ kk => r_astore (ls' := [_, _, _, _, _, _, _, _, _, _]) i0_16 rfl rfl rfl kk) ?_
    refine lift (fun _ kk => r_aload i0_18 rfl rfl kk) ?_
    refine lift (fun _ kk => r_iconst i0_20 kk) ?_
    refine lift (fun _ kk => r_iload i0_21 rfl kk) ?_
    refine lift (fun _ kk => r_bastore (i := 0) (vs' := [_, _, _, _, _, _, _, _, _, _, _, _]) (H1 := [_]) i0_23 rfl ⟨by decide, by decide⟩ (ltB rfl) rfl rfl kk) ?_
    refine lift (fun _ kk => r_aload i0_24 rfl rfl kk) ?_
    refine lift (fun _ kk => r_iconst i0_26 kk) ?_
    refine lift (fun _ kk => r_iload i0_27 rfl kk) ?_
    refine lift (fun _ kk => r_bastore (i := 1) (vs' := [_, _, _, _, _, _, _, _, _, _, _, _]) (H1 := [_]) i0_29 rfl ⟨by decide, by decide⟩ (ltB rfl) rfl rfl kk) ?_
    refine lift (fun _ kk => r_aload i0_30 rfl rfl kk) ?_
    refine lift (fun _ kk => r_iconst i0_32 kk) ?_
    refine lift (fun _ kk => r_iload i0_33 rfl kk) ?_
    refine lift (fun _ kk => r_bastore (i := 2) (vs' := [_, _, _, _, _, _, _, _, _, _, _, _]) (H1 := [_]) i0_35 rfl ⟨by decide, by decide⟩ (ltB rfl) rfl rfl kk) ?_
    refine lift (fun _ kk => r_aload i0_36 rfl rfl kk) ?_
    refine lift (fun _ kk => r_iconst i0_38 kk) ?_
    refine lift (fun _ kk => r_iload i0_39 rfl kk) ?_
    refine lift (fun _ kk => r_bastore (i := 3) (vs' := [_, _, _, _, _, _, _, _, _, _, _, _]) (H1 := [_]) i0_41 rfl ⟨by decide, by decide⟩ (ltB rfl) rfl rfl kk) ?_
    refine lift (fun _ kk => r_aload i0_42 rfl rfl kk) ?_
    refine lift (fun _ kk => r_iconst i0_44 kk) ?_
    refine lift (fun _ kk => r_iload i0_45 rfl kk) ?_
    refine lift (fun _ kk => r_bastore (i := 4) (vs' := [_, _, _, _, _, _, _, _, _, _, _, _]) (H1 := [_]) i0_47 rfl ⟨by decide, by decide⟩ (ltB rfl) rfl rfl kk) ?_
    refine lift (fun _ kk => r_aload i0_48 rfl rfl kk) ?_
    refine lift (fun _ kk => r_iconst i0_50 kk) ?_
    refine lift (fun _ kk => r_iload i0_51 rfl kk) ?_
    refine lift (fun _ kk => r_bastore (i := 5) (vs' := [_, _, _, _, _, _, _, _, _, _, _, _]) (H1 := [_]) i0_53 rfl ⟨by decide, by decide⟩ (ltB rfl) rfl rfl kk) ?_
    refine lift (fun _ kk => r_aload i0_54 rfl rfl kk) ?_
    refine lift (fun _ kk => r_bipush i0_56 kk) ?_
    refine lift (fun _ kk => r_iload i0_58 rfl kk) ?_
    refine lift (fun _ kk => r_bastore (i := 6) (vs' := [_, _, _, _, _, _, _, _, _, _, _, _]) (H1 := [_]) i0_60 rfl ⟨by decide, by decide⟩ (ltB rfl) rfl rfl kk) ?_
    refine lift (fun _ kk => r_aload i0_61 rfl rfl kk) ?_
    refine lift (fun _ kk => r_bipush i0_63 kk) ?_
    refine lift (fun _ kk => r_iload i0_65 rfl kk) ?_
    refine lift (fun _ kk => r_bastore (i := 7) (vs' := [_, _, _, _, _, _, _, _, _, _, _, _]) (H1 := [_]) i0_67 rfl ⟨by decide, by decide⟩ (ltB rfl) rfl rfl kk) ?_
    refine lift (fun _ kk => r_aload i0_68 rfl rfl kk) ?_
    refine lift (fun _ kk => r_bipush i0_70 kk) ?_
    refine lift (fun _ kk => r_iload i0_72 rfl kk) ?_
    refine lift (fun _ kk => r_bastore (i := 8) (vs' := [_, _, _, _, _, _, _, _, _, _, _, _]) (H1 := [_]) i0_74 rfl ⟨by decide, by decide⟩ (ltB rfl) rfl rfl kk) ?_
    refine lift (fun _ kk => r_aload i0_75 rfl rfl kk) ?_
    refine lift (fun _ kk => r_bipush i0_77 kk) ?_
    refine lift (fun _ kk => r_iload i0_79 rfl kk) ?_
    refine lift (fun _ kk => r_bastore (i := 9) (vs' := [_, _, _, _, _, _, _, _, _, _, _, _]) (H1 := [_]) i0_81 rfl ⟨by decide, by decide⟩ (ltB rfl) rfl rfl kk) ?_
    refine lift (fun _ kk => r_aload i0_82 rfl rfl kk) ?_
    refine lift (fun _ kk => r_bipush i0_84 kk) ?_
    refine lift (fun _ kk => r_iload i0_86 rfl kk) ?_
    refine lift (fun _ kk => r_bastore (i := 10) (vs' := [_, _, _, _, _, _, _, _, _, _, _, _]) (H1 := [_]) i0_88 rfl ⟨by decide, by decide⟩ (ltB rfl) rfl rfl kk) ?_
    refine lift (fun _ kk => r_aload i0_89 rfl rfl kk) ?_
    refine lift (fun _ kk => r_bipush i0_91 kk) ?_
    refine lift (fun _ kk => r_iload i0_93 rfl kk) ?_
    refine lift (fun _ kk => r_bastore (i := 11) (vs' := [_, _, _, _, _, _, _, _, _, _, _, _]) (H1 := [_]) i0_95 rfl ⟨by decide, by decide⟩ (ltB rfl) rfl rfl kk) ?_
    refine lift (fun _ kk => r_aload i0_96 rfl rfl kk) ?_
    refine lift (fun _ kk => r_iload i0_98 rfl kk) ?_
    refine lift (fun _ kk => r_lloadN i0_100 rfl kk) ?_
    refine lift (fun _ kk => s0_101 hw (H1 := [_]) (put3 hw) rfl (leB rfl) kk) ?_
    refine lift (fun _ kk => r_istore (ls' := [_, _, _, _, _, _, _, _, _, _]) i0_104 rfl rfl kk) ?_
    refine lift (fun _ kk => r_iload i0_106 rfl kk) ?_
    refine lift (fun _ kk => r_iload i0_108 rfl kk) ?_
    refine lift (fun _ kk => r_bipush i0_110 kk) ?_
    refine lift (fun _ kk => r_iadd i0_112 kk) ?_
    refine lift (fun _ kk => r_icT i0_113 (XT.ii_eq_t rfl) kk) ?_
    refine lift (fun _ kk => r_aload i0_118 rfl rfl kk) ?_
    refine lift (fun _ kk => r_iload i0_120 rfl kk) ?_
    refine lift (fun _ kk => r_baload (i := 3) i0_122 rfl ⟨by decide, by decide⟩ rfl kk) ?_
    refine lift (fun _ kk => r_sipush i0_123 kk) ?_
    refine lift (fun _ kk => r_iand i0_126 kk) ?_
    refine lift (fun _ kk => r_i2l i0_127 kk) ?_
    refine lift (fun _ kk => r_bipush i0_128 kk) ?_
    refine lift (fun _ kk => r_lshl i0_130 kk) ?_
    refine lift (fun _ kk => r_aload i0_131 rfl rfl kk) ?_
    refine lift (fun _ kk => r_iload i0_133 rfl kk) ?_
    refine lift (fun _ kk => r_iconst i0_135 kk) ?_
    refine lift (fun _ kk => r_iadd i0_136 kk) ?_
    refine lift (fun _ kk => r_baload (i := 4) i0_137 rfl ⟨by decide, by decide⟩ rfl kk) ?_
    refine lift (fun _ kk => r_sipush i0_138 kk) ?_
    refine lift (fun _ kk => r_iand i0_141 kk) ?_
    refine lift (fun _ kk => r_i2l i0_142 kk) ?_
    refine lift (fun _ kk => r_bipush i0_143 kk) ?_
    refine lift (fun _ kk => r_lshl i0_145 kk) ?_
    refine lift (fun _ kk => r_lor i0_146 kk) ?_
    refine lift (fun _ kk => r_aload i0_147 rfl rfl kk) ?_
    refine lift (fun _ kk => r_iload i0_149 rfl kk) ?_
    refine lift (fun _ kk => r_iconst i0_151 kk) ?_
    refine lift (fun _ kk => r_iadd i0_152 kk) ?_
    refine lift (fun _ kk => r_baload (i := 5) i0_153 rfl ⟨by decide, by decide⟩ rfl kk) ?_
    refine lift (fun _ kk => r_sipush i0_154 kk) ?_
    refine lift (fun _ kk => r_iand i0_157 kk) ?_
    refine lift (fun _ kk => r_i2l i0_158 kk) ?_
    refine lift (fun _ kk => r_bipush i0_159 kk) ?_
    refine lift (fun _ kk => r_lshl i0_161 kk) ?_
    refine lift (fun _ kk => r_lor i0_162 kk) ?_
    refine lift (fun _ kk => r_aload i0_163 rfl rfl kk) ?_
    refine lift (fun _ kk => r_iload i0_165 rfl kk) ?_
    refine lift (fun _ kk => r_iconst i0_167 kk) ?_
    refine lift (fun _ kk => r_iadd i0_168 kk) ?_
    refine lift (fun _ kk => r_baload (i := 6) i0_169 rfl ⟨by decide, by decide⟩ rfl kk) ?_
    refine lift (fun _ kk => r_sipush i0_170 kk) ?_
    refine lift (fun _ kk => r_iand i0_173 kk) ?_
    refine lift (fun _ kk => r_i2l i0_174 kk) ?_
    refine lift (fun _ kk => r_bipush i0_175 kk) ?_
    refine lift (fun _ kk => r_lshl i0_177 kk) ?_
    refine lift (fun _ kk => r_lor i0_178 kk) ?_
    refine lift (fun _ kk => r_aload i0_179 rfl rfl kk) ?_
    refine lift (fun _ kk => r_iload i0_181 rfl kk) ?_
    refine lift (fun _ kk => r_iconst i0_183 kk) ?_
    refine lift (fun _ kk => r_iadd i0_184 kk) ?_
    refine lift (fun _ kk => r_baload (i := 7) i0_185 rfl ⟨by decide, by decide⟩ rfl kk) ?_
    refine lift (fun _ kk => r_sipush i0_186 kk) ?_
    refine lift (fun _ kk => r_iand i0_189 kk) ?_
    refine lift (fun _ kk => r_i2l i0_190 kk) ?_
    refine lift (fun _ kk => r_bipush i0_191 kk) ?_
    refine lift (fun _ kk => r_lshl i0_193 kk) ?_
    refine lift (fun _ kk => r_lor i0_194 kk) ?_
    refine lift (fun _ kk => r_aload i0_195 rfl rfl kk) ?_
    refine lift (fun _ kk => r_iload i0_197 rfl kk) ?_
    refine lift (fun _ kk => r_iconst i0_199 kk) ?_
    refine lift (fun _ kk => r_iadd i0_200 kk) ?_
    refine lift (fun _ kk => r_baload (i := 8) i0_201 rfl ⟨by decide, by decide⟩ rfl kk) ?_
    refine lift (fun _ kk => r_sipush i0_202 kk) ?_
    refine lift (fun _ kk => r_iand i0_205 kk) ?_
    refine lift (fun _ kk => r_i2l i0_206 kk) ?_
    refine lift (fun _ kk => r_bipush i0_207 kk) ?_
    refine lift (fun _ kk => r_lshl i0_209 kk) ?_
    refine lift (fun _ kk => r_lor i0_210 kk) ?_
    refine lift (fun _ kk => r_aload i0_211 rfl rfl kk) ?_
    refine lift (fun _ kk => r_iload i0_213 rfl kk) ?_
    refine lift (fun _ kk => r_bipush i0_215 kk) ?_
    refine lift (fun _ kk => r_iadd i0_217 kk) ?_
    refine lift (fun _ kk => r_baload (i := 9) i0_218 rfl ⟨by decide, by decide⟩ rfl kk) ?_
    refine lift (fun _ kk => r_sipush i0_219 kk) ?_
    refine lift (fun _ kk => r_iand i0_222 kk) ?_
    refine lift (fun _ kk => r_i2l i0_223 kk) ?_
    refine lift (fun _ kk => r_bipush i0_224 kk) ?_
    refine lift (fun _ kk => r_lshl i0_226 kk) ?_
    refine lift (fun _ kk => r_lor i0_227 kk) ?_
    refine lift (fun _ kk => r_aload i0_228 rfl rfl kk) ?_
    refine lift (fun _ kk => r_iload i0_230 rfl kk) ?_
    refine lift (fun _ kk => r_bipush i0_232 kk) ?_
    refine lift (fun _ kk => r_iadd i0_234 kk) ?_
    refine lift (fun _ kk => r_baload (i := 10) i0_235 rfl ⟨by decide, by decide⟩ rfl kk) ?_
    refine lift (fun _ kk => r_sipush i0_236 kk) ?_
    refine lift (fun _ kk => r_iand i0_239 kk) ?_
    refine lift (fun _ kk => r_i2l i0_240 kk) ?_
    refine lift (fun _ kk => r_lor i0_241 kk) ?_
    refine lift (fun _ kk => r_lstore (ls' := [_, _, _, _, _, _, _, _, _, _]) i0_242 rfl rfl kk) ?_
    refine lift (fun _ kk => r_lload i0_244 rfl kk) ?_
    refine lift (fun _ kk => r_lloadN i0_246 rfl kk) ?_
    refine lift (fun _ kk => r_lcmp i0_247 kk) ?_
    refine lift (fun _ kk => r_ifT i0_248 (XT.ll_eq_t (own_back p0)) kk) ?_
    refine lift (fun _ kk => r_aload i0_253 rfl rfl kk) ?_
    refine lift (fun _ kk => r_iconst i0_255 kk) ?_
    refine lift (fun _ kk => r_iload i0_256 rfl kk) ?_
    refine lift (fun _ kk => r_iload i0_258 rfl kk) ?_
    refine lift (fun _ kk => s0_260 hw (H1 := [_]) (kept_lo hw (k := 0) (by decide) ⟨by decide, by decide⟩ rfl (own_bb _)) rfl (leB rfl) kk) ?_
    refine lift (fun _ kk => r_ifF i0_263 (XT.i0_eq_f (by decide)) kk) ?_
    refine lift (fun _ kk => r_aload i0_266 rfl rfl kk) ?_
    refine lift (fun _ kk => r_iconst i0_268 kk) ?_
    refine lift (fun _ kk => r_iload i0_269 rfl kk) ?_
    refine lift (fun _ kk => r_iload i0_271 rfl kk) ?_
    refine lift (fun _ kk => s0_273 hw (H1 := [_]) (kept_lo hw (k := 1) (by decide) ⟨by decide, by decide⟩ rfl (own_bb _)) rfl (leB rfl) kk) ?_
    refine lift (fun _ kk => r_ifF i0_276 (XT.i0_eq_f (by decide)) kk) ?_
    refine lift (fun _ kk => r_aload i0_279 rfl rfl kk) ?_
    refine lift (fun _ kk => r_iconst i0_281 kk) ?_
    refine lift (fun _ kk => r_iload i0_282 rfl kk) ?_
    refine lift (fun _ kk => r_iload i0_284 rfl kk) ?_
    refine lift (fun _ kk => s0_286 hw (H1 := [_]) (kept_lo hw (k := 2) (by decide) ⟨by decide, by decide⟩ rfl (own_bb _)) rfl (leB rfl) kk) ?_
    refine lift (fun _ kk => r_ifF i0_289 (XT.i0_eq_f (by decide)) kk) ?_
    refine lift (fun _ kk => r_aload i0_292 rfl rfl kk) ?_
    refine lift (fun _ kk => r_iconst i0_294 kk) ?_
    refine lift (fun _ kk => r_iload i0_295 rfl kk) ?_
    refine lift (fun _ kk => r_iload i0_297 rfl kk) ?_
    refine lift (fun _ kk => s0_299 hw (H1 := [_]) (kept_in hw (by decide) (by decide)) rfl (leB rfl) kk) ?_
    refine lift (fun _ kk => r_ifF i0_302 (XT.i0_eq_f (by decide)) kk) ?_
    refine lift (fun _ kk => r_aload i0_305 rfl rfl kk) ?_
    refine lift (fun _ kk => r_iconst i0_307 kk) ?_
    refine lift (fun _ kk => r_iload i0_308 rfl kk) ?_
    refine lift (fun _ kk => r_iload i0_310 rfl kk) ?_
    refine lift (fun _ kk => s0_312 hw (H1 := [_]) (kept_in hw (by decide) (by decide)) rfl (leB rfl) kk) ?_
    refine lift (fun _ kk => r_ifF i0_315 (XT.i0_eq_f (by decide)) kk) ?_
    refine lift (fun _ kk => r_aload i0_318 rfl rfl kk) ?_
    refine lift (fun _ kk => r_iconst i0_320 kk) ?_
    refine lift (fun _ kk => r_iload i0_321 rfl kk) ?_
    refine lift (fun _ kk => r_iload i0_323 rfl kk) ?_
    refine lift (fun _ kk => s0_325 hw (H1 := [_]) (kept_in hw (by decide) (by decide)) rfl (leB rfl) kk) ?_
    refine lift (fun _ kk => r_ifF i0_328 (XT.i0_eq_f (by decide)) kk) ?_
    refine lift (fun _ kk => r_aload i0_331 rfl rfl kk) ?_
    refine lift (fun _ kk => r_bipush i0_333 kk) ?_
    refine lift (fun _ kk => r_iload i0_335 rfl kk) ?_
    refine lift (fun _ kk => r_iload i0_337 rfl kk) ?_
    refine lift (fun _ kk => s0_339 hw (H1 := [_]) (kept_in hw (by decide) (by decide)) rfl (leB rfl) kk) ?_
    refine lift (fun _ kk => r_ifF i0_342 (XT.i0_eq_f (by decide)) kk) ?_
    refine lift (fun _ kk => r_aload i0_345 rfl rfl kk) ?_
    refine lift (fun _ kk => r_bipush i0_347 kk) ?_
    refine lift (fun _ kk => r_iload i0_349 rfl kk) ?_
    refine lift (fun _ kk => r_iload i0_351 rfl kk) ?_
    refine lift (fun _ kk => s0_353 hw (H1 := [_]) (kept_in hw (by decide) (by decide)) rfl (leB rfl) kk) ?_
    refine lift (fun _ kk => r_ifF i0_356 (XT.i0_eq_f (by decide)) kk) ?_
    refine lift (fun _ kk => r_aload i0_359 rfl rfl kk) ?_
    refine lift (fun _ kk => r_bipush i0_361 kk) ?_
    refine lift (fun _ kk => r_iload i0_363 rfl kk) ?_
    refine lift (fun _ kk => r_iload i0_365 rfl kk) ?_
    refine lift (fun _ kk => s0_367 hw (H1 := [_]) (kept_in hw (by decide) (by decide)) rfl (leB rfl) kk) ?_
    refine lift (fun _ kk => r_ifF i0_370 (XT.i0_eq_f (by decide)) kk) ?_
    refine lift (fun _ kk => r_aload i0_373 rfl rfl kk) ?_
    refine lift (fun _ kk => r_bipush i0_375 kk) ?_
    refine lift (fun _ kk => r_iload i0_377 rfl kk) ?_
    refine lift (fun _ kk => r_iload i0_379 rfl kk) ?_
    refine lift (fun _ kk => s0_381 hw (H1 := [_]) (kept_in hw (by decide) (by decide)) rfl (leB rfl) kk) ?_
    refine lift (fun _ kk => r_ifF i0_384 (XT.i0_eq_f (by decide)) kk) ?_
    refine lift (fun _ kk => r_aload i0_387 rfl rfl kk) ?_
    refine lift (fun _ kk => r_bipush i0_389 kk) ?_
    refine lift (fun _ kk => r_iload i0_391 rfl kk) ?_
    refine lift (fun _ kk => r_iload i0_393 rfl kk) ?_
    refine lift (fun _ kk => s0_395 hw (H1 := [_]) (kept_in hw (by decide) (by decide)) rfl (leB rfl) kk) ?_
    refine lift (fun _ kk => r_ifF i0_398 (XT.i0_eq_f (by decide)) kk) ?_
    refine lift (fun _ kk => r_aload i0_401 rfl rfl kk) ?_
    refine lift (fun _ kk => r_bipush i0_403 kk) ?_
    refine lift (fun _ kk => r_iload i0_405 rfl kk) ?_
    refine lift (fun _ kk => r_iload i0_407 rfl kk) ?_
    refine lift (fun _ kk => s0_409 hw (H1 := [_]) (kept_hi hw (k := 11) (by decide) (by decide) ⟨by decide, by decide⟩ rfl (own_bb _)) rfl (leB rfl) kk) ?_
    refine lift (fun _ kk => r_ifF i0_412 (XT.i0_eq_f (by decide)) kk) ?_
    refine lift (fun _ kk => r_iconst i0_415 kk) ?_
    refine lift (fun _ kk => r_goto i0_416 kk) ?_
    exact ⟨_, r_zreturn i0_420 rfl (by first | decide | simp), leB rfl, leB rfl⟩
  · rw [h]
    refine lift (fun _ kk => r_iloadN i0_8 rfl kk) ?_
    refine lift (fun _ kk => r_i2b i0_9 kk) ?_
    refine lift (fun _ kk => r_istore (ls' := [_, _, _, _, _, _, _, _, _, _]) i0_10 rfl rfl kk) ?_
    refine lift (fun _ kk => r_bipush i0_12 kk) ?_
    refine lift (fun _ kk => s0_14 hw (a := 0) (o := [.int 0, .int 0, .int 0, .int 0, .int 0, .int 0, .int 0, .int 0, .int 0, .int 0, .int 0, .int 0]) (H1 := [_]) (by decide) (by decide) rfl rfl rfl kk) ?_
    refine lift (fun _ kk => r_astore (ls' := [_, _, _, _, _, _, _, _, _, _]) i0_16 rfl rfl rfl kk) ?_
    refine lift (fun _ kk => r_aload i0_18 rfl rfl kk) ?_
    refine lift (fun _ kk => r_iconst i0_20 kk) ?_
    refine lift (fun _ kk => r_iload i0_21 rfl kk) ?_
    refine lift (fun _ kk => r_bastore (i := 0) (vs' := [_, _, _, _, _, _, _, _, _, _, _, _]) (H1 := [_]) i0_23 rfl ⟨by decide, by decide⟩ (ltB rfl) rfl rfl kk) ?_
    refine lift (fun _ kk => r_aload i0_24 rfl rfl kk) ?_
    refine lift (fun _ kk => r_iconst i0_26 kk) ?_
    refine lift (fun _ kk => r_iload i0_27 rfl kk) ?_
    refine lift (fun _ kk => r_bastore (i := 1) (vs' := [_, _, _, _, _, _, _, _, _, _, _, _]) (H1 := [_]) i0_29 rfl ⟨by decide, by decide⟩ (ltB rfl) rfl rfl kk) ?_
    refine lift (fun _ kk => r_aload i0_30 rfl rfl kk) ?_
    refine lift (fun _ kk => r_iconst i0_32 kk) ?_
    refine lift (fun _ kk => r_iload i0_33 rfl kk) ?_
    refine lift (fun _ kk => r_bastore (i := 2) (vs' := [_, _, _, _, _, _, _, _, _, _, _, _]) (H1 := [_]) i0_35 rfl ⟨by decide, by decide⟩ (ltB rfl) rfl rfl kk) ?_
    refine lift (fun _ kk => r_aload i0_36 rfl rfl kk) ?_
    refine lift (fun _ kk => r_iconst i0_38 kk) ?_
    refine lift (fun _ kk => r_iload i0_39 rfl kk) ?_
    refine lift (fun _ kk => r_bastore (i := 3) (vs' := [_, _, _, _, _, _, _, _, _, _, _, _]) (H1 := [_]) i0_41 rfl ⟨by decide, by decide⟩ (ltB rfl) rfl rfl kk) ?_
    refine lift (fun _ kk => r_aload i0_42 rfl rfl kk) ?_
    refine lift (fun _ kk => r_iconst i0_44 kk) ?_
    refine lift (fun _ kk => r_iload i0_45 rfl kk) ?_
    refine lift (fun _ kk => r_bastore (i := 4) (vs' := [_, _, _, _, _, _, _, _, _, _, _, _]) (H1 := [_]) i0_47 rfl ⟨by decide, by decide⟩ (ltB rfl) rfl rfl kk) ?_
    refine lift (fun _ kk => r_aload i0_48 rfl rfl kk) ?_
    refine lift (fun _ kk => r_iconst i0_50 kk) ?_
    refine lift (fun _ kk => r_iload i0_51 rfl kk) ?_
    refine lift (fun _ kk => r_bastore (i := 5) (vs' := [_, _, _, _, _, _, _, _, _, _, _, _]) (H1 := [_]) i0_53 rfl ⟨by decide, by decide⟩ (ltB rfl) rfl rfl kk) ?_
    refine lift (fun _ kk => r_aload i0_54 rfl rfl kk) ?_
    refine lift (fun _ kk => r_bipush i0_56 kk) ?_
    refine lift (fun _ kk => r_iload i0_58 rfl kk) ?_
    refine lift (fun _ kk => r_bastore (i := 6) (vs' := [_, _, _, _, _, _, _, _, _, _, _, _]) (H1 := [_]) i0_60 rfl ⟨by decide, by decide⟩ (ltB rfl) rfl rfl kk) ?_
    refine lift (fun _ kk => r_aload i0_61 rfl rfl kk) ?_
    refine lift (fun _ kk => r_bipush i0_63 kk) ?_
    refine lift (fun _ kk => r_iload i0_65 rfl kk) ?_
    refine lift (fun _ kk => r_bastore (i := 7) (vs' := [_, _, _, _, _, _, _, _, _, _, _, _]) (H1 := [_]) i0_67 rfl ⟨by decide, by decide⟩ (ltB rfl) rfl rfl kk) ?_
    refine lift (fun _ kk => r_aload i0_68 rfl rfl kk) ?_
    refine lift (fun _ kk => r_bipush i0_70 kk) ?_
    refine lift (fun _ kk => r_iload i0_72 rfl kk) ?_
    refine lift (fun _ kk => r_bastore (i := 8) (vs' := [_, _, _, _, _, _, _, _, _, _, _, _]) (H1 := [_]) i0_74 rfl ⟨by decide, by decide⟩ (ltB rfl) rfl rfl kk) ?_
    refine lift (fun _ kk => r_aload i0_75 rfl rfl kk) ?_
    refine lift (fun _ kk => r_bipush i0_77 kk) ?_
    refine lift (fun _ kk => r_iload i0_79 rfl kk) ?_
    refine lift (fun _ kk => r_bastore (i := 9) (vs' := [_, _, _, _, _, _, _, _, _, _, _, _]) (H1 := [_]) i0_81 rfl ⟨by decide, by decide⟩ (ltB rfl) rfl rfl kk) ?_
    refine lift (fun _ kk => r_aload i0_82 rfl rfl kk) ?_
    refine lift (fun _ kk => r_bipush i0_84 kk) ?_
    refine lift (fun _ kk => r_iload i0_86 rfl kk) ?_
    refine lift (fun _ kk => r_bastore (i := 10) (vs' := [_, _, _, _, _, _, _, _, _, _, _, _]) (H1 := [_]) i0_88 rfl ⟨by decide, by decide⟩ (ltB rfl) rfl rfl kk) ?_
    refine lift (fun _ kk => r_aload i0_89 rfl rfl kk) ?_
    refine lift (fun _ kk => r_bipush i0_91 kk) ?_
    refine lift (fun _ kk => r_iload i0_93 rfl kk) ?_
    refine lift (fun _ kk => r_bastore (i := 11) (vs' := [_, _, _, _, _, _, _, _, _, _, _, _]) (H1 := [_]) i0_95 rfl ⟨by decide, by decide⟩ (ltB rfl) rfl rfl kk) ?_
    refine lift (fun _ kk => r_aload i0_96 rfl rfl kk) ?_
    refine lift (fun _ kk => r_iload i0_98 rfl kk) ?_
    refine lift (fun _ kk => r_lloadN i0_100 rfl kk) ?_
    refine lift (fun _ kk => s0_101 hw (H1 := [_]) (put4 hw) rfl (leB rfl) kk) ?_
    refine lift (fun _ kk => r_istore (ls' := [_, _, _, _, _, _, _, _, _, _]) i0_104 rfl rfl kk) ?_
    refine lift (fun _ kk => r_iload i0_106 rfl kk) ?_
    refine lift (fun _ kk => r_iload i0_108 rfl kk) ?_
    refine lift (fun _ kk => r_bipush i0_110 kk) ?_
    refine lift (fun _ kk => r_iadd i0_112 kk) ?_
    refine lift (fun _ kk => r_icT i0_113 (XT.ii_eq_t rfl) kk) ?_
    refine lift (fun _ kk => r_aload i0_118 rfl rfl kk) ?_
    refine lift (fun _ kk => r_iload i0_120 rfl kk) ?_
    refine lift (fun _ kk => r_baload (i := 4) i0_122 rfl ⟨by decide, by decide⟩ rfl kk) ?_
    refine lift (fun _ kk => r_sipush i0_123 kk) ?_
    refine lift (fun _ kk => r_iand i0_126 kk) ?_
    refine lift (fun _ kk => r_i2l i0_127 kk) ?_
    refine lift (fun _ kk => r_bipush i0_128 kk) ?_
    refine lift (fun _ kk => r_lshl i0_130 kk) ?_
    refine lift (fun _ kk => r_aload i0_131 rfl rfl kk) ?_
    refine lift (fun _ kk => r_iload i0_133 rfl kk) ?_
    refine lift (fun _ kk => r_iconst i0_135 kk) ?_
    refine lift (fun _ kk => r_iadd i0_136 kk) ?_
    refine lift (fun _ kk => r_baload (i := 5) i0_137 rfl ⟨by decide, by decide⟩ rfl kk) ?_
    refine lift (fun _ kk => r_sipush i0_138 kk) ?_
    refine lift (fun _ kk => r_iand i0_141 kk) ?_
    refine lift (fun _ kk => r_i2l i0_142 kk) ?_
    refine lift (fun _ kk => r_bipush i0_143 kk) ?_
    refine lift (fun _ kk => r_lshl i0_145 kk) ?_
    refine lift (fun _ kk => r_lor i0_146 kk) ?_
    refine lift (fun _ kk => r_aload i0_147 rfl rfl kk) ?_
    refine lift (fun _ kk => r_iload i0_149 rfl kk) ?_
    refine lift (fun _ kk => r_iconst i0_151 kk) ?_
    refine lift (fun _ kk => r_iadd i0_152 kk) ?_
    refine lift (fun _ kk => r_baload (i := 6) i0_153 rfl ⟨by decide, by decide⟩ rfl kk) ?_
    refine lift (fun _ kk => r_sipush i0_154 kk) ?_
    refine lift (fun _ kk => r_iand i0_157 kk) ?_
    refine lift (fun _ kk => r_i2l i0_158 kk) ?_
    refine lift (fun _ kk => r_bipush i0_159 kk) ?_
    refine lift (fun _ kk => r_lshl i0_161 kk) ?_
    refine lift (fun _ kk => r_lor i0_162 kk) ?_
    refine lift (fun _ kk => r_aload i0_163 rfl rfl kk) ?_
    refine lift (fun _ kk => r_iload i0_165 rfl kk) ?_
    refine lift (fun _ kk => r_iconst i0_167 kk) ?_
    refine lift (fun _ kk => r_iadd i0_168 kk) ?_
    refine lift (fun _ kk => r_baload (i := 7) i0_169 rfl ⟨by decide, by decide⟩ rfl kk) ?_
    refine lift (fun _ kk => r_sipush i0_170 kk) ?_
    refine lift (fun _ kk => r_iand i0_173 kk) ?_
    refine lift (fun _ kk => r_i2l i0_174 kk) ?_
    refine lift (fun _ kk => r_bipush i0_175 kk) ?_
    refine lift (fun _ kk => r_lshl i0_177 kk) ?_
    refine lift (fun _ kk => r_lor i0_178 kk) ?_
    refine lift (fun _ kk => r_aload i0_179 rfl rfl kk) ?_
    refine lift (fun _ kk => r_iload i0_181 rfl kk) ?_
    refine lift (fun _ kk => r_iconst i0_183 kk) ?_
    refine lift (fun _ kk => r_iadd i0_184 kk) ?_
    refine lift (fun _ kk => r_baload (i := 8) i0_185 rfl ⟨by decide, by decide⟩ rfl kk) ?_
    refine lift (fun _ kk => r_sipush i0_186 kk) ?_
    refine lift (fun _ kk => r_iand i0_189 kk) ?_
    refine lift (fun _ kk => r_i2l i0_190 kk) ?_
    refine lift (fun _ kk => r_bipush i0_191 kk) ?_
    refine lift (fun _ kk => r_lshl i0_193 kk) ?_
    refine lift (fun _ kk => r_lor i0_194 kk) ?_
    refine lift (fun _ kk => r_aload i0_195 rfl rfl kk) ?_
    refine lift (fun _ kk => r_iload i0_197 rfl kk) ?_
    refine lift (fun _ kk => r_iconst i0_199 kk) ?_
    refine lift (fun _ kk => r_iadd i0_200 kk) ?_
    refine lift (fun _ kk => r_baload (i := 9) i0_201 rfl ⟨by decide, by decide⟩ rfl kk) ?_
    refine lift (fun _ kk => r_sipush i0_202 kk) ?_
    refine lift (fun _ kk => r_iand i0_205 kk) ?_
    refine lift (fun _ kk => r_i2l i0_206 kk) ?_
    refine lift (fun _ kk => r_bipush i0_207 kk) ?_
    refine lift (fun _ kk => r_lshl i0_209 kk) ?_
    refine lift (fun _ kk => r_lor i0_210 kk) ?_
    refine lift (fun _ kk => r_aload i0_211 rfl rfl kk) ?_
    refine lift (fun _ kk => r_iload i0_213 rfl kk) ?_
    refine lift (fun _ kk => r_bipush i0_215 kk) ?_
    refine lift (fun _ kk => r_iadd i0_217 kk) ?_
    refine lift (fun _ kk => r_baload (i := 10) i0_218 rfl ⟨by decide, by decide⟩ rfl kk) ?_
    refine lift (fun _ kk => r_sipush i0_219 kk) ?_
    refine lift (fun _ kk => r_iand i0_222 kk) ?_
    refine lift (fun _ kk => r_i2l i0_223 kk) ?_
    refine lift (fun _ kk => r_bipush i0_224 kk) ?_
    refine lift (fun _ kk => r_lshl i0_226 kk) ?_
    refine lift (fun _ kk => r_lor i0_227 kk) ?_
    refine lift (fun _ kk => r_aload i0_228 rfl rfl kk) ?_
    refine lift (fun _ kk => r_iload i0_230 rfl kk) ?_
    refine lift (fun _ kk => r_bipush i0_232 kk) ?_
    refine lift (fun _ kk => r_iadd i0_234 kk) ?_
    refine lift (fun _ kk => r_baload (i := 11) i0_235 rfl ⟨by decide, by decide⟩ rfl kk) ?_
    refine lift (fun _ kk => r_sipush i0_236 kk) ?_
    refine lift (fun _ kk => r_iand i0_239 kk) ?_
    refine lift (fun _ kk => r_i2l i0_240 kk) ?_
    refine lift (fun _ kk => r_lor i0_241 kk) ?_
    refine lift (fun _ kk => r_lstore (ls' := [_, _, _, _, _, _, _, _, _, _]) i0_242 rfl rfl kk) ?_
    refine lift (fun _ kk => r_lload i0_244 rfl kk) ?_
    refine lift (fun _ kk => r_lloadN i0_246 rfl kk) ?_
    refine lift (fun _ kk => r_lcmp i0_247 kk) ?_
    refine lift (fun _ kk => r_ifT i0_248 (XT.ll_eq_t (own_back p0)) kk) ?_
    refine lift (fun _ kk => r_aload i0_253 rfl rfl kk) ?_
    refine lift (fun _ kk => r_iconst i0_255 kk) ?_
    refine lift (fun _ kk => r_iload i0_256 rfl kk) ?_
    refine lift (fun _ kk => r_iload i0_258 rfl kk) ?_
    refine lift (fun _ kk => s0_260 hw (H1 := [_]) (kept_lo hw (k := 0) (by decide) ⟨by decide, by decide⟩ rfl (own_bb _)) rfl (leB rfl) kk) ?_
    refine lift (fun _ kk => r_ifF i0_263 (XT.i0_eq_f (by decide)) kk) ?_
    refine lift (fun _ kk => r_aload i0_266 rfl rfl kk) ?_
    refine lift (fun _ kk => r_iconst i0_268 kk) ?_
    refine lift (fun _ kk => r_iload i0_269 rfl kk) ?_
    refine lift (fun _ kk => r_iload i0_271 rfl kk) ?_
    refine lift (fun _ kk => s0_273 hw (H1 := [_]) (kept_lo hw (k := 1) (by decide) ⟨by decide, by decide⟩ rfl (own_bb _)) rfl (leB rfl) kk) ?_
    refine lift (fun _ kk => r_ifF i0_276 (XT.i0_eq_f (by decide)) kk) ?_
    refine lift (fun _ kk => r_aload i0_279 rfl rfl kk) ?_
    refine lift (fun _ kk => r_iconst i0_281 kk) ?_
    refine lift (fun _ kk => r_iload i0_282 rfl kk) ?_
    refine lift (fun _ kk => r_iload i0_284 rfl kk) ?_
    refine lift (fun _ kk => s0_286 hw (H1 := [_]) (kept_lo hw (k := 2) (by decide) ⟨by decide, by decide⟩ rfl (own_bb _)) rfl (leB rfl) kk) ?_
    refine lift (fun _ kk => r_ifF i0_289 (XT.i0_eq_f (by decide)) kk) ?_
    refine lift (fun _ kk => r_aload i0_292 rfl rfl kk) ?_
    refine lift (fun _ kk => r_iconst i0_294 kk) ?_
    refine lift (fun _ kk => r_iload i0_295 rfl kk) ?_
    refine lift (fun _ kk => r_iload i0_297 rfl kk) ?_
    refine lift (fun _ kk => s0_299 hw (H1 := [_]) (kept_lo hw (k := 3) (by decide) ⟨by decide, by decide⟩ rfl (own_bb _)) rfl (leB rfl) kk) ?_
    refine lift (fun _ kk => r_ifF i0_302 (XT.i0_eq_f (by decide)) kk) ?_
    refine lift (fun _ kk => r_aload i0_305 rfl rfl kk) ?_
    refine lift (fun _ kk => r_iconst i0_307 kk) ?_
    refine lift (fun _ kk => r_iload i0_308 rfl kk) ?_
    refine lift (fun _ kk => r_iload i0_310 rfl kk) ?_
    refine lift (fun _ kk => s0_312 hw (H1 := [_]) (kept_in hw (by decide) (by decide)) rfl (leB rfl) kk) ?_
    refine lift (fun _ kk => r_ifF i0_315 (XT.i0_eq_f (by decide)) kk) ?_
    refine lift (fun _ kk => r_aload i0_318 rfl rfl kk) ?_
    refine lift (fun _ kk => r_iconst i0_320 kk) ?_
    refine lift (fun _ kk => r_iload i0_321 rfl kk) ?_
    refine lift (fun _ kk => r_iload i0_323 rfl kk) ?_
    refine lift (fun _ kk => s0_325 hw (H1 := [_]) (kept_in hw (by decide) (by decide)) rfl (leB rfl) kk) ?_
    refine lift (fun _ kk => r_ifF i0_328 (XT.i0_eq_f (by decide)) kk) ?_
    refine lift (fun _ kk => r_aload i0_331 rfl rfl kk) ?_
    refine lift (fun _ kk => r_bipush i0_333 kk) ?_
    refine lift (fun _ kk => r_iload i0_335 rfl kk) ?_
    refine lift (fun _ kk => r_iload i0_337 rfl kk) ?_
    refine lift (fun _ kk => s0_339 hw (H1 := [_]) (kept_in hw (by decide) (by decide)) rfl (leB rfl) kk) ?_
    refine lift (fun _ kk => r_ifF i0_342 (XT.i0_eq_f (by decide)) kk) ?_
    refine lift (fun _ kk => r_aload i0_345 rfl rfl kk) ?_
    refine lift (fun _ kk => r_bipush i0_347 kk) ?_
    refine lift (fun _ kk => r_iload i0_349 rfl kk) ?_
    refine lift (fun _ kk => r_iload i0_351 rfl kk) ?_
    refine lift (fun _ kk => s0_353 hw (H1 := [_]) (kept_in hw (by decide) (by decide)) rfl (leB rfl) kk) ?_
    refine lift (fun _ kk => r_ifF i0_356 (XT.i0_eq_f (by decide)) kk) ?_
    refine lift (fun _ kk => r_aload i0_359 rfl rfl kk) ?_
    refine lift (fun _ kk => r_bipush i0_361 kk) ?_
    refine lift (fun _ kk => r_iload i0_363 rfl kk) ?_
    refine lift (fun _ kk => r_iload i0_365 rfl kk) ?_
    refine lift (fun _ kk => s0_367 hw (H1 := [_]) (kept_in hw (by decide) (by decide)) rfl (leB rfl) kk) ?_
    refine lift (fun _ kk => r_ifF i0_370 (XT.i0_eq_f (by decide)) kk) ?_
    refine lift (fun _ kk => r_aload i0_373 rfl rfl kk) ?_
    refine lift (fun _ kk => r_bipush i0_375 kk) ?_
    refine lift (fun _ kk => r_iload i0_377 rfl kk) ?_
    refine lift (fun _ kk => r_iload i0_379 rfl kk) ?_
    refine lift (fun _ kk => s0_381 hw (H1 := [_]) (kept_in hw (by decide) (by decide)) rfl (leB rfl) kk) ?_
    refine lift (fun _ kk => r_ifF i0_384 (XT.i0_eq_f (by decide)) kk) ?_
    refine lift (fun _ kk => r_aload i0_387 rfl rfl kk) ?_
    refine lift (fun _ kk => r_bipush i0_389 kk) ?_
    refine lift (fun _ kk => r_iload i0_391 rfl kk) ?_
    refine lift (fun _ kk => r_iload i0_393 rfl kk) ?_
    refine lift (fun _ kk => s0_395 hw (H1 := [_]) (kept_in hw (by decide) (by decide)) rfl (leB rfl) kk) ?_
    refine lift (fun _ kk => r_ifF i0_398 (XT.i0_eq_f (by decide)) kk) ?_
    refine lift (fun _ kk => r_aload i0_401 rfl rfl kk) ?_
    refine lift (fun _ kk => r_bipush i0_403 kk) ?_
    refine lift (fun _ kk => r_iload i0_405 rfl kk) ?_
    refine lift (fun _ kk => r_iload i0_407 rfl kk) ?_
    refine lift (fun _ kk => s0_409 hw (H1 := [_]) (kept_in hw (by decide) (by decide)) rfl (leB rfl) kk) ?_
    refine lift (fun _ kk => r_ifF i0_412 (XT.i0_eq_f (by decide)) kk) ?_
    refine lift (fun _ kk => r_iconst i0_415 kk) ?_
    refine lift (fun _ kk => r_goto i0_416 kk) ?_
    exact ⟨_, r_zreturn i0_420 rfl (by first | decide | simp), leB rfl, leB rfl⟩
set_option maxRecDepth 65536 in
set_option maxHeartbeats 40000000 in
theorem comes_1 {Post : Tables → Env → Array Value → State → Outcome → State → Prop} (hpost : ∀ tb e args s v u, (limb_1_1.after args s (.returned v) u = true ∧ limb_1_2.after args s (.returned v) u = true ∧ True) → FrameEnd s (.returned v) u (Jvm.fieldLocs frame_1_writes args s ++ Jvm.arrayLocs frame_1_arrays args s ++ Jvm.staticLocs frame_1_statics s) 16 128 → Post tb e args s (.returned v) u) :
    ArmFor flags0 classFile x code maxLocals ret World_1 tables_1 room_1 Calls_1 rest_1 Pre_1 Post := by
  intro l hfl _ _ p e ha hc hk s m args below hf hA hF happ hP
  obtain ⟨hcalls, hrest, hpre⟩ := hP
  obtain ⟨-, -, -, hnamed, -, -, -, hat⟩ := (Spec.applies_iff hf).mp happ
  obtain ⟨hg, hn⟩ := and_e (Cond.before_iff.mp (show (Jvm.Cond.and given_1 narrow_1).before args s = true from hpre))
  obtain ⟨hcount, hk0⟩ := and_e hg
  obtain ⟨w0, w1, w2, rfl⟩ : ∃ w0 w1 w2 : Value, args = #[w0, w1, w2] := by
    have hs : args.size = 3 := by simpa [Cond.value, given_1] using hcount
    obtain ⟨L⟩ := args
    match L, hs with
    | [w0, w1, w2], _ => exact ⟨w0, w1, w2, rfl⟩
  have hw : HW s _ := fun d (hd : d ∈ tables_1) => atoms_spec (ws := Jvm.Cond.code x code maxLocals ret :: tables_1) hat d (List.mem_cons_of_mem _ hd)
  replace hk0 := and_e hk0
  obtain ⟨p0, e0⟩ := isL_v hk0.1
  obtain rfl : w0 = (.long p0) := Option.some.inj e0
  have hk1 := hk0.2
  replace hk1 := and_e hk1
  obtain ⟨p1, e1⟩ := is_v hk1.1
  obtain rfl : w1 = (.int p1) := Option.some.inj e1
  have hk2 := hk1.2
  obtain ⟨p2, e2⟩ := is_v hk2
  obtain rfl : w2 = (.int p2) := Option.some.inj e2
  obtain ⟨H', k, hcl, hsl⟩ := law_runs (l := l) (n0 := s.heap.size) hw p0 p1 p2
  obtain ⟨n, o, h1, h2, h3, _, L, rfl, ⟨rfl, -, N⟩, hq⟩ := met_gen (mi := m0) (as := [.long p0, .int p1, .int p2]) tables_1 room_1 pf0 rfl (fun h => nomatch h) k (by decide) (by decide) (by show H'.length ≤ 16 + 0; omega) (by show szs K H' ≤ 128 + 0; omega) (h := s.heap) ⟨rfl, fun k o h => by simp at h⟩ p e ha hc hk s m _ below hf ((Spec.applies_iff_loose hf).mp happ).1 ⟨rfl, State.Warmed39.refl s, rfl⟩ trivial
  refine ⟨n, _, h1, h2, h3, hpost _ _ _ _ _ _ ⟨Cond.after_iff.mpr rfl, Cond.after_iff.mpr (eq_i res_at (Term.int_eval (1)) rfl), trivial⟩ ⟨hq.1, hq.2.1, (hq.2.2.sift fun y hy => Or.inr (N y hy)).mono (by show H'.length - 0 ≤ _; omega) (by show szs K H' - 0 ≤ _; omega)⟩⟩
theorem main_1_1 : Claimed_1_1 := comes_1 fun _ _ _ _ _ _ h hF => ⟨h.1, hF⟩
theorem main_1_2 : Claimed_1_2 := comes_1 fun _ _ _ _ _ _ h hF => ⟨h.2.1, hF⟩
end Jvm.Pilot.@@N@@
namespace Jvm.Pilot.@@N@@
open Jvm Jvm.ClassFile Sem Op Lib Jvm.Free Jvm.Stand Jvm.Pilot.@@N@@.Jvm.D
/-! MADE BY PROGRAM (witnessworld.py) out of the Statement's table words and the real class files: 9 classes; the members and pool entries that the words name. The judged class is class 1, her method 1. -/
namespace start1
open Jvm.ClassFile
def u (s : String) : CpInfo := .utf8 (stringToUtf16 s)
/-- a pool by its gaps: so many unusable entries, then the entry; so many at the end -/
def gap : Nat → List CpInfo → List CpInfo
  | 0, r => r
  | n + 1, r => .unusable :: gap n r
def poolList (es : List (Nat × CpInfo)) (last : Nat) : List CpInfo := es.foldr (fun e r => gap e.1 (e.2 :: r)) (gap last [])
def pool (es : List (Nat × CpInfo)) (last : Nat) : Array CpInfo := ⟨poolList es last⟩
def fileOf (pool : Array CpInfo) (this : Nat) (attrs : Array Attribute := #[]) (ms : Array MethodInfo := #[]) (fl : Nat := 33) (sup : Nat := 0) (ifs : Array Nat := #[]) (fds : Array FieldInfo := #[]) : ClassFile where
  minorVersion := 0
  majorVersion := 65
  constantPool := pool
  accessFlags := fl
  thisClass := this
  superClass := sup
  interfaces := ifs
  fields := fds
  methods := ms
  attributes := attrs
def plain (name : String) (sup : Option ClassId) : Class where
  name := name
  kind := .ordinary
  loader := none
  accessFlags := 33
  super := sup
  interfaces := #[]
  cf := none
  fields := #[]
  methods := #[]
  instanceTypes := #[]
  staticTypes := #[]
  resolved := #[]
  callSites := []
  init := .initialized
  statics := none
  mirror := none

def pool0 : Array CpInfo := pool [(5, u "<init>"), (0, u "()V"), (1, .class_ 10), (1, u "java/lang/Object")] 113

def k0m0 : Method := { name := "<init>", desc := "()V", sig := { parameters := [], returnType := none }, accessFlags := 1, code := none }
/-- java/lang/Object -/
def k0 : Class := { plain "java/lang/Object" none with
  accessFlags := 33
  interfaces := #[]
  cf := some (fileOf pool0 8 #[] #[{ accessFlags := 1, nameIndex := 5, descriptorIndex := 6, attributes := #[] }] 33 0 #[] #[])
  fields := #[]
  methods := #[k0m0]
  instanceTypes := #[]
  staticTypes := #[]
  resolved := Array.replicate 124 none
  statics := none }

def pool1 : Array CpInfo := pool [(2, .class_ 4), (1, u "java/lang/Object"), (0, u "<init>"), (0, u "()V"), (0, .integer 2147483647), (0, .methodref 9 10), (0, .class_ 11), (0, .nameAndType 12 13), (0, u "com/example/fenced_disk_locks/fenceddisklocks/BigEndian"), (0, u "putLong"), (0, u "([BIJ)I"), (0, .methodref 15 16), (0, .class_ 17), (0, .nameAndType 18 19), (0, u "com/example/fenced_disk_locks/fenceddisklocks/BigEndianPutLongPinLaw"), (0, u "keeps"), (0, u "([BIIB)Z"), (2, u "law"), (0, u "(JII)Z")] 5

def k1m0 : Method := { name := "<init>", desc := "()V", sig := { parameters := [], returnType := none }, accessFlags := 2, code := none }
def k1c1 : Code := { maxStack := 5, maxLocals := 10, code := code, exceptionTable := #[], attributes := #[] }
def k1m1 : Method := { name := "law", desc := "(JII)Z", sig := { parameters := [.long, .int, .int], returnType := some .boolean }, accessFlags := 9, code := some k1c1 }
def k1c2 : Code := { maxStack := 3, maxLocals := 4, code := method_3_code, exceptionTable := #[], attributes := #[] }
def k1m2 : Method := { name := "keeps", desc := "([BIIB)Z", sig := { parameters := [(.array .byte), .int, .int, .byte], returnType := some .boolean }, accessFlags := 10, code := some k1c2 }
/-- com/example/fenced_disk_locks/fenceddisklocks/BigEndianPutLongPinLaw -/
def k1 : Class := { plain "com/example/fenced_disk_locks/fenceddisklocks/BigEndianPutLongPinLaw" (some 0) with
  accessFlags := 49
  interfaces := #[]
  cf := some (fileOf pool1 15 #[] #[{ accessFlags := 2, nameIndex := 5, descriptorIndex := 6, attributes := #[] }, { accessFlags := 9, nameIndex := 22, descriptorIndex := 23, attributes := #[] }, { accessFlags := 10, nameIndex := 18, descriptorIndex := 19, attributes := #[] }] 49 2 #[] #[])
  fields := #[]
  methods := #[k1m0, k1m1, k1m2]
  instanceTypes := #[]
  staticTypes := #[]
  resolved := Array.replicate 29 none
  statics := none }

def pool2 : Array CpInfo := pool [(2, .class_ 4), (1, u "java/lang/Object"), (0, u "<init>"), (0, u "()V"), (4, .class_ 12), (0, u "com/example/fenced_disk_locks/fenceddisklocks/BigEndian"), (2, u "putLong"), (0, u "([BIJ)I")] 4

def k2m0 : Method := { name := "<init>", desc := "()V", sig := { parameters := [], returnType := none }, accessFlags := 2, code := none }
def k2c1 : Code := { maxStack := 5, maxLocals := 4, code := prog_1_method_2_code, exceptionTable := #[], attributes := #[] }
def k2m1 : Method := { name := "putLong", desc := "([BIJ)I", sig := { parameters := [(.array .byte), .int, .long], returnType := some .int }, accessFlags := 9, code := some k2c1 }
/-- com/example/fenced_disk_locks/fenceddisklocks/BigEndian -/
def k2 : Class := { plain "com/example/fenced_disk_locks/fenceddisklocks/BigEndian" (some 0) with
  accessFlags := 49
  interfaces := #[]
  cf := some (fileOf pool2 11 #[] #[{ accessFlags := 2, nameIndex := 5, descriptorIndex := 6, attributes := #[] }, { accessFlags := 9, nameIndex := 15, descriptorIndex := 16, attributes := #[] }] 49 2 #[] #[])
  fields := #[]
  methods := #[k2m0, k2m1]
  instanceTypes := #[]
  staticTypes := #[]
  resolved := Array.replicate 21 none
  statics := none }

def pool3 : Array CpInfo := pool [(1, u "java/lang/Cloneable"), (0, .class_ 1), (0, u "java/lang/Object"), (0, .class_ 3)] 3

/-- java/lang/Cloneable -/
def k3 : Class := { plain "java/lang/Cloneable" (some 0) with
  accessFlags := 1537
  interfaces := #[]
  cf := some (fileOf pool3 2 #[] #[] 1537 4 #[] #[])
  fields := #[]
  methods := #[]
  instanceTypes := #[]
  staticTypes := #[]
  resolved := Array.replicate 8 none
  statics := none }

def pool4 : Array CpInfo := pool [(1, u "java/io/Serializable"), (0, .class_ 1), (0, u "java/lang/Object"), (0, .class_ 3)] 3

/-- java/io/Serializable -/
def k4 : Class := { plain "java/io/Serializable" (some 0) with
  accessFlags := 1537
  interfaces := #[]
  cf := some (fileOf pool4 2 #[] #[] 1537 4 #[] #[])
  fields := #[]
  methods := #[]
  instanceTypes := #[]
  staticTypes := #[]
  resolved := Array.replicate 8 none
  statics := none }

/-- the primitive byte -/
def k5 : Class := { plain "byte" none with kind := .primitive 'B', accessFlags := 0x411 }
/-- [B -/
def k6 : Class := { plain "[B" (some 0) with kind := .array 5 .byte, interfaces := #[3, 4], accessFlags := 1041 }

/-- the primitive int -/
def k7 : Class := { plain "int" none with kind := .primitive 'I', accessFlags := 0x411 }
/-- [I -/
def k8 : Class := { plain "[I" (some 0) with kind := .array 7 .int, interfaces := #[3, 4], accessFlags := 1041 }

def heap : Heap := #[]
def classes : Array Class := #[k0, k1, k2, k3, k4, k5, k6, k7, k8]
def interned : List (Array UInt16 × Addr) := []
def slotsUsed : Nat := 0
def theMethod : MethodId := ⟨1, 1⟩
def args0 : Array Value := #[.long 5, .int 300, .int 7]
def aboutOver (below : List Frame) : State where
  vm := { classes := classes, interned := interned.toArray }
  heap := heap
  slotsUsed := slotsUsed
  threads := #[{ frames := .invoking theMethod args0 :: below }]
def below0 : List Frame := [.native { method := ⟨0, 0⟩, args := #[] }]
def about1 : State := aboutOver below0
def p0 : Program := .bare "" "" ""
def e0 : Env := launch0.env 0 0 0
theorem w_frames : about1.frames = Frame.invoking theMethod args0 :: below0 := rfl
set_option maxRecDepth 65536 in
theorem w_args : argsFit about1.vm theMethod args0 = true := by decide +kernel
set_option maxRecDepth 65536 in
theorem w_heap : heapFits about1 = true := by decide +kernel
set_option maxRecDepth 65536 in
theorem w_runnable : about1.curStatus? = some .runnable := by decide +kernel
set_option maxRecDepth 65536 in
theorem w_alone : about1.alone = true := by decide +kernel
set_option maxRecDepth 65536 in
theorem w_named : about1.methodNamed? x = some theMethod := by decide +kernel
set_option maxRecDepth 65536 in
theorem w_hears : about1.hears theMethod below0 = true := by decide +kernel
set_option maxRecDepth 65536 in
theorem w_ripe : about1.ripe theMethod args0 below0 = true := by decide +kernel
theorem w_running : about1.status = .running := rfl
set_option maxRecDepth 65536 in
theorem w_room : about1.hasRoom e0.platform room_1 = true :=
  launch0.hasRoom_least _ room_1 (by decide +kernel) (by decide +kernel) (by decide +kernel) (by decide +kernel) (by decide +kernel) (by decide +kernel)
theorem allAtoms_all (ts : List Jvm.Cond) (a : Array Jvm.Value) (st : Jvm.State) : (allAtoms ts).before a st = ts.all (fun c => c.before a st) := by
  induction ts with
  | nil => rfl
  | cons c t ih =>
    show (Jvm.Cond.and c (allAtoms t)).before a st = _
    rw [Jvm.Cond.before_and, ih, List.all_cons]
def words1 : List Jvm.Cond := Jvm.Cond.code x code maxLocals ret :: tables_1
/-- a 'code' word, met by the world's own term for the bytes: nothing is compared byte by byte -/
theorem code_word {y : MethodName} {bytes : ByteArray} {mx : Nat} {rt : Option FieldType} {a : Array Value} {s : State} {m : MethodId} {meth : Method} {c : Code} (h1 : s.methodNamed? y = some m) (h2 : s.vm.method? m = some meth) (h3 : meth.code = some c) (h4 : c.code = bytes)
    (h5 : (c.maxLocals == mx && c.exceptionTable.isEmpty && decide (c.maxStack ≤ mostOperands) && decide (meth.sig.returnType = rt) && !meth.locks && decide (parseMethodDescriptor y.desc = some meth.sig)) = true) : (Jvm.Cond.code y bytes mx rt).before a s = true := by
  simp only [Bool.and_eq_true, beq_iff_eq, Bool.not_eq_true', decide_eq_true_eq] at h5
  obtain ⟨⟨⟨⟨⟨g1, g2⟩, g3⟩, g4⟩, g5⟩, g6⟩ := h5
  simp [Cond.before, Cond.holds, Cond.value, h1, h2, h3, h4, g1, g2, g3, g4, g5, g6]
def isCode : Jvm.Cond → Bool
  | .code _ _ _ _ => true
  | _ => false
theorem all_split {L : List Jvm.Cond} {P : Jvm.Cond → Bool} (h1 : L.all (fun c => isCode c || P c) = true) (h2 : ∀ c ∈ L.filter isCode, P c = true) : L.all P = true := by
  refine List.all_eq_true.mpr fun c hc => ?_
  have h := List.all_eq_true.mp h1 c hc
  rcases Bool.eq_false_or_eq_true (isCode c) with hi | hi
  · exact h2 c (List.mem_filter.mpr ⟨hc, hi⟩)
  · simpa [hi] using h
set_option maxRecDepth 65536 in
theorem w_c0 : (Jvm.Cond.code x code maxLocals ret).before args0 about1 = true := code_word (m := ⟨1, 1⟩) (meth := k1m1) (c := k1c1) (by decide +kernel) rfl rfl rfl (by decide +kernel)
set_option maxRecDepth 65536 in
theorem w_c1 : (Jvm.Cond.code ({ cls := "com/example/fenced_disk_locks/fenceddisklocks/BigEndian", name := "putLong", desc := "([BIJ)I" } : Jvm.MethodName) prog_1_method_2_code (4 : Nat) (Option.some Jvm.ClassFile.FieldType.int)).before args0 about1 = true := code_word (m := ⟨2, 1⟩) (meth := k2m1) (c := k2c1) (by decide +kernel) rfl rfl rfl (by decide +kernel)
set_option maxRecDepth 65536 in
theorem w_c2 : (Jvm.Cond.code ({ cls := "com/example/fenced_disk_locks/fenceddisklocks/BigEndianPutLongPinLaw", name := "keeps", desc := "([BIIB)Z" } : Jvm.MethodName) method_3_code (4 : Nat) (Option.some Jvm.ClassFile.FieldType.boolean)).before args0 about1 = true := code_word (m := ⟨1, 2⟩) (meth := k1m2) (c := k1c2) (by decide +kernel) rfl rfl rfl (by decide +kernel)
def codes1 : List Jvm.Cond := [Jvm.Cond.code x code maxLocals ret, Jvm.Cond.code ({ cls := "com/example/fenced_disk_locks/fenceddisklocks/BigEndian", name := "putLong", desc := "([BIJ)I" } : Jvm.MethodName) prog_1_method_2_code (4 : Nat) (Option.some Jvm.ClassFile.FieldType.int), Jvm.Cond.code ({ cls := "com/example/fenced_disk_locks/fenceddisklocks/BigEndianPutLongPinLaw", name := "keeps", desc := "([BIIB)Z" } : Jvm.MethodName) method_3_code (4 : Nat) (Option.some Jvm.ClassFile.FieldType.boolean)]
set_option maxRecDepth 65536 in
theorem codes_eq : words1.filter isCode = codes1 := rfl
theorem w_codes : ∀ c ∈ words1.filter isCode, c.before args0 about1 = true := by
  rw [codes_eq]
  intro c hc
  simp only [codes1, List.mem_cons, List.not_mem_nil, or_false] at hc
  rcases hc with rfl | rfl | rfl
  · exact w_c0
  · exact w_c1
  · exact w_c2
set_option maxRecDepth 65536 in
theorem w_t1 : words1.all (fun c => isCode c || c.before args0 about1) = true := by decide +kernel
theorem w_tables : (allAtoms (Jvm.Cond.code x code maxLocals ret :: tables_1)).before args0 about1 = true := by
  rw [allAtoms_all]
  show words1.all (fun c => c.before args0 about1) = true
  refine all_split ?_ w_codes
  rw [w_t1]
set_option maxRecDepth 65536 in
theorem w_case : (Jvm.Cond.and given_1 narrow_1).before args0 about1 = true := by decide +kernel
theorem w_applies : (headSpec (Jvm.Cond.code x code maxLocals ret :: tables_1) room_1).applies x e0.platform about1 = true :=
  (Spec.applies_iff w_frames).mpr ⟨w_running, w_runnable, w_alone, w_named, w_hears, w_ripe, w_room, w_tables⟩
theorem atStart : AtStart classFile x code maxLocals ret World_1 tables_1 room_1 Calls_1 rest_1 Pre_1 launch0 p0 e0 about1 theMethod args0 below0 :=
  ⟨lists_1, trivial, launch0.admits_env _ _ _, launch0.least_env, fairChoices_fair.cas, fairChoices_fair.clock, w_frames, w_args, w_heap, w_applies, trivial, trivial, w_case⟩
end start1
theorem witness_1 : WitnessClaimed_1 := ⟨start1.p0, start1.e0, start1.about1, start1.theMethod, start1.args0, start1.below0, start1.atStart⟩
end Jvm.Pilot.@@N@@
