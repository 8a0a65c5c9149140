import JvmDerived
import JvmDerived.Pilot.@@N@@Statement
import JvmDerived.Pilot.@@N@@Code
set_option linter.unusedVariables false
set_option linter.unusedSimpArgs false
namespace Jvm.Pilot.@@N@@
open Jvm Jvm.ClassFile Sem Op Lib Jvm.Free Jvm.Stand Jvm.LawKit Jvm.RoadKit Bundle Jvm.Pilot.@@N@@.Jvm.D
/-! ## A small logic of runs over a virtual heap (own work, the same text in every proof of this seat)
References count from the first cell that the law makes (n0): `shV n0`. `Ob`: an object by its class (a place in K) and its laid fields, or an array by its component type and values.
`Runs K l Z n0 mi pc ls st H v H'`: whoever stands in the method mi at pc with locals ls, stack st and virtual heap H comes out returning v with heap H'. -/
def shV (n0 : Nat) : Value → Value
  | .ref a => .ref (n0 + a)
  | v => v
def shS (n0 : Nat) : Slot → Slot
  | .val v => .val (shV n0 v)
  | s => s
abbrev Ob : Type := (Nat × List Value) ⊕ (FieldType × List Value)
/-- a field: who declares it, its name, its descriptor, its type -/
abbrev FI : Type := String × String × String × FieldType
/-- a class: its name, the number of its slots, its fields -/
abbrev CI : Type := String × Nat × List FI
/-- a method: name, bytes, max_locals, return type; frames and words that its callees need -/
abbrev MI : Type := MethodName × ByteArray × Nat × Option FieldType × Nat × Nat
def osz (K : List CI) : Ob → Nat
  | .inl (c, _) => ((K[c]?).map (fun ci => ci.2.1)).getD 0
  | .inr (_, vs) => vs.length
def szs (K : List CI) (H : List Ob) : Nat := (H.map (osz K)).sum
def OOk (K : List CI) (Z : State) (n0 : Nat) (h : Heap) (a : Addr) : Ob → Prop
  | .inl (c, vs) => ∃ ci, K[c]? = some ci ∧ Exa Z h a ci.1 ∧ ∀ (i : Nat) (f : FI) (v : Value), ci.2.2[i]? = some f → vs[i]? = some v → Fld Z h a f.1 f.2.1 f.2.2.1 (shV n0 v)
  | .inr (ty, vs) => ∃ cl, Arr Z h a cl ty ∧ cl.slots.size = vs.length ∧ vs.length < 2 ^ 31 ∧ ∀ (i : Nat) (v : Value), vs[i]? = some v → cl.slots[i]? = some (shV n0 v) ∧ fits ty v = true
def Rel (K : List CI) (Z : State) (n0 : Nat) (H : List Ob) (h : Heap) : Prop := h.size = n0 + H.length ∧ ∀ (k : Nat) (o : Ob), H[k]? = some o → OOk K Z n0 h (n0 + k) o
def KOk (K : List CI) (Z : State) (a0 : Array Value) : Prop := ∀ (k : Nat) (ci : CI), K[k]? = some ci → (Jvm.Cond.instantiable ci.1 ci.2.1).before a0 Z = true ∧ (∀ f ∈ ci.2.2, Laid Z a0 ci.1 f.1 f.2.1 f.2.2.1 ∧ parseFieldDescriptor f.2.2.1 = some f.2.2.2) ∧ ci.2.2.Pairwise (fun f g => f.2.1 ≠ g.2.1)
theorem cat_sh (n0 : Nat) (v : Value) : (shV n0 v).category = v.category := by cases v <;> rfl
theorem cats_sh (n0 : Nat) (st : List Value) : ((st.map (shV n0)).map fun v => v.category).sum = (st.map fun v => v.category).sum := by
  rw [List.map_map]; congr 1; exact List.map_congr_left fun v _ => cat_sh n0 v
theorem laid_map (n0 : Nat) : ∀ as : List Value, Jvm.Sym.laidSlots (as.map (shV n0)) = (Jvm.Sym.laidSlots as).map (shS n0)
  | [] => rfl
  | v :: vs => by
    simp only [List.map_cons, Jvm.Sym.laidSlots, cat_sh, laid_map n0 vs]
    split <;> rfl
theorem entry_eq (n0 : Nat) (m : MethodId) (as : List Value) (n : Nat) {ls : List Slot} (h : Jvm.Sym.laidSlots as ++ List.replicate (n - (Jvm.Sym.laidSlots as).length) .unset = ls) :
    entryFrame m (as.map (shV n0)).toArray n = mkF m 0 (ls.map (shS n0)).toArray [] := by
  have e : argsToLocals (as.map (shV n0)).toArray n = (ls.map (shS n0)).toArray := Array.toList_inj.mp (by
    rw [Jvm.Sym.argsToLocals_toList]
    simp only [laid_map, List.length_map, ← h, List.map_append, List.map_replicate]
    rfl)
  show ({ method := m, pc := 0, locals := argsToLocals (as.map (shV n0)).toArray n, stack := [], locked := none } : JFrame) = _
  rw [e]
theorem loc_at {n0 : Nat} {ls : List Slot} {k : Nat} {s : Slot} (h : ls[k]? = some s) : ((ls.map (shS n0)).toArray)[k]? = some (shS n0 s) := by
  simp [h]
/-- the place k may take a value of one word -/
def P1 (ls : List Slot) (k : Nat) : Bool := match ls[k]? with | some .unset => true | some (.val w) => w.category == 1 | _ => false
/-- the places k and k + 1 may take a value of two words -/
def P2 (ls : List Slot) (k : Nat) : Bool := match ls[k]?, ls[k + 1]? with | some (.val w), some .second => w.category == 2 | _, _ => P1 ls k && P1 ls (k + 1)
theorem P1_slot {ls : List Slot} {k : Nat} (h : P1 ls k = true) : ∃ s, ls[k]? = some s ∧ (match s with | .second => False | .val old => old.category = 1 | .unset => True) := by
  unfold P1 at h
  split at h
  · rename_i e; exact ⟨_, e, trivial⟩
  · rename_i w e; exact ⟨_, e, by simpa using h⟩
  · cases h
theorem st1 {n0 : Nat} {ls ls' : List Slot} {k : Nat} {v : Value} (hp : P1 ls k = true) (hv : v.category = 1) (hs : ls.set k (.val v) = ls') : storeLocals (ls.map (shS n0)).toArray k (shV n0 v) = some (ls'.map (shS n0)).toArray := by
  obtain ⟨s, e, q⟩ := P1_slot hp
  rw [storeLocals_cat1 (loc_at (n0 := n0) e) (by rw [cat_sh]; exact hv) (by cases s <;> simp_all [shS, cat_sh]), ← hs]
  simp [List.map_set, shS]
theorem st2 {n0 : Nat} {ls ls' : List Slot} {k : Nat} {v : Value} (hp : P2 ls k = true) (hv : v.category = 2) (hs : (ls.set k (.val v)).set (k + 1) .second = ls') : storeLocals (ls.map (shS n0)).toArray k (shV n0 v) = some (ls'.map (shS n0)).toArray := by
  have key : ∃ x y, ls[k]? = some x ∧ ls[k + 1]? = some y ∧ ((Jvm.Free.Fl.Plain1 (shS n0 x) ∧ Jvm.Free.Fl.Plain1 (shS n0 y)) ∨ ((∃ old, shS n0 x = .val old ∧ old.category = 2) ∧ shS n0 y = .second)) := by
    unfold P2 at hp
    split at hp
    · rename_i w e1 e2
      exact ⟨_, _, e1, e2, Or.inr ⟨⟨_, rfl, by rw [cat_sh]; simpa using hp⟩, rfl⟩⟩
    · rw [Bool.and_eq_true] at hp
      obtain ⟨s, e, q⟩ := P1_slot hp.1
      obtain ⟨s', e', q'⟩ := P1_slot hp.2
      exact ⟨s, s', e, e', Or.inl ⟨by cases s <;> simp_all [shS, cat_sh, Jvm.Free.Fl.Plain1], by cases s' <;> simp_all [shS, cat_sh, Jvm.Free.Fl.Plain1]⟩⟩
  obtain ⟨x, y, e1, e2, q⟩ := key
  rw [Jvm.Free.Fl.storeLocals_cat2 (loc_at (n0 := n0) e1) (loc_at (n0 := n0) e2) (by rw [cat_sh]; exact hv) q, ← hs]
  simp [List.map_set, shS]
def Runs (K : List CI) (l : Launch) (Z : State) (n0 : Nat) (mi : MI) (pc : Nat) (ls : List Slot) (st : List Value) (H : List Ob) (v : Option Value) (H' : List Ob) : Prop :=
  H.length ≤ H'.length ∧ szs K H ≤ szs K H' ∧
  ∀ (p : Program) (e : Env) (R : Room) (s : State) (m : MethodId) (args : Array Value) (below : List Frame) (meth : Method) (c : Code) (T : State) (locs : List Loc) (cells slots : Nat),
    Stand p l e R s m args below meth c T locs cells slots → p.tables.exec = Jvm.exec → Z.Warmed39 s.vm → c.code = mi.2.1 → c.maxLocals = mi.2.2.1 → meth.sig.returnType = mi.2.2.2.1 → s.vm.findClass mi.1.cls = some m.cls → meth.name = mi.1.name →
    Rel K Z n0 H T.heap → Fr n0 locs → mi.2.2.2.2.1 ≤ R.frames → mi.2.2.2.2.2 ≤ R.locals → s.heap.size + cells = n0 + H.length → cells + H'.length ≤ R.cells + H.length → slots + szs K H' ≤ R.slots + szs K H →
    ∃ (T' : State) (locs' : List Loc) (cells' slots' : Nat), Stand p l e R s m args below meth c T' locs' cells' slots' ∧ Rel K Z n0 H' T'.heap ∧ Fr n0 locs' ∧ s.heap.size + cells' = n0 + H'.length ∧ slots' + szs K H ≤ slots + szs K H' ∧
      ∀ fs, (∀ (f : JFrame) (acts : List Action), f.method = m → f.locked = none → f.entered = [] → (doReturn e (T'.setTop f) acts (v.map (shV n0))).1 = T'.setFrames fs) →
        Steps p.tables e below (T.setTop (mkF m pc (ls.map (shS n0)).toArray (st.map (shV n0)))) (T'.setFrames fs)
def rmOf (K : List CI) (mi : MI) (H H' : List Ob) : Room := { frames := mi.2.2.2.2.1, cells := H'.length - H.length, slots := szs K H' - szs K H, locals := mi.2.2.2.2.2 }
def Meets (K : List CI) (l : Launch) (Z : State) (n0 : Nat) (mi : MI) (as : List Value) (H : List Ob) (v : Option Value) (H' : List Ob) : Prop :=
  H.length ≤ H'.length ∧ szs K H ≤ szs K H' ∧ ∀ h, Rel K Z n0 H h →
    MetFree l mi.1 (head1 [Jvm.Cond.code mi.1 mi.2.1 mi.2.2.1 mi.2.2.2.1] (rmOf K mi H H')) (fun a U => a = (as.map (shV n0)).toArray ∧ Z.Warmed39 U.vm ∧ U.heap = h) (fun _ _ _ _ _ => True)
      (fun _ U o U' => ∃ w L, o = .returned w ∧ (w = v.map (shV n0) ∧ Rel K Z n0 H' U'.heap ∧ Fr n0 L) ∧ FrameEnd U o U' L (rmOf K mi H H').cells (rmOf K mi H H').slots)
theorem leB {a b : Nat} (h : Nat.ble a b = true) : a ≤ b := Nat.le_of_ble_eq_true h
theorem ltB {a b : Nat} (h : Nat.ble (a + 1) b = true) : a < b := Nat.le_of_ble_eq_true h
section Logic
variable {K : List CI} {l : Launch} {Z : State} {a0 : Array Value} {n0 : Nat} {mi : MI} {pc np tp : Nat} {ls ls' : List Slot} {st rest : List Value} {H H' H1 : List Ob} {v : Option Value}
/-- from a run of the body to the method's contract, in any room that holds it -/
theorem met_gen {as : List Value} (ws : List Jvm.Cond) (R0 : Room) (hp : plainFor mi.1 = true) (hls : Jvm.Sym.laidSlots as ++ List.replicate (mi.2.2.1 - (Jvm.Sym.laidSlots as).length) .unset = ls) (hv : mi.2.2.2.1 = none → v = none)
    (k : Runs K l Z n0 mi 0 ls [] H v H') (hfr : mi.2.2.2.2.1 ≤ R0.frames) (hlo : mi.2.2.2.2.2 ≤ R0.locals) (hcl : H'.length ≤ R0.cells + H.length) (hsl : szs K H' ≤ R0.slots + szs K H) {h : Heap} (hrel : Rel K Z n0 H h) :
    MetFree l mi.1 (head1 (Jvm.Cond.code mi.1 mi.2.1 mi.2.2.1 mi.2.2.2.1 :: ws) R0) (fun a U => a = (as.map (shV n0)).toArray ∧ Z.Warmed39 U.vm ∧ U.heap = h) (fun _ _ _ _ _ => True)
      (fun _ U o U' => ∃ w L, o = .returned w ∧ (w = v.map (shV n0) ∧ Rel K Z n0 H' U'.heap ∧ Fr n0 L) ∧ FrameEnd U o U' L (H'.length - H.length) (szs K H' - szs K H)) := by
  refine MetFree.of_bodySF hp hisR ?_
  intro p e s m args below meth c s₁ Bd hml0 hP hK
  obtain ⟨rfl, hZ, hh⟩ := hP
  have hx := Bd.exec
  have hby := Bd.bytes
  have hown : s.vm.findClass mi.1.cls = some m.cls := findClass_of_methodNamed Bd.named
  have hnm := (name_of_methodNamed Bd.named Bd.method).1
  have X0 : Stand p l e R0 s m (as.map (shV n0)).toArray below meth c s₁ [] 0 0 := Stand.of_body Bd
  have e0 : s₁.heap = h := by rw [← hh, Bd.state]; rfl
  obtain ⟨T', locs', cells', slots', X', rel', fr', hc', hs', stp⟩ := k.2.2 p e R0 s m _ below meth c s₁ [] 0 0 X0 hx hZ hby hml0 Bd.returns hown hnm (e0 ▸ hrel) (Fr.nil n0) hfr hlo (by rw [hh, hrel.1]; rfl) (by omega) (by omega)
  have hsz : s.heap.size = n0 + H.length := by rw [hh, hrel.1]
  obtain ⟨fs, hr, hrun, hended, hW, hsame⟩ := X'.leave (v := v.map (shV n0)) (fun q => by rw [Bd.returns] at q; rw [hv q]; rfl)
  exact ⟨_, _, castTop (entry_eq n0 m as mi.2.2.1 hls) (stp fs hr), hrun, hended, _, _, rfl, ⟨rfl, rel', fr'⟩, ⟨_, rfl⟩, hW, hsame.mono (by omega) (by omega)⟩
theorem meets {as : List Value} (hp : plainFor mi.1 = true) (hls : Jvm.Sym.laidSlots as ++ List.replicate (mi.2.2.1 - (Jvm.Sym.laidSlots as).length) .unset = ls) (hv : mi.2.2.2.1 = none → v = none) (k : Runs K l Z n0 mi 0 ls [] H v H') : Meets K l Z n0 mi as H v H' :=
  ⟨k.1, k.2.1, fun h hrel => met_gen [] (rmOf K mi H H') hp hls hv k (Nat.le_refl _) (Nat.le_refl _) (by have := k.1; show _ ≤ (H'.length - H.length) + _; omega) (by have := k.2.1; show _ ≤ (szs K H' - szs K H) + _; omega) hrel⟩
/-- a run that ends in some heap of at most c cells and n slots -/
def RunsB (K : List CI) (l : Launch) (Z : State) (n0 : Nat) (mi : MI) (pc : Nat) (ls : List Slot) (st : List Value) (H : List Ob) (v : Option Value) (c n : Nat) : Prop := ∃ H' : List Ob, Runs K l Z n0 mi pc ls st H v H' ∧ H'.length ≤ c ∧ szs K H' ≤ n
theorem lift {st2 : List Value} {c n : Nat} (f : ∀ H' : List Ob, Runs K l Z n0 mi np ls' st2 H1 v H' → Runs K l Z n0 mi pc ls st H v H') (k : RunsB K l Z n0 mi np ls' st2 H1 v c n) : RunsB K l Z n0 mi pc ls st H v c n := by
  obtain ⟨H', k1, k2⟩ := k
  exact ⟨H', f H' k1, k2⟩
/-- a step that reads no heap -/
theorem Runs.pure {st2 : List Value} (hstep : ∀ (p : Program) (e : Env) (R : Room) (s : State) (m : MethodId) (args : Array Value) (below : List Frame) (meth : Method) (c : Code) (T : State) (locs : List Loc) (cells slots : Nat),
      Stand p l e R s m args below meth c T locs cells slots → p.tables.exec = Jvm.exec → Z.Warmed39 s.vm → c.code = mi.2.1 → s.vm.findClass mi.1.cls = some m.cls → ∀ target,
      Steps p.tables e below (T.setTop (mkF m np (ls'.map (shS n0)).toArray (st2.map (shV n0)))) target → Steps p.tables e below (T.setTop (mkF m pc (ls.map (shS n0)).toArray (st.map (shV n0)))) target)
    (k : Runs K l Z n0 mi np ls' st2 H v H') : Runs K l Z n0 mi pc ls st H v H' := by
  refine ⟨k.1, k.2.1, fun p e R s m args below meth c T locs cells slots X hx hZ hc hml hret hown hnm hrel hfr hf hlo hsz hcl hsl => ?_⟩
  obtain ⟨T', locs', cells', slots', X', rel', fr', hc', hs', stp⟩ := k.2.2 p e R s m args below meth c T locs cells slots X hx hZ hc hml hret hown hnm hrel hfr hf hlo hsz hcl hsl
  exact ⟨T', locs', cells', slots', X', rel', fr', hc', hs', fun fs hr => hstep p e R s m args below meth c T locs cells slots X hx hZ hc hown _ (stp fs hr)⟩
theorem isRef_sh {n0 : Nat} {x : Value} (h : x.isRef = true) : (shV n0 x).isRef = true := by cases x <;> first | rfl | cases h
theorem P1_int {ls : List Slot} {k : Nat} {x : Int32} (h : ls[k]? = some (.val (.int x))) : P1 ls k = true := by unfold P1; rw [h]; rfl
theorem r_iloadN {k : Fin 4} {x : Int32} (hd : decode mi.2.1 pc = .ok (.iload_n k, 1) ∧ pc + 1 = np) (hl : ls[k.val]? = some (.val (.int x))) (kk : Runs K l Z n0 mi np ls (.int x :: st) H v H') : Runs K l Z n0 mi pc ls st H v H' := by
  obtain ⟨hd, rfl⟩ := hd
  exact Runs.pure (fun _ _ _ _ _ _ _ _ _ _ _ _ _ X hx hZ hc hown t h => XS.iloadN X.here hx rfl (hb hc hd) (loc_at hl) h) kk
theorem r_iload {k : Nat} {x : Int32} (hd : decode mi.2.1 pc = .ok (.iload k, 2) ∧ pc + 2 = np) (hl : ls[k]? = some (.val (.int x))) (kk : Runs K l Z n0 mi np ls (.int x :: st) H v H') : Runs K l Z n0 mi pc ls st H v H' := by
  obtain ⟨hd, rfl⟩ := hd
  exact Runs.pure (fun _ _ _ _ _ _ _ _ _ _ _ _ _ X hx hZ hc hown t h => XS.iload X.here hx rfl (hb hc hd) (loc_at hl) h) kk
theorem r_lloadN {k : Fin 4} {x : Int64} (hd : decode mi.2.1 pc = .ok (.lload_n k, 1) ∧ pc + 1 = np) (hl : ls[k.val]? = some (.val (.long x))) (kk : Runs K l Z n0 mi np ls (.long x :: st) H v H') : Runs K l Z n0 mi pc ls st H v H' := by
  obtain ⟨hd, rfl⟩ := hd
  exact Runs.pure (fun _ _ _ _ _ _ _ _ _ _ _ _ _ X hx hZ hc hown t h => XT.lloadN X.here hx rfl (hb hc hd) (loc_at hl) h) kk
theorem r_lload {k : Nat} {x : Int64} (hd : decode mi.2.1 pc = .ok (.lload k, 2) ∧ pc + 2 = np) (hl : ls[k]? = some (.val (.long x))) (kk : Runs K l Z n0 mi np ls (.long x :: st) H v H') : Runs K l Z n0 mi pc ls st H v H' := by
  obtain ⟨hd, rfl⟩ := hd
  exact Runs.pure (fun _ _ _ _ _ _ _ _ _ _ _ _ _ X hx hZ hc hown t h => XT.lload X.here hx rfl (hb hc hd) (loc_at hl) h) kk
theorem r_aloadN {k : Fin 4} {x : Value} (hd : decode mi.2.1 pc = .ok (.aload_n k, 1) ∧ pc + 1 = np) (hl : ls[k.val]? = some (.val x)) (hv : x.isRef = true) (kk : Runs K l Z n0 mi np ls (x :: st) H v H') : Runs K l Z n0 mi pc ls st H v H' := by
  obtain ⟨hd, rfl⟩ := hd
  exact Runs.pure (fun _ _ _ _ _ _ _ _ _ _ _ _ _ X hx hZ hc hown t h => XS.aloadN X.here hx rfl (hb hc hd) (loc_at hl) (isRef_sh hv) h) kk
theorem r_aload {k : Nat} {x : Value} (hd : decode mi.2.1 pc = .ok (.aload k, 2) ∧ pc + 2 = np) (hl : ls[k]? = some (.val x)) (hv : x.isRef = true) (kk : Runs K l Z n0 mi np ls (x :: st) H v H') : Runs K l Z n0 mi pc ls st H v H' := by
  obtain ⟨hd, rfl⟩ := hd
  exact Runs.pure (fun _ _ _ _ _ _ _ _ _ _ _ _ _ X hx hZ hc hown t h => XS.aload X.here hx rfl (hb hc hd) (loc_at hl) (isRef_sh hv) h) kk
theorem r_istoreN {k : Fin 4} {x : Int32} (hd : decode mi.2.1 pc = .ok (.istore_n k, 1) ∧ pc + 1 = np) (hp : P1 ls k.val = true) (hs : ls.set k.val (.val (.int x)) = ls') (kk : Runs K l Z n0 mi np ls' st H v H') : Runs K l Z n0 mi pc ls (.int x :: st) H v H' := by
  obtain ⟨hd, rfl⟩ := hd
  exact Runs.pure (fun _ _ _ _ _ _ _ _ _ _ _ _ _ X hx hZ hc hown t h => XS.istoreN X.here hx rfl (hb hc hd) rfl (st1 hp rfl hs) h) kk
theorem r_istore {k : Nat} {x : Int32} (hd : decode mi.2.1 pc = .ok (.istore k, 2) ∧ pc + 2 = np) (hp : P1 ls k = true) (hs : ls.set k (.val (.int x)) = ls') (kk : Runs K l Z n0 mi np ls' st H v H') : Runs K l Z n0 mi pc ls (.int x :: st) H v H' := by
  obtain ⟨hd, rfl⟩ := hd
  exact Runs.pure (fun _ _ _ _ _ _ _ _ _ _ _ _ _ X hx hZ hc hown t h => XS.istore X.here hx rfl (hb hc hd) rfl (st1 hp rfl hs) h) kk
theorem r_lstoreN {k : Fin 4} {x : Int64} (hd : decode mi.2.1 pc = .ok (.lstore_n k, 1) ∧ pc + 1 = np) (hp : P2 ls k.val = true) (hs : (ls.set k.val (.val (.long x))).set (k.val + 1) .second = ls') (kk : Runs K l Z n0 mi np ls' st H v H') : Runs K l Z n0 mi pc ls (.long x :: st) H v H' := by
  obtain ⟨hd, rfl⟩ := hd
  exact Runs.pure (fun _ _ _ _ _ _ _ _ _ _ _ _ _ X hx hZ hc hown t h => XT.lstoreN X.here hx rfl (hb hc hd) rfl (st2 hp rfl hs) h) kk
theorem r_lstore {k : Nat} {x : Int64} (hd : decode mi.2.1 pc = .ok (.lstore k, 2) ∧ pc + 2 = np) (hp : P2 ls k = true) (hs : (ls.set k (.val (.long x))).set (k + 1) .second = ls') (kk : Runs K l Z n0 mi np ls' st H v H') : Runs K l Z n0 mi pc ls (.long x :: st) H v H' := by
  obtain ⟨hd, rfl⟩ := hd
  exact Runs.pure (fun _ _ _ _ _ _ _ _ _ _ _ _ _ X hx hZ hc hown t h => XT.lstore X.here hx rfl (hb hc hd) rfl (st2 hp rfl hs) h) kk
theorem r_astoreN {k : Fin 4} {x : Value} (hd : decode mi.2.1 pc = .ok (.astore_n k, 1) ∧ pc + 1 = np) (hp : P1 ls k.val = true) (hv : x.isRef = true) (hs : ls.set k.val (.val x) = ls') (kk : Runs K l Z n0 mi np ls' st H v H') : Runs K l Z n0 mi pc ls (x :: st) H v H' := by
  obtain ⟨hd, rfl⟩ := hd
  exact Runs.pure (fun _ _ _ _ _ _ _ _ _ _ _ _ _ X hx hZ hc hown t h => XS.astoreN X.here hx rfl (hb hc hd) rfl (isRef_sh hv) (st1 hp (XT.cat1 hv) hs) h) kk
theorem r_astore {k : Nat} {x : Value} (hd : decode mi.2.1 pc = .ok (.astore k, 2) ∧ pc + 2 = np) (hp : P1 ls k = true) (hv : x.isRef = true) (hs : ls.set k (.val x) = ls') (kk : Runs K l Z n0 mi np ls' st H v H') : Runs K l Z n0 mi pc ls (x :: st) H v H' := by
  obtain ⟨hd, rfl⟩ := hd
  exact Runs.pure (fun _ _ _ _ _ _ _ _ _ _ _ _ _ X hx hZ hc hown t h => XS.astore X.here hx rfl (hb hc hd) rfl (isRef_sh hv) (st1 hp (XT.cat1 hv) hs) h) kk
theorem r_iadd {x y : Int32} (hd : decode mi.2.1 pc = .ok (.iadd, 1) ∧ pc + 1 = np) (kk : Runs K l Z n0 mi np ls (.int (x + y) :: st) H v H') : Runs K l Z n0 mi pc ls (.int y :: .int x :: st) H v H' := by
  obtain ⟨hd, rfl⟩ := hd
  exact Runs.pure (fun _ _ _ _ _ _ _ _ _ _ _ _ _ X hx hZ hc hown t h => XS.iadd X.here hx rfl (hb hc hd) rfl h) kk
theorem r_isub {x y : Int32} (hd : decode mi.2.1 pc = .ok (.isub, 1) ∧ pc + 1 = np) (kk : Runs K l Z n0 mi np ls (.int (x - y) :: st) H v H') : Runs K l Z n0 mi pc ls (.int y :: .int x :: st) H v H' := by
  obtain ⟨hd, rfl⟩ := hd
  exact Runs.pure (fun _ _ _ _ _ _ _ _ _ _ _ _ _ X hx hZ hc hown t h => XS.isub X.here hx rfl (hb hc hd) rfl h) kk
theorem r_imul {x y : Int32} (hd : decode mi.2.1 pc = .ok (.imul, 1) ∧ pc + 1 = np) (kk : Runs K l Z n0 mi np ls (.int (x * y) :: st) H v H') : Runs K l Z n0 mi pc ls (.int y :: .int x :: st) H v H' := by
  obtain ⟨hd, rfl⟩ := hd
  exact Runs.pure (fun _ _ _ _ _ _ _ _ _ _ _ _ _ X hx hZ hc hown t h => XS.imul X.here hx rfl (hb hc hd) rfl h) kk
theorem r_iand {x y : Int32} (hd : decode mi.2.1 pc = .ok (.iand, 1) ∧ pc + 1 = np) (kk : Runs K l Z n0 mi np ls (.int (x &&& y) :: st) H v H') : Runs K l Z n0 mi pc ls (.int y :: .int x :: st) H v H' := by
  obtain ⟨hd, rfl⟩ := hd
  exact Runs.pure (fun _ _ _ _ _ _ _ _ _ _ _ _ _ X hx hZ hc hown t h => XS.iand X.here hx rfl (hb hc hd) rfl h) kk
theorem r_ior {x y : Int32} (hd : decode mi.2.1 pc = .ok (.ior, 1) ∧ pc + 1 = np) (kk : Runs K l Z n0 mi np ls (.int (x ||| y) :: st) H v H') : Runs K l Z n0 mi pc ls (.int y :: .int x :: st) H v H' := by
  obtain ⟨hd, rfl⟩ := hd
  exact Runs.pure (fun _ _ _ _ _ _ _ _ _ _ _ _ _ X hx hZ hc hown t h => XT.ior X.here hx rfl (hb hc hd) rfl h) kk
theorem r_ixor {x y : Int32} (hd : decode mi.2.1 pc = .ok (.ixor, 1) ∧ pc + 1 = np) (kk : Runs K l Z n0 mi np ls (.int (x ^^^ y) :: st) H v H') : Runs K l Z n0 mi pc ls (.int y :: .int x :: st) H v H' := by
  obtain ⟨hd, rfl⟩ := hd
  exact Runs.pure (fun _ _ _ _ _ _ _ _ _ _ _ _ _ X hx hZ hc hown t h => XT.ixor X.here hx rfl (hb hc hd) rfl h) kk
theorem r_ishl {x y : Int32} (hd : decode mi.2.1 pc = .ok (.ishl, 1) ∧ pc + 1 = np) (kk : Runs K l Z n0 mi np ls (.int (x <<< (y &&& 31)) :: st) H v H') : Runs K l Z n0 mi pc ls (.int y :: .int x :: st) H v H' := by
  obtain ⟨hd, rfl⟩ := hd
  exact Runs.pure (fun _ _ _ _ _ _ _ _ _ _ _ _ _ X hx hZ hc hown t h => XT.ishl X.here hx rfl (hb hc hd) rfl h) kk
theorem r_ishr {x y : Int32} (hd : decode mi.2.1 pc = .ok (.ishr, 1) ∧ pc + 1 = np) (kk : Runs K l Z n0 mi np ls (.int (x >>> (y &&& 31)) :: st) H v H') : Runs K l Z n0 mi pc ls (.int y :: .int x :: st) H v H' := by
  obtain ⟨hd, rfl⟩ := hd
  exact Runs.pure (fun _ _ _ _ _ _ _ _ _ _ _ _ _ X hx hZ hc hown t h => XT.ishr X.here hx rfl (hb hc hd) rfl h) kk
theorem r_iushr {x y : Int32} (hd : decode mi.2.1 pc = .ok (.iushr, 1) ∧ pc + 1 = np) (kk : Runs K l Z n0 mi np ls (.int (XT.ushr x y) :: st) H v H') : Runs K l Z n0 mi pc ls (.int y :: .int x :: st) H v H' := by
  obtain ⟨hd, rfl⟩ := hd
  exact Runs.pure (fun _ _ _ _ _ _ _ _ _ _ _ _ _ X hx hZ hc hown t h => XT.iushr X.here hx rfl (hb hc hd) rfl h) kk
theorem r_idiv {x y : Int32} (hd : decode mi.2.1 pc = .ok (.idiv, 1) ∧ pc + 1 = np) (hy : y ≠ 0) (kk : Runs K l Z n0 mi np ls (.int (x / y) :: st) H v H') : Runs K l Z n0 mi pc ls (.int y :: .int x :: st) H v H' := by
  obtain ⟨hd, rfl⟩ := hd
  exact Runs.pure (fun _ _ _ _ _ _ _ _ _ _ _ _ _ X hx hZ hc hown t h => XS.idiv X.here hx rfl (hb hc hd) rfl hy h) kk
theorem r_irem {x y : Int32} (hd : decode mi.2.1 pc = .ok (.irem, 1) ∧ pc + 1 = np) (hy : y ≠ 0) (kk : Runs K l Z n0 mi np ls (.int (x % y) :: st) H v H') : Runs K l Z n0 mi pc ls (.int y :: .int x :: st) H v H' := by
  obtain ⟨hd, rfl⟩ := hd
  exact Runs.pure (fun _ _ _ _ _ _ _ _ _ _ _ _ _ X hx hZ hc hown t h => iremM X hx rfl (hb hc hd) rfl hy h) kk
theorem r_ladd {x y : Int64} (hd : decode mi.2.1 pc = .ok (.ladd, 1) ∧ pc + 1 = np) (kk : Runs K l Z n0 mi np ls (.long (x + y) :: st) H v H') : Runs K l Z n0 mi pc ls (.long y :: .long x :: st) H v H' := by
  obtain ⟨hd, rfl⟩ := hd
  exact Runs.pure (fun _ _ _ _ _ _ _ _ _ _ _ _ _ X hx hZ hc hown t h => XT.ladd X.here hx rfl (hb hc hd) rfl h) kk
theorem r_lsub {x y : Int64} (hd : decode mi.2.1 pc = .ok (.lsub, 1) ∧ pc + 1 = np) (kk : Runs K l Z n0 mi np ls (.long (x - y) :: st) H v H') : Runs K l Z n0 mi pc ls (.long y :: .long x :: st) H v H' := by
  obtain ⟨hd, rfl⟩ := hd
  exact Runs.pure (fun _ _ _ _ _ _ _ _ _ _ _ _ _ X hx hZ hc hown t h => XT.lsub X.here hx rfl (hb hc hd) rfl h) kk
theorem r_lmul {x y : Int64} (hd : decode mi.2.1 pc = .ok (.lmul, 1) ∧ pc + 1 = np) (kk : Runs K l Z n0 mi np ls (.long (x * y) :: st) H v H') : Runs K l Z n0 mi pc ls (.long y :: .long x :: st) H v H' := by
  obtain ⟨hd, rfl⟩ := hd
  exact Runs.pure (fun _ _ _ _ _ _ _ _ _ _ _ _ _ X hx hZ hc hown t h => XT.lmul X.here hx rfl (hb hc hd) rfl h) kk
theorem r_land {x y : Int64} (hd : decode mi.2.1 pc = .ok (.land, 1) ∧ pc + 1 = np) (kk : Runs K l Z n0 mi np ls (.long (x &&& y) :: st) H v H') : Runs K l Z n0 mi pc ls (.long y :: .long x :: st) H v H' := by
  obtain ⟨hd, rfl⟩ := hd
  exact Runs.pure (fun _ _ _ _ _ _ _ _ _ _ _ _ _ X hx hZ hc hown t h => XT.land X.here hx rfl (hb hc hd) rfl h) kk
theorem r_lor {x y : Int64} (hd : decode mi.2.1 pc = .ok (.lor, 1) ∧ pc + 1 = np) (kk : Runs K l Z n0 mi np ls (.long (x ||| y) :: st) H v H') : Runs K l Z n0 mi pc ls (.long y :: .long x :: st) H v H' := by
  obtain ⟨hd, rfl⟩ := hd
  exact Runs.pure (fun _ _ _ _ _ _ _ _ _ _ _ _ _ X hx hZ hc hown t h => XT.lor X.here hx rfl (hb hc hd) rfl h) kk
theorem r_lxor {x y : Int64} (hd : decode mi.2.1 pc = .ok (.lxor, 1) ∧ pc + 1 = np) (kk : Runs K l Z n0 mi np ls (.long (x ^^^ y) :: st) H v H') : Runs K l Z n0 mi pc ls (.long y :: .long x :: st) H v H' := by
  obtain ⟨hd, rfl⟩ := hd
  exact Runs.pure (fun _ _ _ _ _ _ _ _ _ _ _ _ _ X hx hZ hc hown t h => XT.lxor X.here hx rfl (hb hc hd) rfl h) kk
theorem r_lshl {x : Int64} {y : Int32} (hd : decode mi.2.1 pc = .ok (.lshl, 1) ∧ pc + 1 = np) (kk : Runs K l Z n0 mi np ls (.long (x <<< (y.toInt64 &&& 63)) :: st) H v H') : Runs K l Z n0 mi pc ls (.int y :: .long x :: st) H v H' := by
  obtain ⟨hd, rfl⟩ := hd
  exact Runs.pure (fun _ _ _ _ _ _ _ _ _ _ _ _ _ X hx hZ hc hown t h => XT.lshl X.here hx rfl (hb hc hd) rfl h) kk
theorem r_lshr {x : Int64} {y : Int32} (hd : decode mi.2.1 pc = .ok (.lshr, 1) ∧ pc + 1 = np) (kk : Runs K l Z n0 mi np ls (.long (x >>> (y.toInt64 &&& 63)) :: st) H v H') : Runs K l Z n0 mi pc ls (.int y :: .long x :: st) H v H' := by
  obtain ⟨hd, rfl⟩ := hd
  exact Runs.pure (fun _ _ _ _ _ _ _ _ _ _ _ _ _ X hx hZ hc hown t h => XT.lshr X.here hx rfl (hb hc hd) rfl h) kk
theorem r_lushr {x : Int64} {y : Int32} (hd : decode mi.2.1 pc = .ok (.lushr, 1) ∧ pc + 1 = np) (kk : Runs K l Z n0 mi np ls (.long (XT.ushrL x y) :: st) H v H') : Runs K l Z n0 mi pc ls (.int y :: .long x :: st) H v H' := by
  obtain ⟨hd, rfl⟩ := hd
  exact Runs.pure (fun _ _ _ _ _ _ _ _ _ _ _ _ _ X hx hZ hc hown t h => XT.lushr X.here hx rfl (hb hc hd) rfl h) kk
theorem r_ldiv {x y : Int64} (hd : decode mi.2.1 pc = .ok (.ldiv, 1) ∧ pc + 1 = np) (hy : y ≠ 0) (kk : Runs K l Z n0 mi np ls (.long (x / y) :: st) H v H') : Runs K l Z n0 mi pc ls (.long y :: .long x :: st) H v H' := by
  obtain ⟨hd, rfl⟩ := hd
  exact Runs.pure (fun _ _ _ _ _ _ _ _ _ _ _ _ _ X hx hZ hc hown t h => XT.ldiv X.here hx rfl (hb hc hd) rfl hy h) kk
theorem r_lrem {x y : Int64} (hd : decode mi.2.1 pc = .ok (.lrem, 1) ∧ pc + 1 = np) (hy : y ≠ 0) (kk : Runs K l Z n0 mi np ls (.long (x % y) :: st) H v H') : Runs K l Z n0 mi pc ls (.long y :: .long x :: st) H v H' := by
  obtain ⟨hd, rfl⟩ := hd
  exact Runs.pure (fun _ _ _ _ _ _ _ _ _ _ _ _ _ X hx hZ hc hown t h => XT.lrem X.here hx rfl (hb hc hd) rfl hy (by rw [lrem_mod]; exact h)) kk
theorem r_lcmp {x y : Int64} (hd : decode mi.2.1 pc = .ok (.lcmp, 1) ∧ pc + 1 = np) (kk : Runs K l Z n0 mi np ls (.int (XT.cmpL x y) :: st) H v H') : Runs K l Z n0 mi pc ls (.long y :: .long x :: st) H v H' := by
  obtain ⟨hd, rfl⟩ := hd
  exact Runs.pure (fun _ _ _ _ _ _ _ _ _ _ _ _ _ X hx hZ hc hown t h => XT.lcmp X.here hx rfl (hb hc hd) rfl h) kk
theorem r_ineg {x : Int32} (hd : decode mi.2.1 pc = .ok (.ineg, 1) ∧ pc + 1 = np) (kk : Runs K l Z n0 mi np ls (.int (-x) :: st) H v H') : Runs K l Z n0 mi pc ls (.int x :: st) H v H' := by
  obtain ⟨hd, rfl⟩ := hd
  exact Runs.pure (fun _ _ _ _ _ _ _ _ _ _ _ _ _ X hx hZ hc hown t h => XS.ineg X.here hx rfl (hb hc hd) rfl h) kk
theorem r_lneg {x : Int64} (hd : decode mi.2.1 pc = .ok (.lneg, 1) ∧ pc + 1 = np) (kk : Runs K l Z n0 mi np ls (.long (-x) :: st) H v H') : Runs K l Z n0 mi pc ls (.long x :: st) H v H' := by
  obtain ⟨hd, rfl⟩ := hd
  exact Runs.pure (fun _ _ _ _ _ _ _ _ _ _ _ _ _ X hx hZ hc hown t h => XT.lneg X.here hx rfl (hb hc hd) rfl h) kk
theorem r_i2l {x : Int32} (hd : decode mi.2.1 pc = .ok (.i2l, 1) ∧ pc + 1 = np) (kk : Runs K l Z n0 mi np ls (.long x.toInt64 :: st) H v H') : Runs K l Z n0 mi pc ls (.int x :: st) H v H' := by
  obtain ⟨hd, rfl⟩ := hd
  exact Runs.pure (fun _ _ _ _ _ _ _ _ _ _ _ _ _ X hx hZ hc hown t h => XT.i2l X.here hx rfl (hb hc hd) rfl h) kk
theorem r_l2i {x : Int64} (hd : decode mi.2.1 pc = .ok (.l2i, 1) ∧ pc + 1 = np) (kk : Runs K l Z n0 mi np ls (.int x.toInt32 :: st) H v H') : Runs K l Z n0 mi pc ls (.long x :: st) H v H' := by
  obtain ⟨hd, rfl⟩ := hd
  exact Runs.pure (fun _ _ _ _ _ _ _ _ _ _ _ _ _ X hx hZ hc hown t h => XT.l2i X.here hx rfl (hb hc hd) rfl h) kk
theorem r_i2b {x : Int32} (hd : decode mi.2.1 pc = .ok (.i2b, 1) ∧ pc + 1 = np) (kk : Runs K l Z n0 mi np ls (.int x.toInt8.toInt32 :: st) H v H') : Runs K l Z n0 mi pc ls (.int x :: st) H v H' := by
  obtain ⟨hd, rfl⟩ := hd
  exact Runs.pure (fun _ _ _ _ _ _ _ _ _ _ _ _ _ X hx hZ hc hown t h => XT.i2b X.here hx rfl (hb hc hd) rfl h) kk
theorem r_i2s {x : Int32} (hd : decode mi.2.1 pc = .ok (.i2s, 1) ∧ pc + 1 = np) (kk : Runs K l Z n0 mi np ls (.int x.toInt16.toInt32 :: st) H v H') : Runs K l Z n0 mi pc ls (.int x :: st) H v H' := by
  obtain ⟨hd, rfl⟩ := hd
  exact Runs.pure (fun _ _ _ _ _ _ _ _ _ _ _ _ _ X hx hZ hc hown t h => XT.i2s X.here hx rfl (hb hc hd) rfl h) kk
theorem r_i2c {x : Int32} (hd : decode mi.2.1 pc = .ok (.i2c, 1) ∧ pc + 1 = np) (kk : Runs K l Z n0 mi np ls (.int x.toUInt32.toUInt16.toUInt32.toInt32 :: st) H v H') : Runs K l Z n0 mi pc ls (.int x :: st) H v H' := by
  obtain ⟨hd, rfl⟩ := hd
  exact Runs.pure (fun _ _ _ _ _ _ _ _ _ _ _ _ _ X hx hZ hc hown t h => XT.i2c X.here hx rfl (hb hc hd) rfl h) kk
theorem r_dup {x : Value} (hd : decode mi.2.1 pc = .ok (.dup, 1) ∧ pc + 1 = np) (hx1 : x.category = 1) (kk : Runs K l Z n0 mi np ls (x :: x :: st) H v H') : Runs K l Z n0 mi pc ls (x :: st) H v H' := by
  obtain ⟨hd, rfl⟩ := hd
  exact Runs.pure (fun _ _ _ _ _ _ _ _ _ _ _ _ _ X hx hZ hc hown t h => XS.dup X.here hx rfl (hb hc hd) rfl ((cat_sh _ _).trans hx1) h) kk
theorem r_pop {x : Value} (hd : decode mi.2.1 pc = .ok (.pop, 1) ∧ pc + 1 = np) (hx1 : x.category = 1) (kk : Runs K l Z n0 mi np ls st H v H') : Runs K l Z n0 mi pc ls (x :: st) H v H' := by
  obtain ⟨hd, rfl⟩ := hd
  exact Runs.pure (fun _ _ _ _ _ _ _ _ _ _ _ _ _ X hx hZ hc hown t h => XT.pop X.here hx rfl (hb hc hd) rfl ((cat_sh _ _).trans hx1) h) kk
theorem r_dupX1 {x y : Value} (hd : decode mi.2.1 pc = .ok (.dup_x1, 1) ∧ pc + 1 = np) (hx1 : x.category = 1) (hy1 : y.category = 1) (kk : Runs K l Z n0 mi np ls (x :: y :: x :: st) H v H') : Runs K l Z n0 mi pc ls (x :: y :: st) H v H' := by
  obtain ⟨hd, rfl⟩ := hd
  exact Runs.pure (fun _ _ _ _ _ _ _ _ _ _ _ _ _ X hx hZ hc hown t h => XT.dupX1 X.here hx rfl (hb hc hd) rfl ((cat_sh _ _).trans hx1) ((cat_sh _ _).trans hy1) h) kk
theorem r_dup2 {x y : Value} (hd : decode mi.2.1 pc = .ok (.dup2, 1) ∧ pc + 1 = np) (hx1 : x.category = 1) (hy1 : y.category = 1) (kk : Runs K l Z n0 mi np ls (x :: y :: x :: y :: st) H v H') : Runs K l Z n0 mi pc ls (x :: y :: st) H v H' := by
  obtain ⟨hd, rfl⟩ := hd
  exact Runs.pure (fun _ _ _ _ _ _ _ _ _ _ _ _ _ X hx hZ hc hown t h => XT.dup2 X.here hx rfl (hb hc hd) rfl ((cat_sh _ _).trans hx1) ((cat_sh _ _).trans hy1) h) kk
theorem r_dup2L {x : Int64} (hd : decode mi.2.1 pc = .ok (.dup2, 1) ∧ pc + 1 = np) (kk : Runs K l Z n0 mi np ls (.long x :: .long x :: st) H v H') : Runs K l Z n0 mi pc ls (.long x :: st) H v H' := by
  obtain ⟨hd, rfl⟩ := hd
  exact Runs.pure (fun _ _ _ _ _ _ _ _ _ _ _ _ _ X hx hZ hc hown t h => XT.dup2L X.here hx rfl (hb hc hd) rfl h) kk
theorem r_aconstNull  (hd : decode mi.2.1 pc = .ok (.aconst_null, 1) ∧ pc + 1 = np) (kk : Runs K l Z n0 mi np ls (.null :: st) H v H') : Runs K l Z n0 mi pc ls st H v H' := by
  obtain ⟨hd, rfl⟩ := hd
  exact Runs.pure (fun _ _ _ _ _ _ _ _ _ _ _ _ _ X hx hZ hc hown t h => XS.aconstNull X.here hx rfl (hb hc hd) h) kk
theorem r_iconst {i : Int} {x : Int32} (hd : decode mi.2.1 pc = .ok (.iconst i, 1) ∧ pc + 1 = np ∧ Int32.ofInt i = x) (kk : Runs K l Z n0 mi np ls (.int x :: st) H v H') : Runs K l Z n0 mi pc ls st H v H' := by
  obtain ⟨hd, rfl, hx0⟩ := hd
  exact Runs.pure (fun _ _ _ _ _ _ _ _ _ _ _ _ _ X hx hZ hc hown t h => XT.iconstV X.here hx rfl x (hb hc hd) hx0 h) kk
theorem r_bipush {i : Int} {x : Int32} (hd : decode mi.2.1 pc = .ok (.bipush i, 2) ∧ pc + 2 = np ∧ (Int8.ofInt i).toInt32 = x) (kk : Runs K l Z n0 mi np ls (.int x :: st) H v H') : Runs K l Z n0 mi pc ls st H v H' := by
  obtain ⟨hd, rfl, hx0⟩ := hd
  exact Runs.pure (fun _ _ _ _ _ _ _ _ _ _ _ _ _ X hx hZ hc hown t h => XT.bipushV X.here hx rfl x (hb hc hd) hx0 h) kk
theorem r_sipush {i : Int} {x : Int32} (hd : decode mi.2.1 pc = .ok (.sipush i, 3) ∧ pc + 3 = np ∧ (Int16.ofInt i).toInt32 = x) (kk : Runs K l Z n0 mi np ls (.int x :: st) H v H') : Runs K l Z n0 mi pc ls st H v H' := by
  obtain ⟨hd, rfl, hx0⟩ := hd
  exact Runs.pure (fun _ _ _ _ _ _ _ _ _ _ _ _ _ X hx hZ hc hown t h => XT.sipushV X.here hx rfl x (hb hc hd) hx0 h) kk
theorem r_lconst {i : Fin 2} {x : Int64} (hd : decode mi.2.1 pc = .ok (.lconst i, 1) ∧ pc + 1 = np ∧ Int64.ofNat i = x) (kk : Runs K l Z n0 mi np ls (.long x :: st) H v H') : Runs K l Z n0 mi pc ls st H v H' := by
  obtain ⟨hd, rfl, hx0⟩ := hd
  exact Runs.pure (fun _ _ _ _ _ _ _ _ _ _ _ _ _ X hx hZ hc hown t h => XT.lconstV X.here hx rfl x (hb hc hd) hx0 h) kk
theorem r_ldc {i : Nat} {x : Int32} (hd : decode mi.2.1 pc = .ok (.ldc i, 2) ∧ pc + 2 = np) (w : (Jvm.Cond.constant mi.1.cls i x).before a0 Z = true) (kk : Runs K l Z n0 mi np ls (.int x :: st) H v H') : Runs K l Z n0 mi pc ls st H v H' := by
  obtain ⟨hd, rfl⟩ := hd
  exact Runs.pure (fun _ _ _ _ _ _ _ _ _ _ _ _ _ X hx hZ hc hown t h => X.ldcI hx hown (mv hZ w) rfl (hb hc hd) h) kk
theorem r_ldcW {i : Nat} {x : Int32} (hd : decode mi.2.1 pc = .ok (.ldc_w i, 3) ∧ pc + 3 = np) (w : (Jvm.Cond.constant mi.1.cls i x).before a0 Z = true) (kk : Runs K l Z n0 mi np ls (.int x :: st) H v H') : Runs K l Z n0 mi pc ls st H v H' := by
  obtain ⟨hd, rfl⟩ := hd
  exact Runs.pure (fun _ _ _ _ _ _ _ _ _ _ _ _ _ X hx hZ hc hown t h => X.ldcWI hx hown (mv hZ w) rfl (hb hc hd) h) kk
theorem r_ldc2 {i : Nat} {x : Int64} (hd : decode mi.2.1 pc = .ok (.ldc2_w i, 3) ∧ pc + 3 = np) (w : (Jvm.Cond.constantLong mi.1.cls i x).before a0 Z = true) (kk : Runs K l Z n0 mi np ls (.long x :: st) H v H') : Runs K l Z n0 mi pc ls st H v H' := by
  obtain ⟨hd, rfl⟩ := hd
  exact Runs.pure (fun _ _ _ _ _ _ _ _ _ _ _ _ _ X hx hZ hc hown t h => X.ldc2J hx hown (mv hZ w) rfl (hb hc hd) h) kk
theorem r_iinc {k : Nat} {i : Int} {x y : Int32} (hd : decode mi.2.1 pc = .ok (.iinc k i, 3) ∧ pc + 3 = np ∧ Int32.ofInt i = y) (hl : ls[k]? = some (.val (.int x))) (hs : ls.set k (.val (.int (x + y))) = ls') (kk : Runs K l Z n0 mi np ls' st H v H') : Runs K l Z n0 mi pc ls st H v H' := by
  obtain ⟨hd, rfl, hx0⟩ := hd
  exact Runs.pure (fun _ _ _ _ _ _ _ _ _ _ _ _ _ X hx hZ hc hown t h => XT.iincV X.here hx rfl y (hb hc hd) hx0 (loc_at hl) (st1 (P1_int hl) rfl hs) h) kk
theorem r_goto  {o : Int} (hd : decode mi.2.1 pc = .ok (.goto o, 3) ∧ pc + 3 = np ∧ 0 ≤ (pc : Int) + o ∧ ((pc : Int) + o).toNat = tp) (kk : Runs K l Z n0 mi tp ls st H v H') : Runs K l Z n0 mi pc ls st H v H' := by
  obtain ⟨hd, hn, h1, h2⟩ := hd
  exact Runs.pure (fun _ _ _ _ _ _ _ _ _ _ _ _ _ X hx hZ hc hown t h => XS.goto X.here hx rfl rfl (hb hc hd) h1 h2 h) kk
theorem r_ifT {cd : ClassFile.Cond} {x : Int32} {o : Int} (hd : decode mi.2.1 pc = .ok (.ifCond cd o, 3) ∧ pc + 3 = np ∧ 0 ≤ (pc : Int) + o ∧ ((pc : Int) + o).toNat = tp) (hq : ifCond.holds cd x = true) (kk : Runs K l Z n0 mi tp ls st H v H') : Runs K l Z n0 mi pc ls (.int x :: st) H v H' := by
  obtain ⟨hd, hn, h1, h2⟩ := hd
  exact Runs.pure (fun _ _ _ _ _ _ _ _ _ _ _ _ _ X hx hZ hc hown t h => XS.ifYes X.here hx rfl rfl (hb hc hd) rfl hq h1 h2 h) kk
theorem r_ifF {cd : ClassFile.Cond} {x : Int32} {o : Int} (hd : decode mi.2.1 pc = .ok (.ifCond cd o, 3) ∧ pc + 3 = np ∧ 0 ≤ (pc : Int) + o ∧ ((pc : Int) + o).toNat = tp) (hq : ifCond.holds cd x = false) (kk : Runs K l Z n0 mi np ls st H v H') : Runs K l Z n0 mi pc ls (.int x :: st) H v H' := by
  obtain ⟨hd, rfl, h1, h2⟩ := hd
  exact Runs.pure (fun _ _ _ _ _ _ _ _ _ _ _ _ _ X hx hZ hc hown t h => XS.ifNo X.here hx rfl (hb hc hd) rfl hq h) kk
theorem r_icT {cd : ClassFile.Cond} {x y : Int32} {o : Int} (hd : decode mi.2.1 pc = .ok (.if_icmp cd o, 3) ∧ pc + 3 = np ∧ 0 ≤ (pc : Int) + o ∧ ((pc : Int) + o).toNat = tp) (hq : if_icmp.holds cd x y = true) (kk : Runs K l Z n0 mi tp ls st H v H') : Runs K l Z n0 mi pc ls (.int y :: .int x :: st) H v H' := by
  obtain ⟨hd, hn, h1, h2⟩ := hd
  exact Runs.pure (fun _ _ _ _ _ _ _ _ _ _ _ _ _ X hx hZ hc hown t h => XS.icmpYes X.here hx rfl rfl (hb hc hd) rfl hq h1 h2 h) kk
theorem r_icF {cd : ClassFile.Cond} {x y : Int32} {o : Int} (hd : decode mi.2.1 pc = .ok (.if_icmp cd o, 3) ∧ pc + 3 = np ∧ 0 ≤ (pc : Int) + o ∧ ((pc : Int) + o).toNat = tp) (hq : if_icmp.holds cd x y = false) (kk : Runs K l Z n0 mi np ls st H v H') : Runs K l Z n0 mi pc ls (.int y :: .int x :: st) H v H' := by
  obtain ⟨hd, rfl, h1, h2⟩ := hd
  exact Runs.pure (fun _ _ _ _ _ _ _ _ _ _ _ _ _ X hx hZ hc hown t h => XS.icmpNo X.here hx rfl (hb hc hd) rfl hq h) kk
theorem r_nullT  {o : Int} (hd : decode mi.2.1 pc = .ok (.ifnull o, 3) ∧ pc + 3 = np ∧ 0 ≤ (pc : Int) + o ∧ ((pc : Int) + o).toNat = tp) (kk : Runs K l Z n0 mi tp ls st H v H') : Runs K l Z n0 mi pc ls (.null :: st) H v H' := by
  obtain ⟨hd, hn, h1, h2⟩ := hd
  exact Runs.pure (fun _ _ _ _ _ _ _ _ _ _ _ _ _ X hx hZ hc hown t h => XS.ifnullYes X.here hx rfl rfl (hb hc hd) rfl h1 h2 h) kk
theorem r_nullF {a : Addr} {o : Int} (hd : decode mi.2.1 pc = .ok (.ifnull o, 3) ∧ pc + 3 = np ∧ 0 ≤ (pc : Int) + o ∧ ((pc : Int) + o).toNat = tp) (kk : Runs K l Z n0 mi np ls st H v H') : Runs K l Z n0 mi pc ls (.ref a :: st) H v H' := by
  obtain ⟨hd, rfl, h1, h2⟩ := hd
  exact Runs.pure (fun _ _ _ _ _ _ _ _ _ _ _ _ _ X hx hZ hc hown t h => XS.ifnullNo X.here hx rfl (hb hc hd) rfl h) kk
theorem r_nonnullT {a : Addr} {o : Int} (hd : decode mi.2.1 pc = .ok (.ifnonnull o, 3) ∧ pc + 3 = np ∧ 0 ≤ (pc : Int) + o ∧ ((pc : Int) + o).toNat = tp) (kk : Runs K l Z n0 mi tp ls st H v H') : Runs K l Z n0 mi pc ls (.ref a :: st) H v H' := by
  obtain ⟨hd, hn, h1, h2⟩ := hd
  exact Runs.pure (fun _ _ _ _ _ _ _ _ _ _ _ _ _ X hx hZ hc hown t h => XT.ifnonnullYes X.here hx rfl rfl (hb hc hd) rfl h1 h2 h) kk
theorem r_nonnullF  {o : Int} (hd : decode mi.2.1 pc = .ok (.ifnonnull o, 3) ∧ pc + 3 = np ∧ 0 ≤ (pc : Int) + o ∧ ((pc : Int) + o).toNat = tp) (kk : Runs K l Z n0 mi np ls st H v H') : Runs K l Z n0 mi pc ls (.null :: st) H v H' := by
  obtain ⟨hd, rfl, h1, h2⟩ := hd
  exact Runs.pure (fun _ _ _ _ _ _ _ _ _ _ _ _ _ X hx hZ hc hown t h => XT.ifnonnullNo X.here hx rfl (hb hc hd) rfl h) kk
/-- a step that may turn the heap -/
theorem Runs.heap {st2 : List Value} (m1 : H.length ≤ H1.length) (m2 : szs K H ≤ szs K H1) (hstep : ∀ (p : Program) (e : Env) (R : Room) (s : State) (m : MethodId) (args : Array Value) (below : List Frame) (meth : Method) (c : Code) (T : State) (locs : List Loc) (cells slots : Nat),
      Stand p l e R s m args below meth c T locs cells slots → p.tables.exec = Jvm.exec → Z.Warmed39 s.vm → c.code = mi.2.1 → c.maxLocals = mi.2.2.1 → s.vm.findClass mi.1.cls = some m.cls → meth.name = mi.1.name → Rel K Z n0 H T.heap → Fr n0 locs → mi.2.2.2.2.1 ≤ R.frames → mi.2.2.2.2.2 ≤ R.locals →
      s.heap.size + cells = n0 + H.length → cells + H1.length ≤ R.cells + H.length → slots + szs K H1 ≤ R.slots + szs K H →
      ∃ (T1 : State) (locs1 : List Loc) (cells1 slots1 : Nat), Stand p l e R s m args below meth c T1 locs1 cells1 slots1 ∧ Rel K Z n0 H1 T1.heap ∧ Fr n0 locs1 ∧ s.heap.size + cells1 = n0 + H1.length ∧ slots1 + szs K H ≤ slots + szs K H1 ∧
        ∀ target, Steps p.tables e below (T1.setTop (mkF m np (ls'.map (shS n0)).toArray (st2.map (shV n0)))) target → Steps p.tables e below (T.setTop (mkF m pc (ls.map (shS n0)).toArray (st.map (shV n0)))) target)
    (k : Runs K l Z n0 mi np ls' st2 H1 v H') : Runs K l Z n0 mi pc ls st H v H' := by
  have k1 := k.1
  have k2 := k.2.1
  refine ⟨Nat.le_trans m1 k1, Nat.le_trans m2 k2, fun p e R s m args below meth c T locs cells slots X hx hZ hc hml hret hown hnm hrel hfr hf hlo hsz hcl hsl => ?_⟩
  obtain ⟨T1, locs1, cells1, slots1, X1, rel1, fr1, hc1, hs1, st1⟩ := hstep p e R s m args below meth c T locs cells slots X hx hZ hc hml hown hnm hrel hfr hf hlo hsz (by omega) (by omega)
  obtain ⟨T', locs', cells', slots', X', rel', fr', hc', hs', stp⟩ := k.2.2 p e R s m args below meth c T1 locs1 cells1 slots1 X1 hx hZ hc hml hret hown hnm rel1 fr1 hf hlo hc1 (by omega) (by omega)
  exact ⟨T', locs', cells', slots', X', rel', fr', hc', by omega, fun fs hr => st1 _ (stp fs hr)⟩
theorem r_ret {x : Value} {t : FieldType} {i : Instr} (hd : decode mi.2.1 pc = .ok (i, 1)) (hret : mi.2.2.2.1 = some t) (hn : narrow t x = x)
    (hi : (i = .ireturn ∧ (t = .int ∨ t = .boolean ∨ t = .byte ∨ t = .char ∨ t = .short) ∧ ∃ z, x = .int z) ∨ (i = .lreturn ∧ t = .long ∧ ∃ z, x = .long z) ∨ (i = .areturn ∧ t.isReference = true ∧ x.isRef = true)) : Runs K l Z n0 mi pc ls (x :: st) H (some x) H := by
  refine ⟨Nat.le_refl _, Nat.le_refl _, fun p e R s m args below meth c T locs cells slots X hx hZ hc hml hret' hown hnm hrel hfr hf hlo hsz hcl hsl => ⟨T, locs, cells, slots, X, hrel, hfr, hsz, Nat.le_refl _, fun fs hr => ?_⟩⟩
  have hn' : narrow t (shV n0 x) = shV n0 x := by
    rcases hi with ⟨-, -, z, rfl⟩ | ⟨-, -, z, rfl⟩ | ⟨-, -, q⟩
    · exact hn
    · exact hn
    · cases x <;> first | (cases q; done) | (cases t <;> rfl)
  refine retOut X hx (hret'.trans hret) hn' ?_ (hb hc hd) hr
  rcases hi with ⟨h1, h2, z, rfl⟩ | ⟨h1, h2, z, rfl⟩ | ⟨h1, h2, q⟩
  · exact Or.inl ⟨h1, h2, z, rfl⟩
  · exact Or.inr (Or.inl ⟨h1, h2, z, rfl⟩)
  · exact Or.inr (Or.inr (Or.inr (Or.inr ⟨h1, h2, isRef_sh q⟩)))
theorem r_ireturn {z : Int32} (hd : decode mi.2.1 pc = .ok (.ireturn, 1)) (hret : mi.2.2.2.1 = some .int) : Runs K l Z n0 mi pc ls (.int z :: st) H (some (.int z)) H := r_ret hd hret rfl (Or.inl ⟨rfl, Or.inl rfl, z, rfl⟩)
theorem r_ireturnE {z z' : Int32} (hd : decode mi.2.1 pc = .ok (.ireturn, 1)) (hret : mi.2.2.2.1 = some .int) (h : z = z') : Runs K l Z n0 mi pc ls (.int z :: st) H (some (.int z')) H := h ▸ r_ireturn hd hret
theorem r_zreturn {z : Int32} (hd : decode mi.2.1 pc = .ok (.ireturn, 1)) (hret : mi.2.2.2.1 = some .boolean) (hz : z = 0 ∨ z = 1) : Runs K l Z n0 mi pc ls (.int z :: st) H (some (.int z)) H := r_ret hd hret (by rcases hz with rfl | rfl <;> rfl) (Or.inl ⟨rfl, Or.inr (Or.inl rfl), z, rfl⟩)
theorem r_lreturn {z : Int64} (hd : decode mi.2.1 pc = .ok (.lreturn, 1)) (hret : mi.2.2.2.1 = some .long) : Runs K l Z n0 mi pc ls (.long z :: st) H (some (.long z)) H := r_ret hd hret rfl (Or.inr (Or.inl ⟨rfl, rfl, z, rfl⟩))
theorem r_areturn {x : Value} {t : FieldType} (hd : decode mi.2.1 pc = .ok (.areturn, 1)) (hret : mi.2.2.2.1 = some t) (ht : t.isReference = true) (hx : x.isRef = true) : Runs K l Z n0 mi pc ls (x :: st) H (some x) H := r_ret hd hret (by cases x <;> first | (cases hx; done) | (cases t <;> rfl)) (Or.inr (Or.inr ⟨rfl, ht, hx⟩))
theorem r_return (hd : decode mi.2.1 pc = .ok (.return_, 1)) (hret : mi.2.2.2.1 = none) : Runs K l Z n0 mi pc ls [] H none H := by
  refine ⟨Nat.le_refl _, Nat.le_refl _, fun p e R s m args below meth c T locs cells slots X hx hZ hc hml hret' hown hnm hrel hfr hf hlo hsz hcl hsl => ⟨T, locs, cells, slots, X, hrel, hfr, hsz, Nat.le_refl _, fun fs hr => ?_⟩⟩
  exact X.returnOut hx (hret'.trans hret) (hb hc hd) hr
theorem r_tswIn {dflt low high o : Int} {offs : Array Int} {len : Nat} {i : Int32} (hd : decode mi.2.1 pc = .ok (.tableswitch dflt low high offs, len)) (hin : ¬ (i.toInt < low ∨ i.toInt > high)) (hoff : offs[(i.toInt - low).toNat]? = some o) (ho : 0 ≤ (pc : Int) + o) (hp : ((pc : Int) + o).toNat = tp)
    (kk : Runs K l Z n0 mi tp ls st H v H') : Runs K l Z n0 mi pc ls (.int i :: st) H v H' :=
  Runs.pure (fun _ _ _ _ _ _ _ _ _ _ _ _ _ X hx hZ hc hown t h => XS.tswIn X.here hx rfl rfl (hb hc hd) rfl hin hoff ho hp h) kk
theorem r_tswOut {dflt low high : Int} {offs : Array Int} {len : Nat} {i : Int32} (hd : decode mi.2.1 pc = .ok (.tableswitch dflt low high offs, len)) (hout : i.toInt < low ∨ i.toInt > high) (ho : 0 ≤ (pc : Int) + dflt) (hp : ((pc : Int) + dflt).toNat = tp)
    (kk : Runs K l Z n0 mi tp ls st H v H') : Runs K l Z n0 mi pc ls (.int i :: st) H v H' :=
  Runs.pure (fun _ _ _ _ _ _ _ _ _ _ _ _ _ X hx hZ hc hown t h => XS.tswOut X.here hx rfl rfl (hb hc hd) rfl hout ho hp h) kk
/-! ### the heap -/
theorem OOk.ext {h h' : Heap} {a : Addr} {o : Ob} (E : Ext h h') (q : OOk K Z n0 h a o) : OOk K Z n0 h' a o := by
  cases o with
  | inl o => obtain ⟨ci, h1, h2, h3⟩ := q; exact ⟨ci, h1, h2.ext E, fun i f v a b => (h3 i f v a b).ext E⟩
  | inr o => obtain ⟨cl, h1, h2⟩ := q; exact ⟨cl, h1.ext E, h2⟩
theorem OOk.other {h h' : Heap} {a b : Addr} {sl : Nat} {x : Value} {o : Ob} (W : Wr h h' b sl x) (ne : a ≠ b) (q : OOk K Z n0 h a o) : OOk K Z n0 h' a o := by
  cases o with
  | inl o => obtain ⟨ci, h1, h2, h3⟩ := q; exact ⟨ci, h1, h2.wr W, fun i f v a b => (h3 i f v a b).other W (Or.inl ne)⟩
  | inr o => obtain ⟨cl, h1, h2⟩ := q; exact ⟨cl, h1.other W ne, h2⟩
theorem Rel.push {h h' : Heap} {o : Ob} (r : Rel K Z n0 H h) (E : Ext h h') (hs : h'.size = h.size + 1) (ho : OOk K Z n0 h' h.size o) : Rel K Z n0 (H ++ [o]) h' := by
  refine ⟨by rw [hs, r.1, List.length_append]; rfl, fun k q hk => ?_⟩
  by_cases hl : k < H.length
  · rw [List.getElem?_append_left hl] at hk; exact (r.2 k q hk).ext E
  · rw [List.getElem?_append_right (Nat.le_of_not_lt hl)] at hk
    have e : k - H.length = 0 := by
      cases hq : k - H.length with
      | zero => rfl
      | succ j => rw [hq] at hk; simp at hk
    rw [e] at hk
    simp at hk
    subst hk
    have : k = H.length := by omega
    subst this
    rw [← r.1]; exact ho
theorem Rel.put {h h' : Heap} {o : Ob} {a sl : Nat} {x : Value} (r : Rel K Z n0 H h) (W : Wr h h' (n0 + a) sl x) (ha : a < H.length) (ho : OOk K Z n0 h' (n0 + a) o) : Rel K Z n0 (H.set a o) h' := by
  refine ⟨by rw [W.size, r.1, List.length_set], fun k q hk => ?_⟩
  by_cases e : a = k
  · subst e
    rw [List.getElem?_set_self ha] at hk
    cases hk; exact ho
  · rw [List.getElem?_set_ne e] at hk
    exact (r.2 k q hk).other W (fun z => e (Nat.add_left_cancel z).symm)
theorem map_set_same {α β : Type} (f : α → β) : ∀ (H : List α) (a : Nat) (o o' : α), H[a]? = some o' → f o = f o' → (H.set a o).map f = H.map f
  | [], _, _, _, h, _ => by simp at h
  | x :: r, 0, o, o', h, e => by simp at h; subst h; simp [e]
  | x :: r, a + 1, o, o', h, e => by simp at h; simp [map_set_same f r a o o' h e]
theorem szs_set {a : Nat} {o o' : Ob} (h : H[a]? = some o') (e : osz K o = osz K o') : szs K (H.set a o) = szs K H := by unfold szs; rw [map_set_same (osz K) H a o o' h e]
theorem szs_push {o : Ob} : szs K (H ++ [o]) = szs K H + osz K o := by simp [szs]
theorem lt_of_at {α : Type} {L : List α} {a : Nat} {o : α} (h : L[a]? = some o) : a < L.length := (List.getElem?_eq_some_iff.mp h).1
theorem nar_sh {t : FieldType} {x : Value} (h : narrow t x = x) : narrow t (shV n0 x) = shV n0 x := by cases x <;> first | exact h | (cases t <;> rfl)
theorem fits_sh {t : FieldType} {x : Value} (h : fits t x = true) : fits t (shV n0 x) = true := by cases x <;> first | exact h | (cases t <;> first | rfl | cases h)
theorem sh_dflt (ty : FieldType) : shV n0 (defaultValue ty) = defaultValue ty := by cases ty <;> rfl
theorem r_getF {a cid i idx : Nat} {vs : List Value} {ci : CI} {f : FI} {x : Value} {R0 : String} (hd : decode mi.2.1 pc = .ok (.getfield idx, 3) ∧ pc + 3 = np) (w : (Jvm.Cond.fieldLink mi.1.cls idx R0 f.2.1 f.2.2.1).before a0 Z = true) (via : Via Z R0 f.1 f.2.1 f.2.2.1) (hci : K[cid]? = some ci) (hf : ci.2.2[i]? = some f)
    (ho : H[a]? = some (.inl (cid, vs))) (hv : vs[i]? = some x) (kk : Runs K l Z n0 mi np ls (x :: st) H v H') : Runs K l Z n0 mi pc ls (.ref a :: st) H v H' := by
  obtain ⟨hd, rfl⟩ := hd
  refine Runs.heap (Nat.le_refl _) (Nat.le_refl _) (fun p e R s m args below meth c T locs cells slots X hx hZ hc hml hown hnm hrel hfr hf' hlo hsz hcl hsl => ?_) kk
  obtain ⟨ci', q1, E, F⟩ := hrel.2 a _ ho
  cases hci.symm.trans q1
  obtain ⟨T1, X1, e1, st1⟩ := getF X hx hZ hown (host := "") (Or.inl w) via rfl (F i f x hf hv) (g := mkF m pc (ls.map (shS n0)).toArray (.ref (n0 + a) :: st.map (shV n0))) rfl rfl (hb hc hd)
  exact ⟨T1, _, _, _, X1, by rw [e1]; exact hrel, hfr, hsz, Nat.le_refl _, st1⟩
theorem r_putF {a cid i idx : Nat} {vs vs' : List Value} {ci : CI} {f : FI} {x : Value} {R0 : String} (hK : KOk K Z a0) (hd : decode mi.2.1 pc = .ok (.putfield idx, 3) ∧ pc + 3 = np) (w : (Jvm.Cond.fieldLink mi.1.cls idx R0 f.2.1 f.2.2.1).before a0 Z = true) (via : Via Z R0 f.1 f.2.1 f.2.2.1) (hci : K[cid]? = some ci) (hf : ci.2.2[i]? = some f)
    (L : (Jvm.Cond.lays ci.1 f.1 f.2.1 f.2.2.1).before a0 Z = true ∨ ((Jvm.Cond.laysFinal ci.1 f.1 f.2.1 f.2.2.1).before a0 Z = true ∧ mi.1.cls = f.1 ∧ mi.1.name = "<init>"))
    (ho : H[a]? = some (.inl (cid, vs))) (hi : i < vs.length) (hn : narrow f.2.2.2 x = x) (hft : fits f.2.2.2 x = true) (hvs : vs.set i x = vs') (hH : H.set a (.inl (cid, vs')) = H1) (kk : Runs K l Z n0 mi np ls st H1 v H') : Runs K l Z n0 mi pc ls (x :: .ref a :: st) H v H' := by
  obtain ⟨hd, rfl⟩ := hd
  subst hvs hH
  have ha := lt_of_at ho
  have es : szs K (H.set a (.inl (cid, vs.set i x))) = szs K H := szs_set ho rfl
  refine Runs.heap (by rw [List.length_set]; exact Nat.le_refl _) (by rw [es]; exact Nat.le_refl _) (fun p e R s m args below meth c T locs cells slots X hx hZ hc hml hown hnm hrel hfr hf' hlo hsz hcl hsl => ?_) kk
  obtain ⟨ci', q1, E, F⟩ := hrel.2 a _ ho
  cases hci.symm.trans q1
  obtain ⟨kk1, kk2, kk3⟩ := hK cid ci hci
  have hfm : f ∈ ci.2.2 := List.mem_of_getElem? hf
  obtain ⟨T1, h1, X1, e1, W1, st1⟩ := putF X hx hZ hown (host := "") (Or.inl w) via rfl (F i f _ hf (List.getElem?_eq_getElem hi)) E (L.imp id fun q => ⟨q.1, q.2.1, hnm.trans q.2.2⟩) kk1 (kk2 f hfm).2 (nar_sh hn) (fits_sh hft)
    (g := mkF m pc (ls.map (shS n0)).toArray (shV n0 x :: .ref (n0 + a) :: st.map (shV n0))) rfl rfl (hb hc hd)
  refine ⟨T1, _, _, _, X1, ?_, Fr.snoc X1 hfr (Nat.le_add_right _ _), by rw [List.length_set]; exact hsz, by rw [es]; exact Nat.le_refl _, st1⟩
  rw [e1]
  refine hrel.put W1 ha ⟨ci, hci, E.wr W1, fun j g y hg hy => ?_⟩
  by_cases ji : i = j
  · subst ji
    cases hf.symm.trans hg
    rw [List.getElem?_set_self hi] at hy
    cases hy
    exact (F i f _ hf (List.getElem?_eq_getElem hi)).same W1
  · rw [List.getElem?_set_ne ji] at hy
    have hgm : g ∈ ci.2.2 := List.mem_of_getElem? hg
    refine (F j g y hg hy).other W1 (Or.inr (slot_ne (kk2 g hgm).1 (kk2 f hfm).1 ?_ (kk2 g hgm).2 (kk2 f hfm).2))
    obtain ⟨li, ei⟩ := List.getElem?_eq_some_iff.mp hf
    obtain ⟨lj, ej⟩ := List.getElem?_eq_some_iff.mp hg
    have pw := List.pairwise_iff_getElem.mp kk3
    rcases Nat.lt_or_gt_of_ne ji with q | q
    · have := pw i j li lj q; rw [ei, ej] at this; exact fun z => this z.symm
    · have := pw j i lj li q; rw [ei, ej] at this; exact this
theorem r_new {a cid idx : Nat} {ci : CI} {o : List Value} (hK : KOk K Z a0) (hd : decode mi.2.1 pc = .ok (.new idx, 3) ∧ pc + 3 = np) (w : (Jvm.Cond.classLink mi.1.cls idx ci.1).before a0 Z = true) (wz : (Jvm.Cond.initialized ci.1).before a0 Z = true) (hci : K[cid]? = some ci)
    (ho : ci.2.2.map (fun f => defaultValue f.2.2.2) = o) (ha : H.length = a) (hH : H ++ [.inl (cid, o)] = H1) (kk : Runs K l Z n0 mi np ls (.ref a :: st) H1 v H') : Runs K l Z n0 mi pc ls st H v H' := by
  obtain ⟨hd, rfl⟩ := hd
  subst ho ha hH
  obtain ⟨kk1, kk2, kk3⟩ := hK cid ci hci
  have es : osz K (.inl (cid, ci.2.2.map (fun f => defaultValue f.2.2.2))) = ci.2.1 := by show ((K[cid]?).map (fun ci => ci.2.1)).getD 0 = _; rw [hci]; rfl
  refine Runs.heap (by simp) (by rw [szs_push]; exact Nat.le_add_right _ _) (fun p e R s m args below meth c T locs cells slots X hx hZ hc hml hown hnm hrel hfr hf' hlo hsz hcl hsl => ?_) kk
  rw [szs_push, es] at hsl
  simp only [List.length_append, List.length_cons, List.length_nil] at hcl
  obtain ⟨T1, h1, X1, e1, E1, A1, D1, -, st1⟩ := newO X hx hZ hown w kk1 wz rfl (g := mkF m pc (ls.map (shS n0)).toArray (st.map (shV n0))) rfl (hb hc hd) (by omega) (by omega)
  have hs1 := X1.heapSize
  have hlt : T.heap.size < h1.size := A1.lt
  have hh := hrel.1
  rw [e1] at hs1
  refine ⟨T1, _, _, _, X1, ?_, hfr, by simp only [List.length_append, List.length_cons, List.length_nil]; omega, by rw [szs_push, es]; omega, fun t q => st1 t ?_⟩
  · rw [e1]
    refine hrel.push E1 (by omega) ⟨ci, hci, A1, fun i f x hf hx => ?_⟩
    have hfm : f ∈ ci.2.2 := List.mem_of_getElem? hf
    rw [List.getElem?_map, hf] at hx
    cases hx
    show Fld Z h1 T.heap.size f.1 f.2.1 f.2.2.1 (shV n0 (defaultValue f.2.2.2))
    rw [sh_dflt]
    exact D1 (kk2 f hfm).1 (kk2 f hfm).2
  · show Steps _ _ _ (T1.setTop (mkF m (pc + 3) _ (.ref T.heap.size :: _))) t
    rw [hh]; exact q
theorem toNat_of {n : Int32} (h : ¬ n < 0) : n.toNatClampNeg < 2 ^ 31 := (back32 h).2
theorem r_newA {a : Nat} {n : Int32} {aty : ArrayType} {o : List Value} (hd : decode mi.2.1 pc = .ok (.newarray aty, 2) ∧ pc + 2 = np) (w : (Jvm.Cond.arrayClass (newarray.typeOf aty)).before a0 Z = true) (hn : ¬ n < 0) (hb8 : n.toNatClampNeg * 8 ≤ 536870912)
    (ho : List.replicate n.toNatClampNeg (defaultValue (newarray.typeOf aty)) = o) (ha : H.length = a) (hH : H ++ [.inr (newarray.typeOf aty, o)] = H1) (kk : Runs K l Z n0 mi np ls (.ref a :: st) H1 v H') : Runs K l Z n0 mi pc ls (.int n :: st) H v H' := by
  obtain ⟨hd, rfl⟩ := hd
  subst ho ha hH
  have es : osz K (.inr (newarray.typeOf aty, List.replicate n.toNatClampNeg (defaultValue (newarray.typeOf aty)))) = n.toNatClampNeg := by show (List.replicate _ _).length = _; simp
  refine Runs.heap (by simp) (by rw [szs_push]; exact Nat.le_add_right _ _) (fun p e R s m args below meth c T locs cells slots X hx hZ hc hml hown hnm hrel hfr hf' hlo hsz hcl hsl => ?_) kk
  rw [szs_push, es] at hsl
  simp only [List.length_append, List.length_cons, List.length_nil] at hcl
  obtain ⟨T1, h1, cA, X1, e1, E1, A1, st1⟩ := newP X hx hZ w rfl (g := mkF m pc (ls.map (shS n0)).toArray (.int n :: st.map (shV n0))) rfl (hb hc hd) rfl hn (cap := n.toNatClampNeg) (Nat.le_refl _) hb8 (by omega) (by omega)
  have hs1 := X1.heapSize
  have hlt : T.heap.size < h1.size := A1.lt
  have hh := hrel.1
  rw [e1] at hs1
  refine ⟨T1, _, _, _, X1, ?_, hfr, by simp only [List.length_append, List.length_cons, List.length_nil]; omega, by rw [szs_push, es]; omega, fun t q => st1 t ?_⟩
  · rw [e1]
    refine hrel.push E1 (by omega) ⟨_, A1, by rw [sz_new]; simp, by simpa using toNat_of hn, fun i x hx => ?_⟩
    rw [List.getElem?_replicate] at hx
    split at hx
    · rename_i hi
      cases hx
      have q1 : (newA cA (newarray.typeOf aty) n).slots[i]? = some (defaultValue (newarray.typeOf aty)) := by simp [newA, hi]
      exact ⟨by rw [q1]; cases newarray.typeOf aty <;> rfl, by cases newarray.typeOf aty <;> rfl⟩
    · cases hx
  · show Steps _ _ _ (T1.setTop (mkF m (pc + 2) _ (.ref T.heap.size :: _))) t
    rw [hh]; exact q
theorem fits_byte (x : Int32) : fits .byte (.int x.toInt8.toInt32) = true := by
  have h1 : (x.toInt8.toInt32).toInt = x.toInt8.toInt := Int8.toInt_toInt32 _
  have h2 := x.toInt8.toInt_lt
  have h3 := x.toInt8.le_toInt
  have e1 : (-128 : Int32).toInt = -128 := by decide
  have e2 : (127 : Int32).toInt = 127 := by decide
  simp only [fits, Bool.and_eq_true, decide_eq_true_eq]
  rw [Int32.le_iff_toInt_le, Int32.le_iff_toInt_le, h1, e1, e2]
  omega
/-- the int j names the place i -/
def Ix (j : Int32) (i : Nat) : Prop := ¬ j < 0 ∧ j.toNatClampNeg = i
theorem r_len {a : Nat} {ty : FieldType} {vs : List Value} {n : Int32} (hd : decode mi.2.1 pc = .ok (.arraylength, 1) ∧ pc + 1 = np) (ho : H[a]? = some (.inr (ty, vs))) (hn : vs.length.toInt32 = n) (kk : Runs K l Z n0 mi np ls (.int n :: st) H v H') : Runs K l Z n0 mi pc ls (.ref a :: st) H v H' := by
  obtain ⟨hd, rfl⟩ := hd
  subst hn
  refine Runs.heap (Nat.le_refl _) (Nat.le_refl _) (fun p e R s m args below meth c T locs cells slots X hx hZ hc hml hown hnm hrel hfr hf' hlo hsz hcl hsl => ?_) kk
  obtain ⟨cl, A, hs, hl, hv⟩ := hrel.2 a _ ho
  refine ⟨T, _, _, _, X, hrel, hfr, hsz, Nat.le_refl _, fun t q => ?_⟩
  refine X.arraylength hx A.1 (State.isArrayOf_alike hZ.alike A.2.1) (g := mkF m pc (ls.map (shS n0)).toArray (.ref (n0 + a) :: st.map (shV n0))) rfl rfl (hb hc hd) _ ?_
  rw [hs]; exact q
theorem r_iaload {a i : Nat} {vs : List Value} {j : Int32} {x : Value} (hd : decode mi.2.1 pc = .ok (.iaload, 1) ∧ pc + 1 = np) (ho : H[a]? = some (.inr (.int, vs))) (hj : Ix j i) (hv : vs[i]? = some x) (kk : Runs K l Z n0 mi np ls (x :: st) H v H') : Runs K l Z n0 mi pc ls (.int j :: .ref a :: st) H v H' := by
  obtain ⟨hd, rfl⟩ := hd
  obtain ⟨hj0, rfl⟩ := hj
  refine Runs.heap (Nat.le_refl _) (Nat.le_refl _) (fun p e R s m args below meth c T locs cells slots X hx hZ hc hml hown hnm hrel hfr hf' hlo hsz hcl hsl => ?_) kk
  obtain ⟨cl, A, hs, hl, hvs⟩ := hrel.2 a _ ho
  have hi := lt_of_at hv
  refine ⟨T, _, _, _, X, hrel, hfr, hsz, Nat.le_refl _, fun t q => ?_⟩
  exact X.iaload hx (j := j) (v := shV n0 x) A.1 (State.isArrayOf_alike hZ.alike A.2.1) A.2.2 (fun z => z.elim hj0 (fun q => by rw [hs] at q; omega)) (hvs _ _ hv).1 (g := mkF m pc (ls.map (shS n0)).toArray (.int j :: .ref (n0 + a) :: st.map (shV n0))) rfl rfl (hb hc hd) _ q
theorem r_laload {a i : Nat} {vs : List Value} {j : Int32} {x : Value} (hd : decode mi.2.1 pc = .ok (.laload, 1) ∧ pc + 1 = np) (ho : H[a]? = some (.inr (.long, vs))) (hj : Ix j i) (hv : vs[i]? = some x) (kk : Runs K l Z n0 mi np ls (x :: st) H v H') : Runs K l Z n0 mi pc ls (.int j :: .ref a :: st) H v H' := by
  obtain ⟨hd, rfl⟩ := hd
  obtain ⟨hj0, rfl⟩ := hj
  refine Runs.heap (Nat.le_refl _) (Nat.le_refl _) (fun p e R s m args below meth c T locs cells slots X hx hZ hc hml hown hnm hrel hfr hf' hlo hsz hcl hsl => ?_) kk
  obtain ⟨cl, A, hs, hl, hvs⟩ := hrel.2 a _ ho
  have hi := lt_of_at hv
  refine ⟨T, _, _, _, X, hrel, hfr, hsz, Nat.le_refl _, fun t q => ?_⟩
  exact X.laload hx (j := j) (v := shV n0 x) A.1 (State.isArrayOf_alike hZ.alike A.2.1) A.2.2 (fun z => z.elim hj0 (fun q => by rw [hs] at q; omega)) (hvs _ _ hv).1 (g := mkF m pc (ls.map (shS n0)).toArray (.int j :: .ref (n0 + a) :: st.map (shV n0))) rfl rfl (hb hc hd) _ q
theorem r_baload {a i : Nat} {vs : List Value} {j : Int32} {x : Value} (hd : decode mi.2.1 pc = .ok (.baload, 1) ∧ pc + 1 = np) (ho : H[a]? = some (.inr (.byte, vs))) (hj : Ix j i) (hv : vs[i]? = some x) (kk : Runs K l Z n0 mi np ls (x :: st) H v H') : Runs K l Z n0 mi pc ls (.int j :: .ref a :: st) H v H' := by
  obtain ⟨hd, rfl⟩ := hd
  obtain ⟨hj0, rfl⟩ := hj
  refine Runs.heap (Nat.le_refl _) (Nat.le_refl _) (fun p e R s m args below meth c T locs cells slots X hx hZ hc hml hown hnm hrel hfr hf' hlo hsz hcl hsl => ?_) kk
  obtain ⟨cl, A, hs, hl, hvs⟩ := hrel.2 a _ ho
  have hi := lt_of_at hv
  refine ⟨T, _, _, _, X, hrel, hfr, hsz, Nat.le_refl _, fun t q => ?_⟩
  exact X.baloadBytes hx (j := j) (v := shV n0 x) A.1 (State.isArrayOf_alike hZ.alike A.2.1) A.2.2 (fun z => z.elim hj0 (fun q => by rw [hs] at q; omega)) (hvs _ _ hv).1 (g := mkF m pc (ls.map (shS n0)).toArray (.int j :: .ref (n0 + a) :: st.map (shV n0))) rfl rfl (hb hc hd) _ q
theorem r_caload {a i : Nat} {vs : List Value} {j : Int32} {x : Value} (hd : decode mi.2.1 pc = .ok (.caload, 1) ∧ pc + 1 = np) (ho : H[a]? = some (.inr (.char, vs))) (hj : Ix j i) (hv : vs[i]? = some x) (kk : Runs K l Z n0 mi np ls (x :: st) H v H') : Runs K l Z n0 mi pc ls (.int j :: .ref a :: st) H v H' := by
  obtain ⟨hd, rfl⟩ := hd
  obtain ⟨hj0, rfl⟩ := hj
  refine Runs.heap (Nat.le_refl _) (Nat.le_refl _) (fun p e R s m args below meth c T locs cells slots X hx hZ hc hml hown hnm hrel hfr hf' hlo hsz hcl hsl => ?_) kk
  obtain ⟨cl, A, hs, hl, hvs⟩ := hrel.2 a _ ho
  have hi := lt_of_at hv
  refine ⟨T, _, _, _, X, hrel, hfr, hsz, Nat.le_refl _, fun t q => ?_⟩
  exact X.caload hx (j := j) (v := shV n0 x) A.1 (State.isArrayOf_alike hZ.alike A.2.1) A.2.2 (fun z => z.elim hj0 (fun q => by rw [hs] at q; omega)) (hvs _ _ hv).1 (g := mkF m pc (ls.map (shS n0)).toArray (.int j :: .ref (n0 + a) :: st.map (shV n0))) rfl rfl (hb hc hd) _ q
theorem r_iastore {a i : Nat} {vs vs' : List Value} {j : Int32} {x : Int32} (hd : decode mi.2.1 pc = .ok (.iastore, 1) ∧ pc + 1 = np) (ho : H[a]? = some (.inr (.int, vs))) (hj : Ix j i) (hi : i < vs.length) (hvs : vs.set i (.int x) = vs') (hH : H.set a (.inr (.int, vs')) = H1) (kk : Runs K l Z n0 mi np ls st H1 v H') : Runs K l Z n0 mi pc ls (.int x :: .int j :: .ref a :: st) H v H' := by
  obtain ⟨hd, rfl⟩ := hd
  obtain ⟨hj0, rfl⟩ := hj
  subst hvs hH
  have ha := lt_of_at ho
  have es : szs K (H.set a (.inr (.int, vs.set j.toNatClampNeg (.int x)))) = szs K H := szs_set ho (by show (List.set _ _ _).length = _; simp [osz])
  refine Runs.heap (by rw [List.length_set]; exact Nat.le_refl _) (by rw [es]; exact Nat.le_refl _) (fun p e R s m args below meth c T locs cells slots X hx hZ hc hml hown hnm hrel hfr hf' hlo hsz hcl hsl => ?_) kk
  obtain ⟨cl, A, hs, hl, hvs⟩ := hrel.2 a _ ho
  have hin : ¬ (j < 0 ∨ cl.slots.size ≤ j.toNatClampNeg) := fun z => z.elim hj0 (fun q => by rw [hs] at q; omega)
  obtain ⟨T1, h1, X1, e1, W1, st1⟩ := stI X hx hZ rfl A hin (g := mkF m pc (ls.map (shS n0)).toArray (.int x :: .int j :: .ref (n0 + a) :: st.map (shV n0))) rfl rfl (hb hc hd)
  refine ⟨T1, _, _, _, X1, ?_, Fr.snoc X1 hfr (Nat.le_add_right _ _), by rw [List.length_set]; exact hsz, by rw [es]; exact Nat.le_refl _, st1⟩
  rw [e1]
  refine hrel.put W1 ha ⟨_, A.same W1, by rw [sz_set, hs, List.length_set], by rw [List.length_set]; exact hl, fun k y hy => ?_⟩
  by_cases e : j.toNatClampNeg = k
  · subst e
    rw [List.getElem?_set_self hi] at hy
    cases hy
    exact ⟨by simp [Cell.setSlot, hs, hi, shV, nar], rfl⟩
  · rw [List.getElem?_set_ne e] at hy
    refine ⟨?_, (hvs k y hy).2⟩
    exact (Array.getElem?_setIfInBounds_ne e).trans (hvs k y hy).1
theorem r_lastore {a i : Nat} {vs vs' : List Value} {j : Int32} {x : Int64} (hd : decode mi.2.1 pc = .ok (.lastore, 1) ∧ pc + 1 = np) (ho : H[a]? = some (.inr (.long, vs))) (hj : Ix j i) (hi : i < vs.length) (hvs : vs.set i (.long x) = vs') (hH : H.set a (.inr (.long, vs')) = H1) (kk : Runs K l Z n0 mi np ls st H1 v H') : Runs K l Z n0 mi pc ls (.long x :: .int j :: .ref a :: st) H v H' := by
  obtain ⟨hd, rfl⟩ := hd
  obtain ⟨hj0, rfl⟩ := hj
  subst hvs hH
  have ha := lt_of_at ho
  have es : szs K (H.set a (.inr (.long, vs.set j.toNatClampNeg (.long x)))) = szs K H := szs_set ho (by show (List.set _ _ _).length = _; simp [osz])
  refine Runs.heap (by rw [List.length_set]; exact Nat.le_refl _) (by rw [es]; exact Nat.le_refl _) (fun p e R s m args below meth c T locs cells slots X hx hZ hc hml hown hnm hrel hfr hf' hlo hsz hcl hsl => ?_) kk
  obtain ⟨cl, A, hs, hl, hvs⟩ := hrel.2 a _ ho
  have hin : ¬ (j < 0 ∨ cl.slots.size ≤ j.toNatClampNeg) := fun z => z.elim hj0 (fun q => by rw [hs] at q; omega)
  obtain ⟨T1, h1, X1, e1, W1, st1⟩ := stJ X hx hZ rfl A hin (g := mkF m pc (ls.map (shS n0)).toArray (.long x :: .int j :: .ref (n0 + a) :: st.map (shV n0))) rfl rfl (hb hc hd)
  refine ⟨T1, _, _, _, X1, ?_, Fr.snoc X1 hfr (Nat.le_add_right _ _), by rw [List.length_set]; exact hsz, by rw [es]; exact Nat.le_refl _, st1⟩
  rw [e1]
  refine hrel.put W1 ha ⟨_, A.same W1, by rw [sz_set, hs, List.length_set], by rw [List.length_set]; exact hl, fun k y hy => ?_⟩
  by_cases e : j.toNatClampNeg = k
  · subst e
    rw [List.getElem?_set_self hi] at hy
    cases hy
    exact ⟨by simp [Cell.setSlot, hs, hi, shV, nar], rfl⟩
  · rw [List.getElem?_set_ne e] at hy
    refine ⟨?_, (hvs k y hy).2⟩
    exact (Array.getElem?_setIfInBounds_ne e).trans (hvs k y hy).1
theorem r_bastore {a i : Nat} {vs vs' : List Value} {j : Int32} {x : Int32} (hd : decode mi.2.1 pc = .ok (.bastore, 1) ∧ pc + 1 = np) (ho : H[a]? = some (.inr (.byte, vs))) (hj : Ix j i) (hi : i < vs.length) (hvs : vs.set i (.int x.toInt8.toInt32) = vs') (hH : H.set a (.inr (.byte, vs')) = H1) (kk : Runs K l Z n0 mi np ls st H1 v H') : Runs K l Z n0 mi pc ls (.int x :: .int j :: .ref a :: st) H v H' := by
  obtain ⟨hd, rfl⟩ := hd
  obtain ⟨hj0, rfl⟩ := hj
  subst hvs hH
  have ha := lt_of_at ho
  have es : szs K (H.set a (.inr (.byte, vs.set j.toNatClampNeg (.int x.toInt8.toInt32)))) = szs K H := szs_set ho (by show (List.set _ _ _).length = _; simp [osz])
  refine Runs.heap (by rw [List.length_set]; exact Nat.le_refl _) (by rw [es]; exact Nat.le_refl _) (fun p e R s m args below meth c T locs cells slots X hx hZ hc hml hown hnm hrel hfr hf' hlo hsz hcl hsl => ?_) kk
  obtain ⟨cl, A, hs, hl, hvs⟩ := hrel.2 a _ ho
  have hin : ¬ (j < 0 ∨ cl.slots.size ≤ j.toNatClampNeg) := fun z => z.elim hj0 (fun q => by rw [hs] at q; omega)
  obtain ⟨T1, h1, X1, e1, W1, st1⟩ := stB X hx hZ rfl A hin (g := mkF m pc (ls.map (shS n0)).toArray (.int x :: .int j :: .ref (n0 + a) :: st.map (shV n0))) rfl rfl (hb hc hd)
  refine ⟨T1, _, _, _, X1, ?_, Fr.snoc X1 hfr (Nat.le_add_right _ _), by rw [List.length_set]; exact hsz, by rw [es]; exact Nat.le_refl _, st1⟩
  rw [e1]
  refine hrel.put W1 ha ⟨_, A.same W1, by rw [sz_set, hs, List.length_set], by rw [List.length_set]; exact hl, fun k y hy => ?_⟩
  by_cases e : j.toNatClampNeg = k
  · subst e
    rw [List.getElem?_set_self hi] at hy
    cases hy
    exact ⟨by simp [Cell.setSlot, hs, hi, shV, nar], fits_byte x⟩
  · rw [List.getElem?_set_ne e] at hy
    refine ⟨?_, (hvs k y hy).2⟩
    exact (Array.getElem?_setIfInBounds_ne e).trans (hvs k y hy).1
/-! ### calls -/
theorem map_toList (w : Option Value) (rest : List Value) : ((w.toList ++ rest).map (shV n0)) = (w.map (shV n0)).toList ++ rest.map (shV n0) := by cases w <;> simp
theorem r_initO {a idx : Nat} (hd : decode mi.2.1 pc = .ok (.invokespecial idx, 3) ∧ pc + 3 = np) (w1 : (Jvm.Cond.methodLink mi.1.cls idx Lib.objectInit).before a0 Z = true) (w2 : (Jvm.Cond.instanceMethod Lib.objectInit).before a0 Z = true) (w3 : (Jvm.Cond.code Lib.objectInit ⟨#[0xb1]⟩ 1 none).before a0 Z = true)
    (hls : ls.length = mi.2.2.1) (hf : 1 ≤ mi.2.2.2.2.1) (hlo : (st.map fun v => v.category).sum + 12 ≤ mi.2.2.2.2.2) (kk : Runs K l Z n0 mi np ls st H v H') : Runs K l Z n0 mi pc ls (.ref a :: st) H v H' := by
  obtain ⟨hd, rfl⟩ := hd
  refine Runs.heap (Nat.le_refl _) (Nat.le_refl _) (fun p e R s m args below meth c T locs cells slots X hx hZ hc hml hown hnm hrel hfr hf' hlo' hsz hcl hsl => ?_) kk
  obtain ⟨T1, X1, e1, st1⟩ := initO X hx hZ hown w1 w2 w3 rfl (g := mkF m pc (ls.map (shS n0)).toArray (.ref (n0 + a) :: st.map (shV n0))) rfl (by rw [hml, ← hls]; simp) rfl (hb hc hd) (by omega) (W := (st.map fun v => v.category).sum) (by rw [cats_sh]; show 2 * 0 + _ ≤ _; omega) (by omega)
  exact ⟨T1, _, _, _, X1, by rw [e1]; exact hrel, hfr, hsz, Nat.le_refl _, st1⟩
theorem backM {mj : MI} {as : List Value} {w : Option Value} {h : Heap} {p : Program} {e : Env} {R : Room} {s : State} {args : Array Value} {below : List Frame} {len W : Nat} (M : Meets K l Z n0 mj as H w H1) (hrel : Rel K Z n0 H h) (hZ : Z.Warmed39 s.vm) (w4 : (Jvm.Cond.code mj.1 mj.2.1 mj.2.2.1 mj.2.2.2.1).before a0 Z = true) (w3 : (Jvm.Cond.initialized mj.1.cls).before a0 Z = true)
    (hf : mj.2.2.2.2.1 + 1 ≤ R.frames) (hl : W + (mj.2.2.1 + 11) + mj.2.2.2.2.2 ≤ R.locals) :
    Back l R p e below s args mj.1 len W (fun A a => a = (as.map (shV n0)).toArray ∧ A.U.heap = h ∧ A.cells + (H1.length - H.length) ≤ R.cells ∧ A.slots + (szs K H1 - szs K H) ≤ R.slots)
      (fun A _ v B => ∃ L, (v = w.map (shV n0) ∧ Rel K Z n0 H1 B.U.heap ∧ Fr n0 L) ∧ B.locs = A.locs ++ L ∧ B.cells = A.cells + (H1.length - H.length) ∧ B.slots = A.slots + (szs K H1 - szs K H)) :=
  backOf (rm := rmOf K mj H H1) (Q := fun v h L => v = w.map (shV n0) ∧ Rel K Z n0 H1 h ∧ Fr n0 L) (M.2.2 h hrel) hZ w4 w3 hf hl
theorem r_static {mj : MI} {as : List Value} {w : Option Value} {idx : Nat} (hd : decode mi.2.1 pc = .ok (.invokestatic idx, 3) ∧ pc + 3 = np) (w1 : (Jvm.Cond.methodLink mi.1.cls idx mj.1).before a0 Z = true) (w2 : (Jvm.Cond.static mj.1).before a0 Z = true) (w3 : (Jvm.Cond.initialized mj.1.cls).before a0 Z = true) (w4 : (Jvm.Cond.code mj.1 mj.2.1 mj.2.2.1 mj.2.2.2.1).before a0 Z = true)
    (hy : mj.1.cls ≠ "java/lang/invoke/MethodHandle" ∧ mj.1.cls ≠ "java/lang/invoke/VarHandle") (hlen : ∀ sig, parseMethodDescriptor mj.1.desc = some sig → as.length = sig.parameters.length) (hfr : mj.2.2.2.2.1 + 1 ≤ mi.2.2.2.2.1)
    (hst : as.reverse ++ rest = st) (hls : ls.length = mi.2.2.1) (hlo : (rest.map fun v => v.category).sum + (mj.2.2.1 + 11) + mj.2.2.2.2.2 ≤ mi.2.2.2.2.2)
    (M : Meets K l Z n0 mj as H w H1) (kk : Runs K l Z n0 mi np ls (w.toList ++ rest) H1 v H') : Runs K l Z n0 mi pc ls st H v H' := by
  obtain ⟨hd, rfl⟩ := hd
  subst hst
  have m1 := M.1
  have m2 := M.2.1
  refine Runs.heap m1 m2 (fun p e R s m args below meth c T locs cells slots X hx hZ hc hml hown hnm hrel hfr' hf' hlo' hsz hcl hsl => ?_) kk
  obtain ⟨_, _, ⟨T1, L1, k1, n1⟩, -, X1, ⟨Lc, hQ, l1, y1, z1⟩, st1⟩ := Jvm.LawKit.callS X hx (y := mj.1) hown (mvT hZ w1) (mvT hZ w2) (mvT hZ w3) (mvT hZ w4) hy
    (backM (W := (rest.map fun v => v.category).sum) M hrel hZ w4 w3 (by omega) (by omega))
    (g := mkF m pc (ls.map (shS n0)).toArray ((as.reverse ++ rest).map (shV n0))) rfl (by rw [hml, ← hls]; simp) (argsL := as.map (shV n0)) (rest := rest.map (shV n0)) (fun sig q => by rw [List.length_map]; exact hlen sig q) (by simp) (by rw [cats_sh]; show 2 * 0 + _ ≤ _; omega) (hb hc hd)
    (fun _ _ => ⟨rfl, rfl, (by show cells + (H1.length - H.length) ≤ _; omega), (by show slots + (szs K H1 - szs K H) ≤ _; omega)⟩)
  dsimp only [Pt.U, Pt.locs, Pt.cells, Pt.slots] at X1 l1 y1 z1 st1 hQ
  subst l1 y1 z1
  obtain ⟨rfl, R1, F1⟩ := hQ
  refine ⟨T1, _, _, _, X1, R1, Fr.app hfr' F1, by show s.heap.size + (cells + (H1.length - H.length)) = _; omega, by show slots + (szs K H1 - szs K H) + _ ≤ _; omega, fun t q => st1 t ?_⟩
  rw [map_toList] at q; exact q
theorem r_special {mj : MI} {as : List Value} {a idx : Nat} (hd : decode mi.2.1 pc = .ok (.invokespecial idx, 3) ∧ pc + 3 = np) (hy1 : mj.1.name = "<init>") (hr : mj.2.2.2.1 = none) (w1 : (Jvm.Cond.methodLink mi.1.cls idx mj.1).before a0 Z = true) (w2 : (Jvm.Cond.instanceMethod mj.1).before a0 Z = true) (w3 : (Jvm.Cond.initialized mj.1.cls).before a0 Z = true) (w4 : (Jvm.Cond.code mj.1 mj.2.1 mj.2.2.1 mj.2.2.2.1).before a0 Z = true)
    (hy : mj.1.cls ≠ "java/lang/invoke/MethodHandle" ∧ mj.1.cls ≠ "java/lang/invoke/VarHandle") (hlen : ∀ sig, parseMethodDescriptor mj.1.desc = some sig → as.length = sig.parameters.length) (hfr : mj.2.2.2.2.1 + 1 ≤ mi.2.2.2.2.1)
    (hst : as.reverse ++ .ref a :: rest = st) (hls : ls.length = mi.2.2.1) (hlo : (rest.map fun v => v.category).sum + (mj.2.2.1 + 11) + mj.2.2.2.2.2 ≤ mi.2.2.2.2.2)
    (M : Meets K l Z n0 mj (.ref a :: as) H none H1) (kk : Runs K l Z n0 mi np ls rest H1 v H') : Runs K l Z n0 mi pc ls st H v H' := by
  obtain ⟨hd, rfl⟩ := hd
  subst hst
  have m1 := M.1
  have m2 := M.2.1
  refine Runs.heap m1 m2 (fun p e R s m args below meth c T locs cells slots X hx hZ hc hml hown hnm hrel hfr' hf' hlo' hsz hcl hsl => ?_) kk
  have w4' := w4
  rw [hr] at w4'
  obtain ⟨_, _, ⟨T1, L1, k1, n1⟩, -, X1, ⟨Lc, hQ, l1, y1, z1⟩, st1⟩ := X.specialBack hx (y := mj.1) hy1 hown (mvT hZ w1) (mvT hZ w2) (mvT hZ w4') hy
    (backM (W := (rest.map fun v => v.category).sum) M hrel hZ w4 w3 (by omega) (by omega))
    (g := mkF m pc (ls.map (shS n0)).toArray ((as.reverse ++ .ref a :: rest).map (shV n0))) rfl (by rw [hml, ← hls]; simp) (Steps.refl _) (a := n0 + a) (argsL := as.map (shV n0)) (rest := rest.map (shV n0)) (fun sig q => by rw [List.length_map]; exact hlen sig q) (by simp [shV]) (by rw [cats_sh]; show 2 * 0 + _ ≤ _; omega) (hb hc hd)
    (fun _ _ => ⟨rfl, rfl, (by show cells + (H1.length - H.length) ≤ _; omega), (by show slots + (szs K H1 - szs K H) ≤ _; omega)⟩)
  dsimp only [Pt.U, Pt.locs, Pt.cells, Pt.slots] at X1 l1 y1 z1 st1 hQ
  subst l1 y1 z1
  obtain ⟨rfl, R1, F1⟩ := hQ
  exact ⟨T1, _, _, _, X1, R1, Fr.app hfr' F1, by show s.heap.size + (cells + (H1.length - H.length)) = _; omega, by show slots + (szs K H1 - szs K H) + _ ≤ _; omega, fun t q => st1.trans q⟩
theorem r_virtual {mj : MI} {as : List Value} {w : Option Value} {a cid idx : Nat} {ci : CI} {vs : List Value} (hd : decode mi.2.1 pc = .ok (.invokevirtual idx, 3) ∧ pc + 3 = np) (w1 : (Jvm.Cond.methodLink mi.1.cls idx mj.1).before a0 Z = true) (w2 : (Jvm.Cond.declares mj.1).before a0 Z = true) (w5 : (Jvm.Cond.selects ci.1 mj.1 mj.1).before a0 Z = true) (w6 : (Jvm.Cond.instanceMethod mj.1).before a0 Z = true) (w3 : (Jvm.Cond.initialized mj.1.cls).before a0 Z = true) (w4 : (Jvm.Cond.code mj.1 mj.2.1 mj.2.2.1 mj.2.2.2.1).before a0 Z = true)
    (hy : mj.1.cls ≠ "java/lang/invoke/MethodHandle" ∧ mj.1.cls ≠ "java/lang/invoke/VarHandle") (hlen : ∀ sig, parseMethodDescriptor mj.1.desc = some sig → as.length = sig.parameters.length) (hfr : mj.2.2.2.2.1 + 1 ≤ mi.2.2.2.2.1) (hci : K[cid]? = some ci)
    (hst : as.reverse ++ .ref a :: rest = st) (ho : H[a]? = some (.inl (cid, vs))) (hls : ls.length = mi.2.2.1) (hlo : (rest.map fun v => v.category).sum + (mj.2.2.1 + 11) + mj.2.2.2.2.2 ≤ mi.2.2.2.2.2)
    (M : Meets K l Z n0 mj (.ref a :: as) H w H1) (kk : Runs K l Z n0 mi np ls (w.toList ++ rest) H1 v H') : Runs K l Z n0 mi pc ls st H v H' := by
  obtain ⟨hd, rfl⟩ := hd
  subst hst
  have m1 := M.1
  have m2 := M.2.1
  refine Runs.heap m1 m2 (fun p e R s m args below meth c T locs cells slots X hx hZ hc hml hown hnm hrel hfr' hf' hlo' hsz hcl hsl => ?_) kk
  obtain ⟨ci', q1, E, F⟩ := hrel.2 a _ ho
  cases hci.symm.trans q1
  obtain ⟨cq, kq, qa, qb, qc⟩ := isOf hZ rfl E
  obtain ⟨_, _, ⟨T1, L1, k1, n1⟩, -, X1, ⟨Lc, hQ, l1, y1, z1⟩, st1⟩ := X.virtualBack hx (y := mj.1) (z := mj.1) hown (mvT hZ w1) (mvT hZ w2) (notFace_of_selects (args := #[]) (mvT hZ w5)) (mvT hZ w5) (mvT hZ w6) hy
    (backM (W := (rest.map fun v => v.category).sum) M hrel hZ w4 w3 (by omega) (by omega)) qa qc
    (g := mkF m pc (ls.map (shS n0)).toArray ((as.reverse ++ .ref a :: rest).map (shV n0))) rfl (by rw [hml, ← hls]; simp) (Steps.refl _) (argsL := as.map (shV n0)) (rest := rest.map (shV n0)) (fun sig q => by rw [List.length_map]; exact hlen sig q) (by simp [shV]) (by rw [cats_sh]; show 2 * 0 + _ ≤ _; omega) (hb hc hd)
    (fun _ _ => ⟨rfl, rfl, (by show cells + (H1.length - H.length) ≤ _; omega), (by show slots + (szs K H1 - szs K H) ≤ _; omega)⟩)
  dsimp only [Pt.U, Pt.locs, Pt.cells, Pt.slots] at X1 l1 y1 z1 st1 hQ
  subst l1 y1 z1
  obtain ⟨rfl, R1, F1⟩ := hQ
  refine ⟨T1, _, _, _, X1, R1, Fr.app hfr' F1, by show s.heap.size + (cells + (H1.length - H.length)) = _; omega, by show slots + (szs K H1 - szs K H) + _ ≤ _; omega, fun t q => st1.trans ?_⟩
  rw [map_toList] at q; exact q
theorem r_private {mj : MI} {as : List Value} {w : Option Value} {a cid idx : Nat} {ci : CI} {vs : List Value} (hd : decode mi.2.1 pc = .ok (.invokevirtual idx, 3) ∧ pc + 3 = np) (w1 : (Jvm.Cond.methodLink mi.1.cls idx mj.1).before a0 Z = true) (w5 : (Jvm.Cond.selects mj.1.cls mj.1 mj.1).before a0 Z = true) (w7 : (Jvm.Cond.privateMethod mj.1).before a0 Z = true) (w6 : (Jvm.Cond.instanceMethod mj.1).before a0 Z = true) (w3 : (Jvm.Cond.initialized mj.1.cls).before a0 Z = true) (w4 : (Jvm.Cond.code mj.1 mj.2.1 mj.2.2.1 mj.2.2.2.1).before a0 Z = true)
    (hy : mj.1.cls ≠ "java/lang/invoke/MethodHandle" ∧ mj.1.cls ≠ "java/lang/invoke/VarHandle") (hlen : ∀ sig, parseMethodDescriptor mj.1.desc = some sig → as.length = sig.parameters.length) (hfr : mj.2.2.2.2.1 + 1 ≤ mi.2.2.2.2.1) (hci : K[cid]? = some ci)
    (hst : as.reverse ++ .ref a :: rest = st) (ho : H[a]? = some (.inl (cid, vs))) (hls : ls.length = mi.2.2.1) (hlo : (rest.map fun v => v.category).sum + (mj.2.2.1 + 11) + mj.2.2.2.2.2 ≤ mi.2.2.2.2.2)
    (M : Meets K l Z n0 mj (.ref a :: as) H w H1) (kk : Runs K l Z n0 mi np ls (w.toList ++ rest) H1 v H') : Runs K l Z n0 mi pc ls st H v H' := by
  obtain ⟨hd, rfl⟩ := hd
  subst hst
  have m1 := M.1
  have m2 := M.2.1
  refine Runs.heap m1 m2 (fun p e R s m args below meth c T locs cells slots X hx hZ hc hml hown hnm hrel hfr' hf' hlo' hsz hcl hsl => ?_) kk
  obtain ⟨ci', q1, E, F⟩ := hrel.2 a _ ho
  cases hci.symm.trans q1
  obtain ⟨cq, qa, qc⟩ := E.cell
  obtain ⟨_, _, ⟨T1, L1, k1, n1⟩, -, X1, ⟨Lc, hQ, l1, y1, z1⟩, st1⟩ := X.privateBack hx (y := mj.1) hown (mvT hZ w1) (mvT hZ w6) (mvT hZ w5) (Cond.privateMethod_at (mvP hZ w7 (args := #[]))) (mvT hZ w4) hy
    (backM (W := (rest.map fun v => v.category).sum) M hrel hZ w4 w3 (by omega) (by omega))
    (g := mkF m pc (ls.map (shS n0)).toArray ((as.reverse ++ .ref a :: rest).map (shV n0))) rfl (by rw [hml, ← hls]; simp) (Steps.refl _) (a := n0 + a) qa qc (argsL := as.map (shV n0)) (rest := rest.map (shV n0)) (fun sig q => by rw [List.length_map]; exact hlen sig q) (by simp [shV]) (by rw [cats_sh]; show 2 * 0 + _ ≤ _; omega) (hb hc hd)
    (fun _ _ => ⟨rfl, rfl, (by show cells + (H1.length - H.length) ≤ _; omega), (by show slots + (szs K H1 - szs K H) ≤ _; omega)⟩)
  dsimp only [Pt.U, Pt.locs, Pt.cells, Pt.slots] at X1 l1 y1 z1 st1 hQ
  subst l1 y1 z1
  obtain ⟨rfl, R1, F1⟩ := hQ
  refine ⟨T1, _, _, _, X1, R1, Fr.app hfr' F1, by show s.heap.size + (cells + (H1.length - H.length)) = _; omega, by show slots + (szs K H1 - szs K H) + _ ≤ _; omega, fun t q => st1.trans ?_⟩
  rw [map_toList] at q; exact q
end Logic
abbrev HW (Z : State) (a0 : Array Value) : Prop := ∀ d ∈ tables_1, d.before a0 Z = true
def K : List CI := []
theorem allL0 {α : Type} {P : α → Prop} : ∀ x ∈ ([] : List α), P x := fun _ q => nomatch q
theorem allLS {α : Type} {P : α → Prop} {y : α} {L : List α} (q : P y) (r : ∀ x ∈ L, P x) : ∀ x ∈ y :: L, P x := fun x z => (List.mem_cons.mp z).elim (fun u => u ▸ q) (r x)
theorem kok {Z : State} {a0 : Array Value} (hw : HW Z a0) : KOk K Z a0 := by
  intro k ci h
  simp [K] at h
def m0 : MI := (x, code, 14, some .boolean, 1, 18)
def m1 : MI := (⟨"com/example/features_at_odds/featuresatodds/search/GroundingItemOfPinLaw", "inc", "(JI)I"⟩, method_2_code, 4, some .int, 0, 0)
def m2 : MI := (⟨"com/example/features_at_odds/featuresatodds/search/Grounding", "itemOf", "([II)I"⟩, prog_31_method_2_code, 5, some .int, 0, 0)
theorem pd0 : parseMethodDescriptor "(IJII)Z" = some ⟨[.int, .long, .int, .int], some .boolean⟩ := by decide +kernel
theorem pf0 : plainFor m0.1 = true := by first | exact plainFor_of_name (by first | (simp [m0, x, plainName, overriddenIn]; done) | decide +kernel) | decide +kernel
theorem pd1 : parseMethodDescriptor "(JI)I" = some ⟨[.long, .int], some .int⟩ := by decide +kernel
theorem pf1 : plainFor m1.1 = true := by first | exact plainFor_of_name (by first | (simp [m1, x, plainName, overriddenIn]; done) | decide +kernel) | decide +kernel
theorem pd2 : parseMethodDescriptor "([II)I" = some ⟨[(.array .int), .int], some .int⟩ := by decide +kernel
theorem pf2 : plainFor m2.1 = true := by first | exact plainFor_of_name (by first | (simp [m2, x, plainName, overriddenIn]; done) | decide +kernel) | decide +kernel
theorem i0_0 : decode m0.2.1 0 = .ok (.iload_n 0, 1) ∧ 0 + 1 = 1 := ⟨by decide +kernel, rfl⟩
theorem i0_1 : decode m0.2.1 1 = .ok (.iconst 2, 1) ∧ 1 + 1 = 2 ∧ Int32.ofInt 2 = 2 := ⟨by decide +kernel, rfl, by decide⟩
theorem i0_2 : decode m0.2.1 2 = .ok (.iushr, 1) ∧ 2 + 1 = 3 := ⟨by decide +kernel, rfl⟩
theorem i0_3 : decode m0.2.1 3 = .ok (.istore 5, 2) ∧ 3 + 2 = 5 := ⟨by decide +kernel, rfl⟩
theorem i0_5 : decode m0.2.1 5 = .ok (.bipush 6, 2) ∧ 5 + 2 = 7 ∧ (Int8.ofInt 6).toInt32 = 6 := ⟨by decide +kernel, rfl, by decide⟩
theorem i0_7 : decode m0.2.1 7 = .ok (.newarray .int, 2) ∧ 7 + 2 = 9 := ⟨by decide +kernel, rfl⟩
theorem i0_9 : decode m0.2.1 9 = .ok (.astore 6, 2) ∧ 9 + 2 = 11 := ⟨by decide +kernel, rfl⟩
theorem i0_11 : decode m0.2.1 11 = .ok (.iconst 3, 1) ∧ 11 + 1 = 12 ∧ Int32.ofInt 3 = 3 := ⟨by decide +kernel, rfl, by decide⟩
theorem i0_12 : decode m0.2.1 12 = .ok (.newarray .int, 2) ∧ 12 + 2 = 14 := ⟨by decide +kernel, rfl⟩
theorem i0_14 : decode m0.2.1 14 = .ok (.astore 7, 2) ∧ 14 + 2 = 16 := ⟨by decide +kernel, rfl⟩
theorem i0_16 : decode m0.2.1 16 = .ok (.aload 6, 2) ∧ 16 + 2 = 18 := ⟨by decide +kernel, rfl⟩
theorem i0_18 : decode m0.2.1 18 = .ok (.iconst 0, 1) ∧ 18 + 1 = 19 ∧ Int32.ofInt 0 = 0 := ⟨by decide +kernel, rfl, by decide⟩
theorem i0_19 : decode m0.2.1 19 = .ok (.iload 5, 2) ∧ 19 + 2 = 21 := ⟨by decide +kernel, rfl⟩
theorem i0_21 : decode m0.2.1 21 = .ok (.iastore, 1) ∧ 21 + 1 = 22 := ⟨by decide +kernel, rfl⟩
theorem i0_22 : decode m0.2.1 22 = .ok (.aload 6, 2) ∧ 22 + 2 = 24 := ⟨by decide +kernel, rfl⟩
theorem i0_24 : decode m0.2.1 24 = .ok (.iconst 1, 1) ∧ 24 + 1 = 25 ∧ Int32.ofInt 1 = 1 := ⟨by decide +kernel, rfl, by decide⟩
theorem i0_25 : decode m0.2.1 25 = .ok (.aload 6, 2) ∧ 25 + 2 = 27 := ⟨by decide +kernel, rfl⟩
theorem i0_27 : decode m0.2.1 27 = .ok (.iconst 0, 1) ∧ 27 + 1 = 28 ∧ Int32.ofInt 0 = 0 := ⟨by decide +kernel, rfl, by decide⟩
theorem i0_28 : decode m0.2.1 28 = .ok (.iaload, 1) ∧ 28 + 1 = 29 := ⟨by decide +kernel, rfl⟩
theorem i0_29 : decode m0.2.1 29 = .ok (.lload_n 1, 1) ∧ 29 + 1 = 30 := ⟨by decide +kernel, rfl⟩
theorem i0_30 : decode m0.2.1 30 = .ok (.iconst 0, 1) ∧ 30 + 1 = 31 ∧ Int32.ofInt 0 = 0 := ⟨by decide +kernel, rfl, by decide⟩
theorem i0_31 : decode m0.2.1 31 = .ok (.invokestatic 9, 3) ∧ 31 + 3 = 34 := ⟨by decide +kernel, rfl⟩
theorem i0_34 : decode m0.2.1 34 = .ok (.iadd, 1) ∧ 34 + 1 = 35 := ⟨by decide +kernel, rfl⟩
theorem i0_35 : decode m0.2.1 35 = .ok (.iastore, 1) ∧ 35 + 1 = 36 := ⟨by decide +kernel, rfl⟩
theorem i0_36 : decode m0.2.1 36 = .ok (.aload 6, 2) ∧ 36 + 2 = 38 := ⟨by decide +kernel, rfl⟩
theorem i0_38 : decode m0.2.1 38 = .ok (.iconst 2, 1) ∧ 38 + 1 = 39 ∧ Int32.ofInt 2 = 2 := ⟨by decide +kernel, rfl, by decide⟩
theorem i0_39 : decode m0.2.1 39 = .ok (.aload 6, 2) ∧ 39 + 2 = 41 := ⟨by decide +kernel, rfl⟩
theorem i0_41 : decode m0.2.1 41 = .ok (.iconst 1, 1) ∧ 41 + 1 = 42 ∧ Int32.ofInt 1 = 1 := ⟨by decide +kernel, rfl, by decide⟩
theorem i0_42 : decode m0.2.1 42 = .ok (.iaload, 1) ∧ 42 + 1 = 43 := ⟨by decide +kernel, rfl⟩
theorem i0_43 : decode m0.2.1 43 = .ok (.lload_n 1, 1) ∧ 43 + 1 = 44 := ⟨by decide +kernel, rfl⟩
theorem i0_44 : decode m0.2.1 44 = .ok (.iconst 1, 1) ∧ 44 + 1 = 45 ∧ Int32.ofInt 1 = 1 := ⟨by decide +kernel, rfl, by decide⟩
theorem i0_45 : decode m0.2.1 45 = .ok (.invokestatic 9, 3) ∧ 45 + 3 = 48 := ⟨by decide +kernel, rfl⟩
theorem i0_48 : decode m0.2.1 48 = .ok (.iadd, 1) ∧ 48 + 1 = 49 := ⟨by decide +kernel, rfl⟩
theorem i0_49 : decode m0.2.1 49 = .ok (.iastore, 1) ∧ 49 + 1 = 50 := ⟨by decide +kernel, rfl⟩
theorem i0_50 : decode m0.2.1 50 = .ok (.aload 6, 2) ∧ 50 + 2 = 52 := ⟨by decide +kernel, rfl⟩
theorem i0_52 : decode m0.2.1 52 = .ok (.iconst 3, 1) ∧ 52 + 1 = 53 ∧ Int32.ofInt 3 = 3 := ⟨by decide +kernel, rfl, by decide⟩
theorem i0_53 : decode m0.2.1 53 = .ok (.aload 6, 2) ∧ 53 + 2 = 55 := ⟨by decide +kernel, rfl⟩
theorem i0_55 : decode m0.2.1 55 = .ok (.iconst 2, 1) ∧ 55 + 1 = 56 ∧ Int32.ofInt 2 = 2 := ⟨by decide +kernel, rfl, by decide⟩
theorem i0_56 : decode m0.2.1 56 = .ok (.iaload, 1) ∧ 56 + 1 = 57 := ⟨by decide +kernel, rfl⟩
theorem i0_57 : decode m0.2.1 57 = .ok (.lload_n 1, 1) ∧ 57 + 1 = 58 := ⟨by decide +kernel, rfl⟩
theorem i0_58 : decode m0.2.1 58 = .ok (.iconst 2, 1) ∧ 58 + 1 = 59 ∧ Int32.ofInt 2 = 2 := ⟨by decide +kernel, rfl, by decide⟩
theorem i0_59 : decode m0.2.1 59 = .ok (.invokestatic 9, 3) ∧ 59 + 3 = 62 := ⟨by decide +kernel, rfl⟩
theorem i0_62 : decode m0.2.1 62 = .ok (.iadd, 1) ∧ 62 + 1 = 63 := ⟨by decide +kernel, rfl⟩
theorem i0_63 : decode m0.2.1 63 = .ok (.iastore, 1) ∧ 63 + 1 = 64 := ⟨by decide +kernel, rfl⟩
theorem i0_64 : decode m0.2.1 64 = .ok (.aload 6, 2) ∧ 64 + 2 = 66 := ⟨by decide +kernel, rfl⟩
theorem i0_66 : decode m0.2.1 66 = .ok (.iconst 4, 1) ∧ 66 + 1 = 67 ∧ Int32.ofInt 4 = 4 := ⟨by decide +kernel, rfl, by decide⟩
theorem i0_67 : decode m0.2.1 67 = .ok (.aload 6, 2) ∧ 67 + 2 = 69 := ⟨by decide +kernel, rfl⟩
theorem i0_69 : decode m0.2.1 69 = .ok (.iconst 3, 1) ∧ 69 + 1 = 70 ∧ Int32.ofInt 3 = 3 := ⟨by decide +kernel, rfl, by decide⟩
theorem i0_70 : decode m0.2.1 70 = .ok (.iaload, 1) ∧ 70 + 1 = 71 := ⟨by decide +kernel, rfl⟩
theorem i0_71 : decode m0.2.1 71 = .ok (.lload_n 1, 1) ∧ 71 + 1 = 72 := ⟨by decide +kernel, rfl⟩
theorem i0_72 : decode m0.2.1 72 = .ok (.iconst 3, 1) ∧ 72 + 1 = 73 ∧ Int32.ofInt 3 = 3 := ⟨by decide +kernel, rfl, by decide⟩
theorem i0_73 : decode m0.2.1 73 = .ok (.invokestatic 9, 3) ∧ 73 + 3 = 76 := ⟨by decide +kernel, rfl⟩
theorem i0_76 : decode m0.2.1 76 = .ok (.iadd, 1) ∧ 76 + 1 = 77 := ⟨by decide +kernel, rfl⟩
theorem i0_77 : decode m0.2.1 77 = .ok (.iastore, 1) ∧ 77 + 1 = 78 := ⟨by decide +kernel, rfl⟩
theorem i0_78 : decode m0.2.1 78 = .ok (.aload 6, 2) ∧ 78 + 2 = 80 := ⟨by decide +kernel, rfl⟩
theorem i0_80 : decode m0.2.1 80 = .ok (.iconst 5, 1) ∧ 80 + 1 = 81 ∧ Int32.ofInt 5 = 5 := ⟨by decide +kernel, rfl, by decide⟩
theorem i0_81 : decode m0.2.1 81 = .ok (.aload 6, 2) ∧ 81 + 2 = 83 := ⟨by decide +kernel, rfl⟩
theorem i0_83 : decode m0.2.1 83 = .ok (.iconst 4, 1) ∧ 83 + 1 = 84 ∧ Int32.ofInt 4 = 4 := ⟨by decide +kernel, rfl, by decide⟩
theorem i0_84 : decode m0.2.1 84 = .ok (.iaload, 1) ∧ 84 + 1 = 85 := ⟨by decide +kernel, rfl⟩
theorem i0_85 : decode m0.2.1 85 = .ok (.lload_n 1, 1) ∧ 85 + 1 = 86 := ⟨by decide +kernel, rfl⟩
theorem i0_86 : decode m0.2.1 86 = .ok (.iconst 4, 1) ∧ 86 + 1 = 87 ∧ Int32.ofInt 4 = 4 := ⟨by decide +kernel, rfl, by decide⟩
theorem i0_87 : decode m0.2.1 87 = .ok (.invokestatic 9, 3) ∧ 87 + 3 = 90 := ⟨by decide +kernel, rfl⟩
theorem i0_90 : decode m0.2.1 90 = .ok (.iadd, 1) ∧ 90 + 1 = 91 := ⟨by decide +kernel, rfl⟩
theorem i0_91 : decode m0.2.1 91 = .ok (.iastore, 1) ∧ 91 + 1 = 92 := ⟨by decide +kernel, rfl⟩
theorem i0_92 : decode m0.2.1 92 = .ok (.aload 7, 2) ∧ 92 + 2 = 94 := ⟨by decide +kernel, rfl⟩
theorem i0_94 : decode m0.2.1 94 = .ok (.iconst 0, 1) ∧ 94 + 1 = 95 ∧ Int32.ofInt 0 = 0 := ⟨by decide +kernel, rfl, by decide⟩
theorem i0_95 : decode m0.2.1 95 = .ok (.iload 5, 2) ∧ 95 + 2 = 97 := ⟨by decide +kernel, rfl⟩
theorem i0_97 : decode m0.2.1 97 = .ok (.iastore, 1) ∧ 97 + 1 = 98 := ⟨by decide +kernel, rfl⟩
theorem i0_98 : decode m0.2.1 98 = .ok (.aload 7, 2) ∧ 98 + 2 = 100 := ⟨by decide +kernel, rfl⟩
theorem i0_100 : decode m0.2.1 100 = .ok (.iconst 1, 1) ∧ 100 + 1 = 101 ∧ Int32.ofInt 1 = 1 := ⟨by decide +kernel, rfl, by decide⟩
theorem i0_101 : decode m0.2.1 101 = .ok (.aload 7, 2) ∧ 101 + 2 = 103 := ⟨by decide +kernel, rfl⟩
theorem i0_103 : decode m0.2.1 103 = .ok (.iconst 0, 1) ∧ 103 + 1 = 104 ∧ Int32.ofInt 0 = 0 := ⟨by decide +kernel, rfl, by decide⟩
theorem i0_104 : decode m0.2.1 104 = .ok (.iaload, 1) ∧ 104 + 1 = 105 := ⟨by decide +kernel, rfl⟩
theorem i0_105 : decode m0.2.1 105 = .ok (.lload_n 1, 1) ∧ 105 + 1 = 106 := ⟨by decide +kernel, rfl⟩
theorem i0_106 : decode m0.2.1 106 = .ok (.iconst 5, 1) ∧ 106 + 1 = 107 ∧ Int32.ofInt 5 = 5 := ⟨by decide +kernel, rfl, by decide⟩
theorem i0_107 : decode m0.2.1 107 = .ok (.invokestatic 9, 3) ∧ 107 + 3 = 110 := ⟨by decide +kernel, rfl⟩
theorem i0_110 : decode m0.2.1 110 = .ok (.iadd, 1) ∧ 110 + 1 = 111 := ⟨by decide +kernel, rfl⟩
theorem i0_111 : decode m0.2.1 111 = .ok (.iastore, 1) ∧ 111 + 1 = 112 := ⟨by decide +kernel, rfl⟩
theorem i0_112 : decode m0.2.1 112 = .ok (.aload 7, 2) ∧ 112 + 2 = 114 := ⟨by decide +kernel, rfl⟩
theorem i0_114 : decode m0.2.1 114 = .ok (.iconst 2, 1) ∧ 114 + 1 = 115 ∧ Int32.ofInt 2 = 2 := ⟨by decide +kernel, rfl, by decide⟩
theorem i0_115 : decode m0.2.1 115 = .ok (.aload 7, 2) ∧ 115 + 2 = 117 := ⟨by decide +kernel, rfl⟩
theorem i0_117 : decode m0.2.1 117 = .ok (.iconst 1, 1) ∧ 117 + 1 = 118 ∧ Int32.ofInt 1 = 1 := ⟨by decide +kernel, rfl, by decide⟩
theorem i0_118 : decode m0.2.1 118 = .ok (.iaload, 1) ∧ 118 + 1 = 119 := ⟨by decide +kernel, rfl⟩
theorem i0_119 : decode m0.2.1 119 = .ok (.lload_n 1, 1) ∧ 119 + 1 = 120 := ⟨by decide +kernel, rfl⟩
theorem i0_120 : decode m0.2.1 120 = .ok (.bipush 6, 2) ∧ 120 + 2 = 122 ∧ (Int8.ofInt 6).toInt32 = 6 := ⟨by decide +kernel, rfl, by decide⟩
theorem i0_122 : decode m0.2.1 122 = .ok (.invokestatic 9, 3) ∧ 122 + 3 = 125 := ⟨by decide +kernel, rfl⟩
theorem i0_125 : decode m0.2.1 125 = .ok (.iadd, 1) ∧ 125 + 1 = 126 := ⟨by decide +kernel, rfl⟩
theorem i0_126 : decode m0.2.1 126 = .ok (.iastore, 1) ∧ 126 + 1 = 127 := ⟨by decide +kernel, rfl⟩
theorem i0_127 : decode m0.2.1 127 = .ok (.iconst 1, 1) ∧ 127 + 1 = 128 ∧ Int32.ofInt 1 = 1 := ⟨by decide +kernel, rfl, by decide⟩
theorem i0_128 : decode m0.2.1 128 = .ok (.istore 8, 2) ∧ 128 + 2 = 130 := ⟨by decide +kernel, rfl⟩
theorem i0_130 : decode m0.2.1 130 = .ok (.aload 6, 2) ∧ 130 + 2 = 132 := ⟨by decide +kernel, rfl⟩
theorem i0_132 : decode m0.2.1 132 = .ok (.iconst 5, 1) ∧ 132 + 1 = 133 ∧ Int32.ofInt 5 = 5 := ⟨by decide +kernel, rfl, by decide⟩
theorem i0_133 : decode m0.2.1 133 = .ok (.iaload, 1) ∧ 133 + 1 = 134 := ⟨by decide +kernel, rfl⟩
theorem i0_134 : decode m0.2.1 134 = .ok (.aload 6, 2) ∧ 134 + 2 = 136 := ⟨by decide +kernel, rfl⟩
theorem i0_136 : decode m0.2.1 136 = .ok (.iconst 0, 1) ∧ 136 + 1 = 137 ∧ Int32.ofInt 0 = 0 := ⟨by decide +kernel, rfl, by decide⟩
theorem i0_137 : decode m0.2.1 137 = .ok (.iaload, 1) ∧ 137 + 1 = 138 := ⟨by decide +kernel, rfl⟩
theorem i0_138 : decode m0.2.1 138 = .ok (.isub, 1) ∧ 138 + 1 = 139 := ⟨by decide +kernel, rfl⟩
theorem i0_139 : decode m0.2.1 139 = .ok (.istore 9, 2) ∧ 139 + 2 = 141 := ⟨by decide +kernel, rfl⟩
theorem i0_141 : decode m0.2.1 141 = .ok (.iload 9, 2) ∧ 141 + 2 = 143 := ⟨by decide +kernel, rfl⟩
theorem i0_143 : decode m0.2.1 143 = .ok (.ifCond .le 64, 3) ∧ 143 + 3 = 146 ∧ 0 ≤ ((143 : Nat) : Int) + 64 ∧ (((143 : Nat) : Int) + 64).toNat = 207 := ⟨by decide +kernel, rfl, by decide, by decide⟩
theorem i0_146 : decode m0.2.1 146 = .ok (.iload 5, 2) ∧ 146 + 2 = 148 := ⟨by decide +kernel, rfl⟩
theorem i0_148 : decode m0.2.1 148 = .ok (.iload_n 3, 1) ∧ 148 + 1 = 149 := ⟨by decide +kernel, rfl⟩
theorem i0_149 : decode m0.2.1 149 = .ok (.ldc 15, 2) ∧ 149 + 2 = 151 := ⟨by decide +kernel, rfl⟩
theorem i0_151 : decode m0.2.1 151 = .ok (.iand, 1) ∧ 151 + 1 = 152 := ⟨by decide +kernel, rfl⟩
theorem i0_152 : decode m0.2.1 152 = .ok (.iload 9, 2) ∧ 152 + 2 = 154 := ⟨by decide +kernel, rfl⟩
theorem i0_154 : decode m0.2.1 154 = .ok (.irem, 1) ∧ 154 + 1 = 155 := ⟨by decide +kernel, rfl⟩
theorem i0_155 : decode m0.2.1 155 = .ok (.iadd, 1) ∧ 155 + 1 = 156 := ⟨by decide +kernel, rfl⟩
theorem i0_156 : decode m0.2.1 156 = .ok (.istore 10, 2) ∧ 156 + 2 = 158 := ⟨by decide +kernel, rfl⟩
theorem i0_158 : decode m0.2.1 158 = .ok (.aload 6, 2) ∧ 158 + 2 = 160 := ⟨by decide +kernel, rfl⟩
theorem i0_160 : decode m0.2.1 160 = .ok (.iload 10, 2) ∧ 160 + 2 = 162 := ⟨by decide +kernel, rfl⟩
theorem i0_162 : decode m0.2.1 162 = .ok (.invokestatic 16, 3) ∧ 162 + 3 = 165 := ⟨by decide +kernel, rfl⟩
theorem i0_165 : decode m0.2.1 165 = .ok (.istore 11, 2) ∧ 165 + 2 = 167 := ⟨by decide +kernel, rfl⟩
theorem i0_167 : decode m0.2.1 167 = .ok (.iload 11, 2) ∧ 167 + 2 = 169 := ⟨by decide +kernel, rfl⟩
theorem i0_169 : decode m0.2.1 169 = .ok (.ifCond .lt 35, 3) ∧ 169 + 3 = 172 ∧ 0 ≤ ((169 : Nat) : Int) + 35 ∧ (((169 : Nat) : Int) + 35).toNat = 204 := ⟨by decide +kernel, rfl, by decide, by decide⟩
theorem i0_172 : decode m0.2.1 172 = .ok (.iload 11, 2) ∧ 172 + 2 = 174 := ⟨by decide +kernel, rfl⟩
theorem i0_174 : decode m0.2.1 174 = .ok (.iconst 4, 1) ∧ 174 + 1 = 175 ∧ Int32.ofInt 4 = 4 := ⟨by decide +kernel, rfl, by decide⟩
theorem i0_175 : decode m0.2.1 175 = .ok (.if_icmp .gt 29, 3) ∧ 175 + 3 = 178 ∧ 0 ≤ ((175 : Nat) : Int) + 29 ∧ (((175 : Nat) : Int) + 29).toNat = 204 := ⟨by decide +kernel, rfl, by decide, by decide⟩
theorem i0_178 : decode m0.2.1 178 = .ok (.aload 6, 2) ∧ 178 + 2 = 180 := ⟨by decide +kernel, rfl⟩
theorem i0_180 : decode m0.2.1 180 = .ok (.iload 11, 2) ∧ 180 + 2 = 182 := ⟨by decide +kernel, rfl⟩
theorem i0_182 : decode m0.2.1 182 = .ok (.iaload, 1) ∧ 182 + 1 = 183 := ⟨by decide +kernel, rfl⟩
theorem i0_183 : decode m0.2.1 183 = .ok (.iload 10, 2) ∧ 183 + 2 = 185 := ⟨by decide +kernel, rfl⟩
theorem i0_185 : decode m0.2.1 185 = .ok (.if_icmp .gt 19, 3) ∧ 185 + 3 = 188 ∧ 0 ≤ ((185 : Nat) : Int) + 19 ∧ (((185 : Nat) : Int) + 19).toNat = 204 := ⟨by decide +kernel, rfl, by decide, by decide⟩
theorem i0_188 : decode m0.2.1 188 = .ok (.iload 10, 2) ∧ 188 + 2 = 190 := ⟨by decide +kernel, rfl⟩
theorem i0_190 : decode m0.2.1 190 = .ok (.aload 6, 2) ∧ 190 + 2 = 192 := ⟨by decide +kernel, rfl⟩
theorem i0_192 : decode m0.2.1 192 = .ok (.iload 11, 2) ∧ 192 + 2 = 194 := ⟨by decide +kernel, rfl⟩
theorem i0_194 : decode m0.2.1 194 = .ok (.iconst 1, 1) ∧ 194 + 1 = 195 ∧ Int32.ofInt 1 = 1 := ⟨by decide +kernel, rfl, by decide⟩
theorem i0_195 : decode m0.2.1 195 = .ok (.iadd, 1) ∧ 195 + 1 = 196 := ⟨by decide +kernel, rfl⟩
theorem i0_196 : decode m0.2.1 196 = .ok (.iaload, 1) ∧ 196 + 1 = 197 := ⟨by decide +kernel, rfl⟩
theorem i0_197 : decode m0.2.1 197 = .ok (.if_icmp .ge 7, 3) ∧ 197 + 3 = 200 ∧ 0 ≤ ((197 : Nat) : Int) + 7 ∧ (((197 : Nat) : Int) + 7).toNat = 204 := ⟨by decide +kernel, rfl, by decide, by decide⟩
theorem i0_200 : decode m0.2.1 200 = .ok (.iconst 1, 1) ∧ 200 + 1 = 201 ∧ Int32.ofInt 1 = 1 := ⟨by decide +kernel, rfl, by decide⟩
theorem i0_201 : decode m0.2.1 201 = .ok (.goto 4, 3) ∧ 201 + 3 = 204 ∧ 0 ≤ ((201 : Nat) : Int) + 4 ∧ (((201 : Nat) : Int) + 4).toNat = 205 := ⟨by decide +kernel, rfl, by decide, by decide⟩
theorem i0_204 : decode m0.2.1 204 = .ok (.iconst 0, 1) ∧ 204 + 1 = 205 ∧ Int32.ofInt 0 = 0 := ⟨by decide +kernel, rfl, by decide⟩
theorem i0_205 : decode m0.2.1 205 = .ok (.istore 8, 2) ∧ 205 + 2 = 207 := ⟨by decide +kernel, rfl⟩
theorem i0_207 : decode m0.2.1 207 = .ok (.iconst 1, 1) ∧ 207 + 1 = 208 ∧ Int32.ofInt 1 = 1 := ⟨by decide +kernel, rfl, by decide⟩
theorem i0_208 : decode m0.2.1 208 = .ok (.istore 10, 2) ∧ 208 + 2 = 210 := ⟨by decide +kernel, rfl⟩
theorem i0_210 : decode m0.2.1 210 = .ok (.aload 7, 2) ∧ 210 + 2 = 212 := ⟨by decide +kernel, rfl⟩
theorem i0_212 : decode m0.2.1 212 = .ok (.iconst 2, 1) ∧ 212 + 1 = 213 ∧ Int32.ofInt 2 = 2 := ⟨by decide +kernel, rfl, by decide⟩
theorem i0_213 : decode m0.2.1 213 = .ok (.iaload, 1) ∧ 213 + 1 = 214 := ⟨by decide +kernel, rfl⟩
theorem i0_214 : decode m0.2.1 214 = .ok (.aload 7, 2) ∧ 214 + 2 = 216 := ⟨by decide +kernel, rfl⟩
theorem i0_216 : decode m0.2.1 216 = .ok (.iconst 0, 1) ∧ 216 + 1 = 217 ∧ Int32.ofInt 0 = 0 := ⟨by decide +kernel, rfl, by decide⟩
theorem i0_217 : decode m0.2.1 217 = .ok (.iaload, 1) ∧ 217 + 1 = 218 := ⟨by decide +kernel, rfl⟩
theorem i0_218 : decode m0.2.1 218 = .ok (.isub, 1) ∧ 218 + 1 = 219 := ⟨by decide +kernel, rfl⟩
theorem i0_219 : decode m0.2.1 219 = .ok (.istore 11, 2) ∧ 219 + 2 = 221 := ⟨by decide +kernel, rfl⟩
theorem i0_221 : decode m0.2.1 221 = .ok (.iload 11, 2) ∧ 221 + 2 = 223 := ⟨by decide +kernel, rfl⟩
theorem i0_223 : decode m0.2.1 223 = .ok (.ifCond .le 65, 3) ∧ 223 + 3 = 226 ∧ 0 ≤ ((223 : Nat) : Int) + 65 ∧ (((223 : Nat) : Int) + 65).toNat = 288 := ⟨by decide +kernel, rfl, by decide, by decide⟩
theorem i0_226 : decode m0.2.1 226 = .ok (.iload 5, 2) ∧ 226 + 2 = 228 := ⟨by decide +kernel, rfl⟩
theorem i0_228 : decode m0.2.1 228 = .ok (.iload 4, 2) ∧ 228 + 2 = 230 := ⟨by decide +kernel, rfl⟩
theorem i0_230 : decode m0.2.1 230 = .ok (.ldc 15, 2) ∧ 230 + 2 = 232 := ⟨by decide +kernel, rfl⟩
theorem i0_232 : decode m0.2.1 232 = .ok (.iand, 1) ∧ 232 + 1 = 233 := ⟨by decide +kernel, rfl⟩
theorem i0_233 : decode m0.2.1 233 = .ok (.iload 11, 2) ∧ 233 + 2 = 235 := ⟨by decide +kernel, rfl⟩
theorem i0_235 : decode m0.2.1 235 = .ok (.irem, 1) ∧ 235 + 1 = 236 := ⟨by decide +kernel, rfl⟩
theorem i0_236 : decode m0.2.1 236 = .ok (.iadd, 1) ∧ 236 + 1 = 237 := ⟨by decide +kernel, rfl⟩
theorem i0_237 : decode m0.2.1 237 = .ok (.istore 12, 2) ∧ 237 + 2 = 239 := ⟨by decide +kernel, rfl⟩
theorem i0_239 : decode m0.2.1 239 = .ok (.aload 7, 2) ∧ 239 + 2 = 241 := ⟨by decide +kernel, rfl⟩
theorem i0_241 : decode m0.2.1 241 = .ok (.iload 12, 2) ∧ 241 + 2 = 243 := ⟨by decide +kernel, rfl⟩
theorem i0_243 : decode m0.2.1 243 = .ok (.invokestatic 16, 3) ∧ 243 + 3 = 246 := ⟨by decide +kernel, rfl⟩
theorem i0_246 : decode m0.2.1 246 = .ok (.istore 13, 2) ∧ 246 + 2 = 248 := ⟨by decide +kernel, rfl⟩
theorem i0_248 : decode m0.2.1 248 = .ok (.iload 13, 2) ∧ 248 + 2 = 250 := ⟨by decide +kernel, rfl⟩
theorem i0_250 : decode m0.2.1 250 = .ok (.ifCond .lt 35, 3) ∧ 250 + 3 = 253 ∧ 0 ≤ ((250 : Nat) : Int) + 35 ∧ (((250 : Nat) : Int) + 35).toNat = 285 := ⟨by decide +kernel, rfl, by decide, by decide⟩
theorem i0_253 : decode m0.2.1 253 = .ok (.iload 13, 2) ∧ 253 + 2 = 255 := ⟨by decide +kernel, rfl⟩
theorem i0_255 : decode m0.2.1 255 = .ok (.iconst 1, 1) ∧ 255 + 1 = 256 ∧ Int32.ofInt 1 = 1 := ⟨by decide +kernel, rfl, by decide⟩
theorem i0_256 : decode m0.2.1 256 = .ok (.if_icmp .gt 29, 3) ∧ 256 + 3 = 259 ∧ 0 ≤ ((256 : Nat) : Int) + 29 ∧ (((256 : Nat) : Int) + 29).toNat = 285 := ⟨by decide +kernel, rfl, by decide, by decide⟩
theorem i0_259 : decode m0.2.1 259 = .ok (.aload 7, 2) ∧ 259 + 2 = 261 := ⟨by decide +kernel, rfl⟩
theorem i0_261 : decode m0.2.1 261 = .ok (.iload 13, 2) ∧ 261 + 2 = 263 := ⟨by decide +kernel, rfl⟩
theorem i0_263 : decode m0.2.1 263 = .ok (.iaload, 1) ∧ 263 + 1 = 264 := ⟨by decide +kernel, rfl⟩
theorem i0_264 : decode m0.2.1 264 = .ok (.iload 12, 2) ∧ 264 + 2 = 266 := ⟨by decide +kernel, rfl⟩
theorem i0_266 : decode m0.2.1 266 = .ok (.if_icmp .gt 19, 3) ∧ 266 + 3 = 269 ∧ 0 ≤ ((266 : Nat) : Int) + 19 ∧ (((266 : Nat) : Int) + 19).toNat = 285 := ⟨by decide +kernel, rfl, by decide, by decide⟩
theorem i0_269 : decode m0.2.1 269 = .ok (.iload 12, 2) ∧ 269 + 2 = 271 := ⟨by decide +kernel, rfl⟩
theorem i0_271 : decode m0.2.1 271 = .ok (.aload 7, 2) ∧ 271 + 2 = 273 := ⟨by decide +kernel, rfl⟩
theorem i0_273 : decode m0.2.1 273 = .ok (.iload 13, 2) ∧ 273 + 2 = 275 := ⟨by decide +kernel, rfl⟩
theorem i0_275 : decode m0.2.1 275 = .ok (.iconst 1, 1) ∧ 275 + 1 = 276 ∧ Int32.ofInt 1 = 1 := ⟨by decide +kernel, rfl, by decide⟩
theorem i0_276 : decode m0.2.1 276 = .ok (.iadd, 1) ∧ 276 + 1 = 277 := ⟨by decide +kernel, rfl⟩
theorem i0_277 : decode m0.2.1 277 = .ok (.iaload, 1) ∧ 277 + 1 = 278 := ⟨by decide +kernel, rfl⟩
theorem i0_278 : decode m0.2.1 278 = .ok (.if_icmp .ge 7, 3) ∧ 278 + 3 = 281 ∧ 0 ≤ ((278 : Nat) : Int) + 7 ∧ (((278 : Nat) : Int) + 7).toNat = 285 := ⟨by decide +kernel, rfl, by decide, by decide⟩
theorem i0_281 : decode m0.2.1 281 = .ok (.iconst 1, 1) ∧ 281 + 1 = 282 ∧ Int32.ofInt 1 = 1 := ⟨by decide +kernel, rfl, by decide⟩
theorem i0_282 : decode m0.2.1 282 = .ok (.goto 4, 3) ∧ 282 + 3 = 285 ∧ 0 ≤ ((282 : Nat) : Int) + 4 ∧ (((282 : Nat) : Int) + 4).toNat = 286 := ⟨by decide +kernel, rfl, by decide, by decide⟩
theorem i0_285 : decode m0.2.1 285 = .ok (.iconst 0, 1) ∧ 285 + 1 = 286 ∧ Int32.ofInt 0 = 0 := ⟨by decide +kernel, rfl, by decide⟩
theorem i0_286 : decode m0.2.1 286 = .ok (.istore 10, 2) ∧ 286 + 2 = 288 := ⟨by decide +kernel, rfl⟩
theorem i0_288 : decode m0.2.1 288 = .ok (.iload 8, 2) ∧ 288 + 2 = 290 := ⟨by decide +kernel, rfl⟩
theorem i0_290 : decode m0.2.1 290 = .ok (.ifCond .eq 12, 3) ∧ 290 + 3 = 293 ∧ 0 ≤ ((290 : Nat) : Int) + 12 ∧ (((290 : Nat) : Int) + 12).toNat = 302 := ⟨by decide +kernel, rfl, by decide, by decide⟩
theorem i0_293 : decode m0.2.1 293 = .ok (.iload 10, 2) ∧ 293 + 2 = 295 := ⟨by decide +kernel, rfl⟩
theorem i0_295 : decode m0.2.1 295 = .ok (.ifCond .eq 7, 3) ∧ 295 + 3 = 298 ∧ 0 ≤ ((295 : Nat) : Int) + 7 ∧ (((295 : Nat) : Int) + 7).toNat = 302 := ⟨by decide +kernel, rfl, by decide, by decide⟩
theorem i0_298 : decode m0.2.1 298 = .ok (.iconst 1, 1) ∧ 298 + 1 = 299 ∧ Int32.ofInt 1 = 1 := ⟨by decide +kernel, rfl, by decide⟩
theorem i0_299 : decode m0.2.1 299 = .ok (.goto 4, 3) ∧ 299 + 3 = 302 ∧ 0 ≤ ((299 : Nat) : Int) + 4 ∧ (((299 : Nat) : Int) + 4).toNat = 303 := ⟨by decide +kernel, rfl, by decide, by decide⟩
theorem i0_302 : decode m0.2.1 302 = .ok (.iconst 0, 1) ∧ 302 + 1 = 303 ∧ Int32.ofInt 0 = 0 := ⟨by decide +kernel, rfl, by decide⟩
theorem i0_303 : decode m0.2.1 303 = .ok (.ireturn, 1) := by decide +kernel
theorem i1_0 : decode m1.2.1 0 = .ok (.lload_n 0, 1) ∧ 0 + 1 = 1 := ⟨by decide +kernel, rfl⟩
theorem i1_1 : decode m1.2.1 1 = .ok (.bipush 8, 2) ∧ 1 + 2 = 3 ∧ (Int8.ofInt 8).toInt32 = 8 := ⟨by decide +kernel, rfl, by decide⟩
theorem i1_3 : decode m1.2.1 3 = .ok (.iload_n 2, 1) ∧ 3 + 1 = 4 := ⟨by decide +kernel, rfl⟩
theorem i1_4 : decode m1.2.1 4 = .ok (.imul, 1) ∧ 4 + 1 = 5 := ⟨by decide +kernel, rfl⟩
theorem i1_5 : decode m1.2.1 5 = .ok (.lushr, 1) ∧ 5 + 1 = 6 := ⟨by decide +kernel, rfl⟩
theorem i1_6 : decode m1.2.1 6 = .ok (.ldc2_w 7, 3) ∧ 6 + 3 = 9 := ⟨by decide +kernel, rfl⟩
theorem i1_9 : decode m1.2.1 9 = .ok (.land, 1) ∧ 9 + 1 = 10 := ⟨by decide +kernel, rfl⟩
theorem i1_10 : decode m1.2.1 10 = .ok (.l2i, 1) ∧ 10 + 1 = 11 := ⟨by decide +kernel, rfl⟩
theorem i1_11 : decode m1.2.1 11 = .ok (.istore_n 3, 1) ∧ 11 + 1 = 12 := ⟨by decide +kernel, rfl⟩
theorem i1_12 : decode m1.2.1 12 = .ok (.iload_n 3, 1) ∧ 12 + 1 = 13 := ⟨by decide +kernel, rfl⟩
theorem i1_13 : decode m1.2.1 13 = .ok (.sipush 128, 3) ∧ 13 + 3 = 16 ∧ (Int16.ofInt 128).toInt32 = 128 := ⟨by decide +kernel, rfl, by decide⟩
theorem i1_16 : decode m1.2.1 16 = .ok (.iand, 1) ∧ 16 + 1 = 17 := ⟨by decide +kernel, rfl⟩
theorem i1_17 : decode m1.2.1 17 = .ok (.ifCond .eq 7, 3) ∧ 17 + 3 = 20 ∧ 0 ≤ ((17 : Nat) : Int) + 7 ∧ (((17 : Nat) : Int) + 7).toNat = 24 := ⟨by decide +kernel, rfl, by decide, by decide⟩
theorem i1_20 : decode m1.2.1 20 = .ok (.iconst 0, 1) ∧ 20 + 1 = 21 ∧ Int32.ofInt 0 = 0 := ⟨by decide +kernel, rfl, by decide⟩
theorem i1_21 : decode m1.2.1 21 = .ok (.goto 4, 3) ∧ 21 + 3 = 24 ∧ 0 ≤ ((21 : Nat) : Int) + 4 ∧ (((21 : Nat) : Int) + 4).toNat = 25 := ⟨by decide +kernel, rfl, by decide, by decide⟩
theorem i1_24 : decode m1.2.1 24 = .ok (.iload_n 3, 1) ∧ 24 + 1 = 25 := ⟨by decide +kernel, rfl⟩
theorem i1_25 : decode m1.2.1 25 = .ok (.ireturn, 1) := by decide +kernel
theorem i2_0 : decode m2.2.1 0 = .ok (.iconst 0, 1) ∧ 0 + 1 = 1 ∧ Int32.ofInt 0 = 0 := ⟨by decide +kernel, rfl, by decide⟩
theorem i2_1 : decode m2.2.1 1 = .ok (.istore_n 2, 1) ∧ 1 + 1 = 2 := ⟨by decide +kernel, rfl⟩
theorem i2_2 : decode m2.2.1 2 = .ok (.aload_n 0, 1) ∧ 2 + 1 = 3 := ⟨by decide +kernel, rfl⟩
theorem i2_3 : decode m2.2.1 3 = .ok (.arraylength, 1) ∧ 3 + 1 = 4 := ⟨by decide +kernel, rfl⟩
theorem i2_4 : decode m2.2.1 4 = .ok (.iconst 2, 1) ∧ 4 + 1 = 5 ∧ Int32.ofInt 2 = 2 := ⟨by decide +kernel, rfl, by decide⟩
theorem i2_5 : decode m2.2.1 5 = .ok (.isub, 1) ∧ 5 + 1 = 6 := ⟨by decide +kernel, rfl⟩
theorem i2_6 : decode m2.2.1 6 = .ok (.istore_n 3, 1) ∧ 6 + 1 = 7 := ⟨by decide +kernel, rfl⟩
theorem i2_7 : decode m2.2.1 7 = .ok (.iload_n 2, 1) ∧ 7 + 1 = 8 := ⟨by decide +kernel, rfl⟩
theorem i2_8 : decode m2.2.1 8 = .ok (.iload_n 3, 1) ∧ 8 + 1 = 9 := ⟨by decide +kernel, rfl⟩
theorem i2_9 : decode m2.2.1 9 = .ok (.if_icmp .ge 34, 3) ∧ 9 + 3 = 12 ∧ 0 ≤ ((9 : Nat) : Int) + 34 ∧ (((9 : Nat) : Int) + 34).toNat = 43 := ⟨by decide +kernel, rfl, by decide, by decide⟩
theorem i2_12 : decode m2.2.1 12 = .ok (.iload_n 2, 1) ∧ 12 + 1 = 13 := ⟨by decide +kernel, rfl⟩
theorem i2_13 : decode m2.2.1 13 = .ok (.iload_n 3, 1) ∧ 13 + 1 = 14 := ⟨by decide +kernel, rfl⟩
theorem i2_14 : decode m2.2.1 14 = .ok (.iadd, 1) ∧ 14 + 1 = 15 := ⟨by decide +kernel, rfl⟩
theorem i2_15 : decode m2.2.1 15 = .ok (.iconst 1, 1) ∧ 15 + 1 = 16 ∧ Int32.ofInt 1 = 1 := ⟨by decide +kernel, rfl, by decide⟩
theorem i2_16 : decode m2.2.1 16 = .ok (.iadd, 1) ∧ 16 + 1 = 17 := ⟨by decide +kernel, rfl⟩
theorem i2_17 : decode m2.2.1 17 = .ok (.iconst 1, 1) ∧ 17 + 1 = 18 ∧ Int32.ofInt 1 = 1 := ⟨by decide +kernel, rfl, by decide⟩
theorem i2_18 : decode m2.2.1 18 = .ok (.iushr, 1) ∧ 18 + 1 = 19 := ⟨by decide +kernel, rfl⟩
theorem i2_19 : decode m2.2.1 19 = .ok (.istore 4, 2) ∧ 19 + 2 = 21 := ⟨by decide +kernel, rfl⟩
theorem i2_21 : decode m2.2.1 21 = .ok (.aload_n 0, 1) ∧ 21 + 1 = 22 := ⟨by decide +kernel, rfl⟩
theorem i2_22 : decode m2.2.1 22 = .ok (.iload 4, 2) ∧ 22 + 2 = 24 := ⟨by decide +kernel, rfl⟩
theorem i2_24 : decode m2.2.1 24 = .ok (.iaload, 1) ∧ 24 + 1 = 25 := ⟨by decide +kernel, rfl⟩
theorem i2_25 : decode m2.2.1 25 = .ok (.iload_n 1, 1) ∧ 25 + 1 = 26 := ⟨by decide +kernel, rfl⟩
theorem i2_26 : decode m2.2.1 26 = .ok (.if_icmp .gt 9, 3) ∧ 26 + 3 = 29 ∧ 0 ≤ ((26 : Nat) : Int) + 9 ∧ (((26 : Nat) : Int) + 9).toNat = 35 := ⟨by decide +kernel, rfl, by decide, by decide⟩
theorem i2_29 : decode m2.2.1 29 = .ok (.iload 4, 2) ∧ 29 + 2 = 31 := ⟨by decide +kernel, rfl⟩
theorem i2_31 : decode m2.2.1 31 = .ok (.istore_n 2, 1) ∧ 31 + 1 = 32 := ⟨by decide +kernel, rfl⟩
theorem i2_32 : decode m2.2.1 32 = .ok (.goto 8, 3) ∧ 32 + 3 = 35 ∧ 0 ≤ ((32 : Nat) : Int) + 8 ∧ (((32 : Nat) : Int) + 8).toNat = 40 := ⟨by decide +kernel, rfl, by decide, by decide⟩
theorem i2_35 : decode m2.2.1 35 = .ok (.iload 4, 2) ∧ 35 + 2 = 37 := ⟨by decide +kernel, rfl⟩
theorem i2_37 : decode m2.2.1 37 = .ok (.iconst 1, 1) ∧ 37 + 1 = 38 ∧ Int32.ofInt 1 = 1 := ⟨by decide +kernel, rfl, by decide⟩
theorem i2_38 : decode m2.2.1 38 = .ok (.isub, 1) ∧ 38 + 1 = 39 := ⟨by decide +kernel, rfl⟩
theorem i2_39 : decode m2.2.1 39 = .ok (.istore_n 3, 1) ∧ 39 + 1 = 40 := ⟨by decide +kernel, rfl⟩
theorem i2_40 : decode m2.2.1 40 = .ok (.goto (-33), 3) ∧ 40 + 3 = 43 ∧ 0 ≤ ((40 : Nat) : Int) + (-33) ∧ (((40 : Nat) : Int) + (-33)).toNat = 7 := ⟨by decide +kernel, rfl, by decide, by decide⟩
theorem i2_43 : decode m2.2.1 43 = .ok (.iload_n 2, 1) ∧ 43 + 1 = 44 := ⟨by decide +kernel, rfl⟩
theorem i2_44 : decode m2.2.1 44 = .ok (.ireturn, 1) := by decide +kernel
theorem s0_7 {l : Launch} {Z : State} {a0 : Array Value} {n0 : Nat} {ls : List Slot} {st : List Value} {H H' H1 : List Ob} {v : Option Value} (hw : HW Z a0) {a : Nat} {n : Int32} {o : List Value} (hn : ¬ n < 0) (h8 : n.toNatClampNeg * 8 ≤ 536870912) (ho : List.replicate n.toNatClampNeg (.int 0) = o) (ha : H.length = a) (hH : H ++ [.inr (.int, o)] = H1) (kk : Runs K l Z n0 m0 9 ls (.ref a :: st) H1 v H') : Runs K l Z n0 m0 7 ls (.int n :: st) H v H' := r_newA i0_7 (hw _ (List.mem_of_getElem? (i := 0) rfl)) hn h8 ho ha hH kk
theorem s0_12 {l : Launch} {Z : State} {a0 : Array Value} {n0 : Nat} {ls : List Slot} {st : List Value} {H H' H1 : List Ob} {v : Option Value} (hw : HW Z a0) {a : Nat} {n : Int32} {o : List Value} (hn : ¬ n < 0) (h8 : n.toNatClampNeg * 8 ≤ 536870912) (ho : List.replicate n.toNatClampNeg (.int 0) = o) (ha : H.length = a) (hH : H ++ [.inr (.int, o)] = H1) (kk : Runs K l Z n0 m0 14 ls (.ref a :: st) H1 v H') : Runs K l Z n0 m0 12 ls (.int n :: st) H v H' := r_newA i0_12 (hw _ (List.mem_of_getElem? (i := 0) rfl)) hn h8 ho ha hH kk
theorem s0_31 {l : Launch} {Z : State} {a0 : Array Value} {n0 : Nat} {ls : List Slot} {st : List Value} {H H' H1 : List Ob} {v : Option Value} (hw : HW Z a0) {x0 x1 : Value} {w : Value} (M : Meets K l Z n0 m1 [x0, x1] H (some w) H1) (hls : ls.length = 14) (hlo : (st.map fun v => v.category).sum ≤ 3) (kk : Runs K l Z n0 m0 34 ls (w :: st) H1 v H') : Runs K l Z n0 m0 31 ls (x1 :: x0 :: st) H v H' := r_static (mj := m1) (as := [x0, x1]) (rest := st) i0_31 (hw _ (List.mem_of_getElem? (i := 1) rfl)) (hw _ (List.mem_of_getElem? (i := 2) rfl)) (hw _ (List.mem_of_getElem? (i := 3) rfl)) (hw _ (List.mem_of_getElem? (i := 4) rfl)) (by decide) (lenOf pd1 rfl) (by decide) rfl hls (by show _ + (4 + 11) + 0 ≤ 18; omega) M kk
theorem s0_45 {l : Launch} {Z : State} {a0 : Array Value} {n0 : Nat} {ls : List Slot} {st : List Value} {H H' H1 : List Ob} {v : Option Value} (hw : HW Z a0) {x0 x1 : Value} {w : Value} (M : Meets K l Z n0 m1 [x0, x1] H (some w) H1) (hls : ls.length = 14) (hlo : (st.map fun v => v.category).sum ≤ 3) (kk : Runs K l Z n0 m0 48 ls (w :: st) H1 v H') : Runs K l Z n0 m0 45 ls (x1 :: x0 :: st) H v H' := r_static (mj := m1) (as := [x0, x1]) (rest := st) i0_45 (hw _ (List.mem_of_getElem? (i := 1) rfl)) (hw _ (List.mem_of_getElem? (i := 2) rfl)) (hw _ (List.mem_of_getElem? (i := 3) rfl)) (hw _ (List.mem_of_getElem? (i := 4) rfl)) (by decide) (lenOf pd1 rfl) (by decide) rfl hls (by show _ + (4 + 11) + 0 ≤ 18; omega) M kk
theorem s0_59 {l : Launch} {Z : State} {a0 : Array Value} {n0 : Nat} {ls : List Slot} {st : List Value} {H H' H1 : List Ob} {v : Option Value} (hw : HW Z a0) {x0 x1 : Value} {w : Value} (M : Meets K l Z n0 m1 [x0, x1] H (some w) H1) (hls : ls.length = 14) (hlo : (st.map fun v => v.category).sum ≤ 3) (kk : Runs K l Z n0 m0 62 ls (w :: st) H1 v H') : Runs K l Z n0 m0 59 ls (x1 :: x0 :: st) H v H' := r_static (mj := m1) (as := [x0, x1]) (rest := st) i0_59 (hw _ (List.mem_of_getElem? (i := 1) rfl)) (hw _ (List.mem_of_getElem? (i := 2) rfl)) (hw _ (List.mem_of_getElem? (i := 3) rfl)) (hw _ (List.mem_of_getElem? (i := 4) rfl)) (by decide) (lenOf pd1 rfl) (by decide) rfl hls (by show _ + (4 + 11) + 0 ≤ 18; omega) M kk
theorem s0_73 {l : Launch} {Z : State} {a0 : Array Value} {n0 : Nat} {ls : List Slot} {st : List Value} {H H' H1 : List Ob} {v : Option Value} (hw : HW Z a0) {x0 x1 : Value} {w : Value} (M : Meets K l Z n0 m1 [x0, x1] H (some w) H1) (hls : ls.length = 14) (hlo : (st.map fun v => v.category).sum ≤ 3) (kk : Runs K l Z n0 m0 76 ls (w :: st) H1 v H') : Runs K l Z n0 m0 73 ls (x1 :: x0 :: st) H v H' := r_static (mj := m1) (as := [x0, x1]) (rest := st) i0_73 (hw _ (List.mem_of_getElem? (i := 1) rfl)) (hw _ (List.mem_of_getElem? (i := 2) rfl)) (hw _ (List.mem_of_getElem? (i := 3) rfl)) (hw _ (List.mem_of_getElem? (i := 4) rfl)) (by decide) (lenOf pd1 rfl) (by decide) rfl hls (by show _ + (4 + 11) + 0 ≤ 18; omega) M kk
theorem s0_87 {l : Launch} {Z : State} {a0 : Array Value} {n0 : Nat} {ls : List Slot} {st : List Value} {H H' H1 : List Ob} {v : Option Value} (hw : HW Z a0) {x0 x1 : Value} {w : Value} (M : Meets K l Z n0 m1 [x0, x1] H (some w) H1) (hls : ls.length = 14) (hlo : (st.map fun v => v.category).sum ≤ 3) (kk : Runs K l Z n0 m0 90 ls (w :: st) H1 v H') : Runs K l Z n0 m0 87 ls (x1 :: x0 :: st) H v H' := r_static (mj := m1) (as := [x0, x1]) (rest := st) i0_87 (hw _ (List.mem_of_getElem? (i := 1) rfl)) (hw _ (List.mem_of_getElem? (i := 2) rfl)) (hw _ (List.mem_of_getElem? (i := 3) rfl)) (hw _ (List.mem_of_getElem? (i := 4) rfl)) (by decide) (lenOf pd1 rfl) (by decide) rfl hls (by show _ + (4 + 11) + 0 ≤ 18; omega) M kk
theorem s0_107 {l : Launch} {Z : State} {a0 : Array Value} {n0 : Nat} {ls : List Slot} {st : List Value} {H H' H1 : List Ob} {v : Option Value} (hw : HW Z a0) {x0 x1 : Value} {w : Value} (M : Meets K l Z n0 m1 [x0, x1] H (some w) H1) (hls : ls.length = 14) (hlo : (st.map fun v => v.category).sum ≤ 3) (kk : Runs K l Z n0 m0 110 ls (w :: st) H1 v H') : Runs K l Z n0 m0 107 ls (x1 :: x0 :: st) H v H' := r_static (mj := m1) (as := [x0, x1]) (rest := st) i0_107 (hw _ (List.mem_of_getElem? (i := 1) rfl)) (hw _ (List.mem_of_getElem? (i := 2) rfl)) (hw _ (List.mem_of_getElem? (i := 3) rfl)) (hw _ (List.mem_of_getElem? (i := 4) rfl)) (by decide) (lenOf pd1 rfl) (by decide) rfl hls (by show _ + (4 + 11) + 0 ≤ 18; omega) M kk
theorem s0_122 {l : Launch} {Z : State} {a0 : Array Value} {n0 : Nat} {ls : List Slot} {st : List Value} {H H' H1 : List Ob} {v : Option Value} (hw : HW Z a0) {x0 x1 : Value} {w : Value} (M : Meets K l Z n0 m1 [x0, x1] H (some w) H1) (hls : ls.length = 14) (hlo : (st.map fun v => v.category).sum ≤ 3) (kk : Runs K l Z n0 m0 125 ls (w :: st) H1 v H') : Runs K l Z n0 m0 122 ls (x1 :: x0 :: st) H v H' := r_static (mj := m1) (as := [x0, x1]) (rest := st) i0_122 (hw _ (List.mem_of_getElem? (i := 1) rfl)) (hw _ (List.mem_of_getElem? (i := 2) rfl)) (hw _ (List.mem_of_getElem? (i := 3) rfl)) (hw _ (List.mem_of_getElem? (i := 4) rfl)) (by decide) (lenOf pd1 rfl) (by decide) rfl hls (by show _ + (4 + 11) + 0 ≤ 18; omega) M kk
theorem s0_149 {l : Launch} {Z : State} {a0 : Array Value} {n0 : Nat} {ls : List Slot} {st : List Value} {H H' : List Ob} {v : Option Value} (hw : HW Z a0) (kk : Runs K l Z n0 m0 151 ls (.int 2147483647 :: st) H v H') : Runs K l Z n0 m0 149 ls st H v H' := r_ldc i0_149 (hw _ (List.mem_of_getElem? (i := 6) rfl)) kk
theorem s0_162 {l : Launch} {Z : State} {a0 : Array Value} {n0 : Nat} {ls : List Slot} {st : List Value} {H H' H1 : List Ob} {v : Option Value} (hw : HW Z a0) {x0 x1 : Value} {w : Value} (M : Meets K l Z n0 m2 [x0, x1] H (some w) H1) (hls : ls.length = 14) (hlo : (st.map fun v => v.category).sum ≤ 2) (kk : Runs K l Z n0 m0 165 ls (w :: st) H1 v H') : Runs K l Z n0 m0 162 ls (x1 :: x0 :: st) H v H' := r_static (mj := m2) (as := [x0, x1]) (rest := st) i0_162 (hw _ (List.mem_of_getElem? (i := 7) rfl)) (hw _ (List.mem_of_getElem? (i := 8) rfl)) (hw _ (List.mem_of_getElem? (i := 9) rfl)) (hw _ (List.mem_of_getElem? (i := 10) rfl)) (by decide) (lenOf pd2 rfl) (by decide) rfl hls (by show _ + (5 + 11) + 0 ≤ 18; omega) M kk
theorem s0_230 {l : Launch} {Z : State} {a0 : Array Value} {n0 : Nat} {ls : List Slot} {st : List Value} {H H' : List Ob} {v : Option Value} (hw : HW Z a0) (kk : Runs K l Z n0 m0 232 ls (.int 2147483647 :: st) H v H') : Runs K l Z n0 m0 230 ls st H v H' := r_ldc i0_230 (hw _ (List.mem_of_getElem? (i := 6) rfl)) kk
theorem s0_243 {l : Launch} {Z : State} {a0 : Array Value} {n0 : Nat} {ls : List Slot} {st : List Value} {H H' H1 : List Ob} {v : Option Value} (hw : HW Z a0) {x0 x1 : Value} {w : Value} (M : Meets K l Z n0 m2 [x0, x1] H (some w) H1) (hls : ls.length = 14) (hlo : (st.map fun v => v.category).sum ≤ 2) (kk : Runs K l Z n0 m0 246 ls (w :: st) H1 v H') : Runs K l Z n0 m0 243 ls (x1 :: x0 :: st) H v H' := r_static (mj := m2) (as := [x0, x1]) (rest := st) i0_243 (hw _ (List.mem_of_getElem? (i := 7) rfl)) (hw _ (List.mem_of_getElem? (i := 8) rfl)) (hw _ (List.mem_of_getElem? (i := 9) rfl)) (hw _ (List.mem_of_getElem? (i := 10) rfl)) (by decide) (lenOf pd2 rfl) (by decide) rfl hls (by show _ + (5 + 11) + 0 ≤ 18; omega) M kk
theorem s1_6 {l : Launch} {Z : State} {a0 : Array Value} {n0 : Nat} {ls : List Slot} {st : List Value} {H H' : List Ob} {v : Option Value} (hw : HW Z a0) (kk : Runs K l Z n0 m1 9 ls (.long 255 :: st) H v H') : Runs K l Z n0 m1 6 ls st H v H' := r_ldc2 i1_6 (hw _ (List.mem_of_getElem? (i := 5) rfl)) kk
def f1_0 (x0 : Int64) (x2 : Int32) : Int32 := (if ((((XT.ushrL x0 (8 * x2)) &&& 255 : Int64).toInt32) &&& 128) = 0 then ((XT.ushrL x0 (8 * x2)) &&& 255 : Int64).toInt32 else 0)
set_option maxRecDepth 4000 in
theorem g1_0 {l : Launch} {Z : State} {a0 : Array Value} {n0 : Nat} (hw : HW Z a0) {H : List Ob} (x0 : Int64) (x2 : Int32) : Runs K l Z n0 m1 0 [.val (.long x0), .second, .val (.int x2), .unset] [] H (some (.int (f1_0 x0 x2))) H := by
  unfold f1_0
  refine r_lloadN i1_0 rfl ?_
  refine r_bipush i1_1 ?_
  refine r_iloadN i1_3 rfl ?_
  refine r_imul i1_4 ?_
  refine r_lushr i1_5 ?_
  refine s1_6 hw ?_
  refine r_land i1_9 ?_
  refine r_l2i i1_10 ?_
  refine r_istoreN (ls' := [_, _, _, _]) i1_11 rfl rfl ?_
  refine r_iloadN i1_12 rfl ?_
  refine r_sipush i1_13 ?_
  refine r_iand i1_16 ?_
  by_cases h1 : ((((XT.ushrL x0 (8 * x2)) &&& 255 : Int64).toInt32) &&& 128) = 0
  · rw [if_pos h1]
    refine r_ifT i1_17 (XT.i0_eq_t h1) ?_
    refine r_iloadN i1_24 rfl ?_
    exact r_ireturn i1_25 rfl
  · rw [if_neg h1]
    refine r_ifF i1_17 (XT.i0_eq_f h1) ?_
    refine r_iconst i1_20 ?_
    refine r_goto i1_21 ?_
    exact r_ireturn i1_25 rfl
theorem c1 {l : Launch} {Z : State} {a0 : Array Value} {n0 : Nat} (hw : HW Z a0) {H : List Ob} (x0 : Int64) (x1 : Int32) : Meets K l Z n0 m1 [.long x0, .int x1] H (some (.int (f1_0 x0 x1))) H := meets pf1 rfl (fun h => nomatch h) (g1_0 hw x0 x1)
theorem own_inc (x : Int64) (i : Int32) : 0 ≤ (f1_0 x i).toInt ∧ (f1_0 x i).toInt ≤ 255 := by
  have e0 : (0 : Int32).toInt = 0 := by decide
  have h := c_maskL (XT.ushrL x (8 * i)) 255 8 (by decide) (by decide)
  have q := c_l2i (XT.ushrL x (8 * i) &&& 255)
  have l1 := Int32.le_toInt (XT.ushrL x (8 * i) &&& 255).toInt32
  have l2 := Int32.toInt_lt (XT.ushrL x (8 * i) &&& 255).toInt32
  unfold f1_0
  split <;> omega
theorem items4 {l : Launch} {Z : State} {a0 : Array Value} {n0 : Nat} (hw : HW Z a0) {q : Ob} {s0 s1 s2 s3 s4 s5 x : Int32} (h2 : ¬ x < s2) (h3 : ¬ x < s3) (h4 : ¬ x < s4) : Meets K l Z n0 m2 [.ref 0, .int x] [.inr (.int, [.int s0, .int s1, .int s2, .int s3, .int s4, .int s5]), q] (some (.int 4)) [.inr (.int, [.int s0, .int s1, .int s2, .int s3, .int s4, .int s5]), q] := by
  refine meets (ls := [_, _, _, _, _]) pf2 rfl (fun h => nomatch h) ?_
  refine r_iconst i2_0 ?_
  refine r_istoreN (ls' := [_, _, _, _, _]) i2_1 rfl rfl ?_
  refine r_aloadN i2_2 rfl rfl ?_
  refine r_len (n := 6) i2_3 rfl rfl ?_
  refine r_iconst i2_4 ?_
  refine r_isub i2_5 ?_
  refine r_istoreN (ls' := [_, _, _, _, _]) i2_6 rfl rfl ?_
  refine r_iloadN i2_7 rfl ?_
  refine r_iloadN i2_8 rfl ?_
  refine r_icF i2_9 (XT.ii_ge_f (by first | assumption | rfl | decide | omega)) ?_
  refine r_iloadN i2_12 rfl ?_
  refine r_iloadN i2_13 rfl ?_
  refine r_iadd i2_14 ?_
  refine r_iconst i2_15 ?_
  refine r_iadd i2_16 ?_
  refine r_iconst i2_17 ?_
  refine r_iushr i2_18 ?_
  refine r_istore (ls' := [_, _, _, _, _]) i2_19 rfl rfl ?_
  refine r_aloadN i2_21 rfl rfl ?_
  refine r_iload i2_22 rfl ?_
  refine r_iaload (i := 2) i2_24 rfl ⟨by decide, by decide⟩ rfl ?_
  refine r_iloadN i2_25 rfl ?_
  refine r_icF i2_26 (XT.ii_gt_f h2) ?_
  refine r_iload i2_29 rfl ?_
  refine r_istoreN (ls' := [_, _, _, _, _]) i2_31 rfl rfl ?_
  refine r_goto i2_32 ?_
  refine r_goto i2_40 ?_
  refine r_iloadN i2_7 rfl ?_
  refine r_iloadN i2_8 rfl ?_
  refine r_icF i2_9 (XT.ii_ge_f (by first | assumption | rfl | decide | omega)) ?_
  refine r_iloadN i2_12 rfl ?_
  refine r_iloadN i2_13 rfl ?_
  refine r_iadd i2_14 ?_
  refine r_iconst i2_15 ?_
  refine r_iadd i2_16 ?_
  refine r_iconst i2_17 ?_
  refine r_iushr i2_18 ?_
  refine r_istore (ls' := [_, _, _, _, _]) i2_19 rfl rfl ?_
  refine r_aloadN i2_21 rfl rfl ?_
  refine r_iload i2_22 rfl ?_
  refine r_iaload (i := 3) i2_24 rfl ⟨by decide, by decide⟩ rfl ?_
  refine r_iloadN i2_25 rfl ?_
  refine r_icF i2_26 (XT.ii_gt_f h3) ?_
  refine r_iload i2_29 rfl ?_
  refine r_istoreN (ls' := [_, _, _, _, _]) i2_31 rfl rfl ?_
  refine r_goto i2_32 ?_
  refine r_goto i2_40 ?_
  refine r_iloadN i2_7 rfl ?_
  refine r_iloadN i2_8 rfl ?_
  refine r_icF i2_9 (XT.ii_ge_f (by first | assumption | rfl | decide | omega)) ?_
  refine r_iloadN i2_12 rfl ?_
  refine r_iloadN i2_13 rfl ?_
  refine r_iadd i2_14 ?_
  refine r_iconst i2_15 ?_
  refine r_iadd i2_16 ?_
  refine r_iconst i2_17 ?_
  refine r_iushr i2_18 ?_
  refine r_istore (ls' := [_, _, _, _, _]) i2_19 rfl rfl ?_
  refine r_aloadN i2_21 rfl rfl ?_
  refine r_iload i2_22 rfl ?_
  refine r_iaload (i := 4) i2_24 rfl ⟨by decide, by decide⟩ rfl ?_
  refine r_iloadN i2_25 rfl ?_
  refine r_icF i2_26 (XT.ii_gt_f h4) ?_
  refine r_iload i2_29 rfl ?_
  refine r_istoreN (ls' := [_, _, _, _, _]) i2_31 rfl rfl ?_
  refine r_goto i2_32 ?_
  refine r_goto i2_40 ?_
  refine r_iloadN i2_7 rfl ?_
  refine r_iloadN i2_8 rfl ?_
  refine r_icT i2_9 (XT.ii_ge_t (by first | assumption | rfl | decide | omega)) ?_
  refine r_iloadN i2_43 rfl ?_
  exact r_ireturnE i2_44 rfl (by decide)
theorem items3 {l : Launch} {Z : State} {a0 : Array Value} {n0 : Nat} (hw : HW Z a0) {q : Ob} {s0 s1 s2 s3 s4 s5 x : Int32} (h2 : ¬ x < s2) (h3 : ¬ x < s3) (h4 : x < s4) : Meets K l Z n0 m2 [.ref 0, .int x] [.inr (.int, [.int s0, .int s1, .int s2, .int s3, .int s4, .int s5]), q] (some (.int 3)) [.inr (.int, [.int s0, .int s1, .int s2, .int s3, .int s4, .int s5]), q] := by
  refine meets (ls := [_, _, _, _, _]) pf2 rfl (fun h => nomatch h) ?_
  refine r_iconst i2_0 ?_
  refine r_istoreN (ls' := [_, _, _, _, _]) i2_1 rfl rfl ?_
  refine r_aloadN i2_2 rfl rfl ?_
  refine r_len (n := 6) i2_3 rfl rfl ?_
  refine r_iconst i2_4 ?_
  refine r_isub i2_5 ?_
  refine r_istoreN (ls' := [_, _, _, _, _]) i2_6 rfl rfl ?_
  refine r_iloadN i2_7 rfl ?_
  refine r_iloadN i2_8 rfl ?_
  refine r_icF i2_9 (XT.ii_ge_f (by first | assumption | rfl | decide | omega)) ?_
  refine r_iloadN i2_12 rfl ?_
  refine r_iloadN i2_13 rfl ?_
  refine r_iadd i2_14 ?_
  refine r_iconst i2_15 ?_
  refine r_iadd i2_16 ?_
  refine r_iconst i2_17 ?_
  refine r_iushr i2_18 ?_
  refine r_istore (ls' := [_, _, _, _, _]) i2_19 rfl rfl ?_
  refine r_aloadN i2_21 rfl rfl ?_
  refine r_iload i2_22 rfl ?_
  refine r_iaload (i := 2) i2_24 rfl ⟨by decide, by decide⟩ rfl ?_
  refine r_iloadN i2_25 rfl ?_
  refine r_icF i2_26 (XT.ii_gt_f h2) ?_
  refine r_iload i2_29 rfl ?_
  refine r_istoreN (ls' := [_, _, _, _, _]) i2_31 rfl rfl ?_
  refine r_goto i2_32 ?_
  refine r_goto i2_40 ?_
  refine r_iloadN i2_7 rfl ?_
  refine r_iloadN i2_8 rfl ?_
  refine r_icF i2_9 (XT.ii_ge_f (by first | assumption | rfl | decide | omega)) ?_
  refine r_iloadN i2_12 rfl ?_
  refine r_iloadN i2_13 rfl ?_
  refine r_iadd i2_14 ?_
  refine r_iconst i2_15 ?_
  refine r_iadd i2_16 ?_
  refine r_iconst i2_17 ?_
  refine r_iushr i2_18 ?_
  refine r_istore (ls' := [_, _, _, _, _]) i2_19 rfl rfl ?_
  refine r_aloadN i2_21 rfl rfl ?_
  refine r_iload i2_22 rfl ?_
  refine r_iaload (i := 3) i2_24 rfl ⟨by decide, by decide⟩ rfl ?_
  refine r_iloadN i2_25 rfl ?_
  refine r_icF i2_26 (XT.ii_gt_f h3) ?_
  refine r_iload i2_29 rfl ?_
  refine r_istoreN (ls' := [_, _, _, _, _]) i2_31 rfl rfl ?_
  refine r_goto i2_32 ?_
  refine r_goto i2_40 ?_
  refine r_iloadN i2_7 rfl ?_
  refine r_iloadN i2_8 rfl ?_
  refine r_icF i2_9 (XT.ii_ge_f (by first | assumption | rfl | decide | omega)) ?_
  refine r_iloadN i2_12 rfl ?_
  refine r_iloadN i2_13 rfl ?_
  refine r_iadd i2_14 ?_
  refine r_iconst i2_15 ?_
  refine r_iadd i2_16 ?_
  refine r_iconst i2_17 ?_
  refine r_iushr i2_18 ?_
  refine r_istore (ls' := [_, _, _, _, _]) i2_19 rfl rfl ?_
  refine r_aloadN i2_21 rfl rfl ?_
  refine r_iload i2_22 rfl ?_
  refine r_iaload (i := 4) i2_24 rfl ⟨by decide, by decide⟩ rfl ?_
  refine r_iloadN i2_25 rfl ?_
  refine r_icT i2_26 (XT.ii_gt_t h4) ?_
  refine r_iload i2_35 rfl ?_
  refine r_iconst i2_37 ?_
  refine r_isub i2_38 ?_
  refine r_istoreN (ls' := [_, _, _, _, _]) i2_39 rfl rfl ?_
  refine r_goto i2_40 ?_
  refine r_iloadN i2_7 rfl ?_
  refine r_iloadN i2_8 rfl ?_
  refine r_icT i2_9 (XT.ii_ge_t (by first | assumption | rfl | decide | omega)) ?_
  refine r_iloadN i2_43 rfl ?_
  exact r_ireturnE i2_44 rfl (by decide)
theorem items2 {l : Launch} {Z : State} {a0 : Array Value} {n0 : Nat} (hw : HW Z a0) {q : Ob} {s0 s1 s2 s3 s4 s5 x : Int32} (h2 : ¬ x < s2) (h3 : x < s3) : Meets K l Z n0 m2 [.ref 0, .int x] [.inr (.int, [.int s0, .int s1, .int s2, .int s3, .int s4, .int s5]), q] (some (.int 2)) [.inr (.int, [.int s0, .int s1, .int s2, .int s3, .int s4, .int s5]), q] := by
  refine meets (ls := [_, _, _, _, _]) pf2 rfl (fun h => nomatch h) ?_
  refine r_iconst i2_0 ?_
  refine r_istoreN (ls' := [_, _, _, _, _]) i2_1 rfl rfl ?_
  refine r_aloadN i2_2 rfl rfl ?_
  refine r_len (n := 6) i2_3 rfl rfl ?_
  refine r_iconst i2_4 ?_
  refine r_isub i2_5 ?_
  refine r_istoreN (ls' := [_, _, _, _, _]) i2_6 rfl rfl ?_
  refine r_iloadN i2_7 rfl ?_
  refine r_iloadN i2_8 rfl ?_
  refine r_icF i2_9 (XT.ii_ge_f (by first | assumption | rfl | decide | omega)) ?_
  refine r_iloadN i2_12 rfl ?_
  refine r_iloadN i2_13 rfl ?_
  refine r_iadd i2_14 ?_
  refine r_iconst i2_15 ?_
  refine r_iadd i2_16 ?_
  refine r_iconst i2_17 ?_
  refine r_iushr i2_18 ?_
  refine r_istore (ls' := [_, _, _, _, _]) i2_19 rfl rfl ?_
  refine r_aloadN i2_21 rfl rfl ?_
  refine r_iload i2_22 rfl ?_
  refine r_iaload (i := 2) i2_24 rfl ⟨by decide, by decide⟩ rfl ?_
  refine r_iloadN i2_25 rfl ?_
  refine r_icF i2_26 (XT.ii_gt_f h2) ?_
  refine r_iload i2_29 rfl ?_
  refine r_istoreN (ls' := [_, _, _, _, _]) i2_31 rfl rfl ?_
  refine r_goto i2_32 ?_
  refine r_goto i2_40 ?_
  refine r_iloadN i2_7 rfl ?_
  refine r_iloadN i2_8 rfl ?_
  refine r_icF i2_9 (XT.ii_ge_f (by first | assumption | rfl | decide | omega)) ?_
  refine r_iloadN i2_12 rfl ?_
  refine r_iloadN i2_13 rfl ?_
  refine r_iadd i2_14 ?_
  refine r_iconst i2_15 ?_
  refine r_iadd i2_16 ?_
  refine r_iconst i2_17 ?_
  refine r_iushr i2_18 ?_
  refine r_istore (ls' := [_, _, _, _, _]) i2_19 rfl rfl ?_
  refine r_aloadN i2_21 rfl rfl ?_
  refine r_iload i2_22 rfl ?_
  refine r_iaload (i := 3) i2_24 rfl ⟨by decide, by decide⟩ rfl ?_
  refine r_iloadN i2_25 rfl ?_
  refine r_icT i2_26 (XT.ii_gt_t h3) ?_
  refine r_iload i2_35 rfl ?_
  refine r_iconst i2_37 ?_
  refine r_isub i2_38 ?_
  refine r_istoreN (ls' := [_, _, _, _, _]) i2_39 rfl rfl ?_
  refine r_goto i2_40 ?_
  refine r_iloadN i2_7 rfl ?_
  refine r_iloadN i2_8 rfl ?_
  refine r_icT i2_9 (XT.ii_ge_t (by first | assumption | rfl | decide | omega)) ?_
  refine r_iloadN i2_43 rfl ?_
  exact r_ireturnE i2_44 rfl (by decide)
theorem items1 {l : Launch} {Z : State} {a0 : Array Value} {n0 : Nat} (hw : HW Z a0) {q : Ob} {s0 s1 s2 s3 s4 s5 x : Int32} (h2 : x < s2) (h1 : ¬ x < s1) : Meets K l Z n0 m2 [.ref 0, .int x] [.inr (.int, [.int s0, .int s1, .int s2, .int s3, .int s4, .int s5]), q] (some (.int 1)) [.inr (.int, [.int s0, .int s1, .int s2, .int s3, .int s4, .int s5]), q] := by
  refine meets (ls := [_, _, _, _, _]) pf2 rfl (fun h => nomatch h) ?_
  refine r_iconst i2_0 ?_
  refine r_istoreN (ls' := [_, _, _, _, _]) i2_1 rfl rfl ?_
  refine r_aloadN i2_2 rfl rfl ?_
  refine r_len (n := 6) i2_3 rfl rfl ?_
  refine r_iconst i2_4 ?_
  refine r_isub i2_5 ?_
  refine r_istoreN (ls' := [_, _, _, _, _]) i2_6 rfl rfl ?_
  refine r_iloadN i2_7 rfl ?_
  refine r_iloadN i2_8 rfl ?_
  refine r_icF i2_9 (XT.ii_ge_f (by first | assumption | rfl | decide | omega)) ?_
  refine r_iloadN i2_12 rfl ?_
  refine r_iloadN i2_13 rfl ?_
  refine r_iadd i2_14 ?_
  refine r_iconst i2_15 ?_
  refine r_iadd i2_16 ?_
  refine r_iconst i2_17 ?_
  refine r_iushr i2_18 ?_
  refine r_istore (ls' := [_, _, _, _, _]) i2_19 rfl rfl ?_
  refine r_aloadN i2_21 rfl rfl ?_
  refine r_iload i2_22 rfl ?_
  refine r_iaload (i := 2) i2_24 rfl ⟨by decide, by decide⟩ rfl ?_
  refine r_iloadN i2_25 rfl ?_
  refine r_icT i2_26 (XT.ii_gt_t h2) ?_
  refine r_iload i2_35 rfl ?_
  refine r_iconst i2_37 ?_
  refine r_isub i2_38 ?_
  refine r_istoreN (ls' := [_, _, _, _, _]) i2_39 rfl rfl ?_
  refine r_goto i2_40 ?_
  refine r_iloadN i2_7 rfl ?_
  refine r_iloadN i2_8 rfl ?_
  refine r_icF i2_9 (XT.ii_ge_f (by first | assumption | rfl | decide | omega)) ?_
  refine r_iloadN i2_12 rfl ?_
  refine r_iloadN i2_13 rfl ?_
  refine r_iadd i2_14 ?_
  refine r_iconst i2_15 ?_
  refine r_iadd i2_16 ?_
  refine r_iconst i2_17 ?_
  refine r_iushr i2_18 ?_
  refine r_istore (ls' := [_, _, _, _, _]) i2_19 rfl rfl ?_
  refine r_aloadN i2_21 rfl rfl ?_
  refine r_iload i2_22 rfl ?_
  refine r_iaload (i := 1) i2_24 rfl ⟨by decide, by decide⟩ rfl ?_
  refine r_iloadN i2_25 rfl ?_
  refine r_icF i2_26 (XT.ii_gt_f h1) ?_
  refine r_iload i2_29 rfl ?_
  refine r_istoreN (ls' := [_, _, _, _, _]) i2_31 rfl rfl ?_
  refine r_goto i2_32 ?_
  refine r_goto i2_40 ?_
  refine r_iloadN i2_7 rfl ?_
  refine r_iloadN i2_8 rfl ?_
  refine r_icT i2_9 (XT.ii_ge_t (by first | assumption | rfl | decide | omega)) ?_
  refine r_iloadN i2_43 rfl ?_
  exact r_ireturnE i2_44 rfl (by decide)
theorem items0 {l : Launch} {Z : State} {a0 : Array Value} {n0 : Nat} (hw : HW Z a0) {q : Ob} {s0 s1 s2 s3 s4 s5 x : Int32} (h2 : x < s2) (h1 : x < s1) : Meets K l Z n0 m2 [.ref 0, .int x] [.inr (.int, [.int s0, .int s1, .int s2, .int s3, .int s4, .int s5]), q] (some (.int 0)) [.inr (.int, [.int s0, .int s1, .int s2, .int s3, .int s4, .int s5]), q] := by
  refine meets (ls := [_, _, _, _, _]) pf2 rfl (fun h => nomatch h) ?_
  refine r_iconst i2_0 ?_
  refine r_istoreN (ls' := [_, _, _, _, _]) i2_1 rfl rfl ?_
  refine r_aloadN i2_2 rfl rfl ?_
  refine r_len (n := 6) i2_3 rfl rfl ?_
  refine r_iconst i2_4 ?_
  refine r_isub i2_5 ?_
  refine r_istoreN (ls' := [_, _, _, _, _]) i2_6 rfl rfl ?_
  refine r_iloadN i2_7 rfl ?_
  refine r_iloadN i2_8 rfl ?_
  refine r_icF i2_9 (XT.ii_ge_f (by first | assumption | rfl | decide | omega)) ?_
  refine r_iloadN i2_12 rfl ?_
  refine r_iloadN i2_13 rfl ?_
  refine r_iadd i2_14 ?_
  refine r_iconst i2_15 ?_
  refine r_iadd i2_16 ?_
  refine r_iconst i2_17 ?_
  refine r_iushr i2_18 ?_
  refine r_istore (ls' := [_, _, _, _, _]) i2_19 rfl rfl ?_
  refine r_aloadN i2_21 rfl rfl ?_
  refine r_iload i2_22 rfl ?_
  refine r_iaload (i := 2) i2_24 rfl ⟨by decide, by decide⟩ rfl ?_
  refine r_iloadN i2_25 rfl ?_
  refine r_icT i2_26 (XT.ii_gt_t h2) ?_
  refine r_iload i2_35 rfl ?_
  refine r_iconst i2_37 ?_
  refine r_isub i2_38 ?_
  refine r_istoreN (ls' := [_, _, _, _, _]) i2_39 rfl rfl ?_
  refine r_goto i2_40 ?_
  refine r_iloadN i2_7 rfl ?_
  refine r_iloadN i2_8 rfl ?_
  refine r_icF i2_9 (XT.ii_ge_f (by first | assumption | rfl | decide | omega)) ?_
  refine r_iloadN i2_12 rfl ?_
  refine r_iloadN i2_13 rfl ?_
  refine r_iadd i2_14 ?_
  refine r_iconst i2_15 ?_
  refine r_iadd i2_16 ?_
  refine r_iconst i2_17 ?_
  refine r_iushr i2_18 ?_
  refine r_istore (ls' := [_, _, _, _, _]) i2_19 rfl rfl ?_
  refine r_aloadN i2_21 rfl rfl ?_
  refine r_iload i2_22 rfl ?_
  refine r_iaload (i := 1) i2_24 rfl ⟨by decide, by decide⟩ rfl ?_
  refine r_iloadN i2_25 rfl ?_
  refine r_icT i2_26 (XT.ii_gt_t h1) ?_
  refine r_iload i2_35 rfl ?_
  refine r_iconst i2_37 ?_
  refine r_isub i2_38 ?_
  refine r_istoreN (ls' := [_, _, _, _, _]) i2_39 rfl rfl ?_
  refine r_goto i2_40 ?_
  refine r_iloadN i2_7 rfl ?_
  refine r_iloadN i2_8 rfl ?_
  refine r_icT i2_9 (XT.ii_ge_t (by first | assumption | rfl | decide | omega)) ?_
  refine r_iloadN i2_43 rfl ?_
  exact r_ireturnE i2_44 rfl (by decide)
theorem itemt1 {l : Launch} {Z : State} {a0 : Array Value} {n0 : Nat} (hw : HW Z a0) {q : Ob} {t0 t1 t2 x : Int32} (h1 : ¬ x < t1) : Meets K l Z n0 m2 [.ref 1, .int x] [q, .inr (.int, [.int t0, .int t1, .int t2])] (some (.int 1)) [q, .inr (.int, [.int t0, .int t1, .int t2])] := by
  refine meets (ls := [_, _, _, _, _]) pf2 rfl (fun h => nomatch h) ?_
  refine r_iconst i2_0 ?_
  refine r_istoreN (ls' := [_, _, _, _, _]) i2_1 rfl rfl ?_
  refine r_aloadN i2_2 rfl rfl ?_
  refine r_len (n := 3) i2_3 rfl rfl ?_
  refine r_iconst i2_4 ?_
  refine r_isub i2_5 ?_
  refine r_istoreN (ls' := [_, _, _, _, _]) i2_6 rfl rfl ?_
  refine r_iloadN i2_7 rfl ?_
  refine r_iloadN i2_8 rfl ?_
  refine r_icF i2_9 (XT.ii_ge_f (by first | assumption | rfl | decide | omega)) ?_
  refine r_iloadN i2_12 rfl ?_
  refine r_iloadN i2_13 rfl ?_
  refine r_iadd i2_14 ?_
  refine r_iconst i2_15 ?_
  refine r_iadd i2_16 ?_
  refine r_iconst i2_17 ?_
  refine r_iushr i2_18 ?_
  refine r_istore (ls' := [_, _, _, _, _]) i2_19 rfl rfl ?_
  refine r_aloadN i2_21 rfl rfl ?_
  refine r_iload i2_22 rfl ?_
  refine r_iaload (i := 1) i2_24 rfl ⟨by decide, by decide⟩ rfl ?_
  refine r_iloadN i2_25 rfl ?_
  refine r_icF i2_26 (XT.ii_gt_f h1) ?_
  refine r_iload i2_29 rfl ?_
  refine r_istoreN (ls' := [_, _, _, _, _]) i2_31 rfl rfl ?_
  refine r_goto i2_32 ?_
  refine r_goto i2_40 ?_
  refine r_iloadN i2_7 rfl ?_
  refine r_iloadN i2_8 rfl ?_
  refine r_icT i2_9 (XT.ii_ge_t (by first | assumption | rfl | decide | omega)) ?_
  refine r_iloadN i2_43 rfl ?_
  exact r_ireturnE i2_44 rfl (by decide)
theorem itemt0 {l : Launch} {Z : State} {a0 : Array Value} {n0 : Nat} (hw : HW Z a0) {q : Ob} {t0 t1 t2 x : Int32} (h1 : x < t1) : Meets K l Z n0 m2 [.ref 1, .int x] [q, .inr (.int, [.int t0, .int t1, .int t2])] (some (.int 0)) [q, .inr (.int, [.int t0, .int t1, .int t2])] := by
  refine meets (ls := [_, _, _, _, _]) pf2 rfl (fun h => nomatch h) ?_
  refine r_iconst i2_0 ?_
  refine r_istoreN (ls' := [_, _, _, _, _]) i2_1 rfl rfl ?_
  refine r_aloadN i2_2 rfl rfl ?_
  refine r_len (n := 3) i2_3 rfl rfl ?_
  refine r_iconst i2_4 ?_
  refine r_isub i2_5 ?_
  refine r_istoreN (ls' := [_, _, _, _, _]) i2_6 rfl rfl ?_
  refine r_iloadN i2_7 rfl ?_
  refine r_iloadN i2_8 rfl ?_
  refine r_icF i2_9 (XT.ii_ge_f (by first | assumption | rfl | decide | omega)) ?_
  refine r_iloadN i2_12 rfl ?_
  refine r_iloadN i2_13 rfl ?_
  refine r_iadd i2_14 ?_
  refine r_iconst i2_15 ?_
  refine r_iadd i2_16 ?_
  refine r_iconst i2_17 ?_
  refine r_iushr i2_18 ?_
  refine r_istore (ls' := [_, _, _, _, _]) i2_19 rfl rfl ?_
  refine r_aloadN i2_21 rfl rfl ?_
  refine r_iload i2_22 rfl ?_
  refine r_iaload (i := 1) i2_24 rfl ⟨by decide, by decide⟩ rfl ?_
  refine r_iloadN i2_25 rfl ?_
  refine r_icT i2_26 (XT.ii_gt_t h1) ?_
  refine r_iload i2_35 rfl ?_
  refine r_iconst i2_37 ?_
  refine r_isub i2_38 ?_
  refine r_istoreN (ls' := [_, _, _, _, _]) i2_39 rfl rfl ?_
  refine r_goto i2_40 ?_
  refine r_iloadN i2_7 rfl ?_
  refine r_iloadN i2_8 rfl ?_
  refine r_icT i2_9 (XT.ii_ge_t (by first | assumption | rfl | decide | omega)) ?_
  refine r_iloadN i2_43 rfl ?_
  exact r_ireturnE i2_44 rfl (by decide)
theorem own_rem (x n : Int32) (hn : 0 < n.toInt) : 0 ≤ ((x &&& 2147483647) % n).toInt ∧ ((x &&& 2147483647) % n).toInt < n.toInt := by
  have h := c_mask x 2147483647 31 (by decide) (by decide)
  have q := (c_iremV (x &&& 2147483647) n).1 (by omega) hn
  exact ⟨q.1, q.2.1⟩
theorem own_add {x y : Int32} (h : -2147483648 ≤ x.toInt + y.toInt ∧ x.toInt + y.toInt < 2147483648) : (x + y).toInt = x.toInt + y.toInt := by
  have q := c_iadd x y
  have l1 := Int32.le_toInt (x + y)
  have l2 := Int32.toInt_lt (x + y)
  omega
theorem own_sub {x y : Int32} (h : -2147483648 ≤ x.toInt - y.toInt ∧ x.toInt - y.toInt < 2147483648) : (x - y).toInt = x.toInt - y.toInt := by
  have q := c_isub x y
  have l1 := Int32.le_toInt (x - y)
  have l2 := Int32.toInt_lt (x - y)
  omega
set_option maxHeartbeats 4000000 in
theorem secondA {l : Launch} {Z : State} {a0 : Array Value} {n0 : Nat} (hw : HW Z a0) (p0 p2 p3 bs tot s0 s1 s2 s3 s4 s5 t0 t1 t2 : Int32) (p1 : Int64) (h0 : t0.toInt = bs.toInt) (hb : 0 ≤ bs.toInt ∧ bs.toInt < 1073741824) (ht : t0.toInt ≤ t2.toInt ∧ t2.toInt ≤ bs.toInt + 510) : Runs K l Z n0 m0 207 [.val (.int p0), .val (.long p1), .second, .val (.int p2), .val (.int p3), .val (.int bs), .val (.ref 0), .val (.ref 1), .val (.int 1), .val (.int tot), .unset, .unset, .unset, .unset] [] [.inr (.int, [.int s0, .int s1, .int s2, .int s3, .int s4, .int s5]), .inr (.int, [.int t0, .int t1, .int t2])] (some (.int 1)) [.inr (.int, [.int s0, .int s1, .int s2, .int s3, .int s4, .int s5]), .inr (.int, [.int t0, .int t1, .int t2])] := by
  refine r_iconst i0_207 ?_
  refine r_istore (ls' := [_, _, _, _, _, _, _, _, _, _, _, _, _, _]) i0_208 rfl rfl ?_
  refine r_aload i0_210 rfl rfl ?_
  refine r_iconst i0_212 ?_
  refine r_iaload (i := 2) i0_213 rfl ⟨by decide, by decide⟩ rfl ?_
  refine r_aload i0_214 rfl rfl ?_
  refine r_iconst i0_216 ?_
  refine r_iaload (i := 0) i0_217 rfl ⟨by decide, by decide⟩ rfl ?_
  refine r_isub i0_218 ?_
  refine r_istore (ls' := [_, _, _, _, _, _, _, _, _, _, _, _, _, _]) i0_219 rfl rfl ?_
  by_cases hp : 0 < t2 - t0
  rotate_left
  · skip
    refine r_iload i0_221 rfl ?_
    refine r_ifT i0_223 (XT.i0_le_t hp) ?_
    refine r_iload i0_288 rfl ?_
    refine r_ifF i0_290 (XT.i0_eq_f (by decide)) ?_
    refine r_iload i0_293 rfl ?_
    refine r_ifF i0_295 (XT.i0_eq_f (by decide)) ?_
    refine r_iconst i0_298 ?_
    refine r_goto i0_299 ?_
    exact r_zreturn i0_303 rfl (by first | decide | simp)
  have e0 : (0 : Int32).toInt = 0 := by decide
  have et : (t2 - t0).toInt = t2.toInt - t0.toInt := own_sub (by omega)
  have hp' := hp
  rw [Int32.lt_iff_toInt_lt] at hp'
  have nz : t2 - t0 ≠ 0 := by
    intro z
    rw [z] at et hp'
    omega
  have er := own_rem p3 (t2 - t0) (by omega)
  have ei : (bs + (p3 &&& 2147483647) % (t2 - t0)).toInt = bs.toInt + ((p3 &&& 2147483647) % (t2 - t0)).toInt := own_add (by omega)
  have q0 : ¬ bs + (p3 &&& 2147483647) % (t2 - t0) < t0 := by rw [Int32.lt_iff_toInt_lt]; omega
  have q1 : bs + (p3 &&& 2147483647) % (t2 - t0) < t2 := by rw [Int32.lt_iff_toInt_lt]; omega
  by_cases h1 : bs + (p3 &&& 2147483647) % (t2 - t0) < t1
  · skip
    refine r_iload i0_221 rfl ?_
    refine r_ifF i0_223 (XT.i0_le_f hp) ?_
    refine r_iload i0_226 rfl ?_
    refine r_iload i0_228 rfl ?_
    refine s0_230 hw ?_
    refine r_iand i0_232 ?_
    refine r_iload i0_233 rfl ?_
    refine r_irem i0_235 nz ?_
    refine r_iadd i0_236 ?_
    refine r_istore (ls' := [_, _, _, _, _, _, _, _, _, _, _, _, _, _]) i0_237 rfl rfl ?_
    refine r_aload i0_239 rfl rfl ?_
    refine r_iload i0_241 rfl ?_
    refine s0_243 hw (H1 := [_, _]) (itemt0 hw (h1 := h1)) rfl (leB rfl) ?_
    refine r_istore (ls' := [_, _, _, _, _, _, _, _, _, _, _, _, _, _]) i0_246 rfl rfl ?_
    refine r_iload i0_248 rfl ?_
    refine r_ifF i0_250 (XT.i0_lt_f (by decide)) ?_
    refine r_iload i0_253 rfl ?_
    refine r_iconst i0_255 ?_
    refine r_icF i0_256 (XT.ii_gt_f (by decide)) ?_
    refine r_aload i0_259 rfl rfl ?_
    refine r_iload i0_261 rfl ?_
    refine r_iaload (i := 0) i0_263 rfl ⟨by decide, by decide⟩ rfl ?_
    refine r_iload i0_264 rfl ?_
    refine r_icF i0_266 (XT.ii_gt_f q0) ?_
    refine r_iload i0_269 rfl ?_
    refine r_aload i0_271 rfl rfl ?_
    refine r_iload i0_273 rfl ?_
    refine r_iconst i0_275 ?_
    refine r_iadd i0_276 ?_
    refine r_iaload (i := 1) i0_277 rfl ⟨by decide, by decide⟩ rfl ?_
    refine r_icF i0_278 (XT.ii_ge_f h1) ?_
    refine r_iconst i0_281 ?_
    refine r_goto i0_282 ?_
    refine r_istore (ls' := [_, _, _, _, _, _, _, _, _, _, _, _, _, _]) i0_286 rfl rfl ?_
    refine r_iload i0_288 rfl ?_
    refine r_ifF i0_290 (XT.i0_eq_f (by decide)) ?_
    refine r_iload i0_293 rfl ?_
    refine r_ifF i0_295 (XT.i0_eq_f (by decide)) ?_
    refine r_iconst i0_298 ?_
    refine r_goto i0_299 ?_
    exact r_zreturn i0_303 rfl (by first | decide | simp)
  · skip
    refine r_iload i0_221 rfl ?_
    refine r_ifF i0_223 (XT.i0_le_f hp) ?_
    refine r_iload i0_226 rfl ?_
    refine r_iload i0_228 rfl ?_
    refine s0_230 hw ?_
    refine r_iand i0_232 ?_
    refine r_iload i0_233 rfl ?_
    refine r_irem i0_235 nz ?_
    refine r_iadd i0_236 ?_
    refine r_istore (ls' := [_, _, _, _, _, _, _, _, _, _, _, _, _, _]) i0_237 rfl rfl ?_
    refine r_aload i0_239 rfl rfl ?_
    refine r_iload i0_241 rfl ?_
    refine s0_243 hw (H1 := [_, _]) (itemt1 hw (h1 := h1)) rfl (leB rfl) ?_
    refine r_istore (ls' := [_, _, _, _, _, _, _, _, _, _, _, _, _, _]) i0_246 rfl rfl ?_
    refine r_iload i0_248 rfl ?_
    refine r_ifF i0_250 (XT.i0_lt_f (by decide)) ?_
    refine r_iload i0_253 rfl ?_
    refine r_iconst i0_255 ?_
    refine r_icF i0_256 (XT.ii_gt_f (by decide)) ?_
    refine r_aload i0_259 rfl rfl ?_
    refine r_iload i0_261 rfl ?_
    refine r_iaload (i := 1) i0_263 rfl ⟨by decide, by decide⟩ rfl ?_
    refine r_iload i0_264 rfl ?_
    refine r_icF i0_266 (XT.ii_gt_f h1) ?_
    refine r_iload i0_269 rfl ?_
    refine r_aload i0_271 rfl rfl ?_
    refine r_iload i0_273 rfl ?_
    refine r_iconst i0_275 ?_
    refine r_iadd i0_276 ?_
    refine r_iaload (i := 2) i0_277 rfl ⟨by decide, by decide⟩ rfl ?_
    refine r_icF i0_278 (XT.ii_ge_f q1) ?_
    refine r_iconst i0_281 ?_
    refine r_goto i0_282 ?_
    refine r_istore (ls' := [_, _, _, _, _, _, _, _, _, _, _, _, _, _]) i0_286 rfl rfl ?_
    refine r_iload i0_288 rfl ?_
    refine r_ifF i0_290 (XT.i0_eq_f (by decide)) ?_
    refine r_iload i0_293 rfl ?_
    refine r_ifF i0_295 (XT.i0_eq_f (by decide)) ?_
    refine r_iconst i0_298 ?_
    refine r_goto i0_299 ?_
    exact r_zreturn i0_303 rfl (by first | decide | simp)
set_option maxHeartbeats 4000000 in
theorem secondB {l : Launch} {Z : State} {a0 : Array Value} {n0 : Nat} (hw : HW Z a0) (p0 p2 p3 bs tot s0 s1 s2 s3 s4 s5 t0 t1 t2 : Int32) (p1 : Int64) (u w : Int32) (h0 : t0.toInt = bs.toInt) (hb : 0 ≤ bs.toInt ∧ bs.toInt < 1073741824) (ht : t0.toInt ≤ t2.toInt ∧ t2.toInt ≤ bs.toInt + 510) : Runs K l Z n0 m0 207 [.val (.int p0), .val (.long p1), .second, .val (.int p2), .val (.int p3), .val (.int bs), .val (.ref 0), .val (.ref 1), .val (.int 1), .val (.int tot), .val (.int u), .val (.int w), .unset, .unset] [] [.inr (.int, [.int s0, .int s1, .int s2, .int s3, .int s4, .int s5]), .inr (.int, [.int t0, .int t1, .int t2])] (some (.int 1)) [.inr (.int, [.int s0, .int s1, .int s2, .int s3, .int s4, .int s5]), .inr (.int, [.int t0, .int t1, .int t2])] := by
  refine r_iconst i0_207 ?_
  refine r_istore (ls' := [_, _, _, _, _, _, _, _, _, _, _, _, _, _]) i0_208 rfl rfl ?_
  refine r_aload i0_210 rfl rfl ?_
  refine r_iconst i0_212 ?_
  refine r_iaload (i := 2) i0_213 rfl ⟨by decide, by decide⟩ rfl ?_
  refine r_aload i0_214 rfl rfl ?_
  refine r_iconst i0_216 ?_
  refine r_iaload (i := 0) i0_217 rfl ⟨by decide, by decide⟩ rfl ?_
  refine r_isub i0_218 ?_
  refine r_istore (ls' := [_, _, _, _, _, _, _, _, _, _, _, _, _, _]) i0_219 rfl rfl ?_
  by_cases hp : 0 < t2 - t0
  rotate_left
  · skip
    refine r_iload i0_221 rfl ?_
    refine r_ifT i0_223 (XT.i0_le_t hp) ?_
    refine r_iload i0_288 rfl ?_
    refine r_ifF i0_290 (XT.i0_eq_f (by decide)) ?_
    refine r_iload i0_293 rfl ?_
    refine r_ifF i0_295 (XT.i0_eq_f (by decide)) ?_
    refine r_iconst i0_298 ?_
    refine r_goto i0_299 ?_
    exact r_zreturn i0_303 rfl (by first | decide | simp)
  have e0 : (0 : Int32).toInt = 0 := by decide
  have et : (t2 - t0).toInt = t2.toInt - t0.toInt := own_sub (by omega)
  have hp' := hp
  rw [Int32.lt_iff_toInt_lt] at hp'
  have nz : t2 - t0 ≠ 0 := by
    intro z
    rw [z] at et hp'
    omega
  have er := own_rem p3 (t2 - t0) (by omega)
  have ei : (bs + (p3 &&& 2147483647) % (t2 - t0)).toInt = bs.toInt + ((p3 &&& 2147483647) % (t2 - t0)).toInt := own_add (by omega)
  have q0 : ¬ bs + (p3 &&& 2147483647) % (t2 - t0) < t0 := by rw [Int32.lt_iff_toInt_lt]; omega
  have q1 : bs + (p3 &&& 2147483647) % (t2 - t0) < t2 := by rw [Int32.lt_iff_toInt_lt]; omega
  by_cases h1 : bs + (p3 &&& 2147483647) % (t2 - t0) < t1
  · skip
    refine r_iload i0_221 rfl ?_
    refine r_ifF i0_223 (XT.i0_le_f hp) ?_
    refine r_iload i0_226 rfl ?_
    refine r_iload i0_228 rfl ?_
    refine s0_230 hw ?_
    refine r_iand i0_232 ?_
    refine r_iload i0_233 rfl ?_
    refine r_irem i0_235 nz ?_
    refine r_iadd i0_236 ?_
    refine r_istore (ls' := [_, _, _, _, _, _, _, _, _, _, _, _, _, _]) i0_237 rfl rfl ?_
    refine r_aload i0_239 rfl rfl ?_
    refine r_iload i0_241 rfl ?_
    refine s0_243 hw (H1 := [_, _]) (itemt0 hw (h1 := h1)) rfl (leB rfl) ?_
    refine r_istore (ls' := [_, _, _, _, _, _, _, _, _, _, _, _, _, _]) i0_246 rfl rfl ?_
    refine r_iload i0_248 rfl ?_
    refine r_ifF i0_250 (XT.i0_lt_f (by decide)) ?_
    refine r_iload i0_253 rfl ?_
    refine r_iconst i0_255 ?_
    refine r_icF i0_256 (XT.ii_gt_f (by decide)) ?_
    refine r_aload i0_259 rfl rfl ?_
    refine r_iload i0_261 rfl ?_
    refine r_iaload (i := 0) i0_263 rfl ⟨by decide, by decide⟩ rfl ?_
    refine r_iload i0_264 rfl ?_
    refine r_icF i0_266 (XT.ii_gt_f q0) ?_
    refine r_iload i0_269 rfl ?_
    refine r_aload i0_271 rfl rfl ?_
    refine r_iload i0_273 rfl ?_
    refine r_iconst i0_275 ?_
    refine r_iadd i0_276 ?_
    refine r_iaload (i := 1) i0_277 rfl ⟨by decide, by decide⟩ rfl ?_
    refine r_icF i0_278 (XT.ii_ge_f h1) ?_
    refine r_iconst i0_281 ?_
    refine r_goto i0_282 ?_
    refine r_istore (ls' := [_, _, _, _, _, _, _, _, _, _, _, _, _, _]) i0_286 rfl rfl ?_
    refine r_iload i0_288 rfl ?_
    refine r_ifF i0_290 (XT.i0_eq_f (by decide)) ?_
    refine r_iload i0_293 rfl ?_
    refine r_ifF i0_295 (XT.i0_eq_f (by decide)) ?_
    refine r_iconst i0_298 ?_
    refine r_goto i0_299 ?_
    exact r_zreturn i0_303 rfl (by first | decide | simp)
  · skip
    refine r_iload i0_221 rfl ?_
    refine r_ifF i0_223 (XT.i0_le_f hp) ?_
    refine r_iload i0_226 rfl ?_
    refine r_iload i0_228 rfl ?_
    refine s0_230 hw ?_
    refine r_iand i0_232 ?_
    refine r_iload i0_233 rfl ?_
    refine r_irem i0_235 nz ?_
    refine r_iadd i0_236 ?_
    refine r_istore (ls' := [_, _, _, _, _, _, _, _, _, _, _, _, _, _]) i0_237 rfl rfl ?_
    refine r_aload i0_239 rfl rfl ?_
    refine r_iload i0_241 rfl ?_
    refine s0_243 hw (H1 := [_, _]) (itemt1 hw (h1 := h1)) rfl (leB rfl) ?_
    refine r_istore (ls' := [_, _, _, _, _, _, _, _, _, _, _, _, _, _]) i0_246 rfl rfl ?_
    refine r_iload i0_248 rfl ?_
    refine r_ifF i0_250 (XT.i0_lt_f (by decide)) ?_
    refine r_iload i0_253 rfl ?_
    refine r_iconst i0_255 ?_
    refine r_icF i0_256 (XT.ii_gt_f (by decide)) ?_
    refine r_aload i0_259 rfl rfl ?_
    refine r_iload i0_261 rfl ?_
    refine r_iaload (i := 1) i0_263 rfl ⟨by decide, by decide⟩ rfl ?_
    refine r_iload i0_264 rfl ?_
    refine r_icF i0_266 (XT.ii_gt_f h1) ?_
    refine r_iload i0_269 rfl ?_
    refine r_aload i0_271 rfl rfl ?_
    refine r_iload i0_273 rfl ?_
    refine r_iconst i0_275 ?_
    refine r_iadd i0_276 ?_
    refine r_iaload (i := 2) i0_277 rfl ⟨by decide, by decide⟩ rfl ?_
    refine r_icF i0_278 (XT.ii_ge_f q1) ?_
    refine r_iconst i0_281 ?_
    refine r_goto i0_282 ?_
    refine r_istore (ls' := [_, _, _, _, _, _, _, _, _, _, _, _, _, _]) i0_286 rfl rfl ?_
    refine r_iload i0_288 rfl ?_
    refine r_ifF i0_290 (XT.i0_eq_f (by decide)) ?_
    refine r_iload i0_293 rfl ?_
    refine r_ifF i0_295 (XT.i0_eq_f (by decide)) ?_
    refine r_iconst i0_298 ?_
    refine r_goto i0_299 ?_
    exact r_zreturn i0_303 rfl (by first | decide | simp)
set_option maxHeartbeats 4000000 in
theorem first_r {l : Launch} {Z : State} {a0 : Array Value} {n0 : Nat} (hw : HW Z a0) (p0 p2 p3 bs s0 s1 s2 s3 s4 s5 t0 t1 t2 : Int32) (p1 : Int64) (h0 : t0.toInt = bs.toInt) (hb : 0 ≤ bs.toInt ∧ bs.toInt < 1073741824) (ht : t0.toInt ≤ t2.toInt ∧ t2.toInt ≤ bs.toInt + 510) (hs0 : s0.toInt = bs.toInt) (hs : s0.toInt ≤ s5.toInt ∧ s5.toInt ≤ bs.toInt + 1275) : Runs K l Z n0 m0 141 [.val (.int p0), .val (.long p1), .second, .val (.int p2), .val (.int p3), .val (.int bs), .val (.ref 0), .val (.ref 1), .val (.int 1), .val (.int (s5 - s0)), .unset, .unset, .unset, .unset] [] [.inr (.int, [.int s0, .int s1, .int s2, .int s3, .int s4, .int s5]), .inr (.int, [.int t0, .int t1, .int t2])] (some (.int 1)) [.inr (.int, [.int s0, .int s1, .int s2, .int s3, .int s4, .int s5]), .inr (.int, [.int t0, .int t1, .int t2])] := by
  by_cases hp : 0 < s5 - s0
  rotate_left
  · skip
    refine r_iload i0_141 rfl ?_
    refine r_ifT i0_143 (XT.i0_le_t hp) ?_
    exact secondA hw p0 p2 p3 bs _ s0 s1 s2 s3 s4 s5 t0 t1 t2 p1 h0 hb ht
  have e0 : (0 : Int32).toInt = 0 := by decide
  have et : (s5 - s0).toInt = s5.toInt - s0.toInt := own_sub (by omega)
  have hp' := hp
  rw [Int32.lt_iff_toInt_lt] at hp'
  have nz : s5 - s0 ≠ 0 := by
    intro z
    rw [z] at et hp'
    omega
  have er := own_rem p2 (s5 - s0) (by omega)
  have ei : (bs + (p2 &&& 2147483647) % (s5 - s0)).toInt = bs.toInt + ((p2 &&& 2147483647) % (s5 - s0)).toInt := own_add (by omega)
  have q0 : ¬ bs + (p2 &&& 2147483647) % (s5 - s0) < s0 := by rw [Int32.lt_iff_toInt_lt]; omega
  have q1 : bs + (p2 &&& 2147483647) % (s5 - s0) < s5 := by rw [Int32.lt_iff_toInt_lt]; omega
  by_cases h2 : bs + (p2 &&& 2147483647) % (s5 - s0) < s2
  · skip
    by_cases h1 : bs + (p2 &&& 2147483647) % (s5 - s0) < s1
    · skip
      refine r_iload i0_141 rfl ?_
      refine r_ifF i0_143 (XT.i0_le_f hp) ?_
      refine r_iload i0_146 rfl ?_
      refine r_iloadN i0_148 rfl ?_
      refine s0_149 hw ?_
      refine r_iand i0_151 ?_
      refine r_iload i0_152 rfl ?_
      refine r_irem i0_154 nz ?_
      refine r_iadd i0_155 ?_
      refine r_istore (ls' := [_, _, _, _, _, _, _, _, _, _, _, _, _, _]) i0_156 rfl rfl ?_
      refine r_aload i0_158 rfl rfl ?_
      refine r_iload i0_160 rfl ?_
      refine s0_162 hw (H1 := [_, _]) (items0 hw (h2 := h2) (h1 := h1)) rfl (leB rfl) ?_
      refine r_istore (ls' := [_, _, _, _, _, _, _, _, _, _, _, _, _, _]) i0_165 rfl rfl ?_
      refine r_iload i0_167 rfl ?_
      refine r_ifF i0_169 (XT.i0_lt_f (by decide)) ?_
      refine r_iload i0_172 rfl ?_
      refine r_iconst i0_174 ?_
      refine r_icF i0_175 (XT.ii_gt_f (by decide)) ?_
      refine r_aload i0_178 rfl rfl ?_
      refine r_iload i0_180 rfl ?_
      refine r_iaload (i := 0) i0_182 rfl ⟨by decide, by decide⟩ rfl ?_
      refine r_iload i0_183 rfl ?_
      refine r_icF i0_185 (XT.ii_gt_f q0) ?_
      refine r_iload i0_188 rfl ?_
      refine r_aload i0_190 rfl rfl ?_
      refine r_iload i0_192 rfl ?_
      refine r_iconst i0_194 ?_
      refine r_iadd i0_195 ?_
      refine r_iaload (i := 1) i0_196 rfl ⟨by decide, by decide⟩ rfl ?_
      refine r_icF i0_197 (XT.ii_ge_f h1) ?_
      refine r_iconst i0_200 ?_
      refine r_goto i0_201 ?_
      refine r_istore (ls' := [_, _, _, _, _, _, _, _, _, _, _, _, _, _]) i0_205 rfl rfl ?_
      exact secondB hw p0 p2 p3 bs _ s0 s1 s2 s3 s4 s5 t0 t1 t2 p1 _ _ h0 hb ht
    · skip
      refine r_iload i0_141 rfl ?_
      refine r_ifF i0_143 (XT.i0_le_f hp) ?_
      refine r_iload i0_146 rfl ?_
      refine r_iloadN i0_148 rfl ?_
      refine s0_149 hw ?_
      refine r_iand i0_151 ?_
      refine r_iload i0_152 rfl ?_
      refine r_irem i0_154 nz ?_
      refine r_iadd i0_155 ?_
      refine r_istore (ls' := [_, _, _, _, _, _, _, _, _, _, _, _, _, _]) i0_156 rfl rfl ?_
      refine r_aload i0_158 rfl rfl ?_
      refine r_iload i0_160 rfl ?_
      refine s0_162 hw (H1 := [_, _]) (items1 hw (h2 := h2) (h1 := h1)) rfl (leB rfl) ?_
      refine r_istore (ls' := [_, _, _, _, _, _, _, _, _, _, _, _, _, _]) i0_165 rfl rfl ?_
      refine r_iload i0_167 rfl ?_
      refine r_ifF i0_169 (XT.i0_lt_f (by decide)) ?_
      refine r_iload i0_172 rfl ?_
      refine r_iconst i0_174 ?_
      refine r_icF i0_175 (XT.ii_gt_f (by decide)) ?_
      refine r_aload i0_178 rfl rfl ?_
      refine r_iload i0_180 rfl ?_
      refine r_iaload (i := 1) i0_182 rfl ⟨by decide, by decide⟩ rfl ?_
      refine r_iload i0_183 rfl ?_
      refine r_icF i0_185 (XT.ii_gt_f h1) ?_
      refine r_iload i0_188 rfl ?_
      refine r_aload i0_190 rfl rfl ?_
      refine r_iload i0_192 rfl ?_
      refine r_iconst i0_194 ?_
      refine r_iadd i0_195 ?_
      refine r_iaload (i := 2) i0_196 rfl ⟨by decide, by decide⟩ rfl ?_
      refine r_icF i0_197 (XT.ii_ge_f h2) ?_
      refine r_iconst i0_200 ?_
      refine r_goto i0_201 ?_
      refine r_istore (ls' := [_, _, _, _, _, _, _, _, _, _, _, _, _, _]) i0_205 rfl rfl ?_
      exact secondB hw p0 p2 p3 bs _ s0 s1 s2 s3 s4 s5 t0 t1 t2 p1 _ _ h0 hb ht
  · skip
    by_cases h3 : bs + (p2 &&& 2147483647) % (s5 - s0) < s3
    · skip
      refine r_iload i0_141 rfl ?_
      refine r_ifF i0_143 (XT.i0_le_f hp) ?_
      refine r_iload i0_146 rfl ?_
      refine r_iloadN i0_148 rfl ?_
      refine s0_149 hw ?_
      refine r_iand i0_151 ?_
      refine r_iload i0_152 rfl ?_
      refine r_irem i0_154 nz ?_
      refine r_iadd i0_155 ?_
      refine r_istore (ls' := [_, _, _, _, _, _, _, _, _, _, _, _, _, _]) i0_156 rfl rfl ?_
      refine r_aload i0_158 rfl rfl ?_
      refine r_iload i0_160 rfl ?_
      refine s0_162 hw (H1 := [_, _]) (items2 hw (h2 := h2) (h3 := h3)) rfl (leB rfl) ?_
      refine r_istore (ls' := [_, _, _, _, _, _, _, _, _, _, _, _, _, _]) i0_165 rfl rfl ?_
      refine r_iload i0_167 rfl ?_
      refine r_ifF i0_169 (XT.i0_lt_f (by decide)) ?_
      refine r_iload i0_172 rfl ?_
      refine r_iconst i0_174 ?_
      refine r_icF i0_175 (XT.ii_gt_f (by decide)) ?_
      refine r_aload i0_178 rfl rfl ?_
      refine r_iload i0_180 rfl ?_
      refine r_iaload (i := 2) i0_182 rfl ⟨by decide, by decide⟩ rfl ?_
      refine r_iload i0_183 rfl ?_
      refine r_icF i0_185 (XT.ii_gt_f h2) ?_
      refine r_iload i0_188 rfl ?_
      refine r_aload i0_190 rfl rfl ?_
      refine r_iload i0_192 rfl ?_
      refine r_iconst i0_194 ?_
      refine r_iadd i0_195 ?_
      refine r_iaload (i := 3) i0_196 rfl ⟨by decide, by decide⟩ rfl ?_
      refine r_icF i0_197 (XT.ii_ge_f h3) ?_
      refine r_iconst i0_200 ?_
      refine r_goto i0_201 ?_
      refine r_istore (ls' := [_, _, _, _, _, _, _, _, _, _, _, _, _, _]) i0_205 rfl rfl ?_
      exact secondB hw p0 p2 p3 bs _ s0 s1 s2 s3 s4 s5 t0 t1 t2 p1 _ _ h0 hb ht
    · skip
      by_cases h4 : bs + (p2 &&& 2147483647) % (s5 - s0) < s4
      · skip
        refine r_iload i0_141 rfl ?_
        refine r_ifF i0_143 (XT.i0_le_f hp) ?_
        refine r_iload i0_146 rfl ?_
        refine r_iloadN i0_148 rfl ?_
        refine s0_149 hw ?_
        refine r_iand i0_151 ?_
        refine r_iload i0_152 rfl ?_
        refine r_irem i0_154 nz ?_
        refine r_iadd i0_155 ?_
        refine r_istore (ls' := [_, _, _, _, _, _, _, _, _, _, _, _, _, _]) i0_156 rfl rfl ?_
        refine r_aload i0_158 rfl rfl ?_
        refine r_iload i0_160 rfl ?_
        refine s0_162 hw (H1 := [_, _]) (items3 hw (h2 := h2) (h3 := h3) (h4 := h4)) rfl (leB rfl) ?_
        refine r_istore (ls' := [_, _, _, _, _, _, _, _, _, _, _, _, _, _]) i0_165 rfl rfl ?_
        refine r_iload i0_167 rfl ?_
        refine r_ifF i0_169 (XT.i0_lt_f (by decide)) ?_
        refine r_iload i0_172 rfl ?_
        refine r_iconst i0_174 ?_
        refine r_icF i0_175 (XT.ii_gt_f (by decide)) ?_
        refine r_aload i0_178 rfl rfl ?_
        refine r_iload i0_180 rfl ?_
        refine r_iaload (i := 3) i0_182 rfl ⟨by decide, by decide⟩ rfl ?_
        refine r_iload i0_183 rfl ?_
        refine r_icF i0_185 (XT.ii_gt_f h3) ?_
        refine r_iload i0_188 rfl ?_
        refine r_aload i0_190 rfl rfl ?_
        refine r_iload i0_192 rfl ?_
        refine r_iconst i0_194 ?_
        refine r_iadd i0_195 ?_
        refine r_iaload (i := 4) i0_196 rfl ⟨by decide, by decide⟩ rfl ?_
        refine r_icF i0_197 (XT.ii_ge_f h4) ?_
        refine r_iconst i0_200 ?_
        refine r_goto i0_201 ?_
        refine r_istore (ls' := [_, _, _, _, _, _, _, _, _, _, _, _, _, _]) i0_205 rfl rfl ?_
        exact secondB hw p0 p2 p3 bs _ s0 s1 s2 s3 s4 s5 t0 t1 t2 p1 _ _ h0 hb ht
      · skip
        refine r_iload i0_141 rfl ?_
        refine r_ifF i0_143 (XT.i0_le_f hp) ?_
        refine r_iload i0_146 rfl ?_
        refine r_iloadN i0_148 rfl ?_
        refine s0_149 hw ?_
        refine r_iand i0_151 ?_
        refine r_iload i0_152 rfl ?_
        refine r_irem i0_154 nz ?_
        refine r_iadd i0_155 ?_
        refine r_istore (ls' := [_, _, _, _, _, _, _, _, _, _, _, _, _, _]) i0_156 rfl rfl ?_
        refine r_aload i0_158 rfl rfl ?_
        refine r_iload i0_160 rfl ?_
        refine s0_162 hw (H1 := [_, _]) (items4 hw (h2 := h2) (h3 := h3) (h4 := h4)) rfl (leB rfl) ?_
        refine r_istore (ls' := [_, _, _, _, _, _, _, _, _, _, _, _, _, _]) i0_165 rfl rfl ?_
        refine r_iload i0_167 rfl ?_
        refine r_ifF i0_169 (XT.i0_lt_f (by decide)) ?_
        refine r_iload i0_172 rfl ?_
        refine r_iconst i0_174 ?_
        refine r_icF i0_175 (XT.ii_gt_f (by decide)) ?_
        refine r_aload i0_178 rfl rfl ?_
        refine r_iload i0_180 rfl ?_
        refine r_iaload (i := 4) i0_182 rfl ⟨by decide, by decide⟩ rfl ?_
        refine r_iload i0_183 rfl ?_
        refine r_icF i0_185 (XT.ii_gt_f h4) ?_
        refine r_iload i0_188 rfl ?_
        refine r_aload i0_190 rfl rfl ?_
        refine r_iload i0_192 rfl ?_
        refine r_iconst i0_194 ?_
        refine r_iadd i0_195 ?_
        refine r_iaload (i := 5) i0_196 rfl ⟨by decide, by decide⟩ rfl ?_
        refine r_icF i0_197 (XT.ii_ge_f q1) ?_
        refine r_iconst i0_200 ?_
        refine r_goto i0_201 ?_
        refine r_istore (ls' := [_, _, _, _, _, _, _, _, _, _, _, _, _, _]) i0_205 rfl rfl ?_
        exact secondB hw p0 p2 p3 bs _ s0 s1 s2 s3 s4 s5 t0 t1 t2 p1 _ _ h0 hb ht
set_option maxHeartbeats 4000000 in
theorem law_runs {l : Launch} {Z : State} {a0 : Array Value} {n0 : Nat} (hw : HW Z a0) (p0 : Int32) (p1 : Int64) (p2 : Int32) (p3 : Int32) : RunsB K l Z n0 m0 0 [.val (.int p0), .val (.long p1), .second, .val (.int p2), .val (.int p3), .unset, .unset, .unset, .unset, .unset, .unset, .unset, .unset, .unset] [] [] (some (.int 1)) 16 128 := by
  refine lift (fun _ kk => r_iloadN i0_0 rfl kk) ?_
  refine lift (fun _ kk => r_iconst i0_1 kk) ?_
  refine lift (fun _ kk => r_iushr i0_2 kk) ?_
  refine lift (fun _ kk => r_istore (ls' := [_, _, _, _, _, _, _, _, _, _, _, _, _, _]) i0_3 rfl rfl kk) ?_
  refine lift (fun _ kk => r_bipush i0_5 kk) ?_
  refine lift (fun _ kk => s0_7 hw (a := 0) (o := [.int 0, .int 0, .int 0, .int 0, .int 0, .int 0]) (H1 := [_]) (by decide) (by decide) rfl rfl rfl kk) ?_
  refine lift (fun _ kk => r_astore (ls' := [_, _, _, _, _, _, _, _, _, _, _, _, _, _]) i0_9 rfl rfl rfl kk) ?_
  refine lift (fun _ kk => r_iconst i0_11 kk) ?_
  refine lift (fun _ kk => s0_12 hw (a := 1) (o := [.int 0, .int 0, .int 0]) (H1 := [_, _]) (by decide) (by decide) rfl rfl rfl kk) ?_
  refine lift (fun _ kk => r_astore (ls' := [_, _, _, _, _, _, _, _, _, _, _, _, _, _]) i0_14 rfl rfl rfl kk) ?_
  refine lift (fun _ kk => r_aload i0_16 rfl rfl kk) ?_
  refine lift (fun _ kk => r_iconst i0_18 kk) ?_
  refine lift (fun _ kk => r_iload i0_19 rfl kk) ?_
  refine lift (fun _ kk => r_iastore (i := 0) (vs' := [_, _, _, _, _, _]) (H1 := [_, _]) i0_21 rfl ⟨by decide, by decide⟩ (ltB rfl) rfl rfl kk) ?_
  refine lift (fun _ kk => r_aload i0_22 rfl rfl kk) ?_
  refine lift (fun _ kk => r_iconst i0_24 kk) ?_
  refine lift (fun _ kk => r_aload i0_25 rfl rfl kk) ?_
  refine lift (fun _ kk => r_iconst i0_27 kk) ?_
  refine lift (fun _ kk => r_iaload (i := 0) i0_28 rfl ⟨by decide, by decide⟩ rfl kk) ?_
  refine lift (fun _ kk => r_lloadN i0_29 rfl kk) ?_
  refine lift (fun _ kk => r_iconst i0_30 kk) ?_
  refine lift (fun _ kk => s0_31 hw (H1 := [_, _]) (c1 hw _ _) rfl (leB rfl) kk) ?_
  refine lift (fun _ kk => r_iadd i0_34 kk) ?_
  refine lift (fun _ kk => r_iastore (i := 1) (vs' := [_, _, _, _, _, _]) (H1 := [_, _]) i0_35 rfl ⟨by decide, by decide⟩ (ltB rfl) rfl rfl kk) ?_
  refine lift (fun _ kk => r_aload i0_36 rfl rfl kk) ?_
  refine lift (fun _ kk => r_iconst i0_38 kk) ?_
  refine lift (fun _ kk => r_aload i0_39 rfl rfl kk) ?_
  refine lift (fun _ kk => r_iconst i0_41 kk) ?_
  refine lift (fun _ kk => r_iaload (i := 1) i0_42 rfl ⟨by decide, by decide⟩ rfl kk) ?_
  refine lift (fun _ kk => r_lloadN i0_43 rfl kk) ?_
  refine lift (fun _ kk => r_iconst i0_44 kk) ?_
  refine lift (fun _ kk => s0_45 hw (H1 := [_, _]) (c1 hw _ _) rfl (leB rfl) kk) ?_
  refine lift (fun _ kk => r_iadd i0_48 kk) ?_
  refine lift (fun _ kk => r_iastore (i := 2) (vs' := [_, _, _, _, _, _]) (H1 := [_, _]) i0_49 rfl ⟨by decide, by decide⟩ (ltB rfl) rfl rfl kk) ?_
  refine lift (fun _ kk => r_aload i0_50 rfl rfl kk) ?_
  refine lift (fun _ kk => r_iconst i0_52 kk) ?_
  refine lift (fun _ kk => r_aload i0_53 rfl rfl kk) ?_
  refine lift (fun _ kk => r_iconst i0_55 kk) ?_
  refine lift (fun _ kk => r_iaload (i := 2) i0_56 rfl ⟨by decide, by decide⟩ rfl kk) ?_
  refine lift (fun _ kk => r_lloadN i0_57 rfl kk) ?_
  refine lift (fun _ kk => r_iconst i0_58 kk) ?_
  refine lift (fun _ kk => s0_59 hw (H1 := [_, _]) (c1 hw _ _) rfl (leB rfl) kk) ?_
  refine lift (fun _ kk => r_iadd i0_62 kk) ?_
  refine lift (fun _ kk => r_iastore (i := 3) (vs' := [_, _, _, _, _, _]) (H1 := [_, _]) i0_63 rfl ⟨by decide, by decide⟩ (ltB rfl) rfl rfl kk) ?_
  refine lift (fun _ kk => r_aload i0_64 rfl rfl kk) ?_
  refine lift (fun _ kk => r_iconst i0_66 kk) ?_
  refine lift (fun _ kk => r_aload i0_67 rfl rfl kk) ?_
  refine lift (fun _ kk => r_iconst i0_69 kk) ?_
  refine lift (fun _ kk => r_iaload (i := 3) i0_70 rfl ⟨by decide, by decide⟩ rfl kk) ?_
  refine lift (fun _ kk => r_lloadN i0_71 rfl kk) ?_
  refine lift (fun _ kk => r_iconst i0_72 kk) ?_
  refine lift (fun _ kk => s0_73 hw (H1 := [_, _]) (c1 hw _ _) rfl (leB rfl) kk) ?_
  refine lift (fun _ kk => r_iadd i0_76 kk) ?_
  refine lift (fun _ kk => r_iastore (i := 4) (vs' := [_, _, _, _, _, _]) (H1 := [_, _]) i0_77 rfl ⟨by decide, by decide⟩ (ltB rfl) rfl rfl kk) ?_
  refine lift (fun _ kk => r_aload i0_78 rfl rfl kk) ?_
  refine lift (fun _ kk => r_iconst i0_80 kk) ?_
  refine lift (fun _ kk => r_aload i0_81 rfl rfl kk) ?_
  refine lift (fun _ kk => r_iconst i0_83 kk) ?_
  refine lift (fun _ kk => r_iaload (i := 4) i0_84 rfl ⟨by decide, by decide⟩ rfl kk) ?_
  refine lift (fun _ kk => r_lloadN i0_85 rfl kk) ?_
  refine lift (fun _ kk => r_iconst i0_86 kk) ?_
  refine lift (fun _ kk => s0_87 hw (H1 := [_, _]) (c1 hw _ _) rfl (leB rfl) kk) ?_
  refine lift (fun _ kk => r_iadd i0_90 kk) ?_
  refine lift (fun _ kk => r_iastore (i := 5) (vs' := [_, _, _, _, _, _]) (H1 := [_, _]) i0_91 rfl ⟨by decide, by decide⟩ (ltB rfl) rfl rfl kk) ?_
  refine lift (fun _ kk => r_aload i0_92 rfl rfl kk) ?_
  refine lift (fun _ kk => r_iconst i0_94 kk) ?_
  refine lift (fun _ kk => r_iload i0_95 rfl kk) ?_
  refine lift (fun _ kk => r_iastore (i := 0) (vs' := [_, _, _]) (H1 := [_, _]) i0_97 rfl ⟨by decide, by decide⟩ (ltB rfl) rfl rfl kk) ?_
  refine lift (fun _ kk => r_aload i0_98 rfl rfl kk) ?_
  refine lift (fun _ kk => r_iconst i0_100 kk) ?_
  refine lift (fun _ kk => r_aload i0_101 rfl rfl kk) ?_
  refine lift (fun _ kk => r_iconst i0_103 kk) ?_
  refine lift (fun _ kk => r_iaload (i := 0) i0_104 rfl ⟨by decide, by decide⟩ rfl kk) ?_
  refine lift (fun _ kk => r_lloadN i0_105 rfl kk) ?_
  refine lift (fun _ kk => r_iconst i0_106 kk) ?_
  refine lift (fun _ kk => s0_107 hw (H1 := [_, _]) (c1 hw _ _) rfl (leB rfl) kk) ?_
  refine lift (fun _ kk => r_iadd i0_110 kk) ?_
  refine lift (fun _ kk => r_iastore (i := 1) (vs' := [_, _, _]) (H1 := [_, _]) i0_111 rfl ⟨by decide, by decide⟩ (ltB rfl) rfl rfl kk) ?_
  refine lift (fun _ kk => r_aload i0_112 rfl rfl kk) ?_
  refine lift (fun _ kk => r_iconst i0_114 kk) ?_
  refine lift (fun _ kk => r_aload i0_115 rfl rfl kk) ?_
  refine lift (fun _ kk => r_iconst i0_117 kk) ?_
  refine lift (fun _ kk => r_iaload (i := 1) i0_118 rfl ⟨by decide, by decide⟩ rfl kk) ?_
  refine lift (fun _ kk => r_lloadN i0_119 rfl kk) ?_
  refine lift (fun _ kk => r_bipush i0_120 kk) ?_
  refine lift (fun _ kk => s0_122 hw (H1 := [_, _]) (c1 hw _ _) rfl (leB rfl) kk) ?_
  refine lift (fun _ kk => r_iadd i0_125 kk) ?_
  refine lift (fun _ kk => r_iastore (i := 2) (vs' := [_, _, _]) (H1 := [_, _]) i0_126 rfl ⟨by decide, by decide⟩ (ltB rfl) rfl rfl kk) ?_
  refine lift (fun _ kk => r_iconst i0_127 kk) ?_
  refine lift (fun _ kk => r_istore (ls' := [_, _, _, _, _, _, _, _, _, _, _, _, _, _]) i0_128 rfl rfl kk) ?_
  refine lift (fun _ kk => r_aload i0_130 rfl rfl kk) ?_
  refine lift (fun _ kk => r_iconst i0_132 kk) ?_
  refine lift (fun _ kk => r_iaload (i := 5) i0_133 rfl ⟨by decide, by decide⟩ rfl kk) ?_
  refine lift (fun _ kk => r_aload i0_134 rfl rfl kk) ?_
  refine lift (fun _ kk => r_iconst i0_136 kk) ?_
  refine lift (fun _ kk => r_iaload (i := 0) i0_137 rfl ⟨by decide, by decide⟩ rfl kk) ?_
  refine lift (fun _ kk => r_isub i0_138 kk) ?_
  refine lift (fun _ kk => r_istore (ls' := [_, _, _, _, _, _, _, _, _, _, _, _, _, _]) i0_139 rfl rfl kk) ?_
  have hu := c_iushr p0 2 2 (by decide) (by decide)
  have hb : 0 ≤ (XT.ushr p0 2).toInt ∧ (XT.ushr p0 2).toInt < 1073741824 := by
    show 0 ≤ ((p0.toUInt32 >>> ((2 : Int32) &&& 31).toUInt32).toInt32).toInt ∧ ((p0.toUInt32 >>> ((2 : Int32) &&& 31).toUInt32).toInt32).toInt < 1073741824
    rw [hu]
    omega
  have i0 := own_inc p1 0
  have i1 := own_inc p1 1
  have i2 := own_inc p1 2
  have i3 := own_inc p1 3
  have i4 := own_inc p1 4
  have i5 := own_inc p1 5
  have i6 := own_inc p1 6
  generalize f1_0 p1 0 = d0 at *
  generalize f1_0 p1 1 = d1 at *
  generalize f1_0 p1 2 = d2 at *
  generalize f1_0 p1 3 = d3 at *
  generalize f1_0 p1 4 = d4 at *
  generalize f1_0 p1 5 = d5 at *
  generalize f1_0 p1 6 = d6 at *
  generalize XT.ushr p0 2 = bs at *
  have a0 : (bs + d0).toInt = (bs).toInt + d0.toInt := own_add (by omega)
  have a1 : (bs + d0 + d1).toInt = (bs + d0).toInt + d1.toInt := own_add (by omega)
  have a2 : (bs + d0 + d1 + d2).toInt = (bs + d0 + d1).toInt + d2.toInt := own_add (by omega)
  have a3 : (bs + d0 + d1 + d2 + d3).toInt = (bs + d0 + d1 + d2).toInt + d3.toInt := own_add (by omega)
  have a4 : (bs + d0 + d1 + d2 + d3 + d4).toInt = (bs + d0 + d1 + d2 + d3).toInt + d4.toInt := own_add (by omega)
  have a5 : (bs + d5).toInt = bs.toInt + d5.toInt := own_add (by omega)
  have a6 : (bs + d5 + d6).toInt = (bs + d5).toInt + d6.toInt := own_add (by omega)
  exact ⟨_, first_r hw p0 p2 p3 bs _ _ _ _ _ _ _ _ _ p1 rfl hb (by omega) rfl (by omega), leB rfl, leB rfl⟩
set_option maxRecDepth 65536 in
set_option maxHeartbeats 40000000 in
theorem comes_1 {Post : Tables → Env → Array Value → State → Outcome → State → Prop} (hpost : ∀ tb e args s v u, (limb_1_1.after args s (.returned v) u = true ∧ limb_1_2.after args s (.returned v) u = true ∧ True) → FrameEnd s (.returned v) u (Jvm.fieldLocs frame_1_writes args s ++ Jvm.arrayLocs frame_1_arrays args s ++ Jvm.staticLocs frame_1_statics s) 16 128 → Post tb e args s (.returned v) u) :
    ArmFor flags0 classFile x code maxLocals ret World_1 tables_1 room_1 Calls_1 rest_1 Pre_1 Post := by
  intro l hfl _ _ p e ha hc hk s m args below hf hA hF happ hP
  obtain ⟨hcalls, hrest, hpre⟩ := hP
  obtain ⟨-, -, -, hnamed, -, -, -, hat⟩ := (Spec.applies_iff hf).mp happ
  obtain ⟨hg, hn⟩ := and_e (Cond.before_iff.mp (show (Jvm.Cond.and given_1 narrow_1).before args s = true from hpre))
  obtain ⟨hcount, hk0⟩ := and_e hg
  obtain ⟨w0, w1, w2, w3, rfl⟩ : ∃ w0 w1 w2 w3 : Value, args = #[w0, w1, w2, w3] := by
    have hs : args.size = 4 := by simpa [Cond.value, given_1] using hcount
    obtain ⟨L⟩ := args
    match L, hs with
    | [w0, w1, w2, w3], _ => exact ⟨w0, w1, w2, w3, rfl⟩
  have hw : HW s _ := fun d (hd : d ∈ tables_1) => atoms_spec (ws := Jvm.Cond.code x code maxLocals ret :: tables_1) hat d (List.mem_cons_of_mem _ hd)
  replace hk0 := and_e hk0
  obtain ⟨p0, e0⟩ := is_v hk0.1
  obtain rfl : w0 = (.int p0) := Option.some.inj e0
  have hk1 := hk0.2
  replace hk1 := and_e hk1
  obtain ⟨p1, e1⟩ := isL_v hk1.1
  obtain rfl : w1 = (.long p1) := Option.some.inj e1
  have hk2 := hk1.2
  replace hk2 := and_e hk2
  obtain ⟨p2, e2⟩ := is_v hk2.1
  obtain rfl : w2 = (.int p2) := Option.some.inj e2
  have hk3 := hk2.2
  obtain ⟨p3, e3⟩ := is_v hk3
  obtain rfl : w3 = (.int p3) := Option.some.inj e3
  obtain ⟨H', k, hcl, hsl⟩ := law_runs (l := l) (n0 := s.heap.size) hw p0 p1 p2 p3
  obtain ⟨n, o, h1, h2, h3, _, L, rfl, ⟨rfl, -, N⟩, hq⟩ := met_gen (mi := m0) (as := [.int p0, .long p1, .int p2, .int p3]) tables_1 room_1 pf0 rfl (fun h => nomatch h) k (by decide) (by decide) (by show H'.length ≤ 16 + 0; omega) (by show szs K H' ≤ 128 + 0; omega) (h := s.heap) ⟨rfl, fun k o h => by simp at h⟩ p e ha hc hk s m _ below hf ((Spec.applies_iff_loose hf).mp happ).1 ⟨rfl, State.Warmed39.refl s, rfl⟩ trivial
  refine ⟨n, _, h1, h2, h3, hpost _ _ _ _ _ _ ⟨Cond.after_iff.mpr rfl, Cond.after_iff.mpr (eq_i res_at (Term.int_eval (1)) rfl), trivial⟩ ⟨hq.1, hq.2.1, (hq.2.2.sift fun y hy => Or.inr (N y hy)).mono (by show H'.length - 0 ≤ _; omega) (by show szs K H' - 0 ≤ _; omega)⟩⟩
theorem main_1_1 : Claimed_1_1 := comes_1 fun _ _ _ _ _ _ h hF => ⟨h.1, hF⟩
theorem main_1_2 : Claimed_1_2 := comes_1 fun _ _ _ _ _ _ h hF => ⟨h.2.1, hF⟩
end Jvm.Pilot.@@N@@
namespace Jvm.Pilot.@@N@@
open Jvm Jvm.ClassFile Sem Op Lib Jvm.Free Jvm.Stand Jvm.Pilot.@@N@@.Jvm.D
/-! MADE BY PROGRAM (witnessworld.py) out of the Statement's table words and the real class files: 9 classes; the members and pool entries that the words name. The judged class is class 1, her method 2. -/
namespace start1
open Jvm.ClassFile
def u (s : String) : CpInfo := .utf8 (stringToUtf16 s)
/-- a pool by its gaps: so many unusable entries, then the entry; so many at the end -/
def gap : Nat → List CpInfo → List CpInfo
  | 0, r => r
  | n + 1, r => .unusable :: gap n r
def poolList (es : List (Nat × CpInfo)) (last : Nat) : List CpInfo := es.foldr (fun e r => gap e.1 (e.2 :: r)) (gap last [])
def pool (es : List (Nat × CpInfo)) (last : Nat) : Array CpInfo := ⟨poolList es last⟩
def fileOf (pool : Array CpInfo) (this : Nat) (attrs : Array Attribute := #[]) (ms : Array MethodInfo := #[]) (fl : Nat := 33) (sup : Nat := 0) (ifs : Array Nat := #[]) (fds : Array FieldInfo := #[]) : ClassFile where
  minorVersion := 0
  majorVersion := 65
  constantPool := pool
  accessFlags := fl
  thisClass := this
  superClass := sup
  interfaces := ifs
  fields := fds
  methods := ms
  attributes := attrs
def plain (name : String) (sup : Option ClassId) : Class where
  name := name
  kind := .ordinary
  loader := none
  accessFlags := 33
  super := sup
  interfaces := #[]
  cf := none
  fields := #[]
  methods := #[]
  instanceTypes := #[]
  staticTypes := #[]
  resolved := #[]
  callSites := []
  init := .initialized
  statics := none
  mirror := none

def pool0 : Array CpInfo := pool [(5, u "<init>"), (0, u "()V"), (1, .class_ 10), (1, u "java/lang/Object")] 113

def k0m0 : Method := { name := "<init>", desc := "()V", sig := { parameters := [], returnType := none }, accessFlags := 1, code := none }
/-- java/lang/Object -/
def k0 : Class := { plain "java/lang/Object" none with
  accessFlags := 33
  interfaces := #[]
  cf := some (fileOf pool0 8 #[] #[{ accessFlags := 1, nameIndex := 5, descriptorIndex := 6, attributes := #[] }] 33 0 #[] #[])
  fields := #[]
  methods := #[k0m0]
  instanceTypes := #[]
  staticTypes := #[]
  resolved := Array.replicate 124 none
  statics := none }

def pool1 : Array CpInfo := pool [(2, .class_ 4), (1, u "java/lang/Object"), (0, u "<init>"), (0, u "()V"), (0, .long 255), (1, .methodref 10 11), (0, .class_ 12), (0, .nameAndType 13 14), (0, u "com/example/features_at_odds/featuresatodds/search/GroundingItemOfPinLaw"), (0, u "inc"), (0, u "(JI)I"), (0, .integer 2147483647), (0, .methodref 17 18), (0, .class_ 19), (0, .nameAndType 20 21), (0, u "com/example/features_at_odds/featuresatodds/search/Grounding"), (0, u "itemOf"), (0, u "([II)I"), (3, u "law"), (0, u "(IJII)Z")] 4

def k1m0 : Method := { name := "<init>", desc := "()V", sig := { parameters := [], returnType := none }, accessFlags := 2, code := none }
def k1c1 : Code := { maxStack := 4, maxLocals := 4, code := method_2_code, exceptionTable := #[], attributes := #[] }
def k1m1 : Method := { name := "inc", desc := "(JI)I", sig := { parameters := [.long, .int], returnType := some .int }, accessFlags := 10, code := some k1c1 }
def k1c2 : Code := { maxStack := 6, maxLocals := 14, code := code, exceptionTable := #[], attributes := #[] }
def k1m2 : Method := { name := "law", desc := "(IJII)Z", sig := { parameters := [.int, .long, .int, .int], returnType := some .boolean }, accessFlags := 9, code := some k1c2 }
/-- com/example/features_at_odds/featuresatodds/search/GroundingItemOfPinLaw -/
def k1 : Class := { plain "com/example/features_at_odds/featuresatodds/search/GroundingItemOfPinLaw" (some 0) with
  accessFlags := 49
  interfaces := #[]
  cf := some (fileOf pool1 10 #[] #[{ accessFlags := 2, nameIndex := 5, descriptorIndex := 6, attributes := #[] }, { accessFlags := 10, nameIndex := 13, descriptorIndex := 14, attributes := #[] }, { accessFlags := 9, nameIndex := 25, descriptorIndex := 26, attributes := #[] }] 49 2 #[] #[])
  fields := #[]
  methods := #[k1m0, k1m1, k1m2]
  instanceTypes := #[]
  staticTypes := #[]
  resolved := Array.replicate 31 none
  statics := none }

def pool2 : Array CpInfo := pool [(2, .class_ 4), (1, u "java/lang/Object"), (6, u "rules"), (3, u "properties"), (7, .class_ 25), (1, u "com/example/features_at_odds/featuresatodds/search/Grounding"), (65, u "post"), (22, u "facts"), (0, u "Lcom/example/features_at_odds/featuresatodds/search/FactTable;"), (12, u "initialFacts"), (0, u "[I"), (6, u "[Ljava/lang/String;"), (2, u "ruleStart"), (14, u "present"), (0, u "Lcom/example/features_at_odds/featuresatodds/search/Rows;"), (5, u "absent"), (24, u "events"), (2, u "eventOf"), (2, u "overriders"), (7, u "propertyStart"), (5, u "propertyPresent"), (5, u "propertyAbsent"), (96, .class_ 311), (1, u "com/example/features_at_odds/featuresatodds/search/Grounding$Template"), (2, .class_ 315), (0, u "com/example/features_at_odds/featuresatodds/search/Grounding$Bindings"), (72, .class_ 389), (0, u "com/example/features_at_odds/featuresatodds/search/Grounding$InstancesByEvent"), (40, u "FIT_IN_ONE_ARRAY"), (0, u "Ljava/lang/String;"), (5, u "itemOf"), (0, u "([II)I")] 82

def k2c0 : Code := { maxStack := 2, maxLocals := 5, code := prog_31_method_2_code, exceptionTable := #[], attributes := #[] }
def k2m0 : Method := { name := "itemOf", desc := "([II)I", sig := { parameters := [(.array .int), .int], returnType := some .int }, accessFlags := 8, code := some k2c0 }
/-- com/example/features_at_odds/featuresatodds/search/Grounding -/
def k2 : Class := { plain "com/example/features_at_odds/featuresatodds/search/Grounding" (some 0) with
  accessFlags := 48
  interfaces := #[]
  cf := some (fileOf pool2 23 #[.nestMembers #[314, 309, 388]] #[{ accessFlags := 8, nameIndex := 437, descriptorIndex := 438, attributes := #[] }] 48 2 #[] #[{ accessFlags := 26, nameIndex := 430, descriptorIndex := 431, attributes := #[] }, { accessFlags := 16, nameIndex := 114, descriptorIndex := 115, attributes := #[] }, { accessFlags := 16, nameIndex := 128, descriptorIndex := 129, attributes := #[] }, { accessFlags := 16, nameIndex := 186, descriptorIndex := 115, attributes := #[] }, { accessFlags := 16, nameIndex := 11, descriptorIndex := 136, attributes := #[] }, { accessFlags := 16, nameIndex := 139, descriptorIndex := 129, attributes := #[] }, { accessFlags := 16, nameIndex := 189, descriptorIndex := 129, attributes := #[] }, { accessFlags := 16, nameIndex := 154, descriptorIndex := 155, attributes := #[] }, { accessFlags := 16, nameIndex := 161, descriptorIndex := 155, attributes := #[] }, { accessFlags := 16, nameIndex := 91, descriptorIndex := 155, attributes := #[] }, { accessFlags := 16, nameIndex := 192, descriptorIndex := 155, attributes := #[] }, { accessFlags := 16, nameIndex := 15, descriptorIndex := 136, attributes := #[] }, { accessFlags := 16, nameIndex := 200, descriptorIndex := 129, attributes := #[] }, { accessFlags := 16, nameIndex := 206, descriptorIndex := 155, attributes := #[] }, { accessFlags := 16, nameIndex := 212, descriptorIndex := 155, attributes := #[] }])
  fields := #[{ name := "FIT_IN_ONE_ARRAY", type := (.object "java/lang/String"), accessFlags := 26, slot := 0, constantValue := 0 }, { name := "facts", type := (.object "com/example/features_at_odds/featuresatodds/search/FactTable"), accessFlags := 16, slot := 0, constantValue := 0 }, { name := "initialFacts", type := (.array .int), accessFlags := 16, slot := 1, constantValue := 0 }, { name := "events", type := (.object "com/example/features_at_odds/featuresatodds/search/FactTable"), accessFlags := 16, slot := 2, constantValue := 0 }, { name := "rules", type := (.array (.object "java/lang/String")), accessFlags := 16, slot := 3, constantValue := 0 }, { name := "ruleStart", type := (.array .int), accessFlags := 16, slot := 4, constantValue := 0 }, { name := "eventOf", type := (.array .int), accessFlags := 16, slot := 5, constantValue := 0 }, { name := "present", type := (.object "com/example/features_at_odds/featuresatodds/search/Rows"), accessFlags := 16, slot := 6, constantValue := 0 }, { name := "absent", type := (.object "com/example/features_at_odds/featuresatodds/search/Rows"), accessFlags := 16, slot := 7, constantValue := 0 }, { name := "post", type := (.object "com/example/features_at_odds/featuresatodds/search/Rows"), accessFlags := 16, slot := 8, constantValue := 0 }, { name := "overriders", type := (.object "com/example/features_at_odds/featuresatodds/search/Rows"), accessFlags := 16, slot := 9, constantValue := 0 }, { name := "properties", type := (.array (.object "java/lang/String")), accessFlags := 16, slot := 10, constantValue := 0 }, { name := "propertyStart", type := (.array .int), accessFlags := 16, slot := 11, constantValue := 0 }, { name := "propertyPresent", type := (.object "com/example/features_at_odds/featuresatodds/search/Rows"), accessFlags := 16, slot := 12, constantValue := 0 }, { name := "propertyAbsent", type := (.object "com/example/features_at_odds/featuresatodds/search/Rows"), accessFlags := 16, slot := 13, constantValue := 0 }]
  methods := #[k2m0]
  instanceTypes := #[(.object "com/example/features_at_odds/featuresatodds/search/FactTable"), (.array .int), (.object "com/example/features_at_odds/featuresatodds/search/FactTable"), (.array (.object "java/lang/String")), (.array .int), (.array .int), (.object "com/example/features_at_odds/featuresatodds/search/Rows"), (.object "com/example/features_at_odds/featuresatodds/search/Rows"), (.object "com/example/features_at_odds/featuresatodds/search/Rows"), (.object "com/example/features_at_odds/featuresatodds/search/Rows"), (.array (.object "java/lang/String")), (.array .int), (.object "com/example/features_at_odds/featuresatodds/search/Rows"), (.object "com/example/features_at_odds/featuresatodds/search/Rows")]
  staticTypes := #[(.object "java/lang/String")]
  resolved := Array.replicate 521 none
  statics := none }

def pool3 : Array CpInfo := pool [(1, u "java/lang/Cloneable"), (0, .class_ 1), (0, u "java/lang/Object"), (0, .class_ 3)] 3

/-- java/lang/Cloneable -/
def k3 : Class := { plain "java/lang/Cloneable" (some 0) with
  accessFlags := 1537
  interfaces := #[]
  cf := some (fileOf pool3 2 #[] #[] 1537 4 #[] #[])
  fields := #[]
  methods := #[]
  instanceTypes := #[]
  staticTypes := #[]
  resolved := Array.replicate 8 none
  statics := none }

def pool4 : Array CpInfo := pool [(1, u "java/io/Serializable"), (0, .class_ 1), (0, u "java/lang/Object"), (0, .class_ 3)] 3

/-- java/io/Serializable -/
def k4 : Class := { plain "java/io/Serializable" (some 0) with
  accessFlags := 1537
  interfaces := #[]
  cf := some (fileOf pool4 2 #[] #[] 1537 4 #[] #[])
  fields := #[]
  methods := #[]
  instanceTypes := #[]
  staticTypes := #[]
  resolved := Array.replicate 8 none
  statics := none }

/-- the primitive byte -/
def k5 : Class := { plain "byte" none with kind := .primitive 'B', accessFlags := 0x411 }
/-- [B -/
def k6 : Class := { plain "[B" (some 0) with kind := .array 5 .byte, interfaces := #[3, 4], accessFlags := 1041 }

/-- the primitive int -/
def k7 : Class := { plain "int" none with kind := .primitive 'I', accessFlags := 0x411 }
/-- [I -/
def k8 : Class := { plain "[I" (some 0) with kind := .array 7 .int, interfaces := #[3, 4], accessFlags := 1041 }

def heap : Heap := #[]
def classes : Array Class := #[k0, k1, k2, k3, k4, k5, k6, k7, k8]
def interned : List (Array UInt16 × Addr) := []
def slotsUsed : Nat := 0
def theMethod : MethodId := ⟨1, 2⟩
def args0 : Array Value := #[.int 5, .long 300, .int 7, .int 9]
def aboutOver (below : List Frame) : State where
  vm := { classes := classes, interned := interned.toArray }
  heap := heap
  slotsUsed := slotsUsed
  threads := #[{ frames := .invoking theMethod args0 :: below }]
def below0 : List Frame := [.native { method := ⟨0, 0⟩, args := #[] }]
def about1 : State := aboutOver below0
def p0 : Program := .bare "" "" ""
def e0 : Env := launch0.env 0 0 0
theorem w_frames : about1.frames = Frame.invoking theMethod args0 :: below0 := rfl
set_option maxRecDepth 65536 in
theorem w_args : argsFit about1.vm theMethod args0 = true := by decide +kernel
set_option maxRecDepth 65536 in
theorem w_heap : heapFits about1 = true := by decide +kernel
set_option maxRecDepth 65536 in
theorem w_runnable : about1.curStatus? = some .runnable := by decide +kernel
set_option maxRecDepth 65536 in
theorem w_alone : about1.alone = true := by decide +kernel
set_option maxRecDepth 65536 in
theorem w_named : about1.methodNamed? x = some theMethod := by decide +kernel
set_option maxRecDepth 65536 in
theorem w_hears : about1.hears theMethod below0 = true := by decide +kernel
set_option maxRecDepth 65536 in
theorem w_ripe : about1.ripe theMethod args0 below0 = true := by decide +kernel
theorem w_running : about1.status = .running := rfl
set_option maxRecDepth 65536 in
theorem w_room : about1.hasRoom e0.platform room_1 = true :=
  launch0.hasRoom_least _ room_1 (by decide +kernel) (by decide +kernel) (by decide +kernel) (by decide +kernel) (by decide +kernel) (by decide +kernel)
theorem allAtoms_all (ts : List Jvm.Cond) (a : Array Jvm.Value) (st : Jvm.State) : (allAtoms ts).before a st = ts.all (fun c => c.before a st) := by
  induction ts with
  | nil => rfl
  | cons c t ih =>
    show (Jvm.Cond.and c (allAtoms t)).before a st = _
    rw [Jvm.Cond.before_and, ih, List.all_cons]
def words1 : List Jvm.Cond := Jvm.Cond.code x code maxLocals ret :: tables_1
/-- a 'code' word, met by the world's own term for the bytes: nothing is compared byte by byte -/
theorem code_word {y : MethodName} {bytes : ByteArray} {mx : Nat} {rt : Option FieldType} {a : Array Value} {s : State} {m : MethodId} {meth : Method} {c : Code} (h1 : s.methodNamed? y = some m) (h2 : s.vm.method? m = some meth) (h3 : meth.code = some c) (h4 : c.code = bytes)
    (h5 : (c.maxLocals == mx && c.exceptionTable.isEmpty && decide (c.maxStack ≤ mostOperands) && decide (meth.sig.returnType = rt) && !meth.locks && decide (parseMethodDescriptor y.desc = some meth.sig)) = true) : (Jvm.Cond.code y bytes mx rt).before a s = true := by
  simp only [Bool.and_eq_true, beq_iff_eq, Bool.not_eq_true', decide_eq_true_eq] at h5
  obtain ⟨⟨⟨⟨⟨g1, g2⟩, g3⟩, g4⟩, g5⟩, g6⟩ := h5
  simp [Cond.before, Cond.holds, Cond.value, h1, h2, h3, h4, g1, g2, g3, g4, g5, g6]
def isCode : Jvm.Cond → Bool
  | .code _ _ _ _ => true
  | _ => false
theorem all_split {L : List Jvm.Cond} {P : Jvm.Cond → Bool} (h1 : L.all (fun c => isCode c || P c) = true) (h2 : ∀ c ∈ L.filter isCode, P c = true) : L.all P = true := by
  refine List.all_eq_true.mpr fun c hc => ?_
  have h := List.all_eq_true.mp h1 c hc
  rcases Bool.eq_false_or_eq_true (isCode c) with hi | hi
  · exact h2 c (List.mem_filter.mpr ⟨hc, hi⟩)
  · simpa [hi] using h
set_option maxRecDepth 65536 in
theorem w_c0 : (Jvm.Cond.code x code maxLocals ret).before args0 about1 = true := code_word (m := ⟨1, 2⟩) (meth := k1m2) (c := k1c2) (by decide +kernel) rfl rfl rfl (by decide +kernel)
set_option maxRecDepth 65536 in
theorem w_c1 : (Jvm.Cond.code ({ cls := "com/example/features_at_odds/featuresatodds/search/GroundingItemOfPinLaw", name := "inc", desc := "(JI)I" } : Jvm.MethodName) method_2_code (4 : Nat) (Option.some Jvm.ClassFile.FieldType.int)).before args0 about1 = true := code_word (m := ⟨1, 1⟩) (meth := k1m1) (c := k1c1) (by decide +kernel) rfl rfl rfl (by decide +kernel)
set_option maxRecDepth 65536 in
theorem w_c2 : (Jvm.Cond.code ({ cls := "com/example/features_at_odds/featuresatodds/search/Grounding", name := "itemOf", desc := "([II)I" } : Jvm.MethodName) prog_31_method_2_code (5 : Nat) (Option.some Jvm.ClassFile.FieldType.int)).before args0 about1 = true := code_word (m := ⟨2, 0⟩) (meth := k2m0) (c := k2c0) (by decide +kernel) rfl rfl rfl (by decide +kernel)
def codes1 : List Jvm.Cond := [Jvm.Cond.code x code maxLocals ret, Jvm.Cond.code ({ cls := "com/example/features_at_odds/featuresatodds/search/GroundingItemOfPinLaw", name := "inc", desc := "(JI)I" } : Jvm.MethodName) method_2_code (4 : Nat) (Option.some Jvm.ClassFile.FieldType.int), Jvm.Cond.code ({ cls := "com/example/features_at_odds/featuresatodds/search/Grounding", name := "itemOf", desc := "([II)I" } : Jvm.MethodName) prog_31_method_2_code (5 : Nat) (Option.some Jvm.ClassFile.FieldType.int)]
set_option maxRecDepth 65536 in
theorem codes_eq : words1.filter isCode = codes1 := rfl
theorem w_codes : ∀ c ∈ words1.filter isCode, c.before args0 about1 = true := by
  rw [codes_eq]
  intro c hc
  simp only [codes1, List.mem_cons, List.not_mem_nil, or_false] at hc
  rcases hc with rfl | rfl | rfl
  · exact w_c0
  · exact w_c1
  · exact w_c2
set_option maxRecDepth 65536 in
theorem w_t1 : words1.all (fun c => isCode c || c.before args0 about1) = true := by decide +kernel
theorem w_tables : (allAtoms (Jvm.Cond.code x code maxLocals ret :: tables_1)).before args0 about1 = true := by
  rw [allAtoms_all]
  show words1.all (fun c => c.before args0 about1) = true
  refine all_split ?_ w_codes
  rw [w_t1]
set_option maxRecDepth 65536 in
theorem w_case : (Jvm.Cond.and given_1 narrow_1).before args0 about1 = true := by decide +kernel
theorem w_applies : (headSpec (Jvm.Cond.code x code maxLocals ret :: tables_1) room_1).applies x e0.platform about1 = true :=
  (Spec.applies_iff w_frames).mpr ⟨w_running, w_runnable, w_alone, w_named, w_hears, w_ripe, w_room, w_tables⟩
theorem atStart : AtStart classFile x code maxLocals ret World_1 tables_1 room_1 Calls_1 rest_1 Pre_1 launch0 p0 e0 about1 theMethod args0 below0 :=
  ⟨lists_1, trivial, launch0.admits_env _ _ _, launch0.least_env, fairChoices_fair.cas, fairChoices_fair.clock, w_frames, w_args, w_heap, w_applies, trivial, trivial, w_case⟩
end start1
theorem witness_1 : WitnessClaimed_1 := ⟨start1.p0, start1.e0, start1.about1, start1.theMethod, start1.args0, start1.below0, start1.atStart⟩
end Jvm.Pilot.@@N@@
