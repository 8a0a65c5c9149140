import JvmDerived
import JvmDerived.Pilot.@@N@@Statement
import JvmDerived.Pilot.@@N@@Code
set_option linter.unusedVariables false
set_option linter.unusedSimpArgs false
namespace Jvm.Pilot.@@N@@
open Jvm Jvm.ClassFile Sem Op Lib Jvm.Free Jvm.Stand Jvm.LawKit Jvm.RoadKit Bundle Jvm.Pilot.@@N@@.Jvm.D
/-! ## A small logic of runs over a virtual heap (own work, the same text in every proof of this seat)
References count from the first cell that the law makes (n0): `shV n0`. `Ob`: an object by its class (a place in K) and its laid fields, or an array by its component type and values.
`Runs K l Z n0 mi pc ls st H v H'`: whoever stands in the method mi at pc with locals ls, stack st and virtual heap H comes out returning v with heap H'. -/
def shV (n0 : Nat) : Value → Value
  | .ref a => .ref (n0 + a)
  | v => v
def shS (n0 : Nat) : Slot → Slot
  | .val v => .val (shV n0 v)
  | s => s
abbrev Ob : Type := (Nat × List Value) ⊕ (FieldType × List Value)
/-- a field: who declares it, its name, its descriptor, its type -/
abbrev FI : Type := String × String × String × FieldType
/-- a class: its name, the number of its slots, its fields -/
abbrev CI : Type := String × Nat × List FI
/-- a method: name, bytes, max_locals, return type; frames and words that its callees need -/
abbrev MI : Type := MethodName × ByteArray × Nat × Option FieldType × Nat × Nat
def osz (K : List CI) : Ob → Nat
  | .inl (c, _) => ((K[c]?).map (fun ci => ci.2.1)).getD 0
  | .inr (_, vs) => vs.length
def szs (K : List CI) (H : List Ob) : Nat := (H.map (osz K)).sum
def OOk (K : List CI) (Z : State) (n0 : Nat) (h : Heap) (a : Addr) : Ob → Prop
  | .inl (c, vs) => ∃ ci, K[c]? = some ci ∧ Exa Z h a ci.1 ∧ ∀ (i : Nat) (f : FI) (v : Value), ci.2.2[i]? = some f → vs[i]? = some v → Fld Z h a f.1 f.2.1 f.2.2.1 (shV n0 v)
  | .inr (ty, vs) => ∃ cl, Arr Z h a cl ty ∧ cl.slots.size = vs.length ∧ vs.length < 2 ^ 31 ∧ ∀ (i : Nat) (v : Value), vs[i]? = some v → cl.slots[i]? = some (shV n0 v) ∧ fits ty v = true
def Rel (K : List CI) (Z : State) (n0 : Nat) (H : List Ob) (h : Heap) : Prop := h.size = n0 + H.length ∧ ∀ (k : Nat) (o : Ob), H[k]? = some o → OOk K Z n0 h (n0 + k) o
def KOk (K : List CI) (Z : State) (a0 : Array Value) : Prop := ∀ (k : Nat) (ci : CI), K[k]? = some ci → (Jvm.Cond.instantiable ci.1 ci.2.1).before a0 Z = true ∧ (∀ f ∈ ci.2.2, Laid Z a0 ci.1 f.1 f.2.1 f.2.2.1 ∧ parseFieldDescriptor f.2.2.1 = some f.2.2.2) ∧ ci.2.2.Pairwise (fun f g => f.2.1 ≠ g.2.1)
theorem cat_sh (n0 : Nat) (v : Value) : (shV n0 v).category = v.category := by cases v <;> rfl
theorem cats_sh (n0 : Nat) (st : List Value) : ((st.map (shV n0)).map fun v => v.category).sum = (st.map fun v => v.category).sum := by
  rw [List.map_map]; congr 1; exact List.map_congr_left fun v _ => cat_sh n0 v
theorem laid_map (n0 : Nat) : ∀ as : List Value, Jvm.Sym.laidSlots (as.map (shV n0)) = (Jvm.Sym.laidSlots as).map (shS n0)
  | [] => rfl
  | v :: vs => by
    simp only [List.map_cons, Jvm.Sym.laidSlots, cat_sh, laid_map n0 vs]
    split <;> rfl
theorem entry_eq (n0 : Nat) (m : MethodId) (as : List Value) (n : Nat) {ls : List Slot} (h : Jvm.Sym.laidSlots as ++ List.replicate (n - (Jvm.Sym.laidSlots as).length) .unset = ls) :
    entryFrame m (as.map (shV n0)).toArray n = mkF m 0 (ls.map (shS n0)).toArray [] := by
  have e : argsToLocals (as.map (shV n0)).toArray n = (ls.map (shS n0)).toArray := Array.toList_inj.mp (by
    rw [Jvm.Sym.argsToLocals_toList]
    simp only [laid_map, List.length_map, ← h, List.map_append, List.map_replicate]
    rfl)
  show ({ method := m, pc := 0, locals := argsToLocals (as.map (shV n0)).toArray n, stack := [], locked := none } : JFrame) = _
  rw [e]
theorem loc_at {n0 : Nat} {ls : List Slot} {k : Nat} {s : Slot} (h : ls[k]? = some s) : ((ls.map (shS n0)).toArray)[k]? = some (shS n0 s) := by
  simp [h]
/-- the place k may take a value of one word -/
def P1 (ls : List Slot) (k : Nat) : Bool := match ls[k]? with | some .unset => true | some (.val w) => w.category == 1 | _ => false
/-- the places k and k + 1 may take a value of two words -/
def P2 (ls : List Slot) (k : Nat) : Bool := match ls[k]?, ls[k + 1]? with | some (.val w), some .second => w.category == 2 | _, _ => P1 ls k && P1 ls (k + 1)
theorem P1_slot {ls : List Slot} {k : Nat} (h : P1 ls k = true) : ∃ s, ls[k]? = some s ∧ (match s with | .second => False | .val old => old.category = 1 | .unset => True) := by
  unfold P1 at h
  split at h
  · rename_i e; exact ⟨_, e, trivial⟩
  · rename_i w e; exact ⟨_, e, by simpa using h⟩
  · cases h
theorem st1 {n0 : Nat} {ls ls' : List Slot} {k : Nat} {v : Value} (hp : P1 ls k = true) (hv : v.category = 1) (hs : ls.set k (.val v) = ls') : storeLocals (ls.map (shS n0)).toArray k (shV n0 v) = some (ls'.map (shS n0)).toArray := by
  obtain ⟨s, e, q⟩ := P1_slot hp
  rw [storeLocals_cat1 (loc_at (n0 := n0) e) (by rw [cat_sh]; exact hv) (by cases s <;> simp_all [shS, cat_sh]), ← hs]
  simp [List.map_set, shS]
theorem st2 {n0 : Nat} {ls ls' : List Slot} {k : Nat} {v : Value} (hp : P2 ls k = true) (hv : v.category = 2) (hs : (ls.set k (.val v)).set (k + 1) .second = ls') : storeLocals (ls.map (shS n0)).toArray k (shV n0 v) = some (ls'.map (shS n0)).toArray := by
  have key : ∃ x y, ls[k]? = some x ∧ ls[k + 1]? = some y ∧ ((Jvm.Free.Fl.Plain1 (shS n0 x) ∧ Jvm.Free.Fl.Plain1 (shS n0 y)) ∨ ((∃ old, shS n0 x = .val old ∧ old.category = 2) ∧ shS n0 y = .second)) := by
    unfold P2 at hp
    split at hp
    · rename_i w e1 e2
      exact ⟨_, _, e1, e2, Or.inr ⟨⟨_, rfl, by rw [cat_sh]; simpa using hp⟩, rfl⟩⟩
    · rw [Bool.and_eq_true] at hp
      obtain ⟨s, e, q⟩ := P1_slot hp.1
      obtain ⟨s', e', q'⟩ := P1_slot hp.2
      exact ⟨s, s', e, e', Or.inl ⟨by cases s <;> simp_all [shS, cat_sh, Jvm.Free.Fl.Plain1], by cases s' <;> simp_all [shS, cat_sh, Jvm.Free.Fl.Plain1]⟩⟩
  obtain ⟨x, y, e1, e2, q⟩ := key
  rw [Jvm.Free.Fl.storeLocals_cat2 (loc_at (n0 := n0) e1) (loc_at (n0 := n0) e2) (by rw [cat_sh]; exact hv) q, ← hs]
  simp [List.map_set, shS]
def Runs (K : List CI) (l : Launch) (Z : State) (n0 : Nat) (mi : MI) (pc : Nat) (ls : List Slot) (st : List Value) (H : List Ob) (v : Option Value) (H' : List Ob) : Prop :=
  H.length ≤ H'.length ∧ szs K H ≤ szs K H' ∧
  ∀ (p : Program) (e : Env) (R : Room) (s : State) (m : MethodId) (args : Array Value) (below : List Frame) (meth : Method) (c : Code) (T : State) (locs : List Loc) (cells slots : Nat),
    Stand p l e R s m args below meth c T locs cells slots → p.tables.exec = Jvm.exec → Z.Warmed39 s.vm → c.code = mi.2.1 → c.maxLocals = mi.2.2.1 → meth.sig.returnType = mi.2.2.2.1 → s.vm.findClass mi.1.cls = some m.cls → meth.name = mi.1.name →
    Rel K Z n0 H T.heap → Fr n0 locs → mi.2.2.2.2.1 ≤ R.frames → mi.2.2.2.2.2 ≤ R.locals → s.heap.size + cells = n0 + H.length → cells + H'.length ≤ R.cells + H.length → slots + szs K H' ≤ R.slots + szs K H →
    ∃ (T' : State) (locs' : List Loc) (cells' slots' : Nat), Stand p l e R s m args below meth c T' locs' cells' slots' ∧ Rel K Z n0 H' T'.heap ∧ Fr n0 locs' ∧ s.heap.size + cells' = n0 + H'.length ∧ slots' + szs K H ≤ slots + szs K H' ∧
      ∀ fs, (∀ (f : JFrame) (acts : List Action), f.method = m → f.locked = none → f.entered = [] → (doReturn e (T'.setTop f) acts (v.map (shV n0))).1 = T'.setFrames fs) →
        Steps p.tables e below (T.setTop (mkF m pc (ls.map (shS n0)).toArray (st.map (shV n0)))) (T'.setFrames fs)
def rmOf (K : List CI) (mi : MI) (H H' : List Ob) : Room := { frames := mi.2.2.2.2.1, cells := H'.length - H.length, slots := szs K H' - szs K H, locals := mi.2.2.2.2.2 }
def Meets (K : List CI) (l : Launch) (Z : State) (n0 : Nat) (mi : MI) (as : List Value) (H : List Ob) (v : Option Value) (H' : List Ob) : Prop :=
  H.length ≤ H'.length ∧ szs K H ≤ szs K H' ∧ ∀ h, Rel K Z n0 H h →
    MetFree l mi.1 (head1 [Jvm.Cond.code mi.1 mi.2.1 mi.2.2.1 mi.2.2.2.1] (rmOf K mi H H')) (fun a U => a = (as.map (shV n0)).toArray ∧ Z.Warmed39 U.vm ∧ U.heap = h) (fun _ _ _ _ _ => True)
      (fun _ U o U' => ∃ w L, o = .returned w ∧ (w = v.map (shV n0) ∧ Rel K Z n0 H' U'.heap ∧ Fr n0 L) ∧ FrameEnd U o U' L (rmOf K mi H H').cells (rmOf K mi H H').slots)
theorem leB {a b : Nat} (h : Nat.ble a b = true) : a ≤ b := Nat.le_of_ble_eq_true h
theorem ltB {a b : Nat} (h : Nat.ble (a + 1) b = true) : a < b := Nat.le_of_ble_eq_true h
section Logic
variable {K : List CI} {l : Launch} {Z : State} {a0 : Array Value} {n0 : Nat} {mi : MI} {pc np tp : Nat} {ls ls' : List Slot} {st rest : List Value} {H H' H1 : List Ob} {v : Option Value}
/-- from a run of the body to the method's contract, in any room that holds it -/
theorem met_gen {as : List Value} (ws : List Jvm.Cond) (R0 : Room) (hp : plainFor mi.1 = true) (hls : Jvm.Sym.laidSlots as ++ List.replicate (mi.2.2.1 - (Jvm.Sym.laidSlots as).length) .unset = ls) (hv : mi.2.2.2.1 = none → v = none)
    (k : Runs K l Z n0 mi 0 ls [] H v H') (hfr : mi.2.2.2.2.1 ≤ R0.frames) (hlo : mi.2.2.2.2.2 ≤ R0.locals) (hcl : H'.length ≤ R0.cells + H.length) (hsl : szs K H' ≤ R0.slots + szs K H) {h : Heap} (hrel : Rel K Z n0 H h) :
    MetFree l mi.1 (head1 (Jvm.Cond.code mi.1 mi.2.1 mi.2.2.1 mi.2.2.2.1 :: ws) R0) (fun a U => a = (as.map (shV n0)).toArray ∧ Z.Warmed39 U.vm ∧ U.heap = h) (fun _ _ _ _ _ => True)
      (fun _ U o U' => ∃ w L, o = .returned w ∧ (w = v.map (shV n0) ∧ Rel K Z n0 H' U'.heap ∧ Fr n0 L) ∧ FrameEnd U o U' L (H'.length - H.length) (szs K H' - szs K H)) := by
  refine MetFree.of_bodySF hp hisR ?_
  intro p e s m args below meth c s₁ Bd hml0 hP hK
  obtain ⟨rfl, hZ, hh⟩ := hP
  have hx := Bd.exec
  have hby := Bd.bytes
  have hown : s.vm.findClass mi.1.cls = some m.cls := findClass_of_methodNamed Bd.named
  have hnm := (name_of_methodNamed Bd.named Bd.method).1
  have X0 : Stand p l e R0 s m (as.map (shV n0)).toArray below meth c s₁ [] 0 0 := Stand.of_body Bd
  have e0 : s₁.heap = h := by rw [← hh, Bd.state]; rfl
  obtain ⟨T', locs', cells', slots', X', rel', fr', hc', hs', stp⟩ := k.2.2 p e R0 s m _ below meth c s₁ [] 0 0 X0 hx hZ hby hml0 Bd.returns hown hnm (e0 ▸ hrel) (Fr.nil n0) hfr hlo (by rw [hh, hrel.1]; rfl) (by omega) (by omega)
  have hsz : s.heap.size = n0 + H.length := by rw [hh, hrel.1]
  obtain ⟨fs, hr, hrun, hended, hW, hsame⟩ := X'.leave (v := v.map (shV n0)) (fun q => by rw [Bd.returns] at q; rw [hv q]; rfl)
  exact ⟨_, _, castTop (entry_eq n0 m as mi.2.2.1 hls) (stp fs hr), hrun, hended, _, _, rfl, ⟨rfl, rel', fr'⟩, ⟨_, rfl⟩, hW, hsame.mono (by omega) (by omega)⟩
theorem meets {as : List Value} (hp : plainFor mi.1 = true) (hls : Jvm.Sym.laidSlots as ++ List.replicate (mi.2.2.1 - (Jvm.Sym.laidSlots as).length) .unset = ls) (hv : mi.2.2.2.1 = none → v = none) (k : Runs K l Z n0 mi 0 ls [] H v H') : Meets K l Z n0 mi as H v H' :=
  ⟨k.1, k.2.1, fun h hrel => met_gen [] (rmOf K mi H H') hp hls hv k (Nat.le_refl _) (Nat.le_refl _) (by have := k.1; show _ ≤ (H'.length - H.length) + _; omega) (by have := k.2.1; show _ ≤ (szs K H' - szs K H) + _; omega) hrel⟩
/-- a run that ends in some heap of at most c cells and n slots -/
def RunsB (K : List CI) (l : Launch) (Z : State) (n0 : Nat) (mi : MI) (pc : Nat) (ls : List Slot) (st : List Value) (H : List Ob) (v : Option Value) (c n : Nat) : Prop := ∃ H' : List Ob, Runs K l Z n0 mi pc ls st H v H' ∧ H'.length ≤ c ∧ szs K H' ≤ n
theorem lift {st2 : List Value} {c n : Nat} (f : ∀ H' : List Ob, Runs K l Z n0 mi np ls' st2 H1 v H' → Runs K l Z n0 mi pc ls st H v H') (k : RunsB K l Z n0 mi np ls' st2 H1 v c n) : RunsB K l Z n0 mi pc ls st H v c n := by
  obtain ⟨H', k1, k2⟩ := k
  exact ⟨H', f H' k1, k2⟩
/-- a step that reads no heap -/
theorem Runs.pure {st2 : List Value} (hstep : ∀ (p : Program) (e : Env) (R : Room) (s : State) (m : MethodId) (args : Array Value) (below : List Frame) (meth : Method) (c : Code) (T : State) (locs : List Loc) (cells slots : Nat),
      Stand p l e R s m args below meth c T locs cells slots → p.tables.exec = Jvm.exec → Z.Warmed39 s.vm → c.code = mi.2.1 → s.vm.findClass mi.1.cls = some m.cls → ∀ target,
      Steps p.tables e below (T.setTop (mkF m np (ls'.map (shS n0)).toArray (st2.map (shV n0)))) target → Steps p.tables e below (T.setTop (mkF m pc (ls.map (shS n0)).toArray (st.map (shV n0)))) target)
    (k : Runs K l Z n0 mi np ls' st2 H v H') : Runs K l Z n0 mi pc ls st H v H' := by
  refine ⟨k.1, k.2.1, fun p e R s m args below meth c T locs cells slots X hx hZ hc hml hret hown hnm hrel hfr hf hlo hsz hcl hsl => ?_⟩
  obtain ⟨T', locs', cells', slots', X', rel', fr', hc', hs', stp⟩ := k.2.2 p e R s m args below meth c T locs cells slots X hx hZ hc hml hret hown hnm hrel hfr hf hlo hsz hcl hsl
  exact ⟨T', locs', cells', slots', X', rel', fr', hc', hs', fun fs hr => hstep p e R s m args below meth c T locs cells slots X hx hZ hc hown _ (stp fs hr)⟩
theorem isRef_sh {n0 : Nat} {x : Value} (h : x.isRef = true) : (shV n0 x).isRef = true := by cases x <;> first | rfl | cases h
theorem P1_int {ls : List Slot} {k : Nat} {x : Int32} (h : ls[k]? = some (.val (.int x))) : P1 ls k = true := by unfold P1; rw [h]; rfl
theorem r_iloadN {k : Fin 4} {x : Int32} (hd : decode mi.2.1 pc = .ok (.iload_n k, 1) ∧ pc + 1 = np) (hl : ls[k.val]? = some (.val (.int x))) (kk : Runs K l Z n0 mi np ls (.int x :: st) H v H') : Runs K l Z n0 mi pc ls st H v H' := by
  obtain ⟨hd, rfl⟩ := hd
  exact Runs.pure (fun _ _ _ _ _ _ _ _ _ _ _ _ _ X hx hZ hc hown t h => XS.iloadN X.here hx rfl (hb hc hd) (loc_at hl) h) kk
theorem r_iload {k : Nat} {x : Int32} (hd : decode mi.2.1 pc = .ok (.iload k, 2) ∧ pc + 2 = np) (hl : ls[k]? = some (.val (.int x))) (kk : Runs K l Z n0 mi np ls (.int x :: st) H v H') : Runs K l Z n0 mi pc ls st H v H' := by
  obtain ⟨hd, rfl⟩ := hd
  exact Runs.pure (fun _ _ _ _ _ _ _ _ _ _ _ _ _ X hx hZ hc hown t h => XS.iload X.here hx rfl (hb hc hd) (loc_at hl) h) kk
theorem r_lloadN {k : Fin 4} {x : Int64} (hd : decode mi.2.1 pc = .ok (.lload_n k, 1) ∧ pc + 1 = np) (hl : ls[k.val]? = some (.val (.long x))) (kk : Runs K l Z n0 mi np ls (.long x :: st) H v H') : Runs K l Z n0 mi pc ls st H v H' := by
  obtain ⟨hd, rfl⟩ := hd
  exact Runs.pure (fun _ _ _ _ _ _ _ _ _ _ _ _ _ X hx hZ hc hown t h => XT.lloadN X.here hx rfl (hb hc hd) (loc_at hl) h) kk
theorem r_lload {k : Nat} {x : Int64} (hd : decode mi.2.1 pc = .ok (.lload k, 2) ∧ pc + 2 = np) (hl : ls[k]? = some (.val (.long x))) (kk : Runs K l Z n0 mi np ls (.long x :: st) H v H') : Runs K l Z n0 mi pc ls st H v H' := by
  obtain ⟨hd, rfl⟩ := hd
  exact Runs.pure (fun _ _ _ _ _ _ _ _ _ _ _ _ _ X hx hZ hc hown t h => XT.lload X.here hx rfl (hb hc hd) (loc_at hl) h) kk
theorem r_aloadN {k : Fin 4} {x : Value} (hd : decode mi.2.1 pc = .ok (.aload_n k, 1) ∧ pc + 1 = np) (hl : ls[k.val]? = some (.val x)) (hv : x.isRef = true) (kk : Runs K l Z n0 mi np ls (x :: st) H v H') : Runs K l Z n0 mi pc ls st H v H' := by
  obtain ⟨hd, rfl⟩ := hd
  exact Runs.pure (fun _ _ _ _ _ _ _ _ _ _ _ _ _ X hx hZ hc hown t h => XS.aloadN X.here hx rfl (hb hc hd) (loc_at hl) (isRef_sh hv) h) kk
theorem r_aload {k : Nat} {x : Value} (hd : decode mi.2.1 pc = .ok (.aload k, 2) ∧ pc + 2 = np) (hl : ls[k]? = some (.val x)) (hv : x.isRef = true) (kk : Runs K l Z n0 mi np ls (x :: st) H v H') : Runs K l Z n0 mi pc ls st H v H' := by
  obtain ⟨hd, rfl⟩ := hd
  exact Runs.pure (fun _ _ _ _ _ _ _ _ _ _ _ _ _ X hx hZ hc hown t h => XS.aload X.here hx rfl (hb hc hd) (loc_at hl) (isRef_sh hv) h) kk
theorem r_istoreN {k : Fin 4} {x : Int32} (hd : decode mi.2.1 pc = .ok (.istore_n k, 1) ∧ pc + 1 = np) (hp : P1 ls k.val = true) (hs : ls.set k.val (.val (.int x)) = ls') (kk : Runs K l Z n0 mi np ls' st H v H') : Runs K l Z n0 mi pc ls (.int x :: st) H v H' := by
  obtain ⟨hd, rfl⟩ := hd
  exact Runs.pure (fun _ _ _ _ _ _ _ _ _ _ _ _ _ X hx hZ hc hown t h => XS.istoreN X.here hx rfl (hb hc hd) rfl (st1 hp rfl hs) h) kk
theorem r_istore {k : Nat} {x : Int32} (hd : decode mi.2.1 pc = .ok (.istore k, 2) ∧ pc + 2 = np) (hp : P1 ls k = true) (hs : ls.set k (.val (.int x)) = ls') (kk : Runs K l Z n0 mi np ls' st H v H') : Runs K l Z n0 mi pc ls (.int x :: st) H v H' := by
  obtain ⟨hd, rfl⟩ := hd
  exact Runs.pure (fun _ _ _ _ _ _ _ _ _ _ _ _ _ X hx hZ hc hown t h => XS.istore X.here hx rfl (hb hc hd) rfl (st1 hp rfl hs) h) kk
theorem r_lstoreN {k : Fin 4} {x : Int64} (hd : decode mi.2.1 pc = .ok (.lstore_n k, 1) ∧ pc + 1 = np) (hp : P2 ls k.val = true) (hs : (ls.set k.val (.val (.long x))).set (k.val + 1) .second = ls') (kk : Runs K l Z n0 mi np ls' st H v H') : Runs K l Z n0 mi pc ls (.long x :: st) H v H' := by
  obtain ⟨hd, rfl⟩ := hd
  exact Runs.pure (fun _ _ _ _ _ _ _ _ _ _ _ _ _ X hx hZ hc hown t h => XT.lstoreN X.here hx rfl (hb hc hd) rfl (st2 hp rfl hs) h) kk
theorem r_lstore {k : Nat} {x : Int64} (hd : decode mi.2.1 pc = .ok (.lstore k, 2) ∧ pc + 2 = np) (hp : P2 ls k = true) (hs : (ls.set k (.val (.long x))).set (k + 1) .second = ls') (kk : Runs K l Z n0 mi np ls' st H v H') : Runs K l Z n0 mi pc ls (.long x :: st) H v H' := by
  obtain ⟨hd, rfl⟩ := hd
  exact Runs.pure (fun _ _ _ _ _ _ _ _ _ _ _ _ _ X hx hZ hc hown t h => XT.lstore X.here hx rfl (hb hc hd) rfl (st2 hp rfl hs) h) kk
theorem r_astoreN {k : Fin 4} {x : Value} (hd : decode mi.2.1 pc = .ok (.astore_n k, 1) ∧ pc + 1 = np) (hp : P1 ls k.val = true) (hv : x.isRef = true) (hs : ls.set k.val (.val x) = ls') (kk : Runs K l Z n0 mi np ls' st H v H') : Runs K l Z n0 mi pc ls (x :: st) H v H' := by
  obtain ⟨hd, rfl⟩ := hd
  exact Runs.pure (fun _ _ _ _ _ _ _ _ _ _ _ _ _ X hx hZ hc hown t h => XS.astoreN X.here hx rfl (hb hc hd) rfl (isRef_sh hv) (st1 hp (XT.cat1 hv) hs) h) kk
theorem r_astore {k : Nat} {x : Value} (hd : decode mi.2.1 pc = .ok (.astore k, 2) ∧ pc + 2 = np) (hp : P1 ls k = true) (hv : x.isRef = true) (hs : ls.set k (.val x) = ls') (kk : Runs K l Z n0 mi np ls' st H v H') : Runs K l Z n0 mi pc ls (x :: st) H v H' := by
  obtain ⟨hd, rfl⟩ := hd
  exact Runs.pure (fun _ _ _ _ _ _ _ _ _ _ _ _ _ X hx hZ hc hown t h => XS.astore X.here hx rfl (hb hc hd) rfl (isRef_sh hv) (st1 hp (XT.cat1 hv) hs) h) kk
theorem r_iadd {x y : Int32} (hd : decode mi.2.1 pc = .ok (.iadd, 1) ∧ pc + 1 = np) (kk : Runs K l Z n0 mi np ls (.int (x + y) :: st) H v H') : Runs K l Z n0 mi pc ls (.int y :: .int x :: st) H v H' := by
  obtain ⟨hd, rfl⟩ := hd
  exact Runs.pure (fun _ _ _ _ _ _ _ _ _ _ _ _ _ X hx hZ hc hown t h => XS.iadd X.here hx rfl (hb hc hd) rfl h) kk
theorem r_isub {x y : Int32} (hd : decode mi.2.1 pc = .ok (.isub, 1) ∧ pc + 1 = np) (kk : Runs K l Z n0 mi np ls (.int (x - y) :: st) H v H') : Runs K l Z n0 mi pc ls (.int y :: .int x :: st) H v H' := by
  obtain ⟨hd, rfl⟩ := hd
  exact Runs.pure (fun _ _ _ _ _ _ _ _ _ _ _ _ _ X hx hZ hc hown t h => XS.isub X.here hx rfl (hb hc hd) rfl h) kk
theorem r_imul {x y : Int32} (hd : decode mi.2.1 pc = .ok (.imul, 1) ∧ pc + 1 = np) (kk : Runs K l Z n0 mi np ls (.int (x * y) :: st) H v H') : Runs K l Z n0 mi pc ls (.int y :: .int x :: st) H v H' := by
  obtain ⟨hd, rfl⟩ := hd
  exact Runs.pure (fun _ _ _ _ _ _ _ _ _ _ _ _ _ X hx hZ hc hown t h => XS.imul X.here hx rfl (hb hc hd) rfl h) kk
theorem r_iand {x y : Int32} (hd : decode mi.2.1 pc = .ok (.iand, 1) ∧ pc + 1 = np) (kk : Runs K l Z n0 mi np ls (.int (x &&& y) :: st) H v H') : Runs K l Z n0 mi pc ls (.int y :: .int x :: st) H v H' := by
  obtain ⟨hd, rfl⟩ := hd
  exact Runs.pure (fun _ _ _ _ _ _ _ _ _ _ _ _ _ X hx hZ hc hown t h => XS.iand X.here hx rfl (hb hc hd) rfl h) kk
theorem r_ior {x y : Int32} (hd : decode mi.2.1 pc = .ok (.ior, 1) ∧ pc + 1 = np) (kk : Runs K l Z n0 mi np ls (.int (x ||| y) :: st) H v H') : Runs K l Z n0 mi pc ls (.int y :: .int x :: st) H v H' := by
  obtain ⟨hd, rfl⟩ := hd
  exact Runs.pure (fun _ _ _ _ _ _ _ _ _ _ _ _ _ X hx hZ hc hown t h => XT.ior X.here hx rfl (hb hc hd) rfl h) kk
theorem r_ixor {x y : Int32} (hd : decode mi.2.1 pc = .ok (.ixor, 1) ∧ pc + 1 = np) (kk : Runs K l Z n0 mi np ls (.int (x ^^^ y) :: st) H v H') : Runs K l Z n0 mi pc ls (.int y :: .int x :: st) H v H' := by
  obtain ⟨hd, rfl⟩ := hd
  exact Runs.pure (fun _ _ _ _ _ _ _ _ _ _ _ _ _ X hx hZ hc hown t h => XT.ixor X.here hx rfl (hb hc hd) rfl h) kk
theorem r_ishl {x y : Int32} (hd : decode mi.2.1 pc = .ok (.ishl, 1) ∧ pc + 1 = np) (kk : Runs K l Z n0 mi np ls (.int (x <<< (y &&& 31)) :: st) H v H') : Runs K l Z n0 mi pc ls (.int y :: .int x :: st) H v H' := by
  obtain ⟨hd, rfl⟩ := hd
  exact Runs.pure (fun _ _ _ _ _ _ _ _ _ _ _ _ _ X hx hZ hc hown t h => XT.ishl X.here hx rfl (hb hc hd) rfl h) kk
theorem r_ishr {x y : Int32} (hd : decode mi.2.1 pc = .ok (.ishr, 1) ∧ pc + 1 = np) (kk : Runs K l Z n0 mi np ls (.int (x >>> (y &&& 31)) :: st) H v H') : Runs K l Z n0 mi pc ls (.int y :: .int x :: st) H v H' := by
  obtain ⟨hd, rfl⟩ := hd
  exact Runs.pure (fun _ _ _ _ _ _ _ _ _ _ _ _ _ X hx hZ hc hown t h => XT.ishr X.here hx rfl (hb hc hd) rfl h) kk
theorem r_iushr {x y : Int32} (hd : decode mi.2.1 pc = .ok (.iushr, 1) ∧ pc + 1 = np) (kk : Runs K l Z n0 mi np ls (.int (XT.ushr x y) :: st) H v H') : Runs K l Z n0 mi pc ls (.int y :: .int x :: st) H v H' := by
  obtain ⟨hd, rfl⟩ := hd
  exact Runs.pure (fun _ _ _ _ _ _ _ _ _ _ _ _ _ X hx hZ hc hown t h => XT.iushr X.here hx rfl (hb hc hd) rfl h) kk
theorem r_idiv {x y : Int32} (hd : decode mi.2.1 pc = .ok (.idiv, 1) ∧ pc + 1 = np) (hy : y ≠ 0) (kk : Runs K l Z n0 mi np ls (.int (x / y) :: st) H v H') : Runs K l Z n0 mi pc ls (.int y :: .int x :: st) H v H' := by
  obtain ⟨hd, rfl⟩ := hd
  exact Runs.pure (fun _ _ _ _ _ _ _ _ _ _ _ _ _ X hx hZ hc hown t h => XS.idiv X.here hx rfl (hb hc hd) rfl hy h) kk
theorem r_irem {x y : Int32} (hd : decode mi.2.1 pc = .ok (.irem, 1) ∧ pc + 1 = np) (hy : y ≠ 0) (kk : Runs K l Z n0 mi np ls (.int (x % y) :: st) H v H') : Runs K l Z n0 mi pc ls (.int y :: .int x :: st) H v H' := by
  obtain ⟨hd, rfl⟩ := hd
  exact Runs.pure (fun _ _ _ _ _ _ _ _ _ _ _ _ _ X hx hZ hc hown t h => iremM X hx rfl (hb hc hd) rfl hy h) kk
theorem r_ladd {x y : Int64} (hd : decode mi.2.1 pc = .ok (.ladd, 1) ∧ pc + 1 = np) (kk : Runs K l Z n0 mi np ls (.long (x + y) :: st) H v H') : Runs K l Z n0 mi pc ls (.long y :: .long x :: st) H v H' := by
  obtain ⟨hd, rfl⟩ := hd
  exact Runs.pure (fun _ _ _ _ _ _ _ _ _ _ _ _ _ X hx hZ hc hown t h => XT.ladd X.here hx rfl (hb hc hd) rfl h) kk
theorem r_lsub {x y : Int64} (hd : decode mi.2.1 pc = .ok (.lsub, 1) ∧ pc + 1 = np) (kk : Runs K l Z n0 mi np ls (.long (x - y) :: st) H v H') : Runs K l Z n0 mi pc ls (.long y :: .long x :: st) H v H' := by
  obtain ⟨hd, rfl⟩ := hd
  exact Runs.pure (fun _ _ _ _ _ _ _ _ _ _ _ _ _ X hx hZ hc hown t h => XT.lsub X.here hx rfl (hb hc hd) rfl h) kk
theorem r_lmul {x y : Int64} (hd : decode mi.2.1 pc = .ok (.lmul, 1) ∧ pc + 1 = np) (kk : Runs K l Z n0 mi np ls (.long (x * y) :: st) H v H') : Runs K l Z n0 mi pc ls (.long y :: .long x :: st) H v H' := by
  obtain ⟨hd, rfl⟩ := hd
  exact Runs.pure (fun _ _ _ _ _ _ _ _ _ _ _ _ _ X hx hZ hc hown t h => XT.lmul X.here hx rfl (hb hc hd) rfl h) kk
theorem r_land {x y : Int64} (hd : decode mi.2.1 pc = .ok (.land, 1) ∧ pc + 1 = np) (kk : Runs K l Z n0 mi np ls (.long (x &&& y) :: st) H v H') : Runs K l Z n0 mi pc ls (.long y :: .long x :: st) H v H' := by
  obtain ⟨hd, rfl⟩ := hd
  exact Runs.pure (fun _ _ _ _ _ _ _ _ _ _ _ _ _ X hx hZ hc hown t h => XT.land X.here hx rfl (hb hc hd) rfl h) kk
theorem r_lor {x y : Int64} (hd : decode mi.2.1 pc = .ok (.lor, 1) ∧ pc + 1 = np) (kk : Runs K l Z n0 mi np ls (.long (x ||| y) :: st) H v H') : Runs K l Z n0 mi pc ls (.long y :: .long x :: st) H v H' := by
  obtain ⟨hd, rfl⟩ := hd
  exact Runs.pure (fun _ _ _ _ _ _ _ _ _ _ _ _ _ X hx hZ hc hown t h => XT.lor X.here hx rfl (hb hc hd) rfl h) kk
theorem r_lxor {x y : Int64} (hd : decode mi.2.1 pc = .ok (.lxor, 1) ∧ pc + 1 = np) (kk : Runs K l Z n0 mi np ls (.long (x ^^^ y) :: st) H v H') : Runs K l Z n0 mi pc ls (.long y :: .long x :: st) H v H' := by
  obtain ⟨hd, rfl⟩ := hd
  exact Runs.pure (fun _ _ _ _ _ _ _ _ _ _ _ _ _ X hx hZ hc hown t h => XT.lxor X.here hx rfl (hb hc hd) rfl h) kk
theorem r_lshl {x : Int64} {y : Int32} (hd : decode mi.2.1 pc = .ok (.lshl, 1) ∧ pc + 1 = np) (kk : Runs K l Z n0 mi np ls (.long (x <<< (y.toInt64 &&& 63)) :: st) H v H') : Runs K l Z n0 mi pc ls (.int y :: .long x :: st) H v H' := by
  obtain ⟨hd, rfl⟩ := hd
  exact Runs.pure (fun _ _ _ _ _ _ _ _ _ _ _ _ _ X hx hZ hc hown t h => XT.lshl X.here hx rfl (hb hc hd) rfl h) kk
theorem r_lshr {x : Int64} {y : Int32} (hd : decode mi.2.1 pc = .ok (.lshr, 1) ∧ pc + 1 = np) (kk : Runs K l Z n0 mi np ls (.long (x >>> (y.toInt64 &&& 63)) :: st) H v H') : Runs K l Z n0 mi pc ls (.int y :: .long x :: st) H v H' := by
  obtain ⟨hd, rfl⟩ := hd
  exact Runs.pure (fun _ _ _ _ _ _ _ _ _ _ _ _ _ X hx hZ hc hown t h => XT.lshr X.here hx rfl (hb hc hd) rfl h) kk
theorem r_lushr {x : Int64} {y : Int32} (hd : decode mi.2.1 pc = .ok (.lushr, 1) ∧ pc + 1 = np) (kk : Runs K l Z n0 mi np ls (.long (XT.ushrL x y) :: st) H v H') : Runs K l Z n0 mi pc ls (.int y :: .long x :: st) H v H' := by
  obtain ⟨hd, rfl⟩ := hd
  exact Runs.pure (fun _ _ _ _ _ _ _ _ _ _ _ _ _ X hx hZ hc hown t h => XT.lushr X.here hx rfl (hb hc hd) rfl h) kk
theorem r_ldiv {x y : Int64} (hd : decode mi.2.1 pc = .ok (.ldiv, 1) ∧ pc + 1 = np) (hy : y ≠ 0) (kk : Runs K l Z n0 mi np ls (.long (x / y) :: st) H v H') : Runs K l Z n0 mi pc ls (.long y :: .long x :: st) H v H' := by
  obtain ⟨hd, rfl⟩ := hd
  exact Runs.pure (fun _ _ _ _ _ _ _ _ _ _ _ _ _ X hx hZ hc hown t h => XT.ldiv X.here hx rfl (hb hc hd) rfl hy h) kk
theorem r_lrem {x y : Int64} (hd : decode mi.2.1 pc = .ok (.lrem, 1) ∧ pc + 1 = np) (hy : y ≠ 0) (kk : Runs K l Z n0 mi np ls (.long (x % y) :: st) H v H') : Runs K l Z n0 mi pc ls (.long y :: .long x :: st) H v H' := by
  obtain ⟨hd, rfl⟩ := hd
  exact Runs.pure (fun _ _ _ _ _ _ _ _ _ _ _ _ _ X hx hZ hc hown t h => XT.lrem X.here hx rfl (hb hc hd) rfl hy (by rw [lrem_mod]; exact h)) kk
theorem r_lcmp {x y : Int64} (hd : decode mi.2.1 pc = .ok (.lcmp, 1) ∧ pc + 1 = np) (kk : Runs K l Z n0 mi np ls (.int (XT.cmpL x y) :: st) H v H') : Runs K l Z n0 mi pc ls (.long y :: .long x :: st) H v H' := by
  obtain ⟨hd, rfl⟩ := hd
  exact Runs.pure (fun _ _ _ _ _ _ _ _ _ _ _ _ _ X hx hZ hc hown t h => XT.lcmp X.here hx rfl (hb hc hd) rfl h) kk
theorem r_ineg {x : Int32} (hd : decode mi.2.1 pc = .ok (.ineg, 1) ∧ pc + 1 = np) (kk : Runs K l Z n0 mi np ls (.int (-x) :: st) H v H') : Runs K l Z n0 mi pc ls (.int x :: st) H v H' := by
  obtain ⟨hd, rfl⟩ := hd
  exact Runs.pure (fun _ _ _ _ _ _ _ _ _ _ _ _ _ X hx hZ hc hown t h => XS.ineg X.here hx rfl (hb hc hd) rfl h) kk
theorem r_lneg {x : Int64} (hd : decode mi.2.1 pc = .ok (.lneg, 1) ∧ pc + 1 = np) (kk : Runs K l Z n0 mi np ls (.long (-x) :: st) H v H') : Runs K l Z n0 mi pc ls (.long x :: st) H v H' := by
  obtain ⟨hd, rfl⟩ := hd
  exact Runs.pure (fun _ _ _ _ _ _ _ _ _ _ _ _ _ X hx hZ hc hown t h => XT.lneg X.here hx rfl (hb hc hd) rfl h) kk
theorem r_i2l {x : Int32} (hd : decode mi.2.1 pc = .ok (.i2l, 1) ∧ pc + 1 = np) (kk : Runs K l Z n0 mi np ls (.long x.toInt64 :: st) H v H') : Runs K l Z n0 mi pc ls (.int x :: st) H v H' := by
  obtain ⟨hd, rfl⟩ := hd
  exact Runs.pure (fun _ _ _ _ _ _ _ _ _ _ _ _ _ X hx hZ hc hown t h => XT.i2l X.here hx rfl (hb hc hd) rfl h) kk
theorem r_l2i {x : Int64} (hd : decode mi.2.1 pc = .ok (.l2i, 1) ∧ pc + 1 = np) (kk : Runs K l Z n0 mi np ls (.int x.toInt32 :: st) H v H') : Runs K l Z n0 mi pc ls (.long x :: st) H v H' := by
  obtain ⟨hd, rfl⟩ := hd
  exact Runs.pure (fun _ _ _ _ _ _ _ _ _ _ _ _ _ X hx hZ hc hown t h => XT.l2i X.here hx rfl (hb hc hd) rfl h) kk
theorem r_i2b {x : Int32} (hd : decode mi.2.1 pc = .ok (.i2b, 1) ∧ pc + 1 = np) (kk : Runs K l Z n0 mi np ls (.int x.toInt8.toInt32 :: st) H v H') : Runs K l Z n0 mi pc ls (.int x :: st) H v H' := by
  obtain ⟨hd, rfl⟩ := hd
  exact Runs.pure (fun _ _ _ _ _ _ _ _ _ _ _ _ _ X hx hZ hc hown t h => XT.i2b X.here hx rfl (hb hc hd) rfl h) kk
theorem r_i2s {x : Int32} (hd : decode mi.2.1 pc = .ok (.i2s, 1) ∧ pc + 1 = np) (kk : Runs K l Z n0 mi np ls (.int x.toInt16.toInt32 :: st) H v H') : Runs K l Z n0 mi pc ls (.int x :: st) H v H' := by
  obtain ⟨hd, rfl⟩ := hd
  exact Runs.pure (fun _ _ _ _ _ _ _ _ _ _ _ _ _ X hx hZ hc hown t h => XT.i2s X.here hx rfl (hb hc hd) rfl h) kk
theorem r_i2c {x : Int32} (hd : decode mi.2.1 pc = .ok (.i2c, 1) ∧ pc + 1 = np) (kk : Runs K l Z n0 mi np ls (.int x.toUInt32.toUInt16.toUInt32.toInt32 :: st) H v H') : Runs K l Z n0 mi pc ls (.int x :: st) H v H' := by
  obtain ⟨hd, rfl⟩ := hd
  exact Runs.pure (fun _ _ _ _ _ _ _ _ _ _ _ _ _ X hx hZ hc hown t h => XT.i2c X.here hx rfl (hb hc hd) rfl h) kk
theorem r_dup {x : Value} (hd : decode mi.2.1 pc = .ok (.dup, 1) ∧ pc + 1 = np) (hx1 : x.category = 1) (kk : Runs K l Z n0 mi np ls (x :: x :: st) H v H') : Runs K l Z n0 mi pc ls (x :: st) H v H' := by
  obtain ⟨hd, rfl⟩ := hd
  exact Runs.pure (fun _ _ _ _ _ _ _ _ _ _ _ _ _ X hx hZ hc hown t h => XS.dup X.here hx rfl (hb hc hd) rfl ((cat_sh _ _).trans hx1) h) kk
theorem r_pop {x : Value} (hd : decode mi.2.1 pc = .ok (.pop, 1) ∧ pc + 1 = np) (hx1 : x.category = 1) (kk : Runs K l Z n0 mi np ls st H v H') : Runs K l Z n0 mi pc ls (x :: st) H v H' := by
  obtain ⟨hd, rfl⟩ := hd
  exact Runs.pure (fun _ _ _ _ _ _ _ _ _ _ _ _ _ X hx hZ hc hown t h => XT.pop X.here hx rfl (hb hc hd) rfl ((cat_sh _ _).trans hx1) h) kk
theorem r_dupX1 {x y : Value} (hd : decode mi.2.1 pc = .ok (.dup_x1, 1) ∧ pc + 1 = np) (hx1 : x.category = 1) (hy1 : y.category = 1) (kk : Runs K l Z n0 mi np ls (x :: y :: x :: st) H v H') : Runs K l Z n0 mi pc ls (x :: y :: st) H v H' := by
  obtain ⟨hd, rfl⟩ := hd
  exact Runs.pure (fun _ _ _ _ _ _ _ _ _ _ _ _ _ X hx hZ hc hown t h => XT.dupX1 X.here hx rfl (hb hc hd) rfl ((cat_sh _ _).trans hx1) ((cat_sh _ _).trans hy1) h) kk
theorem r_dup2 {x y : Value} (hd : decode mi.2.1 pc = .ok (.dup2, 1) ∧ pc + 1 = np) (hx1 : x.category = 1) (hy1 : y.category = 1) (kk : Runs K l Z n0 mi np ls (x :: y :: x :: y :: st) H v H') : Runs K l Z n0 mi pc ls (x :: y :: st) H v H' := by
  obtain ⟨hd, rfl⟩ := hd
  exact Runs.pure (fun _ _ _ _ _ _ _ _ _ _ _ _ _ X hx hZ hc hown t h => XT.dup2 X.here hx rfl (hb hc hd) rfl ((cat_sh _ _).trans hx1) ((cat_sh _ _).trans hy1) h) kk
theorem r_dup2L {x : Int64} (hd : decode mi.2.1 pc = .ok (.dup2, 1) ∧ pc + 1 = np) (kk : Runs K l Z n0 mi np ls (.long x :: .long x :: st) H v H') : Runs K l Z n0 mi pc ls (.long x :: st) H v H' := by
  obtain ⟨hd, rfl⟩ := hd
  exact Runs.pure (fun _ _ _ _ _ _ _ _ _ _ _ _ _ X hx hZ hc hown t h => XT.dup2L X.here hx rfl (hb hc hd) rfl h) kk
theorem r_aconstNull  (hd : decode mi.2.1 pc = .ok (.aconst_null, 1) ∧ pc + 1 = np) (kk : Runs K l Z n0 mi np ls (.null :: st) H v H') : Runs K l Z n0 mi pc ls st H v H' := by
  obtain ⟨hd, rfl⟩ := hd
  exact Runs.pure (fun _ _ _ _ _ _ _ _ _ _ _ _ _ X hx hZ hc hown t h => XS.aconstNull X.here hx rfl (hb hc hd) h) kk
theorem r_iconst {i : Int} {x : Int32} (hd : decode mi.2.1 pc = .ok (.iconst i, 1) ∧ pc + 1 = np ∧ Int32.ofInt i = x) (kk : Runs K l Z n0 mi np ls (.int x :: st) H v H') : Runs K l Z n0 mi pc ls st H v H' := by
  obtain ⟨hd, rfl, hx0⟩ := hd
  exact Runs.pure (fun _ _ _ _ _ _ _ _ _ _ _ _ _ X hx hZ hc hown t h => XT.iconstV X.here hx rfl x (hb hc hd) hx0 h) kk
theorem r_bipush {i : Int} {x : Int32} (hd : decode mi.2.1 pc = .ok (.bipush i, 2) ∧ pc + 2 = np ∧ (Int8.ofInt i).toInt32 = x) (kk : Runs K l Z n0 mi np ls (.int x :: st) H v H') : Runs K l Z n0 mi pc ls st H v H' := by
  obtain ⟨hd, rfl, hx0⟩ := hd
  exact Runs.pure (fun _ _ _ _ _ _ _ _ _ _ _ _ _ X hx hZ hc hown t h => XT.bipushV X.here hx rfl x (hb hc hd) hx0 h) kk
theorem r_sipush {i : Int} {x : Int32} (hd : decode mi.2.1 pc = .ok (.sipush i, 3) ∧ pc + 3 = np ∧ (Int16.ofInt i).toInt32 = x) (kk : Runs K l Z n0 mi np ls (.int x :: st) H v H') : Runs K l Z n0 mi pc ls st H v H' := by
  obtain ⟨hd, rfl, hx0⟩ := hd
  exact Runs.pure (fun _ _ _ _ _ _ _ _ _ _ _ _ _ X hx hZ hc hown t h => XT.sipushV X.here hx rfl x (hb hc hd) hx0 h) kk
theorem r_lconst {i : Fin 2} {x : Int64} (hd : decode mi.2.1 pc = .ok (.lconst i, 1) ∧ pc + 1 = np ∧ Int64.ofNat i = x) (kk : Runs K l Z n0 mi np ls (.long x :: st) H v H') : Runs K l Z n0 mi pc ls st H v H' := by
  obtain ⟨hd, rfl, hx0⟩ := hd
  exact Runs.pure (fun _ _ _ _ _ _ _ _ _ _ _ _ _ X hx hZ hc hown t h => XT.lconstV X.here hx rfl x (hb hc hd) hx0 h) kk
theorem r_ldc {i : Nat} {x : Int32} (hd : decode mi.2.1 pc = .ok (.ldc i, 2) ∧ pc + 2 = np) (w : (Jvm.Cond.constant mi.1.cls i x).before a0 Z = true) (kk : Runs K l Z n0 mi np ls (.int x :: st) H v H') : Runs K l Z n0 mi pc ls st H v H' := by
  obtain ⟨hd, rfl⟩ := hd
  exact Runs.pure (fun _ _ _ _ _ _ _ _ _ _ _ _ _ X hx hZ hc hown t h => X.ldcI hx hown (mv hZ w) rfl (hb hc hd) h) kk
theorem r_ldcW {i : Nat} {x : Int32} (hd : decode mi.2.1 pc = .ok (.ldc_w i, 3) ∧ pc + 3 = np) (w : (Jvm.Cond.constant mi.1.cls i x).before a0 Z = true) (kk : Runs K l Z n0 mi np ls (.int x :: st) H v H') : Runs K l Z n0 mi pc ls st H v H' := by
  obtain ⟨hd, rfl⟩ := hd
  exact Runs.pure (fun _ _ _ _ _ _ _ _ _ _ _ _ _ X hx hZ hc hown t h => X.ldcWI hx hown (mv hZ w) rfl (hb hc hd) h) kk
theorem r_ldc2 {i : Nat} {x : Int64} (hd : decode mi.2.1 pc = .ok (.ldc2_w i, 3) ∧ pc + 3 = np) (w : (Jvm.Cond.constantLong mi.1.cls i x).before a0 Z = true) (kk : Runs K l Z n0 mi np ls (.long x :: st) H v H') : Runs K l Z n0 mi pc ls st H v H' := by
  obtain ⟨hd, rfl⟩ := hd
  exact Runs.pure (fun _ _ _ _ _ _ _ _ _ _ _ _ _ X hx hZ hc hown t h => X.ldc2J hx hown (mv hZ w) rfl (hb hc hd) h) kk
theorem r_iinc {k : Nat} {i : Int} {x y : Int32} (hd : decode mi.2.1 pc = .ok (.iinc k i, 3) ∧ pc + 3 = np ∧ Int32.ofInt i = y) (hl : ls[k]? = some (.val (.int x))) (hs : ls.set k (.val (.int (x + y))) = ls') (kk : Runs K l Z n0 mi np ls' st H v H') : Runs K l Z n0 mi pc ls st H v H' := by
  obtain ⟨hd, rfl, hx0⟩ := hd
  exact Runs.pure (fun _ _ _ _ _ _ _ _ _ _ _ _ _ X hx hZ hc hown t h => XT.iincV X.here hx rfl y (hb hc hd) hx0 (loc_at hl) (st1 (P1_int hl) rfl hs) h) kk
theorem r_goto  {o : Int} (hd : decode mi.2.1 pc = .ok (.goto o, 3) ∧ pc + 3 = np ∧ 0 ≤ (pc : Int) + o ∧ ((pc : Int) + o).toNat = tp) (kk : Runs K l Z n0 mi tp ls st H v H') : Runs K l Z n0 mi pc ls st H v H' := by
  obtain ⟨hd, hn, h1, h2⟩ := hd
  exact Runs.pure (fun _ _ _ _ _ _ _ _ _ _ _ _ _ X hx hZ hc hown t h => XS.goto X.here hx rfl rfl (hb hc hd) h1 h2 h) kk
theorem r_ifT {cd : ClassFile.Cond} {x : Int32} {o : Int} (hd : decode mi.2.1 pc = .ok (.ifCond cd o, 3) ∧ pc + 3 = np ∧ 0 ≤ (pc : Int) + o ∧ ((pc : Int) + o).toNat = tp) (hq : ifCond.holds cd x = true) (kk : Runs K l Z n0 mi tp ls st H v H') : Runs K l Z n0 mi pc ls (.int x :: st) H v H' := by
  obtain ⟨hd, hn, h1, h2⟩ := hd
  exact Runs.pure (fun _ _ _ _ _ _ _ _ _ _ _ _ _ X hx hZ hc hown t h => XS.ifYes X.here hx rfl rfl (hb hc hd) rfl hq h1 h2 h) kk
theorem r_ifF {cd : ClassFile.Cond} {x : Int32} {o : Int} (hd : decode mi.2.1 pc = .ok (.ifCond cd o, 3) ∧ pc + 3 = np ∧ 0 ≤ (pc : Int) + o ∧ ((pc : Int) + o).toNat = tp) (hq : ifCond.holds cd x = false) (kk : Runs K l Z n0 mi np ls st H v H') : Runs K l Z n0 mi pc ls (.int x :: st) H v H' := by
  obtain ⟨hd, rfl, h1, h2⟩ := hd
  exact Runs.pure (fun _ _ _ _ _ _ _ _ _ _ _ _ _ X hx hZ hc hown t h => XS.ifNo X.here hx rfl (hb hc hd) rfl hq h) kk
theorem r_icT {cd : ClassFile.Cond} {x y : Int32} {o : Int} (hd : decode mi.2.1 pc = .ok (.if_icmp cd o, 3) ∧ pc + 3 = np ∧ 0 ≤ (pc : Int) + o ∧ ((pc : Int) + o).toNat = tp) (hq : if_icmp.holds cd x y = true) (kk : Runs K l Z n0 mi tp ls st H v H') : Runs K l Z n0 mi pc ls (.int y :: .int x :: st) H v H' := by
  obtain ⟨hd, hn, h1, h2⟩ := hd
  exact Runs.pure (fun _ _ _ _ _ _ _ _ _ _ _ _ _ X hx hZ hc hown t h => XS.icmpYes X.here hx rfl rfl (hb hc hd) rfl hq h1 h2 h) kk
theorem r_icF {cd : ClassFile.Cond} {x y : Int32} {o : Int} (hd : decode mi.2.1 pc = .ok (.if_icmp cd o, 3) ∧ pc + 3 = np ∧ 0 ≤ (pc : Int) + o ∧ ((pc : Int) + o).toNat = tp) (hq : if_icmp.holds cd x y = false) (kk : Runs K l Z n0 mi np ls st H v H') : Runs K l Z n0 mi pc ls (.int y :: .int x :: st) H v H' := by
  obtain ⟨hd, rfl, h1, h2⟩ := hd
  exact Runs.pure (fun _ _ _ _ _ _ _ _ _ _ _ _ _ X hx hZ hc hown t h => XS.icmpNo X.here hx rfl (hb hc hd) rfl hq h) kk
theorem r_nullT  {o : Int} (hd : decode mi.2.1 pc = .ok (.ifnull o, 3) ∧ pc + 3 = np ∧ 0 ≤ (pc : Int) + o ∧ ((pc : Int) + o).toNat = tp) (kk : Runs K l Z n0 mi tp ls st H v H') : Runs K l Z n0 mi pc ls (.null :: st) H v H' := by
  obtain ⟨hd, hn, h1, h2⟩ := hd
  exact Runs.pure (fun _ _ _ _ _ _ _ _ _ _ _ _ _ X hx hZ hc hown t h => XS.ifnullYes X.here hx rfl rfl (hb hc hd) rfl h1 h2 h) kk
theorem r_nullF {a : Addr} {o : Int} (hd : decode mi.2.1 pc = .ok (.ifnull o, 3) ∧ pc + 3 = np ∧ 0 ≤ (pc : Int) + o ∧ ((pc : Int) + o).toNat = tp) (kk : Runs K l Z n0 mi np ls st H v H') : Runs K l Z n0 mi pc ls (.ref a :: st) H v H' := by
  obtain ⟨hd, rfl, h1, h2⟩ := hd
  exact Runs.pure (fun _ _ _ _ _ _ _ _ _ _ _ _ _ X hx hZ hc hown t h => XS.ifnullNo X.here hx rfl (hb hc hd) rfl h) kk
theorem r_nonnullT {a : Addr} {o : Int} (hd : decode mi.2.1 pc = .ok (.ifnonnull o, 3) ∧ pc + 3 = np ∧ 0 ≤ (pc : Int) + o ∧ ((pc : Int) + o).toNat = tp) (kk : Runs K l Z n0 mi tp ls st H v H') : Runs K l Z n0 mi pc ls (.ref a :: st) H v H' := by
  obtain ⟨hd, hn, h1, h2⟩ := hd
  exact Runs.pure (fun _ _ _ _ _ _ _ _ _ _ _ _ _ X hx hZ hc hown t h => XT.ifnonnullYes X.here hx rfl rfl (hb hc hd) rfl h1 h2 h) kk
theorem r_nonnullF  {o : Int} (hd : decode mi.2.1 pc = .ok (.ifnonnull o, 3) ∧ pc + 3 = np ∧ 0 ≤ (pc : Int) + o ∧ ((pc : Int) + o).toNat = tp) (kk : Runs K l Z n0 mi np ls st H v H') : Runs K l Z n0 mi pc ls (.null :: st) H v H' := by
  obtain ⟨hd, rfl, h1, h2⟩ := hd
  exact Runs.pure (fun _ _ _ _ _ _ _ _ _ _ _ _ _ X hx hZ hc hown t h => XT.ifnonnullNo X.here hx rfl (hb hc hd) rfl h) kk
/-- a step that may turn the heap -/
theorem Runs.heap {st2 : List Value} (m1 : H.length ≤ H1.length) (m2 : szs K H ≤ szs K H1) (hstep : ∀ (p : Program) (e : Env) (R : Room) (s : State) (m : MethodId) (args : Array Value) (below : List Frame) (meth : Method) (c : Code) (T : State) (locs : List Loc) (cells slots : Nat),
      Stand p l e R s m args below meth c T locs cells slots → p.tables.exec = Jvm.exec → Z.Warmed39 s.vm → c.code = mi.2.1 → c.maxLocals = mi.2.2.1 → s.vm.findClass mi.1.cls = some m.cls → meth.name = mi.1.name → Rel K Z n0 H T.heap → Fr n0 locs → mi.2.2.2.2.1 ≤ R.frames → mi.2.2.2.2.2 ≤ R.locals →
      s.heap.size + cells = n0 + H.length → cells + H1.length ≤ R.cells + H.length → slots + szs K H1 ≤ R.slots + szs K H →
      ∃ (T1 : State) (locs1 : List Loc) (cells1 slots1 : Nat), Stand p l e R s m args below meth c T1 locs1 cells1 slots1 ∧ Rel K Z n0 H1 T1.heap ∧ Fr n0 locs1 ∧ s.heap.size + cells1 = n0 + H1.length ∧ slots1 + szs K H ≤ slots + szs K H1 ∧
        ∀ target, Steps p.tables e below (T1.setTop (mkF m np (ls'.map (shS n0)).toArray (st2.map (shV n0)))) target → Steps p.tables e below (T.setTop (mkF m pc (ls.map (shS n0)).toArray (st.map (shV n0)))) target)
    (k : Runs K l Z n0 mi np ls' st2 H1 v H') : Runs K l Z n0 mi pc ls st H v H' := by
  have k1 := k.1
  have k2 := k.2.1
  refine ⟨Nat.le_trans m1 k1, Nat.le_trans m2 k2, fun p e R s m args below meth c T locs cells slots X hx hZ hc hml hret hown hnm hrel hfr hf hlo hsz hcl hsl => ?_⟩
  obtain ⟨T1, locs1, cells1, slots1, X1, rel1, fr1, hc1, hs1, st1⟩ := hstep p e R s m args below meth c T locs cells slots X hx hZ hc hml hown hnm hrel hfr hf hlo hsz (by omega) (by omega)
  obtain ⟨T', locs', cells', slots', X', rel', fr', hc', hs', stp⟩ := k.2.2 p e R s m args below meth c T1 locs1 cells1 slots1 X1 hx hZ hc hml hret hown hnm rel1 fr1 hf hlo hc1 (by omega) (by omega)
  exact ⟨T', locs', cells', slots', X', rel', fr', hc', by omega, fun fs hr => st1 _ (stp fs hr)⟩
theorem r_ret {x : Value} {t : FieldType} {i : Instr} (hd : decode mi.2.1 pc = .ok (i, 1)) (hret : mi.2.2.2.1 = some t) (hn : narrow t x = x)
    (hi : (i = .ireturn ∧ (t = .int ∨ t = .boolean ∨ t = .byte ∨ t = .char ∨ t = .short) ∧ ∃ z, x = .int z) ∨ (i = .lreturn ∧ t = .long ∧ ∃ z, x = .long z) ∨ (i = .areturn ∧ t.isReference = true ∧ x.isRef = true)) : Runs K l Z n0 mi pc ls (x :: st) H (some x) H := by
  refine ⟨Nat.le_refl _, Nat.le_refl _, fun p e R s m args below meth c T locs cells slots X hx hZ hc hml hret' hown hnm hrel hfr hf hlo hsz hcl hsl => ⟨T, locs, cells, slots, X, hrel, hfr, hsz, Nat.le_refl _, fun fs hr => ?_⟩⟩
  have hn' : narrow t (shV n0 x) = shV n0 x := by
    rcases hi with ⟨-, -, z, rfl⟩ | ⟨-, -, z, rfl⟩ | ⟨-, -, q⟩
    · exact hn
    · exact hn
    · cases x <;> first | (cases q; done) | (cases t <;> rfl)
  refine retOut X hx (hret'.trans hret) hn' ?_ (hb hc hd) hr
  rcases hi with ⟨h1, h2, z, rfl⟩ | ⟨h1, h2, z, rfl⟩ | ⟨h1, h2, q⟩
  · exact Or.inl ⟨h1, h2, z, rfl⟩
  · exact Or.inr (Or.inl ⟨h1, h2, z, rfl⟩)
  · exact Or.inr (Or.inr (Or.inr (Or.inr ⟨h1, h2, isRef_sh q⟩)))
theorem r_ireturn {z : Int32} (hd : decode mi.2.1 pc = .ok (.ireturn, 1)) (hret : mi.2.2.2.1 = some .int) : Runs K l Z n0 mi pc ls (.int z :: st) H (some (.int z)) H := r_ret hd hret rfl (Or.inl ⟨rfl, Or.inl rfl, z, rfl⟩)
theorem r_ireturnE {z z' : Int32} (hd : decode mi.2.1 pc = .ok (.ireturn, 1)) (hret : mi.2.2.2.1 = some .int) (h : z = z') : Runs K l Z n0 mi pc ls (.int z :: st) H (some (.int z')) H := h ▸ r_ireturn hd hret
theorem r_zreturn {z : Int32} (hd : decode mi.2.1 pc = .ok (.ireturn, 1)) (hret : mi.2.2.2.1 = some .boolean) (hz : z = 0 ∨ z = 1) : Runs K l Z n0 mi pc ls (.int z :: st) H (some (.int z)) H := r_ret hd hret (by rcases hz with rfl | rfl <;> rfl) (Or.inl ⟨rfl, Or.inr (Or.inl rfl), z, rfl⟩)
theorem r_lreturn {z : Int64} (hd : decode mi.2.1 pc = .ok (.lreturn, 1)) (hret : mi.2.2.2.1 = some .long) : Runs K l Z n0 mi pc ls (.long z :: st) H (some (.long z)) H := r_ret hd hret rfl (Or.inr (Or.inl ⟨rfl, rfl, z, rfl⟩))
theorem r_areturn {x : Value} {t : FieldType} (hd : decode mi.2.1 pc = .ok (.areturn, 1)) (hret : mi.2.2.2.1 = some t) (ht : t.isReference = true) (hx : x.isRef = true) : Runs K l Z n0 mi pc ls (x :: st) H (some x) H := r_ret hd hret (by cases x <;> first | (cases hx; done) | (cases t <;> rfl)) (Or.inr (Or.inr ⟨rfl, ht, hx⟩))
theorem r_return (hd : decode mi.2.1 pc = .ok (.return_, 1)) (hret : mi.2.2.2.1 = none) : Runs K l Z n0 mi pc ls [] H none H := by
  refine ⟨Nat.le_refl _, Nat.le_refl _, fun p e R s m args below meth c T locs cells slots X hx hZ hc hml hret' hown hnm hrel hfr hf hlo hsz hcl hsl => ⟨T, locs, cells, slots, X, hrel, hfr, hsz, Nat.le_refl _, fun fs hr => ?_⟩⟩
  exact X.returnOut hx (hret'.trans hret) (hb hc hd) hr
theorem r_tswIn {dflt low high o : Int} {offs : Array Int} {len : Nat} {i : Int32} (hd : decode mi.2.1 pc = .ok (.tableswitch dflt low high offs, len)) (hin : ¬ (i.toInt < low ∨ i.toInt > high)) (hoff : offs[(i.toInt - low).toNat]? = some o) (ho : 0 ≤ (pc : Int) + o) (hp : ((pc : Int) + o).toNat = tp)
    (kk : Runs K l Z n0 mi tp ls st H v H') : Runs K l Z n0 mi pc ls (.int i :: st) H v H' :=
  Runs.pure (fun _ _ _ _ _ _ _ _ _ _ _ _ _ X hx hZ hc hown t h => XS.tswIn X.here hx rfl rfl (hb hc hd) rfl hin hoff ho hp h) kk
theorem r_tswOut {dflt low high : Int} {offs : Array Int} {len : Nat} {i : Int32} (hd : decode mi.2.1 pc = .ok (.tableswitch dflt low high offs, len)) (hout : i.toInt < low ∨ i.toInt > high) (ho : 0 ≤ (pc : Int) + dflt) (hp : ((pc : Int) + dflt).toNat = tp)
    (kk : Runs K l Z n0 mi tp ls st H v H') : Runs K l Z n0 mi pc ls (.int i :: st) H v H' :=
  Runs.pure (fun _ _ _ _ _ _ _ _ _ _ _ _ _ X hx hZ hc hown t h => XS.tswOut X.here hx rfl rfl (hb hc hd) rfl hout ho hp h) kk
/-! ### the heap -/
theorem OOk.ext {h h' : Heap} {a : Addr} {o : Ob} (E : Ext h h') (q : OOk K Z n0 h a o) : OOk K Z n0 h' a o := by
  cases o with
  | inl o => obtain ⟨ci, h1, h2, h3⟩ := q; exact ⟨ci, h1, h2.ext E, fun i f v a b => (h3 i f v a b).ext E⟩
  | inr o => obtain ⟨cl, h1, h2⟩ := q; exact ⟨cl, h1.ext E, h2⟩
theorem OOk.other {h h' : Heap} {a b : Addr} {sl : Nat} {x : Value} {o : Ob} (W : Wr h h' b sl x) (ne : a ≠ b) (q : OOk K Z n0 h a o) : OOk K Z n0 h' a o := by
  cases o with
  | inl o => obtain ⟨ci, h1, h2, h3⟩ := q; exact ⟨ci, h1, h2.wr W, fun i f v a b => (h3 i f v a b).other W (Or.inl ne)⟩
  | inr o => obtain ⟨cl, h1, h2⟩ := q; exact ⟨cl, h1.other W ne, h2⟩
theorem Rel.push {h h' : Heap} {o : Ob} (r : Rel K Z n0 H h) (E : Ext h h') (hs : h'.size = h.size + 1) (ho : OOk K Z n0 h' h.size o) : Rel K Z n0 (H ++ [o]) h' := by
  refine ⟨by rw [hs, r.1, List.length_append]; rfl, fun k q hk => ?_⟩
  by_cases hl : k < H.length
  · rw [List.getElem?_append_left hl] at hk; exact (r.2 k q hk).ext E
  · rw [List.getElem?_append_right (Nat.le_of_not_lt hl)] at hk
    have e : k - H.length = 0 := by
      cases hq : k - H.length with
      | zero => rfl
      | succ j => rw [hq] at hk; simp at hk
    rw [e] at hk
    simp at hk
    subst hk
    have : k = H.length := by omega
    subst this
    rw [← r.1]; exact ho
theorem Rel.put {h h' : Heap} {o : Ob} {a sl : Nat} {x : Value} (r : Rel K Z n0 H h) (W : Wr h h' (n0 + a) sl x) (ha : a < H.length) (ho : OOk K Z n0 h' (n0 + a) o) : Rel K Z n0 (H.set a o) h' := by
  refine ⟨by rw [W.size, r.1, List.length_set], fun k q hk => ?_⟩
  by_cases e : a = k
  · subst e
    rw [List.getElem?_set_self ha] at hk
    cases hk; exact ho
  · rw [List.getElem?_set_ne e] at hk
    exact (r.2 k q hk).other W (fun z => e (Nat.add_left_cancel z).symm)
theorem map_set_same {α β : Type} (f : α → β) : ∀ (H : List α) (a : Nat) (o o' : α), H[a]? = some o' → f o = f o' → (H.set a o).map f = H.map f
  | [], _, _, _, h, _ => by simp at h
  | x :: r, 0, o, o', h, e => by simp at h; subst h; simp [e]
  | x :: r, a + 1, o, o', h, e => by simp at h; simp [map_set_same f r a o o' h e]
theorem szs_set {a : Nat} {o o' : Ob} (h : H[a]? = some o') (e : osz K o = osz K o') : szs K (H.set a o) = szs K H := by unfold szs; rw [map_set_same (osz K) H a o o' h e]
theorem szs_push {o : Ob} : szs K (H ++ [o]) = szs K H + osz K o := by simp [szs]
theorem lt_of_at {α : Type} {L : List α} {a : Nat} {o : α} (h : L[a]? = some o) : a < L.length := (List.getElem?_eq_some_iff.mp h).1
theorem nar_sh {t : FieldType} {x : Value} (h : narrow t x = x) : narrow t (shV n0 x) = shV n0 x := by cases x <;> first | exact h | (cases t <;> rfl)
theorem fits_sh {t : FieldType} {x : Value} (h : fits t x = true) : fits t (shV n0 x) = true := by cases x <;> first | exact h | (cases t <;> first | rfl | cases h)
theorem sh_dflt (ty : FieldType) : shV n0 (defaultValue ty) = defaultValue ty := by cases ty <;> rfl
theorem r_getF {a cid i idx : Nat} {vs : List Value} {ci : CI} {f : FI} {x : Value} {R0 : String} (hd : decode mi.2.1 pc = .ok (.getfield idx, 3) ∧ pc + 3 = np) (w : (Jvm.Cond.fieldLink mi.1.cls idx R0 f.2.1 f.2.2.1).before a0 Z = true) (via : Via Z R0 f.1 f.2.1 f.2.2.1) (hci : K[cid]? = some ci) (hf : ci.2.2[i]? = some f)
    (ho : H[a]? = some (.inl (cid, vs))) (hv : vs[i]? = some x) (kk : Runs K l Z n0 mi np ls (x :: st) H v H') : Runs K l Z n0 mi pc ls (.ref a :: st) H v H' := by
  obtain ⟨hd, rfl⟩ := hd
  refine Runs.heap (Nat.le_refl _) (Nat.le_refl _) (fun p e R s m args below meth c T locs cells slots X hx hZ hc hml hown hnm hrel hfr hf' hlo hsz hcl hsl => ?_) kk
  obtain ⟨ci', q1, E, F⟩ := hrel.2 a _ ho
  cases hci.symm.trans q1
  obtain ⟨T1, X1, e1, st1⟩ := getF X hx hZ hown (host := "") (Or.inl w) via rfl (F i f x hf hv) (g := mkF m pc (ls.map (shS n0)).toArray (.ref (n0 + a) :: st.map (shV n0))) rfl rfl (hb hc hd)
  exact ⟨T1, _, _, _, X1, by rw [e1]; exact hrel, hfr, hsz, Nat.le_refl _, st1⟩
theorem r_putF {a cid i idx : Nat} {vs vs' : List Value} {ci : CI} {f : FI} {x : Value} {R0 : String} (hK : KOk K Z a0) (hd : decode mi.2.1 pc = .ok (.putfield idx, 3) ∧ pc + 3 = np) (w : (Jvm.Cond.fieldLink mi.1.cls idx R0 f.2.1 f.2.2.1).before a0 Z = true) (via : Via Z R0 f.1 f.2.1 f.2.2.1) (hci : K[cid]? = some ci) (hf : ci.2.2[i]? = some f)
    (L : (Jvm.Cond.lays ci.1 f.1 f.2.1 f.2.2.1).before a0 Z = true ∨ ((Jvm.Cond.laysFinal ci.1 f.1 f.2.1 f.2.2.1).before a0 Z = true ∧ mi.1.cls = f.1 ∧ mi.1.name = "<init>"))
    (ho : H[a]? = some (.inl (cid, vs))) (hi : i < vs.length) (hn : narrow f.2.2.2 x = x) (hft : fits f.2.2.2 x = true) (hvs : vs.set i x = vs') (hH : H.set a (.inl (cid, vs')) = H1) (kk : Runs K l Z n0 mi np ls st H1 v H') : Runs K l Z n0 mi pc ls (x :: .ref a :: st) H v H' := by
  obtain ⟨hd, rfl⟩ := hd
  subst hvs hH
  have ha := lt_of_at ho
  have es : szs K (H.set a (.inl (cid, vs.set i x))) = szs K H := szs_set ho rfl
  refine Runs.heap (by rw [List.length_set]; exact Nat.le_refl _) (by rw [es]; exact Nat.le_refl _) (fun p e R s m args below meth c T locs cells slots X hx hZ hc hml hown hnm hrel hfr hf' hlo hsz hcl hsl => ?_) kk
  obtain ⟨ci', q1, E, F⟩ := hrel.2 a _ ho
  cases hci.symm.trans q1
  obtain ⟨kk1, kk2, kk3⟩ := hK cid ci hci
  have hfm : f ∈ ci.2.2 := List.mem_of_getElem? hf
  obtain ⟨T1, h1, X1, e1, W1, st1⟩ := putF X hx hZ hown (host := "") (Or.inl w) via rfl (F i f _ hf (List.getElem?_eq_getElem hi)) E (L.imp id fun q => ⟨q.1, q.2.1, hnm.trans q.2.2⟩) kk1 (kk2 f hfm).2 (nar_sh hn) (fits_sh hft)
    (g := mkF m pc (ls.map (shS n0)).toArray (shV n0 x :: .ref (n0 + a) :: st.map (shV n0))) rfl rfl (hb hc hd)
  refine ⟨T1, _, _, _, X1, ?_, Fr.snoc X1 hfr (Nat.le_add_right _ _), by rw [List.length_set]; exact hsz, by rw [es]; exact Nat.le_refl _, st1⟩
  rw [e1]
  refine hrel.put W1 ha ⟨ci, hci, E.wr W1, fun j g y hg hy => ?_⟩
  by_cases ji : i = j
  · subst ji
    cases hf.symm.trans hg
    rw [List.getElem?_set_self hi] at hy
    cases hy
    exact (F i f _ hf (List.getElem?_eq_getElem hi)).same W1
  · rw [List.getElem?_set_ne ji] at hy
    have hgm : g ∈ ci.2.2 := List.mem_of_getElem? hg
    refine (F j g y hg hy).other W1 (Or.inr (slot_ne (kk2 g hgm).1 (kk2 f hfm).1 ?_ (kk2 g hgm).2 (kk2 f hfm).2))
    obtain ⟨li, ei⟩ := List.getElem?_eq_some_iff.mp hf
    obtain ⟨lj, ej⟩ := List.getElem?_eq_some_iff.mp hg
    have pw := List.pairwise_iff_getElem.mp kk3
    rcases Nat.lt_or_gt_of_ne ji with q | q
    · have := pw i j li lj q; rw [ei, ej] at this; exact fun z => this z.symm
    · have := pw j i lj li q; rw [ei, ej] at this; exact this
theorem r_new {a cid idx : Nat} {ci : CI} {o : List Value} (hK : KOk K Z a0) (hd : decode mi.2.1 pc = .ok (.new idx, 3) ∧ pc + 3 = np) (w : (Jvm.Cond.classLink mi.1.cls idx ci.1).before a0 Z = true) (wz : (Jvm.Cond.initialized ci.1).before a0 Z = true) (hci : K[cid]? = some ci)
    (ho : ci.2.2.map (fun f => defaultValue f.2.2.2) = o) (ha : H.length = a) (hH : H ++ [.inl (cid, o)] = H1) (kk : Runs K l Z n0 mi np ls (.ref a :: st) H1 v H') : Runs K l Z n0 mi pc ls st H v H' := by
  obtain ⟨hd, rfl⟩ := hd
  subst ho ha hH
  obtain ⟨kk1, kk2, kk3⟩ := hK cid ci hci
  have es : osz K (.inl (cid, ci.2.2.map (fun f => defaultValue f.2.2.2))) = ci.2.1 := by show ((K[cid]?).map (fun ci => ci.2.1)).getD 0 = _; rw [hci]; rfl
  refine Runs.heap (by simp) (by rw [szs_push]; exact Nat.le_add_right _ _) (fun p e R s m args below meth c T locs cells slots X hx hZ hc hml hown hnm hrel hfr hf' hlo hsz hcl hsl => ?_) kk
  rw [szs_push, es] at hsl
  simp only [List.length_append, List.length_cons, List.length_nil] at hcl
  obtain ⟨T1, h1, X1, e1, E1, A1, D1, -, st1⟩ := newO X hx hZ hown w kk1 wz rfl (g := mkF m pc (ls.map (shS n0)).toArray (st.map (shV n0))) rfl (hb hc hd) (by omega) (by omega)
  have hs1 := X1.heapSize
  have hlt : T.heap.size < h1.size := A1.lt
  have hh := hrel.1
  rw [e1] at hs1
  refine ⟨T1, _, _, _, X1, ?_, hfr, by simp only [List.length_append, List.length_cons, List.length_nil]; omega, by rw [szs_push, es]; omega, fun t q => st1 t ?_⟩
  · rw [e1]
    refine hrel.push E1 (by omega) ⟨ci, hci, A1, fun i f x hf hx => ?_⟩
    have hfm : f ∈ ci.2.2 := List.mem_of_getElem? hf
    rw [List.getElem?_map, hf] at hx
    cases hx
    show Fld Z h1 T.heap.size f.1 f.2.1 f.2.2.1 (shV n0 (defaultValue f.2.2.2))
    rw [sh_dflt]
    exact D1 (kk2 f hfm).1 (kk2 f hfm).2
  · show Steps _ _ _ (T1.setTop (mkF m (pc + 3) _ (.ref T.heap.size :: _))) t
    rw [hh]; exact q
theorem toNat_of {n : Int32} (h : ¬ n < 0) : n.toNatClampNeg < 2 ^ 31 := (back32 h).2
theorem r_newA {a : Nat} {n : Int32} {aty : ArrayType} {o : List Value} (hd : decode mi.2.1 pc = .ok (.newarray aty, 2) ∧ pc + 2 = np) (w : (Jvm.Cond.arrayClass (newarray.typeOf aty)).before a0 Z = true) (hn : ¬ n < 0) (hb8 : n.toNatClampNeg * 8 ≤ 536870912)
    (ho : List.replicate n.toNatClampNeg (defaultValue (newarray.typeOf aty)) = o) (ha : H.length = a) (hH : H ++ [.inr (newarray.typeOf aty, o)] = H1) (kk : Runs K l Z n0 mi np ls (.ref a :: st) H1 v H') : Runs K l Z n0 mi pc ls (.int n :: st) H v H' := by
  obtain ⟨hd, rfl⟩ := hd
  subst ho ha hH
  have es : osz K (.inr (newarray.typeOf aty, List.replicate n.toNatClampNeg (defaultValue (newarray.typeOf aty)))) = n.toNatClampNeg := by show (List.replicate _ _).length = _; simp
  refine Runs.heap (by simp) (by rw [szs_push]; exact Nat.le_add_right _ _) (fun p e R s m args below meth c T locs cells slots X hx hZ hc hml hown hnm hrel hfr hf' hlo hsz hcl hsl => ?_) kk
  rw [szs_push, es] at hsl
  simp only [List.length_append, List.length_cons, List.length_nil] at hcl
  obtain ⟨T1, h1, cA, X1, e1, E1, A1, st1⟩ := newP X hx hZ w rfl (g := mkF m pc (ls.map (shS n0)).toArray (.int n :: st.map (shV n0))) rfl (hb hc hd) rfl hn (cap := n.toNatClampNeg) (Nat.le_refl _) hb8 (by omega) (by omega)
  have hs1 := X1.heapSize
  have hlt : T.heap.size < h1.size := A1.lt
  have hh := hrel.1
  rw [e1] at hs1
  refine ⟨T1, _, _, _, X1, ?_, hfr, by simp only [List.length_append, List.length_cons, List.length_nil]; omega, by rw [szs_push, es]; omega, fun t q => st1 t ?_⟩
  · rw [e1]
    refine hrel.push E1 (by omega) ⟨_, A1, by rw [sz_new]; simp, by simpa using toNat_of hn, fun i x hx => ?_⟩
    rw [List.getElem?_replicate] at hx
    split at hx
    · rename_i hi
      cases hx
      have q1 : (newA cA (newarray.typeOf aty) n).slots[i]? = some (defaultValue (newarray.typeOf aty)) := by simp [newA, hi]
      exact ⟨by rw [q1]; cases newarray.typeOf aty <;> rfl, by cases newarray.typeOf aty <;> rfl⟩
    · cases hx
  · show Steps _ _ _ (T1.setTop (mkF m (pc + 2) _ (.ref T.heap.size :: _))) t
    rw [hh]; exact q
theorem fits_byte (x : Int32) : fits .byte (.int x.toInt8.toInt32) = true := by
  have h1 : (x.toInt8.toInt32).toInt = x.toInt8.toInt := Int8.toInt_toInt32 _
  have h2 := x.toInt8.toInt_lt
  have h3 := x.toInt8.le_toInt
  have e1 : (-128 : Int32).toInt = -128 := by decide
  have e2 : (127 : Int32).toInt = 127 := by decide
  simp only [fits, Bool.and_eq_true, decide_eq_true_eq]
  rw [Int32.le_iff_toInt_le, Int32.le_iff_toInt_le, h1, e1, e2]
  omega
/-- the int j names the place i -/
def Ix (j : Int32) (i : Nat) : Prop := ¬ j < 0 ∧ j.toNatClampNeg = i
theorem r_len {a : Nat} {ty : FieldType} {vs : List Value} {n : Int32} (hd : decode mi.2.1 pc = .ok (.arraylength, 1) ∧ pc + 1 = np) (ho : H[a]? = some (.inr (ty, vs))) (hn : vs.length.toInt32 = n) (kk : Runs K l Z n0 mi np ls (.int n :: st) H v H') : Runs K l Z n0 mi pc ls (.ref a :: st) H v H' := by
  obtain ⟨hd, rfl⟩ := hd
  subst hn
  refine Runs.heap (Nat.le_refl _) (Nat.le_refl _) (fun p e R s m args below meth c T locs cells slots X hx hZ hc hml hown hnm hrel hfr hf' hlo hsz hcl hsl => ?_) kk
  obtain ⟨cl, A, hs, hl, hv⟩ := hrel.2 a _ ho
  refine ⟨T, _, _, _, X, hrel, hfr, hsz, Nat.le_refl _, fun t q => ?_⟩
  refine X.arraylength hx A.1 (State.isArrayOf_alike hZ.alike A.2.1) (g := mkF m pc (ls.map (shS n0)).toArray (.ref (n0 + a) :: st.map (shV n0))) rfl rfl (hb hc hd) _ ?_
  rw [hs]; exact q
theorem r_iaload {a i : Nat} {vs : List Value} {j : Int32} {x : Value} (hd : decode mi.2.1 pc = .ok (.iaload, 1) ∧ pc + 1 = np) (ho : H[a]? = some (.inr (.int, vs))) (hj : Ix j i) (hv : vs[i]? = some x) (kk : Runs K l Z n0 mi np ls (x :: st) H v H') : Runs K l Z n0 mi pc ls (.int j :: .ref a :: st) H v H' := by
  obtain ⟨hd, rfl⟩ := hd
  obtain ⟨hj0, rfl⟩ := hj
  refine Runs.heap (Nat.le_refl _) (Nat.le_refl _) (fun p e R s m args below meth c T locs cells slots X hx hZ hc hml hown hnm hrel hfr hf' hlo hsz hcl hsl => ?_) kk
  obtain ⟨cl, A, hs, hl, hvs⟩ := hrel.2 a _ ho
  have hi := lt_of_at hv
  refine ⟨T, _, _, _, X, hrel, hfr, hsz, Nat.le_refl _, fun t q => ?_⟩
  exact X.iaload hx (j := j) (v := shV n0 x) A.1 (State.isArrayOf_alike hZ.alike A.2.1) A.2.2 (fun z => z.elim hj0 (fun q => by rw [hs] at q; omega)) (hvs _ _ hv).1 (g := mkF m pc (ls.map (shS n0)).toArray (.int j :: .ref (n0 + a) :: st.map (shV n0))) rfl rfl (hb hc hd) _ q
theorem r_laload {a i : Nat} {vs : List Value} {j : Int32} {x : Value} (hd : decode mi.2.1 pc = .ok (.laload, 1) ∧ pc + 1 = np) (ho : H[a]? = some (.inr (.long, vs))) (hj : Ix j i) (hv : vs[i]? = some x) (kk : Runs K l Z n0 mi np ls (x :: st) H v H') : Runs K l Z n0 mi pc ls (.int j :: .ref a :: st) H v H' := by
  obtain ⟨hd, rfl⟩ := hd
  obtain ⟨hj0, rfl⟩ := hj
  refine Runs.heap (Nat.le_refl _) (Nat.le_refl _) (fun p e R s m args below meth c T locs cells slots X hx hZ hc hml hown hnm hrel hfr hf' hlo hsz hcl hsl => ?_) kk
  obtain ⟨cl, A, hs, hl, hvs⟩ := hrel.2 a _ ho
  have hi := lt_of_at hv
  refine ⟨T, _, _, _, X, hrel, hfr, hsz, Nat.le_refl _, fun t q => ?_⟩
  exact X.laload hx (j := j) (v := shV n0 x) A.1 (State.isArrayOf_alike hZ.alike A.2.1) A.2.2 (fun z => z.elim hj0 (fun q => by rw [hs] at q; omega)) (hvs _ _ hv).1 (g := mkF m pc (ls.map (shS n0)).toArray (.int j :: .ref (n0 + a) :: st.map (shV n0))) rfl rfl (hb hc hd) _ q
theorem r_baload {a i : Nat} {vs : List Value} {j : Int32} {x : Value} (hd : decode mi.2.1 pc = .ok (.baload, 1) ∧ pc + 1 = np) (ho : H[a]? = some (.inr (.byte, vs))) (hj : Ix j i) (hv : vs[i]? = some x) (kk : Runs K l Z n0 mi np ls (x :: st) H v H') : Runs K l Z n0 mi pc ls (.int j :: .ref a :: st) H v H' := by
  obtain ⟨hd, rfl⟩ := hd
  obtain ⟨hj0, rfl⟩ := hj
  refine Runs.heap (Nat.le_refl _) (Nat.le_refl _) (fun p e R s m args below meth c T locs cells slots X hx hZ hc hml hown hnm hrel hfr hf' hlo hsz hcl hsl => ?_) kk
  obtain ⟨cl, A, hs, hl, hvs⟩ := hrel.2 a _ ho
  have hi := lt_of_at hv
  refine ⟨T, _, _, _, X, hrel, hfr, hsz, Nat.le_refl _, fun t q => ?_⟩
  exact X.baloadBytes hx (j := j) (v := shV n0 x) A.1 (State.isArrayOf_alike hZ.alike A.2.1) A.2.2 (fun z => z.elim hj0 (fun q => by rw [hs] at q; omega)) (hvs _ _ hv).1 (g := mkF m pc (ls.map (shS n0)).toArray (.int j :: .ref (n0 + a) :: st.map (shV n0))) rfl rfl (hb hc hd) _ q
theorem r_caload {a i : Nat} {vs : List Value} {j : Int32} {x : Value} (hd : decode mi.2.1 pc = .ok (.caload, 1) ∧ pc + 1 = np) (ho : H[a]? = some (.inr (.char, vs))) (hj : Ix j i) (hv : vs[i]? = some x) (kk : Runs K l Z n0 mi np ls (x :: st) H v H') : Runs K l Z n0 mi pc ls (.int j :: .ref a :: st) H v H' := by
  obtain ⟨hd, rfl⟩ := hd
  obtain ⟨hj0, rfl⟩ := hj
  refine Runs.heap (Nat.le_refl _) (Nat.le_refl _) (fun p e R s m args below meth c T locs cells slots X hx hZ hc hml hown hnm hrel hfr hf' hlo hsz hcl hsl => ?_) kk
  obtain ⟨cl, A, hs, hl, hvs⟩ := hrel.2 a _ ho
  have hi := lt_of_at hv
  refine ⟨T, _, _, _, X, hrel, hfr, hsz, Nat.le_refl _, fun t q => ?_⟩
  exact X.caload hx (j := j) (v := shV n0 x) A.1 (State.isArrayOf_alike hZ.alike A.2.1) A.2.2 (fun z => z.elim hj0 (fun q => by rw [hs] at q; omega)) (hvs _ _ hv).1 (g := mkF m pc (ls.map (shS n0)).toArray (.int j :: .ref (n0 + a) :: st.map (shV n0))) rfl rfl (hb hc hd) _ q
theorem r_iastore {a i : Nat} {vs vs' : List Value} {j : Int32} {x : Int32} (hd : decode mi.2.1 pc = .ok (.iastore, 1) ∧ pc + 1 = np) (ho : H[a]? = some (.inr (.int, vs))) (hj : Ix j i) (hi : i < vs.length) (hvs : vs.set i (.int x) = vs') (hH : H.set a (.inr (.int, vs')) = H1) (kk : Runs K l Z n0 mi np ls st H1 v H') : Runs K l Z n0 mi pc ls (.int x :: .int j :: .ref a :: st) H v H' := by
  obtain ⟨hd, rfl⟩ := hd
  obtain ⟨hj0, rfl⟩ := hj
  subst hvs hH
  have ha := lt_of_at ho
  have es : szs K (H.set a (.inr (.int, vs.set j.toNatClampNeg (.int x)))) = szs K H := szs_set ho (by show (List.set _ _ _).length = _; simp [osz])
  refine Runs.heap (by rw [List.length_set]; exact Nat.le_refl _) (by rw [es]; exact Nat.le_refl _) (fun p e R s m args below meth c T locs cells slots X hx hZ hc hml hown hnm hrel hfr hf' hlo hsz hcl hsl => ?_) kk
  obtain ⟨cl, A, hs, hl, hvs⟩ := hrel.2 a _ ho
  have hin : ¬ (j < 0 ∨ cl.slots.size ≤ j.toNatClampNeg) := fun z => z.elim hj0 (fun q => by rw [hs] at q; omega)
  obtain ⟨T1, h1, X1, e1, W1, st1⟩ := stI X hx hZ rfl A hin (g := mkF m pc (ls.map (shS n0)).toArray (.int x :: .int j :: .ref (n0 + a) :: st.map (shV n0))) rfl rfl (hb hc hd)
  refine ⟨T1, _, _, _, X1, ?_, Fr.snoc X1 hfr (Nat.le_add_right _ _), by rw [List.length_set]; exact hsz, by rw [es]; exact Nat.le_refl _, st1⟩
  rw [e1]
  refine hrel.put W1 ha ⟨_, A.same W1, by rw [sz_set, hs, List.length_set], by rw [List.length_set]; exact hl, fun k y hy => ?_⟩
  by_cases e : j.toNatClampNeg = k
  · subst e
    rw [List.getElem?_set_self hi] at hy
    cases hy
    exact ⟨by simp [Cell.setSlot, hs, hi, shV, nar], rfl⟩
  · rw [List.getElem?_set_ne e] at hy
    refine ⟨?_, (hvs k y hy).2⟩
    exact (Array.getElem?_setIfInBounds_ne e).trans (hvs k y hy).1
theorem r_lastore {a i : Nat} {vs vs' : List Value} {j : Int32} {x : Int64} (hd : decode mi.2.1 pc = .ok (.lastore, 1) ∧ pc + 1 = np) (ho : H[a]? = some (.inr (.long, vs))) (hj : Ix j i) (hi : i < vs.length) (hvs : vs.set i (.long x) = vs') (hH : H.set a (.inr (.long, vs')) = H1) (kk : Runs K l Z n0 mi np ls st H1 v H') : Runs K l Z n0 mi pc ls (.long x :: .int j :: .ref a :: st) H v H' := by
  obtain ⟨hd, rfl⟩ := hd
  obtain ⟨hj0, rfl⟩ := hj
  subst hvs hH
  have ha := lt_of_at ho
  have es : szs K (H.set a (.inr (.long, vs.set j.toNatClampNeg (.long x)))) = szs K H := szs_set ho (by show (List.set _ _ _).length = _; simp [osz])
  refine Runs.heap (by rw [List.length_set]; exact Nat.le_refl _) (by rw [es]; exact Nat.le_refl _) (fun p e R s m args below meth c T locs cells slots X hx hZ hc hml hown hnm hrel hfr hf' hlo hsz hcl hsl => ?_) kk
  obtain ⟨cl, A, hs, hl, hvs⟩ := hrel.2 a _ ho
  have hin : ¬ (j < 0 ∨ cl.slots.size ≤ j.toNatClampNeg) := fun z => z.elim hj0 (fun q => by rw [hs] at q; omega)
  obtain ⟨T1, h1, X1, e1, W1, st1⟩ := stJ X hx hZ rfl A hin (g := mkF m pc (ls.map (shS n0)).toArray (.long x :: .int j :: .ref (n0 + a) :: st.map (shV n0))) rfl rfl (hb hc hd)
  refine ⟨T1, _, _, _, X1, ?_, Fr.snoc X1 hfr (Nat.le_add_right _ _), by rw [List.length_set]; exact hsz, by rw [es]; exact Nat.le_refl _, st1⟩
  rw [e1]
  refine hrel.put W1 ha ⟨_, A.same W1, by rw [sz_set, hs, List.length_set], by rw [List.length_set]; exact hl, fun k y hy => ?_⟩
  by_cases e : j.toNatClampNeg = k
  · subst e
    rw [List.getElem?_set_self hi] at hy
    cases hy
    exact ⟨by simp [Cell.setSlot, hs, hi, shV, nar], rfl⟩
  · rw [List.getElem?_set_ne e] at hy
    refine ⟨?_, (hvs k y hy).2⟩
    exact (Array.getElem?_setIfInBounds_ne e).trans (hvs k y hy).1
theorem r_bastore {a i : Nat} {vs vs' : List Value} {j : Int32} {x : Int32} (hd : decode mi.2.1 pc = .ok (.bastore, 1) ∧ pc + 1 = np) (ho : H[a]? = some (.inr (.byte, vs))) (hj : Ix j i) (hi : i < vs.length) (hvs : vs.set i (.int x.toInt8.toInt32) = vs') (hH : H.set a (.inr (.byte, vs')) = H1) (kk : Runs K l Z n0 mi np ls st H1 v H') : Runs K l Z n0 mi pc ls (.int x :: .int j :: .ref a :: st) H v H' := by
  obtain ⟨hd, rfl⟩ := hd
  obtain ⟨hj0, rfl⟩ := hj
  subst hvs hH
  have ha := lt_of_at ho
  have es : szs K (H.set a (.inr (.byte, vs.set j.toNatClampNeg (.int x.toInt8.toInt32)))) = szs K H := szs_set ho (by show (List.set _ _ _).length = _; simp [osz])
  refine Runs.heap (by rw [List.length_set]; exact Nat.le_refl _) (by rw [es]; exact Nat.le_refl _) (fun p e R s m args below meth c T locs cells slots X hx hZ hc hml hown hnm hrel hfr hf' hlo hsz hcl hsl => ?_) kk
  obtain ⟨cl, A, hs, hl, hvs⟩ := hrel.2 a _ ho
  have hin : ¬ (j < 0 ∨ cl.slots.size ≤ j.toNatClampNeg) := fun z => z.elim hj0 (fun q => by rw [hs] at q; omega)
  obtain ⟨T1, h1, X1, e1, W1, st1⟩ := stB X hx hZ rfl A hin (g := mkF m pc (ls.map (shS n0)).toArray (.int x :: .int j :: .ref (n0 + a) :: st.map (shV n0))) rfl rfl (hb hc hd)
  refine ⟨T1, _, _, _, X1, ?_, Fr.snoc X1 hfr (Nat.le_add_right _ _), by rw [List.length_set]; exact hsz, by rw [es]; exact Nat.le_refl _, st1⟩
  rw [e1]
  refine hrel.put W1 ha ⟨_, A.same W1, by rw [sz_set, hs, List.length_set], by rw [List.length_set]; exact hl, fun k y hy => ?_⟩
  by_cases e : j.toNatClampNeg = k
  · subst e
    rw [List.getElem?_set_self hi] at hy
    cases hy
    exact ⟨by simp [Cell.setSlot, hs, hi, shV, nar], fits_byte x⟩
  · rw [List.getElem?_set_ne e] at hy
    refine ⟨?_, (hvs k y hy).2⟩
    exact (Array.getElem?_setIfInBounds_ne e).trans (hvs k y hy).1
/-! ### calls -/
theorem map_toList (w : Option Value) (rest : List Value) : ((w.toList ++ rest).map (shV n0)) = (w.map (shV n0)).toList ++ rest.map (shV n0) := by cases w <;> simp
theorem r_initO {a idx : Nat} (hd : decode mi.2.1 pc = .ok (.invokespecial idx, 3) ∧ pc + 3 = np) (w1 : (Jvm.Cond.methodLink mi.1.cls idx Lib.objectInit).before a0 Z = true) (w2 : (Jvm.Cond.instanceMethod Lib.objectInit).before a0 Z = true) (w3 : (Jvm.Cond.code Lib.objectInit ⟨#[0xb1]⟩ 1 none).before a0 Z = true)
    (hls : ls.length = mi.2.2.1) (hf : 1 ≤ mi.2.2.2.2.1) (hlo : (st.map fun v => v.category).sum + 12 ≤ mi.2.2.2.2.2) (kk : Runs K l Z n0 mi np ls st H v H') : Runs K l Z n0 mi pc ls (.ref a :: st) H v H' := by
  obtain ⟨hd, rfl⟩ := hd
  refine Runs.heap (Nat.le_refl _) (Nat.le_refl _) (fun p e R s m args below meth c T locs cells slots X hx hZ hc hml hown hnm hrel hfr hf' hlo' hsz hcl hsl => ?_) kk
  obtain ⟨T1, X1, e1, st1⟩ := initO X hx hZ hown w1 w2 w3 rfl (g := mkF m pc (ls.map (shS n0)).toArray (.ref (n0 + a) :: st.map (shV n0))) rfl (by rw [hml, ← hls]; simp) rfl (hb hc hd) (by omega) (W := (st.map fun v => v.category).sum) (by rw [cats_sh]; show 2 * 0 + _ ≤ _; omega) (by omega)
  exact ⟨T1, _, _, _, X1, by rw [e1]; exact hrel, hfr, hsz, Nat.le_refl _, st1⟩
theorem backM {mj : MI} {as : List Value} {w : Option Value} {h : Heap} {p : Program} {e : Env} {R : Room} {s : State} {args : Array Value} {below : List Frame} {len W : Nat} (M : Meets K l Z n0 mj as H w H1) (hrel : Rel K Z n0 H h) (hZ : Z.Warmed39 s.vm) (w4 : (Jvm.Cond.code mj.1 mj.2.1 mj.2.2.1 mj.2.2.2.1).before a0 Z = true) (w3 : (Jvm.Cond.initialized mj.1.cls).before a0 Z = true)
    (hf : mj.2.2.2.2.1 + 1 ≤ R.frames) (hl : W + (mj.2.2.1 + 11) + mj.2.2.2.2.2 ≤ R.locals) :
    Back l R p e below s args mj.1 len W (fun A a => a = (as.map (shV n0)).toArray ∧ A.U.heap = h ∧ A.cells + (H1.length - H.length) ≤ R.cells ∧ A.slots + (szs K H1 - szs K H) ≤ R.slots)
      (fun A _ v B => ∃ L, (v = w.map (shV n0) ∧ Rel K Z n0 H1 B.U.heap ∧ Fr n0 L) ∧ B.locs = A.locs ++ L ∧ B.cells = A.cells + (H1.length - H.length) ∧ B.slots = A.slots + (szs K H1 - szs K H)) :=
  backOf (rm := rmOf K mj H H1) (Q := fun v h L => v = w.map (shV n0) ∧ Rel K Z n0 H1 h ∧ Fr n0 L) (M.2.2 h hrel) hZ w4 w3 hf hl
theorem r_static {mj : MI} {as : List Value} {w : Option Value} {idx : Nat} (hd : decode mi.2.1 pc = .ok (.invokestatic idx, 3) ∧ pc + 3 = np) (w1 : (Jvm.Cond.methodLink mi.1.cls idx mj.1).before a0 Z = true) (w2 : (Jvm.Cond.static mj.1).before a0 Z = true) (w3 : (Jvm.Cond.initialized mj.1.cls).before a0 Z = true) (w4 : (Jvm.Cond.code mj.1 mj.2.1 mj.2.2.1 mj.2.2.2.1).before a0 Z = true)
    (hy : mj.1.cls ≠ "java/lang/invoke/MethodHandle" ∧ mj.1.cls ≠ "java/lang/invoke/VarHandle") (hlen : ∀ sig, parseMethodDescriptor mj.1.desc = some sig → as.length = sig.parameters.length) (hfr : mj.2.2.2.2.1 + 1 ≤ mi.2.2.2.2.1)
    (hst : as.reverse ++ rest = st) (hls : ls.length = mi.2.2.1) (hlo : (rest.map fun v => v.category).sum + (mj.2.2.1 + 11) + mj.2.2.2.2.2 ≤ mi.2.2.2.2.2)
    (M : Meets K l Z n0 mj as H w H1) (kk : Runs K l Z n0 mi np ls (w.toList ++ rest) H1 v H') : Runs K l Z n0 mi pc ls st H v H' := by
  obtain ⟨hd, rfl⟩ := hd
  subst hst
  have m1 := M.1
  have m2 := M.2.1
  refine Runs.heap m1 m2 (fun p e R s m args below meth c T locs cells slots X hx hZ hc hml hown hnm hrel hfr' hf' hlo' hsz hcl hsl => ?_) kk
  obtain ⟨_, _, ⟨T1, L1, k1, n1⟩, -, X1, ⟨Lc, hQ, l1, y1, z1⟩, st1⟩ := Jvm.LawKit.callS X hx (y := mj.1) hown (mvT hZ w1) (mvT hZ w2) (mvT hZ w3) (mvT hZ w4) hy
    (backM (W := (rest.map fun v => v.category).sum) M hrel hZ w4 w3 (by omega) (by omega))
    (g := mkF m pc (ls.map (shS n0)).toArray ((as.reverse ++ rest).map (shV n0))) rfl (by rw [hml, ← hls]; simp) (argsL := as.map (shV n0)) (rest := rest.map (shV n0)) (fun sig q => by rw [List.length_map]; exact hlen sig q) (by simp) (by rw [cats_sh]; show 2 * 0 + _ ≤ _; omega) (hb hc hd)
    (fun _ _ => ⟨rfl, rfl, (by show cells + (H1.length - H.length) ≤ _; omega), (by show slots + (szs K H1 - szs K H) ≤ _; omega)⟩)
  dsimp only [Pt.U, Pt.locs, Pt.cells, Pt.slots] at X1 l1 y1 z1 st1 hQ
  subst l1 y1 z1
  obtain ⟨rfl, R1, F1⟩ := hQ
  refine ⟨T1, _, _, _, X1, R1, Fr.app hfr' F1, by show s.heap.size + (cells + (H1.length - H.length)) = _; omega, by show slots + (szs K H1 - szs K H) + _ ≤ _; omega, fun t q => st1 t ?_⟩
  rw [map_toList] at q; exact q
theorem r_special {mj : MI} {as : List Value} {a idx : Nat} (hd : decode mi.2.1 pc = .ok (.invokespecial idx, 3) ∧ pc + 3 = np) (hy1 : mj.1.name = "<init>") (hr : mj.2.2.2.1 = none) (w1 : (Jvm.Cond.methodLink mi.1.cls idx mj.1).before a0 Z = true) (w2 : (Jvm.Cond.instanceMethod mj.1).before a0 Z = true) (w3 : (Jvm.Cond.initialized mj.1.cls).before a0 Z = true) (w4 : (Jvm.Cond.code mj.1 mj.2.1 mj.2.2.1 mj.2.2.2.1).before a0 Z = true)
    (hy : mj.1.cls ≠ "java/lang/invoke/MethodHandle" ∧ mj.1.cls ≠ "java/lang/invoke/VarHandle") (hlen : ∀ sig, parseMethodDescriptor mj.1.desc = some sig → as.length = sig.parameters.length) (hfr : mj.2.2.2.2.1 + 1 ≤ mi.2.2.2.2.1)
    (hst : as.reverse ++ .ref a :: rest = st) (hls : ls.length = mi.2.2.1) (hlo : (rest.map fun v => v.category).sum + (mj.2.2.1 + 11) + mj.2.2.2.2.2 ≤ mi.2.2.2.2.2)
    (M : Meets K l Z n0 mj (.ref a :: as) H none H1) (kk : Runs K l Z n0 mi np ls rest H1 v H') : Runs K l Z n0 mi pc ls st H v H' := by
  obtain ⟨hd, rfl⟩ := hd
  subst hst
  have m1 := M.1
  have m2 := M.2.1
  refine Runs.heap m1 m2 (fun p e R s m args below meth c T locs cells slots X hx hZ hc hml hown hnm hrel hfr' hf' hlo' hsz hcl hsl => ?_) kk
  have w4' := w4
  rw [hr] at w4'
  obtain ⟨_, _, ⟨T1, L1, k1, n1⟩, -, X1, ⟨Lc, hQ, l1, y1, z1⟩, st1⟩ := X.specialBack hx (y := mj.1) hy1 hown (mvT hZ w1) (mvT hZ w2) (mvT hZ w4') hy
    (backM (W := (rest.map fun v => v.category).sum) M hrel hZ w4 w3 (by omega) (by omega))
    (g := mkF m pc (ls.map (shS n0)).toArray ((as.reverse ++ .ref a :: rest).map (shV n0))) rfl (by rw [hml, ← hls]; simp) (Steps.refl _) (a := n0 + a) (argsL := as.map (shV n0)) (rest := rest.map (shV n0)) (fun sig q => by rw [List.length_map]; exact hlen sig q) (by simp [shV]) (by rw [cats_sh]; show 2 * 0 + _ ≤ _; omega) (hb hc hd)
    (fun _ _ => ⟨rfl, rfl, (by show cells + (H1.length - H.length) ≤ _; omega), (by show slots + (szs K H1 - szs K H) ≤ _; omega)⟩)
  dsimp only [Pt.U, Pt.locs, Pt.cells, Pt.slots] at X1 l1 y1 z1 st1 hQ
  subst l1 y1 z1
  obtain ⟨rfl, R1, F1⟩ := hQ
  exact ⟨T1, _, _, _, X1, R1, Fr.app hfr' F1, by show s.heap.size + (cells + (H1.length - H.length)) = _; omega, by show slots + (szs K H1 - szs K H) + _ ≤ _; omega, fun t q => st1.trans q⟩
theorem r_virtual {mj : MI} {as : List Value} {w : Option Value} {a cid idx : Nat} {ci : CI} {vs : List Value} (hd : decode mi.2.1 pc = .ok (.invokevirtual idx, 3) ∧ pc + 3 = np) (w1 : (Jvm.Cond.methodLink mi.1.cls idx mj.1).before a0 Z = true) (w2 : (Jvm.Cond.declares mj.1).before a0 Z = true) (w5 : (Jvm.Cond.selects ci.1 mj.1 mj.1).before a0 Z = true) (w6 : (Jvm.Cond.instanceMethod mj.1).before a0 Z = true) (w3 : (Jvm.Cond.initialized mj.1.cls).before a0 Z = true) (w4 : (Jvm.Cond.code mj.1 mj.2.1 mj.2.2.1 mj.2.2.2.1).before a0 Z = true)
    (hy : mj.1.cls ≠ "java/lang/invoke/MethodHandle" ∧ mj.1.cls ≠ "java/lang/invoke/VarHandle") (hlen : ∀ sig, parseMethodDescriptor mj.1.desc = some sig → as.length = sig.parameters.length) (hfr : mj.2.2.2.2.1 + 1 ≤ mi.2.2.2.2.1) (hci : K[cid]? = some ci)
    (hst : as.reverse ++ .ref a :: rest = st) (ho : H[a]? = some (.inl (cid, vs))) (hls : ls.length = mi.2.2.1) (hlo : (rest.map fun v => v.category).sum + (mj.2.2.1 + 11) + mj.2.2.2.2.2 ≤ mi.2.2.2.2.2)
    (M : Meets K l Z n0 mj (.ref a :: as) H w H1) (kk : Runs K l Z n0 mi np ls (w.toList ++ rest) H1 v H') : Runs K l Z n0 mi pc ls st H v H' := by
  obtain ⟨hd, rfl⟩ := hd
  subst hst
  have m1 := M.1
  have m2 := M.2.1
  refine Runs.heap m1 m2 (fun p e R s m args below meth c T locs cells slots X hx hZ hc hml hown hnm hrel hfr' hf' hlo' hsz hcl hsl => ?_) kk
  obtain ⟨ci', q1, E, F⟩ := hrel.2 a _ ho
  cases hci.symm.trans q1
  obtain ⟨cq, kq, qa, qb, qc⟩ := isOf hZ rfl E
  obtain ⟨_, _, ⟨T1, L1, k1, n1⟩, -, X1, ⟨Lc, hQ, l1, y1, z1⟩, st1⟩ := X.virtualBack hx (y := mj.1) (z := mj.1) hown (mvT hZ w1) (mvT hZ w2) (notFace_of_selects (args := #[]) (mvT hZ w5)) (mvT hZ w5) (mvT hZ w6) hy
    (backM (W := (rest.map fun v => v.category).sum) M hrel hZ w4 w3 (by omega) (by omega)) qa qc
    (g := mkF m pc (ls.map (shS n0)).toArray ((as.reverse ++ .ref a :: rest).map (shV n0))) rfl (by rw [hml, ← hls]; simp) (Steps.refl _) (argsL := as.map (shV n0)) (rest := rest.map (shV n0)) (fun sig q => by rw [List.length_map]; exact hlen sig q) (by simp [shV]) (by rw [cats_sh]; show 2 * 0 + _ ≤ _; omega) (hb hc hd)
    (fun _ _ => ⟨rfl, rfl, (by show cells + (H1.length - H.length) ≤ _; omega), (by show slots + (szs K H1 - szs K H) ≤ _; omega)⟩)
  dsimp only [Pt.U, Pt.locs, Pt.cells, Pt.slots] at X1 l1 y1 z1 st1 hQ
  subst l1 y1 z1
  obtain ⟨rfl, R1, F1⟩ := hQ
  refine ⟨T1, _, _, _, X1, R1, Fr.app hfr' F1, by show s.heap.size + (cells + (H1.length - H.length)) = _; omega, by show slots + (szs K H1 - szs K H) + _ ≤ _; omega, fun t q => st1.trans ?_⟩
  rw [map_toList] at q; exact q
theorem r_private {mj : MI} {as : List Value} {w : Option Value} {a cid idx : Nat} {ci : CI} {vs : List Value} (hd : decode mi.2.1 pc = .ok (.invokevirtual idx, 3) ∧ pc + 3 = np) (w1 : (Jvm.Cond.methodLink mi.1.cls idx mj.1).before a0 Z = true) (w5 : (Jvm.Cond.selects mj.1.cls mj.1 mj.1).before a0 Z = true) (w7 : (Jvm.Cond.privateMethod mj.1).before a0 Z = true) (w6 : (Jvm.Cond.instanceMethod mj.1).before a0 Z = true) (w3 : (Jvm.Cond.initialized mj.1.cls).before a0 Z = true) (w4 : (Jvm.Cond.code mj.1 mj.2.1 mj.2.2.1 mj.2.2.2.1).before a0 Z = true)
    (hy : mj.1.cls ≠ "java/lang/invoke/MethodHandle" ∧ mj.1.cls ≠ "java/lang/invoke/VarHandle") (hlen : ∀ sig, parseMethodDescriptor mj.1.desc = some sig → as.length = sig.parameters.length) (hfr : mj.2.2.2.2.1 + 1 ≤ mi.2.2.2.2.1) (hci : K[cid]? = some ci)
    (hst : as.reverse ++ .ref a :: rest = st) (ho : H[a]? = some (.inl (cid, vs))) (hls : ls.length = mi.2.2.1) (hlo : (rest.map fun v => v.category).sum + (mj.2.2.1 + 11) + mj.2.2.2.2.2 ≤ mi.2.2.2.2.2)
    (M : Meets K l Z n0 mj (.ref a :: as) H w H1) (kk : Runs K l Z n0 mi np ls (w.toList ++ rest) H1 v H') : Runs K l Z n0 mi pc ls st H v H' := by
  obtain ⟨hd, rfl⟩ := hd
  subst hst
  have m1 := M.1
  have m2 := M.2.1
  refine Runs.heap m1 m2 (fun p e R s m args below meth c T locs cells slots X hx hZ hc hml hown hnm hrel hfr' hf' hlo' hsz hcl hsl => ?_) kk
  obtain ⟨ci', q1, E, F⟩ := hrel.2 a _ ho
  cases hci.symm.trans q1
  obtain ⟨cq, qa, qc⟩ := E.cell
  obtain ⟨_, _, ⟨T1, L1, k1, n1⟩, -, X1, ⟨Lc, hQ, l1, y1, z1⟩, st1⟩ := X.privateBack hx (y := mj.1) hown (mvT hZ w1) (mvT hZ w6) (mvT hZ w5) (Cond.privateMethod_at (mvP hZ w7 (args := #[]))) (mvT hZ w4) hy
    (backM (W := (rest.map fun v => v.category).sum) M hrel hZ w4 w3 (by omega) (by omega))
    (g := mkF m pc (ls.map (shS n0)).toArray ((as.reverse ++ .ref a :: rest).map (shV n0))) rfl (by rw [hml, ← hls]; simp) (Steps.refl _) (a := n0 + a) qa qc (argsL := as.map (shV n0)) (rest := rest.map (shV n0)) (fun sig q => by rw [List.length_map]; exact hlen sig q) (by simp [shV]) (by rw [cats_sh]; show 2 * 0 + _ ≤ _; omega) (hb hc hd)
    (fun _ _ => ⟨rfl, rfl, (by show cells + (H1.length - H.length) ≤ _; omega), (by show slots + (szs K H1 - szs K H) ≤ _; omega)⟩)
  dsimp only [Pt.U, Pt.locs, Pt.cells, Pt.slots] at X1 l1 y1 z1 st1 hQ
  subst l1 y1 z1
  obtain ⟨rfl, R1, F1⟩ := hQ
  refine ⟨T1, _, _, _, X1, R1, Fr.app hfr' F1, by show s.heap.size + (cells + (H1.length - H.length)) = _; omega, by show slots + (szs K H1 - szs K H) + _ ≤ _; omega, fun t q => st1.trans ?_⟩
  rw [map_toList] at q; exact q
end Logic
/-! ### arrays by a function of the place; small naturals as ints -/
def arrF (m : Nat) (f : Nat → Int32) : List Value := (List.range m).map (fun j => Value.int (f j))
def arrJ (m : Nat) (f : Nat → Int64) : List Value := (List.range m).map (fun j => Value.long (f j))
theorem arrF_len {m : Nat} {f : Nat → Int32} : (arrF m f).length = m := by simp [arrF]
theorem arrJ_len {m : Nat} {f : Nat → Int64} : (arrJ m f).length = m := by simp [arrJ]
theorem arrF_at {m i : Nat} {f : Nat → Int32} (h : i < m) : (arrF m f)[i]? = some (.int (f i)) := by simp [arrF, h]
theorem arrJ_at {m i : Nat} {f : Nat → Int64} (h : i < m) : (arrJ m f)[i]? = some (.long (f i)) := by simp [arrJ, h]
theorem arrF_set {m i : Nat} {f : Nat → Int32} {x : Int32} : (arrF m f).set i (.int x) = arrF m (fun j => if j = i then x else f j) := by
  apply List.ext_getElem?
  intro j
  by_cases hj : j < m
  · rw [arrF_at hj]
    by_cases e : i = j
    · subst e; rw [List.getElem?_set_self (by rw [arrF_len]; exact hj), if_pos rfl]
    · rw [List.getElem?_set_ne e, arrF_at hj, if_neg (fun q => e q.symm)]
  · rw [List.getElem?_eq_none (by rw [List.length_set, arrF_len]; omega), List.getElem?_eq_none (by rw [arrF_len]; omega)]
theorem arrJ_set {m i : Nat} {f : Nat → Int64} {x : Int64} : (arrJ m f).set i (.long x) = arrJ m (fun j => if j = i then x else f j) := by
  apply List.ext_getElem?
  intro j
  by_cases hj : j < m
  · rw [arrJ_at hj]
    by_cases e : i = j
    · subst e; rw [List.getElem?_set_self (by rw [arrJ_len]; exact hj), if_pos rfl]
    · rw [List.getElem?_set_ne e, arrJ_at hj, if_neg (fun q => e q.symm)]
  · rw [List.getElem?_eq_none (by rw [List.length_set, arrJ_len]; omega), List.getElem?_eq_none (by rw [arrJ_len]; omega)]
theorem arrF_congr {m : Nat} {f g : Nat → Int32} (h : ∀ j, j < m → f j = g j) : arrF m f = arrF m g := List.map_congr_left fun j hj => by rw [h j (List.mem_range.mp hj)]
theorem arrJ_congr {m : Nat} {f g : Nat → Int64} (h : ∀ j, j < m → f j = g j) : arrJ m f = arrJ m g := List.map_congr_left fun j hj => by rw [h j (List.mem_range.mp hj)]
theorem arrF_zero {m : Nat} : List.replicate m (Value.int 0) = arrF m (fun _ => 0) := by
  apply List.ext_getElem?
  intro j
  by_cases hj : j < m
  · rw [arrF_at hj, List.getElem?_replicate, if_pos hj]
  · rw [List.getElem?_eq_none (by simp; omega), List.getElem?_eq_none (by rw [arrF_len]; omega)]
theorem arrJ_zero {m : Nat} : List.replicate m (Value.long 0) = arrJ m (fun _ => 0) := by
  apply List.ext_getElem?
  intro j
  by_cases hj : j < m
  · rw [arrJ_at hj, List.getElem?_replicate, if_pos hj]
  · rw [List.getElem?_eq_none (by simp; omega), List.getElem?_eq_none (by rw [arrJ_len]; omega)]
theorem ti_int {n : Nat} (h : n < 2 ^ 31) : n.toInt32.toInt = n := len_toInt h
theorem ti_ix {n : Nat} (h : n < 2 ^ 31) : Ix n.toInt32 n := by
  have q := ti_int h
  have e0 : (0 : Int32).toInt = 0 := by decide
  refine ⟨?_, ?_⟩
  · rw [Int32.lt_iff_toInt_lt]; omega
  · simp only [Int32.toNatClampNeg]; omega
theorem ti_lt {a b : Nat} (ha : a < 2 ^ 31) (hb : b < 2 ^ 31) : a.toInt32 < b.toInt32 ↔ a < b := by
  rw [Int32.lt_iff_toInt_lt, ti_int ha, ti_int hb]; omega
theorem ti_eq {a b : Nat} (ha : a < 2 ^ 31) (hb : b < 2 ^ 31) : a.toInt32 = b.toInt32 ↔ a = b := by
  rw [← Int32.toInt_inj, ti_int ha, ti_int hb]; omega
theorem ti_add {a b : Nat} (h : a + b < 2 ^ 31) : a.toInt32 + b.toInt32 = (a + b).toInt32 := by
  apply Int32.toInt_inj.mp
  have q := c_iadd a.toInt32 b.toInt32
  have l1 := Int32.le_toInt (a.toInt32 + b.toInt32)
  have l2 := Int32.toInt_lt (a.toInt32 + b.toInt32)
  have e1 := ti_int (show a < 2 ^ 31 by omega)
  have e2 := ti_int (show b < 2 ^ 31 by omega)
  have e3 := ti_int h
  omega
theorem ti_succ {a : Nat} (h : a + 1 < 2 ^ 31) : a.toInt32 + 1 = (a + 1).toInt32 := ti_add (b := 1) h
theorem ti_of {x : Int32} (h : 0 ≤ x.toInt) : x = x.toNatClampNeg.toInt32 := by
  have b := Int32.toInt_lt x
  apply Int32.toInt_inj.mp
  rw [ti_int (by simp only [Int32.toNatClampNeg]; omega)]
  simp only [Int32.toNatClampNeg]; omega
theorem ix_of {x : Int32} (h : 0 ≤ x.toInt) : Ix x x.toNatClampNeg := by
  refine ⟨?_, rfl⟩
  have e0 : (0 : Int32).toInt = 0 := by decide
  rw [Int32.lt_iff_toInt_lt]; omega
abbrev HW (Z : State) (a0 : Array Value) : Prop := ∀ d ∈ tables_1, d.before a0 Z = true
def K : List CI := []
theorem allL0 {α : Type} {P : α → Prop} : ∀ x ∈ ([] : List α), P x := fun _ q => nomatch q
theorem allLS {α : Type} {P : α → Prop} {y : α} {L : List α} (q : P y) (r : ∀ x ∈ L, P x) : ∀ x ∈ y :: L, P x := fun x z => (List.mem_cons.mp z).elim (fun u => u ▸ q) (r x)
theorem kok {Z : State} {a0 : Array Value} (hw : HW Z a0) : KOk K Z a0 := by
  intro k ci h
  simp [K] at h
def m0 : MI := (x, code, 14, some .boolean, 2, 38)
def m1 : MI := (⟨"com/example/acquaint/acquaint/GroupsStartsPinLaw", "build", "(IIIII)[I"⟩, method_3_code, 5, some (.array .int), 0, 0)
def m2 : MI := (⟨"com/example/acquaint/acquaint/Groups", "starts", "([II)[I"⟩, prog_33_method_2_code, 7, some (.array .int), 0, 0)
def m3 : MI := (⟨"com/example/acquaint/acquaint/GroupsStartsPinLaw", "at", "([IIIIIIII)Z"⟩, method_5_code, 8, some .boolean, 1, 19)
def m4 : MI := (⟨"com/example/acquaint/acquaint/GroupsStartsPinLaw", "below", "(IIIIII)I"⟩, method_4_code, 7, some .int, 0, 0)
theorem pd0 : parseMethodDescriptor "(IIIIII)Z" = some ⟨[.int, .int, .int, .int, .int, .int], some .boolean⟩ := by decide +kernel
theorem pf0 : plainFor m0.1 = true := by first | exact plainFor_of_name (by first | (simp [m0, x, plainName, overriddenIn]; done) | decide +kernel) | decide +kernel
theorem pd1 : parseMethodDescriptor "(IIIII)[I" = some ⟨[.int, .int, .int, .int, .int], some (.array .int)⟩ := by decide +kernel
theorem pf1 : plainFor m1.1 = true := by first | exact plainFor_of_name (by first | (simp [m1, x, plainName, overriddenIn]; done) | decide +kernel) | decide +kernel
theorem pd2 : parseMethodDescriptor "([II)[I" = some ⟨[(.array .int), .int], some (.array .int)⟩ := by decide +kernel
theorem pf2 : plainFor m2.1 = true := by first | exact plainFor_of_name (by first | (simp [m2, x, plainName, overriddenIn]; done) | decide +kernel) | decide +kernel
theorem pd3 : parseMethodDescriptor "([IIIIIIII)Z" = some ⟨[(.array .int), .int, .int, .int, .int, .int, .int, .int], some .boolean⟩ := by decide +kernel
theorem pf3 : plainFor m3.1 = true := by first | exact plainFor_of_name (by first | (simp [m3, x, plainName, overriddenIn]; done) | decide +kernel) | decide +kernel
theorem pd4 : parseMethodDescriptor "(IIIIII)I" = some ⟨[.int, .int, .int, .int, .int, .int], some .int⟩ := by decide +kernel
theorem pf4 : plainFor m4.1 = true := by first | exact plainFor_of_name (by first | (simp [m4, x, plainName, overriddenIn]; done) | decide +kernel) | decide +kernel
theorem i0_0 : decode m0.2.1 0 = .ok (.iload_n 0, 1) ∧ 0 + 1 = 1 := ⟨by decide +kernel, rfl⟩
theorem i0_1 : decode m0.2.1 1 = .ok (.ldc 7, 2) ∧ 1 + 2 = 3 := ⟨by decide +kernel, rfl⟩
theorem i0_3 : decode m0.2.1 3 = .ok (.iand, 1) ∧ 3 + 1 = 4 := ⟨by decide +kernel, rfl⟩
theorem i0_4 : decode m0.2.1 4 = .ok (.iconst 5, 1) ∧ 4 + 1 = 5 ∧ Int32.ofInt 5 = 5 := ⟨by decide +kernel, rfl, by decide⟩
theorem i0_5 : decode m0.2.1 5 = .ok (.irem, 1) ∧ 5 + 1 = 6 := ⟨by decide +kernel, rfl⟩
theorem i0_6 : decode m0.2.1 6 = .ok (.istore 6, 2) ∧ 6 + 2 = 8 := ⟨by decide +kernel, rfl⟩
theorem i0_8 : decode m0.2.1 8 = .ok (.iload 6, 2) ∧ 8 + 2 = 10 := ⟨by decide +kernel, rfl⟩
theorem i0_10 : decode m0.2.1 10 = .ok (.ifCond .ne 7, 3) ∧ 10 + 3 = 13 ∧ 0 ≤ ((10 : Nat) : Int) + 7 ∧ (((10 : Nat) : Int) + 7).toNat = 17 := ⟨by decide +kernel, rfl, by decide, by decide⟩
theorem i0_13 : decode m0.2.1 13 = .ok (.iconst 0, 1) ∧ 13 + 1 = 14 ∧ Int32.ofInt 0 = 0 := ⟨by decide +kernel, rfl, by decide⟩
theorem i0_14 : decode m0.2.1 14 = .ok (.goto 9, 3) ∧ 14 + 3 = 17 ∧ 0 ≤ ((14 : Nat) : Int) + 9 ∧ (((14 : Nat) : Int) + 9).toNat = 23 := ⟨by decide +kernel, rfl, by decide, by decide⟩
theorem i0_17 : decode m0.2.1 17 = .ok (.iload_n 1, 1) ∧ 17 + 1 = 18 := ⟨by decide +kernel, rfl⟩
theorem i0_18 : decode m0.2.1 18 = .ok (.ldc 7, 2) ∧ 18 + 2 = 20 := ⟨by decide +kernel, rfl⟩
theorem i0_20 : decode m0.2.1 20 = .ok (.iand, 1) ∧ 20 + 1 = 21 := ⟨by decide +kernel, rfl⟩
theorem i0_21 : decode m0.2.1 21 = .ok (.iconst 5, 1) ∧ 21 + 1 = 22 ∧ Int32.ofInt 5 = 5 := ⟨by decide +kernel, rfl, by decide⟩
theorem i0_22 : decode m0.2.1 22 = .ok (.irem, 1) ∧ 22 + 1 = 23 := ⟨by decide +kernel, rfl⟩
theorem i0_23 : decode m0.2.1 23 = .ok (.istore 7, 2) ∧ 23 + 2 = 25 := ⟨by decide +kernel, rfl⟩
theorem i0_25 : decode m0.2.1 25 = .ok (.iload 6, 2) ∧ 25 + 2 = 27 := ⟨by decide +kernel, rfl⟩
theorem i0_27 : decode m0.2.1 27 = .ok (.ifCond .ne 7, 3) ∧ 27 + 3 = 30 ∧ 0 ≤ ((27 : Nat) : Int) + 7 ∧ (((27 : Nat) : Int) + 7).toNat = 34 := ⟨by decide +kernel, rfl, by decide, by decide⟩
theorem i0_30 : decode m0.2.1 30 = .ok (.iconst 0, 1) ∧ 30 + 1 = 31 ∧ Int32.ofInt 0 = 0 := ⟨by decide +kernel, rfl, by decide⟩
theorem i0_31 : decode m0.2.1 31 = .ok (.goto 10, 3) ∧ 31 + 3 = 34 ∧ 0 ≤ ((31 : Nat) : Int) + 10 ∧ (((31 : Nat) : Int) + 10).toNat = 41 := ⟨by decide +kernel, rfl, by decide, by decide⟩
theorem i0_34 : decode m0.2.1 34 = .ok (.iload_n 2, 1) ∧ 34 + 1 = 35 := ⟨by decide +kernel, rfl⟩
theorem i0_35 : decode m0.2.1 35 = .ok (.ldc 7, 2) ∧ 35 + 2 = 37 := ⟨by decide +kernel, rfl⟩
theorem i0_37 : decode m0.2.1 37 = .ok (.iand, 1) ∧ 37 + 1 = 38 := ⟨by decide +kernel, rfl⟩
theorem i0_38 : decode m0.2.1 38 = .ok (.iload 6, 2) ∧ 38 + 2 = 40 := ⟨by decide +kernel, rfl⟩
theorem i0_40 : decode m0.2.1 40 = .ok (.irem, 1) ∧ 40 + 1 = 41 := ⟨by decide +kernel, rfl⟩
theorem i0_41 : decode m0.2.1 41 = .ok (.istore 8, 2) ∧ 41 + 2 = 43 := ⟨by decide +kernel, rfl⟩
theorem i0_43 : decode m0.2.1 43 = .ok (.iload 6, 2) ∧ 43 + 2 = 45 := ⟨by decide +kernel, rfl⟩
theorem i0_45 : decode m0.2.1 45 = .ok (.ifCond .ne 7, 3) ∧ 45 + 3 = 48 ∧ 0 ≤ ((45 : Nat) : Int) + 7 ∧ (((45 : Nat) : Int) + 7).toNat = 52 := ⟨by decide +kernel, rfl, by decide, by decide⟩
theorem i0_48 : decode m0.2.1 48 = .ok (.iconst 0, 1) ∧ 48 + 1 = 49 ∧ Int32.ofInt 0 = 0 := ⟨by decide +kernel, rfl, by decide⟩
theorem i0_49 : decode m0.2.1 49 = .ok (.goto 10, 3) ∧ 49 + 3 = 52 ∧ 0 ≤ ((49 : Nat) : Int) + 10 ∧ (((49 : Nat) : Int) + 10).toNat = 59 := ⟨by decide +kernel, rfl, by decide, by decide⟩
theorem i0_52 : decode m0.2.1 52 = .ok (.iload_n 3, 1) ∧ 52 + 1 = 53 := ⟨by decide +kernel, rfl⟩
theorem i0_53 : decode m0.2.1 53 = .ok (.ldc 7, 2) ∧ 53 + 2 = 55 := ⟨by decide +kernel, rfl⟩
theorem i0_55 : decode m0.2.1 55 = .ok (.iand, 1) ∧ 55 + 1 = 56 := ⟨by decide +kernel, rfl⟩
theorem i0_56 : decode m0.2.1 56 = .ok (.iload 6, 2) ∧ 56 + 2 = 58 := ⟨by decide +kernel, rfl⟩
theorem i0_58 : decode m0.2.1 58 = .ok (.irem, 1) ∧ 58 + 1 = 59 := ⟨by decide +kernel, rfl⟩
theorem i0_59 : decode m0.2.1 59 = .ok (.istore 9, 2) ∧ 59 + 2 = 61 := ⟨by decide +kernel, rfl⟩
theorem i0_61 : decode m0.2.1 61 = .ok (.iload 6, 2) ∧ 61 + 2 = 63 := ⟨by decide +kernel, rfl⟩
theorem i0_63 : decode m0.2.1 63 = .ok (.ifCond .ne 7, 3) ∧ 63 + 3 = 66 ∧ 0 ≤ ((63 : Nat) : Int) + 7 ∧ (((63 : Nat) : Int) + 7).toNat = 70 := ⟨by decide +kernel, rfl, by decide, by decide⟩
theorem i0_66 : decode m0.2.1 66 = .ok (.iconst 0, 1) ∧ 66 + 1 = 67 ∧ Int32.ofInt 0 = 0 := ⟨by decide +kernel, rfl, by decide⟩
theorem i0_67 : decode m0.2.1 67 = .ok (.goto 11, 3) ∧ 67 + 3 = 70 ∧ 0 ≤ ((67 : Nat) : Int) + 11 ∧ (((67 : Nat) : Int) + 11).toNat = 78 := ⟨by decide +kernel, rfl, by decide, by decide⟩
theorem i0_70 : decode m0.2.1 70 = .ok (.iload 4, 2) ∧ 70 + 2 = 72 := ⟨by decide +kernel, rfl⟩
theorem i0_72 : decode m0.2.1 72 = .ok (.ldc 7, 2) ∧ 72 + 2 = 74 := ⟨by decide +kernel, rfl⟩
theorem i0_74 : decode m0.2.1 74 = .ok (.iand, 1) ∧ 74 + 1 = 75 := ⟨by decide +kernel, rfl⟩
theorem i0_75 : decode m0.2.1 75 = .ok (.iload 6, 2) ∧ 75 + 2 = 77 := ⟨by decide +kernel, rfl⟩
theorem i0_77 : decode m0.2.1 77 = .ok (.irem, 1) ∧ 77 + 1 = 78 := ⟨by decide +kernel, rfl⟩
theorem i0_78 : decode m0.2.1 78 = .ok (.istore 10, 2) ∧ 78 + 2 = 80 := ⟨by decide +kernel, rfl⟩
theorem i0_80 : decode m0.2.1 80 = .ok (.iload 6, 2) ∧ 80 + 2 = 82 := ⟨by decide +kernel, rfl⟩
theorem i0_82 : decode m0.2.1 82 = .ok (.ifCond .ne 7, 3) ∧ 82 + 3 = 85 ∧ 0 ≤ ((82 : Nat) : Int) + 7 ∧ (((82 : Nat) : Int) + 7).toNat = 89 := ⟨by decide +kernel, rfl, by decide, by decide⟩
theorem i0_85 : decode m0.2.1 85 = .ok (.iconst 0, 1) ∧ 85 + 1 = 86 ∧ Int32.ofInt 0 = 0 := ⟨by decide +kernel, rfl, by decide⟩
theorem i0_86 : decode m0.2.1 86 = .ok (.goto 11, 3) ∧ 86 + 3 = 89 ∧ 0 ≤ ((86 : Nat) : Int) + 11 ∧ (((86 : Nat) : Int) + 11).toNat = 97 := ⟨by decide +kernel, rfl, by decide, by decide⟩
theorem i0_89 : decode m0.2.1 89 = .ok (.iload 5, 2) ∧ 89 + 2 = 91 := ⟨by decide +kernel, rfl⟩
theorem i0_91 : decode m0.2.1 91 = .ok (.ldc 7, 2) ∧ 91 + 2 = 93 := ⟨by decide +kernel, rfl⟩
theorem i0_93 : decode m0.2.1 93 = .ok (.iand, 1) ∧ 93 + 1 = 94 := ⟨by decide +kernel, rfl⟩
theorem i0_94 : decode m0.2.1 94 = .ok (.iload 6, 2) ∧ 94 + 2 = 96 := ⟨by decide +kernel, rfl⟩
theorem i0_96 : decode m0.2.1 96 = .ok (.irem, 1) ∧ 96 + 1 = 97 := ⟨by decide +kernel, rfl⟩
theorem i0_97 : decode m0.2.1 97 = .ok (.istore 11, 2) ∧ 97 + 2 = 99 := ⟨by decide +kernel, rfl⟩
theorem i0_99 : decode m0.2.1 99 = .ok (.iload 7, 2) ∧ 99 + 2 = 101 := ⟨by decide +kernel, rfl⟩
theorem i0_101 : decode m0.2.1 101 = .ok (.iload 8, 2) ∧ 101 + 2 = 103 := ⟨by decide +kernel, rfl⟩
theorem i0_103 : decode m0.2.1 103 = .ok (.iload 9, 2) ∧ 103 + 2 = 105 := ⟨by decide +kernel, rfl⟩
theorem i0_105 : decode m0.2.1 105 = .ok (.iload 10, 2) ∧ 105 + 2 = 107 := ⟨by decide +kernel, rfl⟩
theorem i0_107 : decode m0.2.1 107 = .ok (.iload 11, 2) ∧ 107 + 2 = 109 := ⟨by decide +kernel, rfl⟩
theorem i0_109 : decode m0.2.1 109 = .ok (.invokestatic 8, 3) ∧ 109 + 3 = 112 := ⟨by decide +kernel, rfl⟩
theorem i0_112 : decode m0.2.1 112 = .ok (.astore 12, 2) ∧ 112 + 2 = 114 := ⟨by decide +kernel, rfl⟩
theorem i0_114 : decode m0.2.1 114 = .ok (.aload 12, 2) ∧ 114 + 2 = 116 := ⟨by decide +kernel, rfl⟩
theorem i0_116 : decode m0.2.1 116 = .ok (.iload 6, 2) ∧ 116 + 2 = 118 := ⟨by decide +kernel, rfl⟩
theorem i0_118 : decode m0.2.1 118 = .ok (.invokestatic 14, 3) ∧ 118 + 3 = 121 := ⟨by decide +kernel, rfl⟩
theorem i0_121 : decode m0.2.1 121 = .ok (.astore 13, 2) ∧ 121 + 2 = 123 := ⟨by decide +kernel, rfl⟩
theorem i0_123 : decode m0.2.1 123 = .ok (.aload 13, 2) ∧ 123 + 2 = 125 := ⟨by decide +kernel, rfl⟩
theorem i0_125 : decode m0.2.1 125 = .ok (.arraylength, 1) ∧ 125 + 1 = 126 := ⟨by decide +kernel, rfl⟩
theorem i0_126 : decode m0.2.1 126 = .ok (.iload 6, 2) ∧ 126 + 2 = 128 := ⟨by decide +kernel, rfl⟩
theorem i0_128 : decode m0.2.1 128 = .ok (.iconst 1, 1) ∧ 128 + 1 = 129 ∧ Int32.ofInt 1 = 1 := ⟨by decide +kernel, rfl, by decide⟩
theorem i0_129 : decode m0.2.1 129 = .ok (.iadd, 1) ∧ 129 + 1 = 130 := ⟨by decide +kernel, rfl⟩
theorem i0_130 : decode m0.2.1 130 = .ok (.if_icmp .eq 5, 3) ∧ 130 + 3 = 133 ∧ 0 ≤ ((130 : Nat) : Int) + 5 ∧ (((130 : Nat) : Int) + 5).toNat = 135 := ⟨by decide +kernel, rfl, by decide, by decide⟩
theorem i0_133 : decode m0.2.1 133 = .ok (.iconst 0, 1) ∧ 133 + 1 = 134 ∧ Int32.ofInt 0 = 0 := ⟨by decide +kernel, rfl, by decide⟩
theorem i0_134 : decode m0.2.1 134 = .ok (.ireturn, 1) := by decide +kernel
theorem i0_135 : decode m0.2.1 135 = .ok (.aload 13, 2) ∧ 135 + 2 = 137 := ⟨by decide +kernel, rfl⟩
theorem i0_137 : decode m0.2.1 137 = .ok (.iconst 0, 1) ∧ 137 + 1 = 138 ∧ Int32.ofInt 0 = 0 := ⟨by decide +kernel, rfl, by decide⟩
theorem i0_138 : decode m0.2.1 138 = .ok (.iload 6, 2) ∧ 138 + 2 = 140 := ⟨by decide +kernel, rfl⟩
theorem i0_140 : decode m0.2.1 140 = .ok (.iload 7, 2) ∧ 140 + 2 = 142 := ⟨by decide +kernel, rfl⟩
theorem i0_142 : decode m0.2.1 142 = .ok (.iload 8, 2) ∧ 142 + 2 = 144 := ⟨by decide +kernel, rfl⟩
theorem i0_144 : decode m0.2.1 144 = .ok (.iload 9, 2) ∧ 144 + 2 = 146 := ⟨by decide +kernel, rfl⟩
theorem i0_146 : decode m0.2.1 146 = .ok (.iload 10, 2) ∧ 146 + 2 = 148 := ⟨by decide +kernel, rfl⟩
theorem i0_148 : decode m0.2.1 148 = .ok (.iload 11, 2) ∧ 148 + 2 = 150 := ⟨by decide +kernel, rfl⟩
theorem i0_150 : decode m0.2.1 150 = .ok (.invokestatic 20, 3) ∧ 150 + 3 = 153 := ⟨by decide +kernel, rfl⟩
theorem i0_153 : decode m0.2.1 153 = .ok (.ifCond .eq 91, 3) ∧ 153 + 3 = 156 ∧ 0 ≤ ((153 : Nat) : Int) + 91 ∧ (((153 : Nat) : Int) + 91).toNat = 244 := ⟨by decide +kernel, rfl, by decide, by decide⟩
theorem i0_156 : decode m0.2.1 156 = .ok (.aload 13, 2) ∧ 156 + 2 = 158 := ⟨by decide +kernel, rfl⟩
theorem i0_158 : decode m0.2.1 158 = .ok (.iconst 1, 1) ∧ 158 + 1 = 159 ∧ Int32.ofInt 1 = 1 := ⟨by decide +kernel, rfl, by decide⟩
theorem i0_159 : decode m0.2.1 159 = .ok (.iload 6, 2) ∧ 159 + 2 = 161 := ⟨by decide +kernel, rfl⟩
theorem i0_161 : decode m0.2.1 161 = .ok (.iload 7, 2) ∧ 161 + 2 = 163 := ⟨by decide +kernel, rfl⟩
theorem i0_163 : decode m0.2.1 163 = .ok (.iload 8, 2) ∧ 163 + 2 = 165 := ⟨by decide +kernel, rfl⟩
theorem i0_165 : decode m0.2.1 165 = .ok (.iload 9, 2) ∧ 165 + 2 = 167 := ⟨by decide +kernel, rfl⟩
theorem i0_167 : decode m0.2.1 167 = .ok (.iload 10, 2) ∧ 167 + 2 = 169 := ⟨by decide +kernel, rfl⟩
theorem i0_169 : decode m0.2.1 169 = .ok (.iload 11, 2) ∧ 169 + 2 = 171 := ⟨by decide +kernel, rfl⟩
theorem i0_171 : decode m0.2.1 171 = .ok (.invokestatic 20, 3) ∧ 171 + 3 = 174 := ⟨by decide +kernel, rfl⟩
theorem i0_174 : decode m0.2.1 174 = .ok (.ifCond .eq 70, 3) ∧ 174 + 3 = 177 ∧ 0 ≤ ((174 : Nat) : Int) + 70 ∧ (((174 : Nat) : Int) + 70).toNat = 244 := ⟨by decide +kernel, rfl, by decide, by decide⟩
theorem i0_177 : decode m0.2.1 177 = .ok (.aload 13, 2) ∧ 177 + 2 = 179 := ⟨by decide +kernel, rfl⟩
theorem i0_179 : decode m0.2.1 179 = .ok (.iconst 2, 1) ∧ 179 + 1 = 180 ∧ Int32.ofInt 2 = 2 := ⟨by decide +kernel, rfl, by decide⟩
theorem i0_180 : decode m0.2.1 180 = .ok (.iload 6, 2) ∧ 180 + 2 = 182 := ⟨by decide +kernel, rfl⟩
theorem i0_182 : decode m0.2.1 182 = .ok (.iload 7, 2) ∧ 182 + 2 = 184 := ⟨by decide +kernel, rfl⟩
theorem i0_184 : decode m0.2.1 184 = .ok (.iload 8, 2) ∧ 184 + 2 = 186 := ⟨by decide +kernel, rfl⟩
theorem i0_186 : decode m0.2.1 186 = .ok (.iload 9, 2) ∧ 186 + 2 = 188 := ⟨by decide +kernel, rfl⟩
theorem i0_188 : decode m0.2.1 188 = .ok (.iload 10, 2) ∧ 188 + 2 = 190 := ⟨by decide +kernel, rfl⟩
theorem i0_190 : decode m0.2.1 190 = .ok (.iload 11, 2) ∧ 190 + 2 = 192 := ⟨by decide +kernel, rfl⟩
theorem i0_192 : decode m0.2.1 192 = .ok (.invokestatic 20, 3) ∧ 192 + 3 = 195 := ⟨by decide +kernel, rfl⟩
theorem i0_195 : decode m0.2.1 195 = .ok (.ifCond .eq 49, 3) ∧ 195 + 3 = 198 ∧ 0 ≤ ((195 : Nat) : Int) + 49 ∧ (((195 : Nat) : Int) + 49).toNat = 244 := ⟨by decide +kernel, rfl, by decide, by decide⟩
theorem i0_198 : decode m0.2.1 198 = .ok (.aload 13, 2) ∧ 198 + 2 = 200 := ⟨by decide +kernel, rfl⟩
theorem i0_200 : decode m0.2.1 200 = .ok (.iconst 3, 1) ∧ 200 + 1 = 201 ∧ Int32.ofInt 3 = 3 := ⟨by decide +kernel, rfl, by decide⟩
theorem i0_201 : decode m0.2.1 201 = .ok (.iload 6, 2) ∧ 201 + 2 = 203 := ⟨by decide +kernel, rfl⟩
theorem i0_203 : decode m0.2.1 203 = .ok (.iload 7, 2) ∧ 203 + 2 = 205 := ⟨by decide +kernel, rfl⟩
theorem i0_205 : decode m0.2.1 205 = .ok (.iload 8, 2) ∧ 205 + 2 = 207 := ⟨by decide +kernel, rfl⟩
theorem i0_207 : decode m0.2.1 207 = .ok (.iload 9, 2) ∧ 207 + 2 = 209 := ⟨by decide +kernel, rfl⟩
theorem i0_209 : decode m0.2.1 209 = .ok (.iload 10, 2) ∧ 209 + 2 = 211 := ⟨by decide +kernel, rfl⟩
theorem i0_211 : decode m0.2.1 211 = .ok (.iload 11, 2) ∧ 211 + 2 = 213 := ⟨by decide +kernel, rfl⟩
theorem i0_213 : decode m0.2.1 213 = .ok (.invokestatic 20, 3) ∧ 213 + 3 = 216 := ⟨by decide +kernel, rfl⟩
theorem i0_216 : decode m0.2.1 216 = .ok (.ifCond .eq 28, 3) ∧ 216 + 3 = 219 ∧ 0 ≤ ((216 : Nat) : Int) + 28 ∧ (((216 : Nat) : Int) + 28).toNat = 244 := ⟨by decide +kernel, rfl, by decide, by decide⟩
theorem i0_219 : decode m0.2.1 219 = .ok (.aload 13, 2) ∧ 219 + 2 = 221 := ⟨by decide +kernel, rfl⟩
theorem i0_221 : decode m0.2.1 221 = .ok (.iconst 4, 1) ∧ 221 + 1 = 222 ∧ Int32.ofInt 4 = 4 := ⟨by decide +kernel, rfl, by decide⟩
theorem i0_222 : decode m0.2.1 222 = .ok (.iload 6, 2) ∧ 222 + 2 = 224 := ⟨by decide +kernel, rfl⟩
theorem i0_224 : decode m0.2.1 224 = .ok (.iload 7, 2) ∧ 224 + 2 = 226 := ⟨by decide +kernel, rfl⟩
theorem i0_226 : decode m0.2.1 226 = .ok (.iload 8, 2) ∧ 226 + 2 = 228 := ⟨by decide +kernel, rfl⟩
theorem i0_228 : decode m0.2.1 228 = .ok (.iload 9, 2) ∧ 228 + 2 = 230 := ⟨by decide +kernel, rfl⟩
theorem i0_230 : decode m0.2.1 230 = .ok (.iload 10, 2) ∧ 230 + 2 = 232 := ⟨by decide +kernel, rfl⟩
theorem i0_232 : decode m0.2.1 232 = .ok (.iload 11, 2) ∧ 232 + 2 = 234 := ⟨by decide +kernel, rfl⟩
theorem i0_234 : decode m0.2.1 234 = .ok (.invokestatic 20, 3) ∧ 234 + 3 = 237 := ⟨by decide +kernel, rfl⟩
theorem i0_237 : decode m0.2.1 237 = .ok (.ifCond .eq 7, 3) ∧ 237 + 3 = 240 ∧ 0 ≤ ((237 : Nat) : Int) + 7 ∧ (((237 : Nat) : Int) + 7).toNat = 244 := ⟨by decide +kernel, rfl, by decide, by decide⟩
theorem i0_240 : decode m0.2.1 240 = .ok (.iconst 1, 1) ∧ 240 + 1 = 241 ∧ Int32.ofInt 1 = 1 := ⟨by decide +kernel, rfl, by decide⟩
theorem i0_241 : decode m0.2.1 241 = .ok (.goto 4, 3) ∧ 241 + 3 = 244 ∧ 0 ≤ ((241 : Nat) : Int) + 4 ∧ (((241 : Nat) : Int) + 4).toNat = 245 := ⟨by decide +kernel, rfl, by decide, by decide⟩
theorem i0_244 : decode m0.2.1 244 = .ok (.iconst 0, 1) ∧ 244 + 1 = 245 ∧ Int32.ofInt 0 = 0 := ⟨by decide +kernel, rfl, by decide⟩
theorem i0_245 : decode m0.2.1 245 = .ok (.ireturn, 1) := by decide +kernel
theorem i1_0 : decode m1.2.1 0 = .ok (.iload_n 0, 1) ∧ 0 + 1 = 1 := ⟨by decide +kernel, rfl⟩
theorem i1_1 : decode m1.2.1 1 = .ok (.ifCond .ne 7, 3) ∧ 1 + 3 = 4 ∧ 0 ≤ ((1 : Nat) : Int) + 7 ∧ (((1 : Nat) : Int) + 7).toNat = 8 := ⟨by decide +kernel, rfl, by decide, by decide⟩
theorem i1_4 : decode m1.2.1 4 = .ok (.iconst 0, 1) ∧ 4 + 1 = 5 ∧ Int32.ofInt 0 = 0 := ⟨by decide +kernel, rfl, by decide⟩
theorem i1_5 : decode m1.2.1 5 = .ok (.newarray .int, 2) ∧ 5 + 2 = 7 := ⟨by decide +kernel, rfl⟩
theorem i1_7 : decode m1.2.1 7 = .ok (.areturn, 1) := by decide +kernel
theorem i1_8 : decode m1.2.1 8 = .ok (.iload_n 0, 1) ∧ 8 + 1 = 9 := ⟨by decide +kernel, rfl⟩
theorem i1_9 : decode m1.2.1 9 = .ok (.iconst 1, 1) ∧ 9 + 1 = 10 ∧ Int32.ofInt 1 = 1 := ⟨by decide +kernel, rfl, by decide⟩
theorem i1_10 : decode m1.2.1 10 = .ok (.if_icmp .ne 11, 3) ∧ 10 + 3 = 13 ∧ 0 ≤ ((10 : Nat) : Int) + 11 ∧ (((10 : Nat) : Int) + 11).toNat = 21 := ⟨by decide +kernel, rfl, by decide, by decide⟩
theorem i1_13 : decode m1.2.1 13 = .ok (.iconst 1, 1) ∧ 13 + 1 = 14 ∧ Int32.ofInt 1 = 1 := ⟨by decide +kernel, rfl, by decide⟩
theorem i1_14 : decode m1.2.1 14 = .ok (.newarray .int, 2) ∧ 14 + 2 = 16 := ⟨by decide +kernel, rfl⟩
theorem i1_16 : decode m1.2.1 16 = .ok (.dup, 1) ∧ 16 + 1 = 17 := ⟨by decide +kernel, rfl⟩
theorem i1_17 : decode m1.2.1 17 = .ok (.iconst 0, 1) ∧ 17 + 1 = 18 ∧ Int32.ofInt 0 = 0 := ⟨by decide +kernel, rfl, by decide⟩
theorem i1_18 : decode m1.2.1 18 = .ok (.iload_n 1, 1) ∧ 18 + 1 = 19 := ⟨by decide +kernel, rfl⟩
theorem i1_19 : decode m1.2.1 19 = .ok (.iastore, 1) ∧ 19 + 1 = 20 := ⟨by decide +kernel, rfl⟩
theorem i1_20 : decode m1.2.1 20 = .ok (.areturn, 1) := by decide +kernel
theorem i1_21 : decode m1.2.1 21 = .ok (.iload_n 0, 1) ∧ 21 + 1 = 22 := ⟨by decide +kernel, rfl⟩
theorem i1_22 : decode m1.2.1 22 = .ok (.iconst 2, 1) ∧ 22 + 1 = 23 ∧ Int32.ofInt 2 = 2 := ⟨by decide +kernel, rfl, by decide⟩
theorem i1_23 : decode m1.2.1 23 = .ok (.if_icmp .ne 15, 3) ∧ 23 + 3 = 26 ∧ 0 ≤ ((23 : Nat) : Int) + 15 ∧ (((23 : Nat) : Int) + 15).toNat = 38 := ⟨by decide +kernel, rfl, by decide, by decide⟩
theorem i1_26 : decode m1.2.1 26 = .ok (.iconst 2, 1) ∧ 26 + 1 = 27 ∧ Int32.ofInt 2 = 2 := ⟨by decide +kernel, rfl, by decide⟩
theorem i1_27 : decode m1.2.1 27 = .ok (.newarray .int, 2) ∧ 27 + 2 = 29 := ⟨by decide +kernel, rfl⟩
theorem i1_29 : decode m1.2.1 29 = .ok (.dup, 1) ∧ 29 + 1 = 30 := ⟨by decide +kernel, rfl⟩
theorem i1_30 : decode m1.2.1 30 = .ok (.iconst 0, 1) ∧ 30 + 1 = 31 ∧ Int32.ofInt 0 = 0 := ⟨by decide +kernel, rfl, by decide⟩
theorem i1_31 : decode m1.2.1 31 = .ok (.iload_n 1, 1) ∧ 31 + 1 = 32 := ⟨by decide +kernel, rfl⟩
theorem i1_32 : decode m1.2.1 32 = .ok (.iastore, 1) ∧ 32 + 1 = 33 := ⟨by decide +kernel, rfl⟩
theorem i1_33 : decode m1.2.1 33 = .ok (.dup, 1) ∧ 33 + 1 = 34 := ⟨by decide +kernel, rfl⟩
theorem i1_34 : decode m1.2.1 34 = .ok (.iconst 1, 1) ∧ 34 + 1 = 35 ∧ Int32.ofInt 1 = 1 := ⟨by decide +kernel, rfl, by decide⟩
theorem i1_35 : decode m1.2.1 35 = .ok (.iload_n 2, 1) ∧ 35 + 1 = 36 := ⟨by decide +kernel, rfl⟩
theorem i1_36 : decode m1.2.1 36 = .ok (.iastore, 1) ∧ 36 + 1 = 37 := ⟨by decide +kernel, rfl⟩
theorem i1_37 : decode m1.2.1 37 = .ok (.areturn, 1) := by decide +kernel
theorem i1_38 : decode m1.2.1 38 = .ok (.iload_n 0, 1) ∧ 38 + 1 = 39 := ⟨by decide +kernel, rfl⟩
theorem i1_39 : decode m1.2.1 39 = .ok (.iconst 3, 1) ∧ 39 + 1 = 40 ∧ Int32.ofInt 3 = 3 := ⟨by decide +kernel, rfl, by decide⟩
theorem i1_40 : decode m1.2.1 40 = .ok (.if_icmp .ne 19, 3) ∧ 40 + 3 = 43 ∧ 0 ≤ ((40 : Nat) : Int) + 19 ∧ (((40 : Nat) : Int) + 19).toNat = 59 := ⟨by decide +kernel, rfl, by decide, by decide⟩
theorem i1_43 : decode m1.2.1 43 = .ok (.iconst 3, 1) ∧ 43 + 1 = 44 ∧ Int32.ofInt 3 = 3 := ⟨by decide +kernel, rfl, by decide⟩
theorem i1_44 : decode m1.2.1 44 = .ok (.newarray .int, 2) ∧ 44 + 2 = 46 := ⟨by decide +kernel, rfl⟩
theorem i1_46 : decode m1.2.1 46 = .ok (.dup, 1) ∧ 46 + 1 = 47 := ⟨by decide +kernel, rfl⟩
theorem i1_47 : decode m1.2.1 47 = .ok (.iconst 0, 1) ∧ 47 + 1 = 48 ∧ Int32.ofInt 0 = 0 := ⟨by decide +kernel, rfl, by decide⟩
theorem i1_48 : decode m1.2.1 48 = .ok (.iload_n 1, 1) ∧ 48 + 1 = 49 := ⟨by decide +kernel, rfl⟩
theorem i1_49 : decode m1.2.1 49 = .ok (.iastore, 1) ∧ 49 + 1 = 50 := ⟨by decide +kernel, rfl⟩
theorem i1_50 : decode m1.2.1 50 = .ok (.dup, 1) ∧ 50 + 1 = 51 := ⟨by decide +kernel, rfl⟩
theorem i1_51 : decode m1.2.1 51 = .ok (.iconst 1, 1) ∧ 51 + 1 = 52 ∧ Int32.ofInt 1 = 1 := ⟨by decide +kernel, rfl, by decide⟩
theorem i1_52 : decode m1.2.1 52 = .ok (.iload_n 2, 1) ∧ 52 + 1 = 53 := ⟨by decide +kernel, rfl⟩
theorem i1_53 : decode m1.2.1 53 = .ok (.iastore, 1) ∧ 53 + 1 = 54 := ⟨by decide +kernel, rfl⟩
theorem i1_54 : decode m1.2.1 54 = .ok (.dup, 1) ∧ 54 + 1 = 55 := ⟨by decide +kernel, rfl⟩
theorem i1_55 : decode m1.2.1 55 = .ok (.iconst 2, 1) ∧ 55 + 1 = 56 ∧ Int32.ofInt 2 = 2 := ⟨by decide +kernel, rfl, by decide⟩
theorem i1_56 : decode m1.2.1 56 = .ok (.iload_n 3, 1) ∧ 56 + 1 = 57 := ⟨by decide +kernel, rfl⟩
theorem i1_57 : decode m1.2.1 57 = .ok (.iastore, 1) ∧ 57 + 1 = 58 := ⟨by decide +kernel, rfl⟩
theorem i1_58 : decode m1.2.1 58 = .ok (.areturn, 1) := by decide +kernel
theorem i1_59 : decode m1.2.1 59 = .ok (.iconst 4, 1) ∧ 59 + 1 = 60 ∧ Int32.ofInt 4 = 4 := ⟨by decide +kernel, rfl, by decide⟩
theorem i1_60 : decode m1.2.1 60 = .ok (.newarray .int, 2) ∧ 60 + 2 = 62 := ⟨by decide +kernel, rfl⟩
theorem i1_62 : decode m1.2.1 62 = .ok (.dup, 1) ∧ 62 + 1 = 63 := ⟨by decide +kernel, rfl⟩
theorem i1_63 : decode m1.2.1 63 = .ok (.iconst 0, 1) ∧ 63 + 1 = 64 ∧ Int32.ofInt 0 = 0 := ⟨by decide +kernel, rfl, by decide⟩
theorem i1_64 : decode m1.2.1 64 = .ok (.iload_n 1, 1) ∧ 64 + 1 = 65 := ⟨by decide +kernel, rfl⟩
theorem i1_65 : decode m1.2.1 65 = .ok (.iastore, 1) ∧ 65 + 1 = 66 := ⟨by decide +kernel, rfl⟩
theorem i1_66 : decode m1.2.1 66 = .ok (.dup, 1) ∧ 66 + 1 = 67 := ⟨by decide +kernel, rfl⟩
theorem i1_67 : decode m1.2.1 67 = .ok (.iconst 1, 1) ∧ 67 + 1 = 68 ∧ Int32.ofInt 1 = 1 := ⟨by decide +kernel, rfl, by decide⟩
theorem i1_68 : decode m1.2.1 68 = .ok (.iload_n 2, 1) ∧ 68 + 1 = 69 := ⟨by decide +kernel, rfl⟩
theorem i1_69 : decode m1.2.1 69 = .ok (.iastore, 1) ∧ 69 + 1 = 70 := ⟨by decide +kernel, rfl⟩
theorem i1_70 : decode m1.2.1 70 = .ok (.dup, 1) ∧ 70 + 1 = 71 := ⟨by decide +kernel, rfl⟩
theorem i1_71 : decode m1.2.1 71 = .ok (.iconst 2, 1) ∧ 71 + 1 = 72 ∧ Int32.ofInt 2 = 2 := ⟨by decide +kernel, rfl, by decide⟩
theorem i1_72 : decode m1.2.1 72 = .ok (.iload_n 3, 1) ∧ 72 + 1 = 73 := ⟨by decide +kernel, rfl⟩
theorem i1_73 : decode m1.2.1 73 = .ok (.iastore, 1) ∧ 73 + 1 = 74 := ⟨by decide +kernel, rfl⟩
theorem i1_74 : decode m1.2.1 74 = .ok (.dup, 1) ∧ 74 + 1 = 75 := ⟨by decide +kernel, rfl⟩
theorem i1_75 : decode m1.2.1 75 = .ok (.iconst 3, 1) ∧ 75 + 1 = 76 ∧ Int32.ofInt 3 = 3 := ⟨by decide +kernel, rfl, by decide⟩
theorem i1_76 : decode m1.2.1 76 = .ok (.iload 4, 2) ∧ 76 + 2 = 78 := ⟨by decide +kernel, rfl⟩
theorem i1_78 : decode m1.2.1 78 = .ok (.iastore, 1) ∧ 78 + 1 = 79 := ⟨by decide +kernel, rfl⟩
theorem i1_79 : decode m1.2.1 79 = .ok (.areturn, 1) := by decide +kernel
theorem i2_0 : decode m2.2.1 0 = .ok (.iload_n 1, 1) ∧ 0 + 1 = 1 := ⟨by decide +kernel, rfl⟩
theorem i2_1 : decode m2.2.1 1 = .ok (.iconst 1, 1) ∧ 1 + 1 = 2 ∧ Int32.ofInt 1 = 1 := ⟨by decide +kernel, rfl, by decide⟩
theorem i2_2 : decode m2.2.1 2 = .ok (.iadd, 1) ∧ 2 + 1 = 3 := ⟨by decide +kernel, rfl⟩
theorem i2_3 : decode m2.2.1 3 = .ok (.newarray .int, 2) ∧ 3 + 2 = 5 := ⟨by decide +kernel, rfl⟩
theorem i2_5 : decode m2.2.1 5 = .ok (.astore_n 2, 1) ∧ 5 + 1 = 6 := ⟨by decide +kernel, rfl⟩
theorem i2_6 : decode m2.2.1 6 = .ok (.aload_n 0, 1) ∧ 6 + 1 = 7 := ⟨by decide +kernel, rfl⟩
theorem i2_7 : decode m2.2.1 7 = .ok (.astore_n 3, 1) ∧ 7 + 1 = 8 := ⟨by decide +kernel, rfl⟩
theorem i2_8 : decode m2.2.1 8 = .ok (.aload_n 3, 1) ∧ 8 + 1 = 9 := ⟨by decide +kernel, rfl⟩
theorem i2_9 : decode m2.2.1 9 = .ok (.arraylength, 1) ∧ 9 + 1 = 10 := ⟨by decide +kernel, rfl⟩
theorem i2_10 : decode m2.2.1 10 = .ok (.istore 4, 2) ∧ 10 + 2 = 12 := ⟨by decide +kernel, rfl⟩
theorem i2_12 : decode m2.2.1 12 = .ok (.iconst 0, 1) ∧ 12 + 1 = 13 ∧ Int32.ofInt 0 = 0 := ⟨by decide +kernel, rfl, by decide⟩
theorem i2_13 : decode m2.2.1 13 = .ok (.istore 5, 2) ∧ 13 + 2 = 15 := ⟨by decide +kernel, rfl⟩
theorem i2_15 : decode m2.2.1 15 = .ok (.iload 5, 2) ∧ 15 + 2 = 17 := ⟨by decide +kernel, rfl⟩
theorem i2_17 : decode m2.2.1 17 = .ok (.iload 4, 2) ∧ 17 + 2 = 19 := ⟨by decide +kernel, rfl⟩
theorem i2_19 : decode m2.2.1 19 = .ok (.if_icmp .ge 25, 3) ∧ 19 + 3 = 22 ∧ 0 ≤ ((19 : Nat) : Int) + 25 ∧ (((19 : Nat) : Int) + 25).toNat = 44 := ⟨by decide +kernel, rfl, by decide, by decide⟩
theorem i2_22 : decode m2.2.1 22 = .ok (.aload_n 3, 1) ∧ 22 + 1 = 23 := ⟨by decide +kernel, rfl⟩
theorem i2_23 : decode m2.2.1 23 = .ok (.iload 5, 2) ∧ 23 + 2 = 25 := ⟨by decide +kernel, rfl⟩
theorem i2_25 : decode m2.2.1 25 = .ok (.iaload, 1) ∧ 25 + 1 = 26 := ⟨by decide +kernel, rfl⟩
theorem i2_26 : decode m2.2.1 26 = .ok (.istore 6, 2) ∧ 26 + 2 = 28 := ⟨by decide +kernel, rfl⟩
theorem i2_28 : decode m2.2.1 28 = .ok (.aload_n 2, 1) ∧ 28 + 1 = 29 := ⟨by decide +kernel, rfl⟩
theorem i2_29 : decode m2.2.1 29 = .ok (.iload 6, 2) ∧ 29 + 2 = 31 := ⟨by decide +kernel, rfl⟩
theorem i2_31 : decode m2.2.1 31 = .ok (.iconst 1, 1) ∧ 31 + 1 = 32 ∧ Int32.ofInt 1 = 1 := ⟨by decide +kernel, rfl, by decide⟩
theorem i2_32 : decode m2.2.1 32 = .ok (.iadd, 1) ∧ 32 + 1 = 33 := ⟨by decide +kernel, rfl⟩
theorem i2_33 : decode m2.2.1 33 = .ok (.dup2, 1) ∧ 33 + 1 = 34 := ⟨by decide +kernel, rfl⟩
theorem i2_34 : decode m2.2.1 34 = .ok (.iaload, 1) ∧ 34 + 1 = 35 := ⟨by decide +kernel, rfl⟩
theorem i2_35 : decode m2.2.1 35 = .ok (.iconst 1, 1) ∧ 35 + 1 = 36 ∧ Int32.ofInt 1 = 1 := ⟨by decide +kernel, rfl, by decide⟩
theorem i2_36 : decode m2.2.1 36 = .ok (.iadd, 1) ∧ 36 + 1 = 37 := ⟨by decide +kernel, rfl⟩
theorem i2_37 : decode m2.2.1 37 = .ok (.iastore, 1) ∧ 37 + 1 = 38 := ⟨by decide +kernel, rfl⟩
theorem i2_38 : decode m2.2.1 38 = .ok (.iinc 5 1, 3) ∧ 38 + 3 = 41 ∧ Int32.ofInt 1 = 1 := ⟨by decide +kernel, rfl, by decide⟩
theorem i2_41 : decode m2.2.1 41 = .ok (.goto (-26), 3) ∧ 41 + 3 = 44 ∧ 0 ≤ ((41 : Nat) : Int) + (-26) ∧ (((41 : Nat) : Int) + (-26)).toNat = 15 := ⟨by decide +kernel, rfl, by decide, by decide⟩
theorem i2_44 : decode m2.2.1 44 = .ok (.iconst 0, 1) ∧ 44 + 1 = 45 ∧ Int32.ofInt 0 = 0 := ⟨by decide +kernel, rfl, by decide⟩
theorem i2_45 : decode m2.2.1 45 = .ok (.istore_n 3, 1) ∧ 45 + 1 = 46 := ⟨by decide +kernel, rfl⟩
theorem i2_46 : decode m2.2.1 46 = .ok (.iload_n 3, 1) ∧ 46 + 1 = 47 := ⟨by decide +kernel, rfl⟩
theorem i2_47 : decode m2.2.1 47 = .ok (.iload_n 1, 1) ∧ 47 + 1 = 48 := ⟨by decide +kernel, rfl⟩
theorem i2_48 : decode m2.2.1 48 = .ok (.if_icmp .ge 20, 3) ∧ 48 + 3 = 51 ∧ 0 ≤ ((48 : Nat) : Int) + 20 ∧ (((48 : Nat) : Int) + 20).toNat = 68 := ⟨by decide +kernel, rfl, by decide, by decide⟩
theorem i2_51 : decode m2.2.1 51 = .ok (.aload_n 2, 1) ∧ 51 + 1 = 52 := ⟨by decide +kernel, rfl⟩
theorem i2_52 : decode m2.2.1 52 = .ok (.iload_n 3, 1) ∧ 52 + 1 = 53 := ⟨by decide +kernel, rfl⟩
theorem i2_53 : decode m2.2.1 53 = .ok (.iconst 1, 1) ∧ 53 + 1 = 54 ∧ Int32.ofInt 1 = 1 := ⟨by decide +kernel, rfl, by decide⟩
theorem i2_54 : decode m2.2.1 54 = .ok (.iadd, 1) ∧ 54 + 1 = 55 := ⟨by decide +kernel, rfl⟩
theorem i2_55 : decode m2.2.1 55 = .ok (.dup2, 1) ∧ 55 + 1 = 56 := ⟨by decide +kernel, rfl⟩
theorem i2_56 : decode m2.2.1 56 = .ok (.iaload, 1) ∧ 56 + 1 = 57 := ⟨by decide +kernel, rfl⟩
theorem i2_57 : decode m2.2.1 57 = .ok (.aload_n 2, 1) ∧ 57 + 1 = 58 := ⟨by decide +kernel, rfl⟩
theorem i2_58 : decode m2.2.1 58 = .ok (.iload_n 3, 1) ∧ 58 + 1 = 59 := ⟨by decide +kernel, rfl⟩
theorem i2_59 : decode m2.2.1 59 = .ok (.iaload, 1) ∧ 59 + 1 = 60 := ⟨by decide +kernel, rfl⟩
theorem i2_60 : decode m2.2.1 60 = .ok (.iadd, 1) ∧ 60 + 1 = 61 := ⟨by decide +kernel, rfl⟩
theorem i2_61 : decode m2.2.1 61 = .ok (.iastore, 1) ∧ 61 + 1 = 62 := ⟨by decide +kernel, rfl⟩
theorem i2_62 : decode m2.2.1 62 = .ok (.iinc 3 1, 3) ∧ 62 + 3 = 65 ∧ Int32.ofInt 1 = 1 := ⟨by decide +kernel, rfl, by decide⟩
theorem i2_65 : decode m2.2.1 65 = .ok (.goto (-19), 3) ∧ 65 + 3 = 68 ∧ 0 ≤ ((65 : Nat) : Int) + (-19) ∧ (((65 : Nat) : Int) + (-19)).toNat = 46 := ⟨by decide +kernel, rfl, by decide, by decide⟩
theorem i2_68 : decode m2.2.1 68 = .ok (.aload_n 2, 1) ∧ 68 + 1 = 69 := ⟨by decide +kernel, rfl⟩
theorem i2_69 : decode m2.2.1 69 = .ok (.areturn, 1) := by decide +kernel
theorem i3_0 : decode m3.2.1 0 = .ok (.iload_n 1, 1) ∧ 0 + 1 = 1 := ⟨by decide +kernel, rfl⟩
theorem i3_1 : decode m3.2.1 1 = .ok (.iload_n 2, 1) ∧ 1 + 1 = 2 := ⟨by decide +kernel, rfl⟩
theorem i3_2 : decode m3.2.1 2 = .ok (.if_icmp .gt 22, 3) ∧ 2 + 3 = 5 ∧ 0 ≤ ((2 : Nat) : Int) + 22 ∧ (((2 : Nat) : Int) + 22).toNat = 24 := ⟨by decide +kernel, rfl, by decide, by decide⟩
theorem i3_5 : decode m3.2.1 5 = .ok (.aload_n 0, 1) ∧ 5 + 1 = 6 := ⟨by decide +kernel, rfl⟩
theorem i3_6 : decode m3.2.1 6 = .ok (.iload_n 1, 1) ∧ 6 + 1 = 7 := ⟨by decide +kernel, rfl⟩
theorem i3_7 : decode m3.2.1 7 = .ok (.iaload, 1) ∧ 7 + 1 = 8 := ⟨by decide +kernel, rfl⟩
theorem i3_8 : decode m3.2.1 8 = .ok (.iload_n 1, 1) ∧ 8 + 1 = 9 := ⟨by decide +kernel, rfl⟩
theorem i3_9 : decode m3.2.1 9 = .ok (.iload_n 3, 1) ∧ 9 + 1 = 10 := ⟨by decide +kernel, rfl⟩
theorem i3_10 : decode m3.2.1 10 = .ok (.iload 4, 2) ∧ 10 + 2 = 12 := ⟨by decide +kernel, rfl⟩
theorem i3_12 : decode m3.2.1 12 = .ok (.iload 5, 2) ∧ 12 + 2 = 14 := ⟨by decide +kernel, rfl⟩
theorem i3_14 : decode m3.2.1 14 = .ok (.iload 6, 2) ∧ 14 + 2 = 16 := ⟨by decide +kernel, rfl⟩
theorem i3_16 : decode m3.2.1 16 = .ok (.iload 7, 2) ∧ 16 + 2 = 18 := ⟨by decide +kernel, rfl⟩
theorem i3_18 : decode m3.2.1 18 = .ok (.invokestatic 24, 3) ∧ 18 + 3 = 21 := ⟨by decide +kernel, rfl⟩
theorem i3_21 : decode m3.2.1 21 = .ok (.if_icmp .ne 7, 3) ∧ 21 + 3 = 24 ∧ 0 ≤ ((21 : Nat) : Int) + 7 ∧ (((21 : Nat) : Int) + 7).toNat = 28 := ⟨by decide +kernel, rfl, by decide, by decide⟩
theorem i3_24 : decode m3.2.1 24 = .ok (.iconst 1, 1) ∧ 24 + 1 = 25 ∧ Int32.ofInt 1 = 1 := ⟨by decide +kernel, rfl, by decide⟩
theorem i3_25 : decode m3.2.1 25 = .ok (.goto 4, 3) ∧ 25 + 3 = 28 ∧ 0 ≤ ((25 : Nat) : Int) + 4 ∧ (((25 : Nat) : Int) + 4).toNat = 29 := ⟨by decide +kernel, rfl, by decide, by decide⟩
theorem i3_28 : decode m3.2.1 28 = .ok (.iconst 0, 1) ∧ 28 + 1 = 29 ∧ Int32.ofInt 0 = 0 := ⟨by decide +kernel, rfl, by decide⟩
theorem i3_29 : decode m3.2.1 29 = .ok (.ireturn, 1) := by decide +kernel
theorem i4_0 : decode m4.2.1 0 = .ok (.iconst 0, 1) ∧ 0 + 1 = 1 ∧ Int32.ofInt 0 = 0 := ⟨by decide +kernel, rfl, by decide⟩
theorem i4_1 : decode m4.2.1 1 = .ok (.istore 6, 2) ∧ 1 + 2 = 3 := ⟨by decide +kernel, rfl⟩
theorem i4_3 : decode m4.2.1 3 = .ok (.iload_n 1, 1) ∧ 3 + 1 = 4 := ⟨by decide +kernel, rfl⟩
theorem i4_4 : decode m4.2.1 4 = .ok (.ifCond .le 11, 3) ∧ 4 + 3 = 7 ∧ 0 ≤ ((4 : Nat) : Int) + 11 ∧ (((4 : Nat) : Int) + 11).toNat = 15 := ⟨by decide +kernel, rfl, by decide, by decide⟩
theorem i4_7 : decode m4.2.1 7 = .ok (.iload_n 2, 1) ∧ 7 + 1 = 8 := ⟨by decide +kernel, rfl⟩
theorem i4_8 : decode m4.2.1 8 = .ok (.iload_n 0, 1) ∧ 8 + 1 = 9 := ⟨by decide +kernel, rfl⟩
theorem i4_9 : decode m4.2.1 9 = .ok (.if_icmp .ge 6, 3) ∧ 9 + 3 = 12 ∧ 0 ≤ ((9 : Nat) : Int) + 6 ∧ (((9 : Nat) : Int) + 6).toNat = 15 := ⟨by decide +kernel, rfl, by decide, by decide⟩
theorem i4_12 : decode m4.2.1 12 = .ok (.iinc 6 1, 3) ∧ 12 + 3 = 15 ∧ Int32.ofInt 1 = 1 := ⟨by decide +kernel, rfl, by decide⟩
theorem i4_15 : decode m4.2.1 15 = .ok (.iload_n 1, 1) ∧ 15 + 1 = 16 := ⟨by decide +kernel, rfl⟩
theorem i4_16 : decode m4.2.1 16 = .ok (.iconst 1, 1) ∧ 16 + 1 = 17 ∧ Int32.ofInt 1 = 1 := ⟨by decide +kernel, rfl, by decide⟩
theorem i4_17 : decode m4.2.1 17 = .ok (.if_icmp .le 11, 3) ∧ 17 + 3 = 20 ∧ 0 ≤ ((17 : Nat) : Int) + 11 ∧ (((17 : Nat) : Int) + 11).toNat = 28 := ⟨by decide +kernel, rfl, by decide, by decide⟩
theorem i4_20 : decode m4.2.1 20 = .ok (.iload_n 3, 1) ∧ 20 + 1 = 21 := ⟨by decide +kernel, rfl⟩
theorem i4_21 : decode m4.2.1 21 = .ok (.iload_n 0, 1) ∧ 21 + 1 = 22 := ⟨by decide +kernel, rfl⟩
theorem i4_22 : decode m4.2.1 22 = .ok (.if_icmp .ge 6, 3) ∧ 22 + 3 = 25 ∧ 0 ≤ ((22 : Nat) : Int) + 6 ∧ (((22 : Nat) : Int) + 6).toNat = 28 := ⟨by decide +kernel, rfl, by decide, by decide⟩
theorem i4_25 : decode m4.2.1 25 = .ok (.iinc 6 1, 3) ∧ 25 + 3 = 28 ∧ Int32.ofInt 1 = 1 := ⟨by decide +kernel, rfl, by decide⟩
theorem i4_28 : decode m4.2.1 28 = .ok (.iload_n 1, 1) ∧ 28 + 1 = 29 := ⟨by decide +kernel, rfl⟩
theorem i4_29 : decode m4.2.1 29 = .ok (.iconst 2, 1) ∧ 29 + 1 = 30 ∧ Int32.ofInt 2 = 2 := ⟨by decide +kernel, rfl, by decide⟩
theorem i4_30 : decode m4.2.1 30 = .ok (.if_icmp .le 12, 3) ∧ 30 + 3 = 33 ∧ 0 ≤ ((30 : Nat) : Int) + 12 ∧ (((30 : Nat) : Int) + 12).toNat = 42 := ⟨by decide +kernel, rfl, by decide, by decide⟩
theorem i4_33 : decode m4.2.1 33 = .ok (.iload 4, 2) ∧ 33 + 2 = 35 := ⟨by decide +kernel, rfl⟩
theorem i4_35 : decode m4.2.1 35 = .ok (.iload_n 0, 1) ∧ 35 + 1 = 36 := ⟨by decide +kernel, rfl⟩
theorem i4_36 : decode m4.2.1 36 = .ok (.if_icmp .ge 6, 3) ∧ 36 + 3 = 39 ∧ 0 ≤ ((36 : Nat) : Int) + 6 ∧ (((36 : Nat) : Int) + 6).toNat = 42 := ⟨by decide +kernel, rfl, by decide, by decide⟩
theorem i4_39 : decode m4.2.1 39 = .ok (.iinc 6 1, 3) ∧ 39 + 3 = 42 ∧ Int32.ofInt 1 = 1 := ⟨by decide +kernel, rfl, by decide⟩
theorem i4_42 : decode m4.2.1 42 = .ok (.iload_n 1, 1) ∧ 42 + 1 = 43 := ⟨by decide +kernel, rfl⟩
theorem i4_43 : decode m4.2.1 43 = .ok (.iconst 3, 1) ∧ 43 + 1 = 44 ∧ Int32.ofInt 3 = 3 := ⟨by decide +kernel, rfl, by decide⟩
theorem i4_44 : decode m4.2.1 44 = .ok (.if_icmp .le 12, 3) ∧ 44 + 3 = 47 ∧ 0 ≤ ((44 : Nat) : Int) + 12 ∧ (((44 : Nat) : Int) + 12).toNat = 56 := ⟨by decide +kernel, rfl, by decide, by decide⟩
theorem i4_47 : decode m4.2.1 47 = .ok (.iload 5, 2) ∧ 47 + 2 = 49 := ⟨by decide +kernel, rfl⟩
theorem i4_49 : decode m4.2.1 49 = .ok (.iload_n 0, 1) ∧ 49 + 1 = 50 := ⟨by decide +kernel, rfl⟩
theorem i4_50 : decode m4.2.1 50 = .ok (.if_icmp .ge 6, 3) ∧ 50 + 3 = 53 ∧ 0 ≤ ((50 : Nat) : Int) + 6 ∧ (((50 : Nat) : Int) + 6).toNat = 56 := ⟨by decide +kernel, rfl, by decide, by decide⟩
theorem i4_53 : decode m4.2.1 53 = .ok (.iinc 6 1, 3) ∧ 53 + 3 = 56 ∧ Int32.ofInt 1 = 1 := ⟨by decide +kernel, rfl, by decide⟩
theorem i4_56 : decode m4.2.1 56 = .ok (.iload 6, 2) ∧ 56 + 2 = 58 := ⟨by decide +kernel, rfl⟩
theorem i4_58 : decode m4.2.1 58 = .ok (.ireturn, 1) := by decide +kernel
theorem s0_1 {l : Launch} {Z : State} {a0 : Array Value} {n0 : Nat} {ls : List Slot} {st : List Value} {H H' : List Ob} {v : Option Value} (hw : HW Z a0) (kk : Runs K l Z n0 m0 3 ls (.int 2147483647 :: st) H v H') : Runs K l Z n0 m0 1 ls st H v H' := r_ldc i0_1 (hw _ (List.mem_of_getElem? (i := 0) rfl)) kk
theorem s0_18 {l : Launch} {Z : State} {a0 : Array Value} {n0 : Nat} {ls : List Slot} {st : List Value} {H H' : List Ob} {v : Option Value} (hw : HW Z a0) (kk : Runs K l Z n0 m0 20 ls (.int 2147483647 :: st) H v H') : Runs K l Z n0 m0 18 ls st H v H' := r_ldc i0_18 (hw _ (List.mem_of_getElem? (i := 0) rfl)) kk
theorem s0_35 {l : Launch} {Z : State} {a0 : Array Value} {n0 : Nat} {ls : List Slot} {st : List Value} {H H' : List Ob} {v : Option Value} (hw : HW Z a0) (kk : Runs K l Z n0 m0 37 ls (.int 2147483647 :: st) H v H') : Runs K l Z n0 m0 35 ls st H v H' := r_ldc i0_35 (hw _ (List.mem_of_getElem? (i := 0) rfl)) kk
theorem s0_53 {l : Launch} {Z : State} {a0 : Array Value} {n0 : Nat} {ls : List Slot} {st : List Value} {H H' : List Ob} {v : Option Value} (hw : HW Z a0) (kk : Runs K l Z n0 m0 55 ls (.int 2147483647 :: st) H v H') : Runs K l Z n0 m0 53 ls st H v H' := r_ldc i0_53 (hw _ (List.mem_of_getElem? (i := 0) rfl)) kk
theorem s0_72 {l : Launch} {Z : State} {a0 : Array Value} {n0 : Nat} {ls : List Slot} {st : List Value} {H H' : List Ob} {v : Option Value} (hw : HW Z a0) (kk : Runs K l Z n0 m0 74 ls (.int 2147483647 :: st) H v H') : Runs K l Z n0 m0 72 ls st H v H' := r_ldc i0_72 (hw _ (List.mem_of_getElem? (i := 0) rfl)) kk
theorem s0_91 {l : Launch} {Z : State} {a0 : Array Value} {n0 : Nat} {ls : List Slot} {st : List Value} {H H' : List Ob} {v : Option Value} (hw : HW Z a0) (kk : Runs K l Z n0 m0 93 ls (.int 2147483647 :: st) H v H') : Runs K l Z n0 m0 91 ls st H v H' := r_ldc i0_91 (hw _ (List.mem_of_getElem? (i := 0) rfl)) kk
theorem s0_109 {l : Launch} {Z : State} {a0 : Array Value} {n0 : Nat} {ls : List Slot} {st : List Value} {H H' H1 : List Ob} {v : Option Value} (hw : HW Z a0) {x0 x1 x2 x3 x4 : Value} {w : Value} (M : Meets K l Z n0 m1 [x0, x1, x2, x3, x4] H (some w) H1) (hls : ls.length = 14) (hlo : (st.map fun v => v.category).sum ≤ 22) (kk : Runs K l Z n0 m0 112 ls (w :: st) H1 v H') : Runs K l Z n0 m0 109 ls (x4 :: x3 :: x2 :: x1 :: x0 :: st) H v H' := r_static (mj := m1) (as := [x0, x1, x2, x3, x4]) (rest := st) i0_109 (hw _ (List.mem_of_getElem? (i := 1) rfl)) (hw _ (List.mem_of_getElem? (i := 2) rfl)) (hw _ (List.mem_of_getElem? (i := 3) rfl)) (hw _ (List.mem_of_getElem? (i := 4) rfl)) (by decide) (lenOf pd1 rfl) (by decide) rfl hls (by show _ + (5 + 11) + 0 ≤ 38; omega) M kk
theorem s0_118 {l : Launch} {Z : State} {a0 : Array Value} {n0 : Nat} {ls : List Slot} {st : List Value} {H H' H1 : List Ob} {v : Option Value} (hw : HW Z a0) {x0 x1 : Value} {w : Value} (M : Meets K l Z n0 m2 [x0, x1] H (some w) H1) (hls : ls.length = 14) (hlo : (st.map fun v => v.category).sum ≤ 20) (kk : Runs K l Z n0 m0 121 ls (w :: st) H1 v H') : Runs K l Z n0 m0 118 ls (x1 :: x0 :: st) H v H' := r_static (mj := m2) (as := [x0, x1]) (rest := st) i0_118 (hw _ (List.mem_of_getElem? (i := 6) rfl)) (hw _ (List.mem_of_getElem? (i := 7) rfl)) (hw _ (List.mem_of_getElem? (i := 8) rfl)) (hw _ (List.mem_of_getElem? (i := 9) rfl)) (by decide) (lenOf pd2 rfl) (by decide) rfl hls (by show _ + (7 + 11) + 0 ≤ 38; omega) M kk
theorem s0_150 {l : Launch} {Z : State} {a0 : Array Value} {n0 : Nat} {ls : List Slot} {st : List Value} {H H' H1 : List Ob} {v : Option Value} (hw : HW Z a0) {x0 x1 x2 x3 x4 x5 x6 x7 : Value} {w : Value} (M : Meets K l Z n0 m3 [x0, x1, x2, x3, x4, x5, x6, x7] H (some w) H1) (hls : ls.length = 14) (hlo : (st.map fun v => v.category).sum ≤ 0) (kk : Runs K l Z n0 m0 153 ls (w :: st) H1 v H') : Runs K l Z n0 m0 150 ls (x7 :: x6 :: x5 :: x4 :: x3 :: x2 :: x1 :: x0 :: st) H v H' := r_static (mj := m3) (as := [x0, x1, x2, x3, x4, x5, x6, x7]) (rest := st) i0_150 (hw _ (List.mem_of_getElem? (i := 10) rfl)) (hw _ (List.mem_of_getElem? (i := 11) rfl)) (hw _ (List.mem_of_getElem? (i := 3) rfl)) (hw _ (List.mem_of_getElem? (i := 12) rfl)) (by decide) (lenOf pd3 rfl) (by decide) rfl hls (by show _ + (8 + 11) + 19 ≤ 38; omega) M kk
theorem s0_171 {l : Launch} {Z : State} {a0 : Array Value} {n0 : Nat} {ls : List Slot} {st : List Value} {H H' H1 : List Ob} {v : Option Value} (hw : HW Z a0) {x0 x1 x2 x3 x4 x5 x6 x7 : Value} {w : Value} (M : Meets K l Z n0 m3 [x0, x1, x2, x3, x4, x5, x6, x7] H (some w) H1) (hls : ls.length = 14) (hlo : (st.map fun v => v.category).sum ≤ 0) (kk : Runs K l Z n0 m0 174 ls (w :: st) H1 v H') : Runs K l Z n0 m0 171 ls (x7 :: x6 :: x5 :: x4 :: x3 :: x2 :: x1 :: x0 :: st) H v H' := r_static (mj := m3) (as := [x0, x1, x2, x3, x4, x5, x6, x7]) (rest := st) i0_171 (hw _ (List.mem_of_getElem? (i := 10) rfl)) (hw _ (List.mem_of_getElem? (i := 11) rfl)) (hw _ (List.mem_of_getElem? (i := 3) rfl)) (hw _ (List.mem_of_getElem? (i := 12) rfl)) (by decide) (lenOf pd3 rfl) (by decide) rfl hls (by show _ + (8 + 11) + 19 ≤ 38; omega) M kk
theorem s0_192 {l : Launch} {Z : State} {a0 : Array Value} {n0 : Nat} {ls : List Slot} {st : List Value} {H H' H1 : List Ob} {v : Option Value} (hw : HW Z a0) {x0 x1 x2 x3 x4 x5 x6 x7 : Value} {w : Value} (M : Meets K l Z n0 m3 [x0, x1, x2, x3, x4, x5, x6, x7] H (some w) H1) (hls : ls.length = 14) (hlo : (st.map fun v => v.category).sum ≤ 0) (kk : Runs K l Z n0 m0 195 ls (w :: st) H1 v H') : Runs K l Z n0 m0 192 ls (x7 :: x6 :: x5 :: x4 :: x3 :: x2 :: x1 :: x0 :: st) H v H' := r_static (mj := m3) (as := [x0, x1, x2, x3, x4, x5, x6, x7]) (rest := st) i0_192 (hw _ (List.mem_of_getElem? (i := 10) rfl)) (hw _ (List.mem_of_getElem? (i := 11) rfl)) (hw _ (List.mem_of_getElem? (i := 3) rfl)) (hw _ (List.mem_of_getElem? (i := 12) rfl)) (by decide) (lenOf pd3 rfl) (by decide) rfl hls (by show _ + (8 + 11) + 19 ≤ 38; omega) M kk
theorem s0_213 {l : Launch} {Z : State} {a0 : Array Value} {n0 : Nat} {ls : List Slot} {st : List Value} {H H' H1 : List Ob} {v : Option Value} (hw : HW Z a0) {x0 x1 x2 x3 x4 x5 x6 x7 : Value} {w : Value} (M : Meets K l Z n0 m3 [x0, x1, x2, x3, x4, x5, x6, x7] H (some w) H1) (hls : ls.length = 14) (hlo : (st.map fun v => v.category).sum ≤ 0) (kk : Runs K l Z n0 m0 216 ls (w :: st) H1 v H') : Runs K l Z n0 m0 213 ls (x7 :: x6 :: x5 :: x4 :: x3 :: x2 :: x1 :: x0 :: st) H v H' := r_static (mj := m3) (as := [x0, x1, x2, x3, x4, x5, x6, x7]) (rest := st) i0_213 (hw _ (List.mem_of_getElem? (i := 10) rfl)) (hw _ (List.mem_of_getElem? (i := 11) rfl)) (hw _ (List.mem_of_getElem? (i := 3) rfl)) (hw _ (List.mem_of_getElem? (i := 12) rfl)) (by decide) (lenOf pd3 rfl) (by decide) rfl hls (by show _ + (8 + 11) + 19 ≤ 38; omega) M kk
theorem s0_234 {l : Launch} {Z : State} {a0 : Array Value} {n0 : Nat} {ls : List Slot} {st : List Value} {H H' H1 : List Ob} {v : Option Value} (hw : HW Z a0) {x0 x1 x2 x3 x4 x5 x6 x7 : Value} {w : Value} (M : Meets K l Z n0 m3 [x0, x1, x2, x3, x4, x5, x6, x7] H (some w) H1) (hls : ls.length = 14) (hlo : (st.map fun v => v.category).sum ≤ 0) (kk : Runs K l Z n0 m0 237 ls (w :: st) H1 v H') : Runs K l Z n0 m0 234 ls (x7 :: x6 :: x5 :: x4 :: x3 :: x2 :: x1 :: x0 :: st) H v H' := r_static (mj := m3) (as := [x0, x1, x2, x3, x4, x5, x6, x7]) (rest := st) i0_234 (hw _ (List.mem_of_getElem? (i := 10) rfl)) (hw _ (List.mem_of_getElem? (i := 11) rfl)) (hw _ (List.mem_of_getElem? (i := 3) rfl)) (hw _ (List.mem_of_getElem? (i := 12) rfl)) (by decide) (lenOf pd3 rfl) (by decide) rfl hls (by show _ + (8 + 11) + 19 ≤ 38; omega) M kk
theorem s1_5 {l : Launch} {Z : State} {a0 : Array Value} {n0 : Nat} {ls : List Slot} {st : List Value} {H H' H1 : List Ob} {v : Option Value} (hw : HW Z a0) {a : Nat} {n : Int32} {o : List Value} (hn : ¬ n < 0) (h8 : n.toNatClampNeg * 8 ≤ 536870912) (ho : List.replicate n.toNatClampNeg (.int 0) = o) (ha : H.length = a) (hH : H ++ [.inr (.int, o)] = H1) (kk : Runs K l Z n0 m1 7 ls (.ref a :: st) H1 v H') : Runs K l Z n0 m1 5 ls (.int n :: st) H v H' := r_newA i1_5 (hw _ (List.mem_of_getElem? (i := 5) rfl)) hn h8 ho ha hH kk
theorem s1_14 {l : Launch} {Z : State} {a0 : Array Value} {n0 : Nat} {ls : List Slot} {st : List Value} {H H' H1 : List Ob} {v : Option Value} (hw : HW Z a0) {a : Nat} {n : Int32} {o : List Value} (hn : ¬ n < 0) (h8 : n.toNatClampNeg * 8 ≤ 536870912) (ho : List.replicate n.toNatClampNeg (.int 0) = o) (ha : H.length = a) (hH : H ++ [.inr (.int, o)] = H1) (kk : Runs K l Z n0 m1 16 ls (.ref a :: st) H1 v H') : Runs K l Z n0 m1 14 ls (.int n :: st) H v H' := r_newA i1_14 (hw _ (List.mem_of_getElem? (i := 5) rfl)) hn h8 ho ha hH kk
theorem s1_27 {l : Launch} {Z : State} {a0 : Array Value} {n0 : Nat} {ls : List Slot} {st : List Value} {H H' H1 : List Ob} {v : Option Value} (hw : HW Z a0) {a : Nat} {n : Int32} {o : List Value} (hn : ¬ n < 0) (h8 : n.toNatClampNeg * 8 ≤ 536870912) (ho : List.replicate n.toNatClampNeg (.int 0) = o) (ha : H.length = a) (hH : H ++ [.inr (.int, o)] = H1) (kk : Runs K l Z n0 m1 29 ls (.ref a :: st) H1 v H') : Runs K l Z n0 m1 27 ls (.int n :: st) H v H' := r_newA i1_27 (hw _ (List.mem_of_getElem? (i := 5) rfl)) hn h8 ho ha hH kk
theorem s1_44 {l : Launch} {Z : State} {a0 : Array Value} {n0 : Nat} {ls : List Slot} {st : List Value} {H H' H1 : List Ob} {v : Option Value} (hw : HW Z a0) {a : Nat} {n : Int32} {o : List Value} (hn : ¬ n < 0) (h8 : n.toNatClampNeg * 8 ≤ 536870912) (ho : List.replicate n.toNatClampNeg (.int 0) = o) (ha : H.length = a) (hH : H ++ [.inr (.int, o)] = H1) (kk : Runs K l Z n0 m1 46 ls (.ref a :: st) H1 v H') : Runs K l Z n0 m1 44 ls (.int n :: st) H v H' := r_newA i1_44 (hw _ (List.mem_of_getElem? (i := 5) rfl)) hn h8 ho ha hH kk
theorem s1_60 {l : Launch} {Z : State} {a0 : Array Value} {n0 : Nat} {ls : List Slot} {st : List Value} {H H' H1 : List Ob} {v : Option Value} (hw : HW Z a0) {a : Nat} {n : Int32} {o : List Value} (hn : ¬ n < 0) (h8 : n.toNatClampNeg * 8 ≤ 536870912) (ho : List.replicate n.toNatClampNeg (.int 0) = o) (ha : H.length = a) (hH : H ++ [.inr (.int, o)] = H1) (kk : Runs K l Z n0 m1 62 ls (.ref a :: st) H1 v H') : Runs K l Z n0 m1 60 ls (.int n :: st) H v H' := r_newA i1_60 (hw _ (List.mem_of_getElem? (i := 5) rfl)) hn h8 ho ha hH kk
theorem s2_3 {l : Launch} {Z : State} {a0 : Array Value} {n0 : Nat} {ls : List Slot} {st : List Value} {H H' H1 : List Ob} {v : Option Value} (hw : HW Z a0) {a : Nat} {n : Int32} {o : List Value} (hn : ¬ n < 0) (h8 : n.toNatClampNeg * 8 ≤ 536870912) (ho : List.replicate n.toNatClampNeg (.int 0) = o) (ha : H.length = a) (hH : H ++ [.inr (.int, o)] = H1) (kk : Runs K l Z n0 m2 5 ls (.ref a :: st) H1 v H') : Runs K l Z n0 m2 3 ls (.int n :: st) H v H' := r_newA i2_3 (hw _ (List.mem_of_getElem? (i := 5) rfl)) hn h8 ho ha hH kk
theorem s3_18 {l : Launch} {Z : State} {a0 : Array Value} {n0 : Nat} {ls : List Slot} {st : List Value} {H H' H1 : List Ob} {v : Option Value} (hw : HW Z a0) {x0 x1 x2 x3 x4 x5 : Value} {w : Value} (M : Meets K l Z n0 m4 [x0, x1, x2, x3, x4, x5] H (some w) H1) (hls : ls.length = 8) (hlo : (st.map fun v => v.category).sum ≤ 1) (kk : Runs K l Z n0 m3 21 ls (w :: st) H1 v H') : Runs K l Z n0 m3 18 ls (x5 :: x4 :: x3 :: x2 :: x1 :: x0 :: st) H v H' := r_static (mj := m4) (as := [x0, x1, x2, x3, x4, x5]) (rest := st) i3_18 (hw _ (List.mem_of_getElem? (i := 13) rfl)) (hw _ (List.mem_of_getElem? (i := 14) rfl)) (hw _ (List.mem_of_getElem? (i := 3) rfl)) (hw _ (List.mem_of_getElem? (i := 15) rfl)) (by decide) (lenOf pd4 rfl) (by decide) rfl hls (by show _ + (7 + 11) + 0 ≤ 19; omega) M kk
theorem own_sz {vs : List Value} {c : Nat} (f : Nat → Int32) (h : vs.length ≤ 4) (hc : c ≤ 5) : szs K [.inr (.int, vs), .inr (.int, arrF c f)] ≤ 128 := by
  show vs.length + ((arrF c f).length + 0) ≤ 128
  rw [arrF_len]; omega
def own_add : List Int32 → (Nat → Int32) → Nat → Int32
  | [], f => f
  | g :: L, f => own_add L (fun j => if j = g.toNatClampNeg + 1 then f (g.toNatClampNeg + 1) + 1 else f j)
def own_cnt : List Int32 → Nat → Int32
  | [], _ => 0
  | g :: L, j => (if j = g.toNatClampNeg + 1 then 1 else 0) + own_cnt L j
def own_run : Nat → Nat → (Nat → Int32) → Nat → Int32
  | 0, _, f => f
  | t + 1, k, f => own_run t (k + 1) (fun j => if j = k + 1 then f (k + 1) + f k else f j)
def own_ps (g : Nat → Int32) : Nat → Int32
  | 0 => g 0
  | j + 1 => g (j + 1) + own_ps g j
def own_bl : List Int32 → Int32 → Int32
  | [], _ => 0
  | g :: L, j => (if g < j then 1 else 0) + own_bl L j
theorem own_add_eq : ∀ (L : List Int32) (f : Nat → Int32) (j : Nat), own_add L f j = f j + own_cnt L j
  | [], f, j => (Int32.add_zero _).symm
  | g :: L, f, j => by
    show own_add L (fun j => if j = g.toNatClampNeg + 1 then f (g.toNatClampNeg + 1) + 1 else f j) j = f j + ((if j = g.toNatClampNeg + 1 then 1 else 0) + own_cnt L j)
    rw [own_add_eq L]
    by_cases h : j = g.toNatClampNeg + 1
    · rw [if_pos h, if_pos h, h, Int32.add_assoc]
    · rw [if_neg h, if_neg h, Int32.zero_add]
theorem own_run_eq (g : Nat → Int32) : ∀ (t k : Nat) (f : Nat → Int32), (∀ j, f j = if j ≤ k then own_ps g j else g j) → ∀ j, own_run t k f j = if j ≤ k + t then own_ps g j else g j
  | 0, k, f, h, j => h j
  | t + 1, k, f, h, j => by
    show own_run t (k + 1) (fun j => if j = k + 1 then f (k + 1) + f k else f j) j = _
    rw [own_run_eq g t (k + 1) _ (fun j => ?_) j, show k + 1 + t = k + (t + 1) by omega]
    by_cases e : j = k + 1
    · subst e
      rw [if_pos rfl, if_pos (Nat.le_refl _), h, h, if_neg (by omega), if_pos (Nat.le_refl _)]
      rfl
    · rw [if_neg e, h]
      by_cases q : j ≤ k
      · rw [if_pos q, if_pos (by omega)]
      · rw [if_neg q, if_neg (by omega)]
theorem own_ps_add (f g : Nat → Int32) : ∀ j, own_ps (fun i => f i + g i) j = own_ps f j + own_ps g j
  | 0 => rfl
  | j + 1 => by
    show f (j + 1) + g (j + 1) + own_ps (fun i => f i + g i) j = (f (j + 1) + own_ps f j) + (g (j + 1) + own_ps g j)
    rw [own_ps_add f g j]
    ac_rfl
theorem own_ps_zero : ∀ j, own_ps (fun _ => 0) j = 0
  | 0 => rfl
  | j + 1 => by
    show 0 + own_ps (fun _ => 0) j = 0
    rw [own_ps_zero j]
    rfl
theorem own_ps_one (a : Nat) : ∀ j, own_ps (fun i => if i = a + 1 then 1 else 0) j = if a < j then 1 else 0
  | 0 => by
    show (if 0 = a + 1 then (1 : Int32) else 0) = _
    rw [if_neg (by omega), if_neg (by omega)]
  | j + 1 => by
    show (if j + 1 = a + 1 then (1 : Int32) else 0) + own_ps (fun i => if i = a + 1 then 1 else 0) j = _
    rw [own_ps_one a j]
    by_cases h : j = a
    · rw [if_pos (by omega), if_neg (by omega), if_pos (by omega)]; rfl
    · by_cases q : a < j
      · rw [if_neg (by omega), if_pos q, if_pos (by omega)]; rfl
      · rw [if_neg (by omega), if_neg q, if_neg (by omega)]; rfl
theorem own_ps_cnt (j : Nat) (hj : j < 2 ^ 31) : ∀ L : List Int32, (∀ g ∈ L, 0 ≤ g.toInt) → own_ps (own_cnt L) j = own_bl L j.toInt32
  | [], _ => own_ps_zero j
  | g :: L, h => by
    show own_ps (fun i => (if i = g.toNatClampNeg + 1 then 1 else 0) + own_cnt L i) j = (if g < j.toInt32 then 1 else 0) + own_bl L j.toInt32
    rw [own_ps_add (fun i => if i = g.toNatClampNeg + 1 then 1 else 0) (own_cnt L), own_ps_one, own_ps_cnt j hj L (fun x hx => h x (List.mem_cons_of_mem _ hx))]
    have h0 := h g (List.mem_cons_self ..)
    have e : (g.toNatClampNeg < j) ↔ g < j.toInt32 := by
      rw [Int32.lt_iff_toInt_lt, ti_int hj]; simp only [Int32.toNatClampNeg]; omega
    by_cases q : g < j.toInt32
    · rw [if_pos q, if_pos (e.mpr q)]
    · rw [if_neg q, if_neg (fun z => q (e.mp z))]
theorem own_fin (L : List Int32) (c j : Nat) (hj : j ≤ c) (hc : c < 2 ^ 31) (h : ∀ g ∈ L, 0 ≤ g.toInt) : own_run c 0 (own_add L (fun _ => 0)) j = own_bl L j.toInt32 := by
  rw [own_run_eq (own_cnt L) c 0 _ (fun i => ?_) j, if_pos (by omega), own_ps_cnt j (by omega) L h]
  rw [own_add_eq, Int32.zero_add]
  by_cases e : i ≤ 0
  · rw [if_pos e]; obtain rfl : i = 0 := by omega
    rfl
  · rw [if_neg e]
theorem loop1 {l : Launch} {Z : State} {a0 : Array Value} {n0 : Nat} (hw : HW Z a0) (ct : Int32) (gs : List Int32) (hg : gs.length < 100) (m c : Nat) (hm : m = c + 1) (hc : c < 100) {v : Option Value} {H' : List Ob} : ∀ (L pre : List Int32) (i : Nat) (f : Nat → Int32) (s6 : Slot), gs = pre ++ L → pre.length = i → (∀ g ∈ L, 0 ≤ g.toInt ∧ g.toInt < c) → (s6 = .unset ∨ ∃ q, s6 = .val (.int q)) →
    (∀ s6 : Slot, (s6 = .unset ∨ ∃ q, s6 = .val (.int q)) → Runs K l Z n0 m2 44 [.val (.ref 0), .val (.int ct), .val (.ref 1), .val (.ref 0), .val (.int gs.length.toInt32), .val (.int gs.length.toInt32), s6] [] [.inr (.int, (gs.map Value.int)), .inr (.int, arrF m (own_add L f))] v H') →
    Runs K l Z n0 m2 15 [.val (.ref 0), .val (.int ct), .val (.ref 1), .val (.ref 0), .val (.int gs.length.toInt32), .val (.int i.toInt32), s6] [] [.inr (.int, (gs.map Value.int)), .inr (.int, arrF m f)] v H'
  | [], pre, i, f, s6, hgs, hi, hL, h6, k => by
    have e : i = gs.length := by rw [hgs, ← hi]; simp
    subst e
    refine r_iload i2_15 rfl ?_
    refine r_iload i2_17 rfl ?_
    refine r_icT i2_19 (XT.ii_ge_t (fun z => absurd ((ti_lt (by omega) (by omega)).mp z) (Nat.lt_irrefl _))) ?_
    exact k s6 h6
  | g :: L, pre, i, f, s6, hgs, hi, hL, h6, k => by
    have hlen : gs.length = i + (L.length + 1) := by rw [hgs, ← hi]; simp
    have hv : (gs.map Value.int)[i]? = some (.int g) := by
      rw [hgs, List.getElem?_map, List.getElem?_append_right (by omega), hi, Nat.sub_self]; rfl
    have hb := hL g (List.mem_cons_self ..)
    have e1 : (1 : Int32).toInt = 1 := by decide
    have eg : g + 1 = (g.toNatClampNeg + 1).toInt32 := by
      have q : g.toNatClampNeg < 100 := by simp only [Int32.toNatClampNeg]; omega
      rw [← ti_succ (by omega), ← ti_of hb.1]
    have hlt : g.toNatClampNeg + 1 < m := by simp only [Int32.toNatClampNeg]; omega
    have jx : Ix (g + 1) (g.toNatClampNeg + 1) := by rw [eg]; exact ti_ix (by omega)
    refine r_iload i2_15 rfl ?_
    refine r_iload i2_17 rfl ?_
    refine r_icF i2_19 (XT.ii_ge_f ((ti_lt (by omega) (by omega)).mpr (by omega))) ?_
    refine r_aloadN i2_22 rfl rfl ?_
    refine r_iload i2_23 rfl ?_
    refine r_iaload i2_25 rfl (ti_ix (by omega)) hv ?_
    refine r_istore (ls' := [_, _, _, _, _, _, _]) i2_26 (by rcases h6 with rfl | ⟨q, rfl⟩ <;> rfl) rfl ?_
    refine r_aloadN i2_28 rfl rfl ?_
    refine r_iload i2_29 rfl ?_
    refine r_iconst i2_31 ?_
    refine r_iadd i2_32 ?_
    refine r_dup2 i2_33 rfl rfl ?_
    refine r_iaload i2_34 rfl jx (arrF_at hlt) ?_
    refine r_iconst i2_35 ?_
    refine r_iadd i2_36 ?_
    refine r_iastore (H1 := [_, _]) i2_37 rfl jx (by rw [arrF_len]; exact hlt) arrF_set rfl ?_
    refine r_iinc (ls' := [_, _, _, _, _, _, _]) i2_38 rfl rfl ?_
    refine r_goto i2_41 ?_
    rw [ti_succ (by omega)]
    exact loop1 hw ct gs hg m c hm hc L (pre ++ [g]) (i + 1) _ _ (by rw [hgs]; simp) (by simp [hi]) (fun x hx => hL x (List.mem_cons_of_mem _ hx)) (Or.inr ⟨_, rfl⟩) k
theorem loop2 {l : Launch} {Z : State} {a0 : Array Value} {n0 : Nat} (hw : HW Z a0) (q : Ob) (s4 s5 s6 : Slot) (m c : Nat) (hm : m = c + 1) (hc : c < 100) : ∀ (t k : Nat) (f : Nat → Int32), k + t = c → Runs K l Z n0 m2 46 [.val (.ref 0), .val (.int c.toInt32), .val (.ref 1), .val (.int k.toInt32), s4, s5, s6] [] [q, .inr (.int, arrF m f)] (some (.ref 1)) [q, .inr (.int, arrF m (own_run t k f))]
  | 0, k, f, h => by
    obtain rfl : k = c := by omega
    refine r_iloadN i2_46 rfl ?_
    refine r_iloadN i2_47 rfl ?_
    refine r_icT i2_48 (XT.ii_ge_t (fun z => absurd ((ti_lt (by omega) (by omega)).mp z) (Nat.lt_irrefl _))) ?_
    refine r_aloadN i2_68 rfl rfl ?_
    exact r_areturn i2_69 rfl rfl rfl
  | t + 1, k, f, h => by
    have j1 : Ix (k.toInt32 + 1) (k + 1) := by rw [ti_succ (by omega)]; exact ti_ix (by omega)
    refine r_iloadN i2_46 rfl ?_
    refine r_iloadN i2_47 rfl ?_
    refine r_icF i2_48 (XT.ii_ge_f ((ti_lt (by omega) (by omega)).mpr (by omega))) ?_
    refine r_aloadN i2_51 rfl rfl ?_
    refine r_iloadN i2_52 rfl ?_
    refine r_iconst i2_53 ?_
    refine r_iadd i2_54 ?_
    refine r_dup2 i2_55 rfl rfl ?_
    refine r_iaload i2_56 rfl j1 (arrF_at (by omega)) ?_
    refine r_aloadN i2_57 rfl rfl ?_
    refine r_iloadN i2_58 rfl ?_
    refine r_iaload i2_59 rfl (ti_ix (by omega)) (arrF_at (by omega)) ?_
    refine r_iadd i2_60 ?_
    refine r_iastore (H1 := [_, _]) i2_61 rfl j1 (by rw [arrF_len]; omega) arrF_set rfl ?_
    refine r_iinc (ls' := [_, _, _, _, _, _, _]) i2_62 rfl rfl ?_
    refine r_goto i2_65 ?_
    rw [ti_succ (by omega)]
    exact loop2 hw q s4 s5 s6 m c hm hc t (k + 1) _ (by omega)
theorem starts_m {l : Launch} {Z : State} {a0 : Array Value} {n0 : Nat} (hw : HW Z a0) (gs : List Int32) (c : Nat) (hc : c < 100) (hg : gs.length < 100) (hL : ∀ g ∈ gs, 0 ≤ g.toInt ∧ g.toInt < c) : Meets K l Z n0 m2 [.ref 0, .int c.toInt32] [.inr (.int, (gs.map Value.int))] (some (.ref 1)) [.inr (.int, (gs.map Value.int)), .inr (.int, arrF (c + 1) (own_run c 0 (own_add gs (fun _ => 0))))] := by
  refine meets (ls := [_, _, _, _, _, _, _]) pf2 rfl (fun h => nomatch h) ?_
  have e : c.toInt32 + 1 = (c + 1).toInt32 := ti_succ (by omega)
  have j := ti_ix (show c + 1 < 2 ^ 31 by omega)
  refine r_iloadN i2_0 rfl ?_
  refine r_iconst i2_1 ?_
  refine r_iadd i2_2 ?_
  rw [e]
  refine s2_3 hw (a := 1) (o := arrF (c + 1) (fun _ => 0)) (H1 := [_, _]) j.1 (by rw [j.2]; omega) (by rw [j.2]; exact arrF_zero) rfl rfl ?_
  refine r_astoreN (ls' := [_, _, _, _, _, _, _]) i2_5 rfl rfl rfl ?_
  refine r_aloadN i2_6 rfl rfl ?_
  refine r_astoreN (ls' := [_, _, _, _, _, _, _]) i2_7 rfl rfl rfl ?_
  refine r_aloadN i2_8 rfl rfl ?_
  refine r_len (n := gs.length.toInt32) i2_9 rfl (by rw [List.length_map]) ?_
  refine r_istore (ls' := [_, _, _, _, _, _, _]) i2_10 rfl rfl ?_
  refine r_iconst i2_12 ?_
  refine r_istore (ls' := [_, _, _, _, _, _, _]) i2_13 rfl rfl ?_
  refine loop1 hw _ gs hg (c + 1) c rfl hc gs [] 0 _ .unset rfl rfl hL (Or.inl rfl) (fun s6 h6 => ?_)
  refine r_iconst i2_44 ?_
  refine r_istoreN (ls' := [_, _, _, _, _, _, _]) i2_45 rfl rfl ?_
  exact loop2 hw _ _ _ _ (c + 1) c rfl hc c 0 _ (by omega)
theorem build0 {l : Launch} {Z : State} {a0 : Array Value} {n0 : Nat} (hw : HW Z a0) {g0 g1 g2 g3 : Int32} : Meets K l Z n0 m1 [.int 0, .int g0, .int g1, .int g2, .int g3] [] (some (.ref 0)) [.inr (.int, [])] := by
  refine meets (ls := [_, _, _, _, _]) pf1 rfl (fun h => nomatch h) ?_
  refine r_iloadN i1_0 rfl ?_
  refine r_ifF i1_1 (XT.i0_ne_f (by decide)) ?_
  refine r_iconst i1_4 ?_
  refine s1_5 hw (a := 0) (o := []) (H1 := [_]) (by decide) (by decide) rfl rfl rfl ?_
  exact r_areturn i1_7 rfl rfl rfl
theorem build1 {l : Launch} {Z : State} {a0 : Array Value} {n0 : Nat} (hw : HW Z a0) {g0 g1 g2 g3 : Int32} : Meets K l Z n0 m1 [.int 1, .int g0, .int g1, .int g2, .int g3] [] (some (.ref 0)) [.inr (.int, [.int g0])] := by
  refine meets (ls := [_, _, _, _, _]) pf1 rfl (fun h => nomatch h) ?_
  refine r_iloadN i1_0 rfl ?_
  refine r_ifT i1_1 (XT.i0_ne_t (by decide)) ?_
  refine r_iloadN i1_8 rfl ?_
  refine r_iconst i1_9 ?_
  refine r_icF i1_10 (XT.ii_ne_f (by decide)) ?_
  refine r_iconst i1_13 ?_
  refine s1_14 hw (a := 0) (o := [.int 0]) (H1 := [_]) (by decide) (by decide) rfl rfl rfl ?_
  refine r_dup i1_16 rfl ?_
  refine r_iconst i1_17 ?_
  refine r_iloadN i1_18 rfl ?_
  refine r_iastore (i := 0) (vs' := [_]) (H1 := [_]) i1_19 rfl ⟨by decide, by decide⟩ (ltB rfl) rfl rfl ?_
  exact r_areturn i1_20 rfl rfl rfl
theorem build2 {l : Launch} {Z : State} {a0 : Array Value} {n0 : Nat} (hw : HW Z a0) {g0 g1 g2 g3 : Int32} : Meets K l Z n0 m1 [.int 2, .int g0, .int g1, .int g2, .int g3] [] (some (.ref 0)) [.inr (.int, [.int g0, .int g1])] := by
  refine meets (ls := [_, _, _, _, _]) pf1 rfl (fun h => nomatch h) ?_
  refine r_iloadN i1_0 rfl ?_
  refine r_ifT i1_1 (XT.i0_ne_t (by decide)) ?_
  refine r_iloadN i1_8 rfl ?_
  refine r_iconst i1_9 ?_
  refine r_icT i1_10 (XT.ii_ne_t (by decide)) ?_
  refine r_iloadN i1_21 rfl ?_
  refine r_iconst i1_22 ?_
  refine r_icF i1_23 (XT.ii_ne_f (by decide)) ?_
  refine r_iconst i1_26 ?_
  refine s1_27 hw (a := 0) (o := [.int 0, .int 0]) (H1 := [_]) (by decide) (by decide) rfl rfl rfl ?_
  refine r_dup i1_29 rfl ?_
  refine r_iconst i1_30 ?_
  refine r_iloadN i1_31 rfl ?_
  refine r_iastore (i := 0) (vs' := [_, _]) (H1 := [_]) i1_32 rfl ⟨by decide, by decide⟩ (ltB rfl) rfl rfl ?_
  refine r_dup i1_33 rfl ?_
  refine r_iconst i1_34 ?_
  refine r_iloadN i1_35 rfl ?_
  refine r_iastore (i := 1) (vs' := [_, _]) (H1 := [_]) i1_36 rfl ⟨by decide, by decide⟩ (ltB rfl) rfl rfl ?_
  exact r_areturn i1_37 rfl rfl rfl
theorem build3 {l : Launch} {Z : State} {a0 : Array Value} {n0 : Nat} (hw : HW Z a0) {g0 g1 g2 g3 : Int32} : Meets K l Z n0 m1 [.int 3, .int g0, .int g1, .int g2, .int g3] [] (some (.ref 0)) [.inr (.int, [.int g0, .int g1, .int g2])] := by
  refine meets (ls := [_, _, _, _, _]) pf1 rfl (fun h => nomatch h) ?_
  refine r_iloadN i1_0 rfl ?_
  refine r_ifT i1_1 (XT.i0_ne_t (by decide)) ?_
  refine r_iloadN i1_8 rfl ?_
  refine r_iconst i1_9 ?_
  refine r_icT i1_10 (XT.ii_ne_t (by decide)) ?_
  refine r_iloadN i1_21 rfl ?_
  refine r_iconst i1_22 ?_
  refine r_icT i1_23 (XT.ii_ne_t (by decide)) ?_
  refine r_iloadN i1_38 rfl ?_
  refine r_iconst i1_39 ?_
  refine r_icF i1_40 (XT.ii_ne_f (by decide)) ?_
  refine r_iconst i1_43 ?_
  refine s1_44 hw (a := 0) (o := [.int 0, .int 0, .int 0]) (H1 := [_]) (by decide) (by decide) rfl rfl rfl ?_
  refine r_dup i1_46 rfl ?_
  refine r_iconst i1_47 ?_
  refine r_iloadN i1_48 rfl ?_
  refine r_iastore (i := 0) (vs' := [_, _, _]) (H1 := [_]) i1_49 rfl ⟨by decide, by decide⟩ (ltB rfl) rfl rfl ?_
  refine r_dup i1_50 rfl ?_
  refine r_iconst i1_51 ?_
  refine r_iloadN i1_52 rfl ?_
  refine r_iastore (i := 1) (vs' := [_, _, _]) (H1 := [_]) i1_53 rfl ⟨by decide, by decide⟩ (ltB rfl) rfl rfl ?_
  refine r_dup i1_54 rfl ?_
  refine r_iconst i1_55 ?_
  refine r_iloadN i1_56 rfl ?_
  refine r_iastore (i := 2) (vs' := [_, _, _]) (H1 := [_]) i1_57 rfl ⟨by decide, by decide⟩ (ltB rfl) rfl rfl ?_
  exact r_areturn i1_58 rfl rfl rfl
theorem build4 {l : Launch} {Z : State} {a0 : Array Value} {n0 : Nat} (hw : HW Z a0) {g0 g1 g2 g3 : Int32} : Meets K l Z n0 m1 [.int 4, .int g0, .int g1, .int g2, .int g3] [] (some (.ref 0)) [.inr (.int, [.int g0, .int g1, .int g2, .int g3])] := by
  refine meets (ls := [_, _, _, _, _]) pf1 rfl (fun h => nomatch h) ?_
  refine r_iloadN i1_0 rfl ?_
  refine r_ifT i1_1 (XT.i0_ne_t (by decide)) ?_
  refine r_iloadN i1_8 rfl ?_
  refine r_iconst i1_9 ?_
  refine r_icT i1_10 (XT.ii_ne_t (by decide)) ?_
  refine r_iloadN i1_21 rfl ?_
  refine r_iconst i1_22 ?_
  refine r_icT i1_23 (XT.ii_ne_t (by decide)) ?_
  refine r_iloadN i1_38 rfl ?_
  refine r_iconst i1_39 ?_
  refine r_icT i1_40 (XT.ii_ne_t (by decide)) ?_
  refine r_iconst i1_59 ?_
  refine s1_60 hw (a := 0) (o := [.int 0, .int 0, .int 0, .int 0]) (H1 := [_]) (by decide) (by decide) rfl rfl rfl ?_
  refine r_dup i1_62 rfl ?_
  refine r_iconst i1_63 ?_
  refine r_iloadN i1_64 rfl ?_
  refine r_iastore (i := 0) (vs' := [_, _, _, _]) (H1 := [_]) i1_65 rfl ⟨by decide, by decide⟩ (ltB rfl) rfl rfl ?_
  refine r_dup i1_66 rfl ?_
  refine r_iconst i1_67 ?_
  refine r_iloadN i1_68 rfl ?_
  refine r_iastore (i := 1) (vs' := [_, _, _, _]) (H1 := [_]) i1_69 rfl ⟨by decide, by decide⟩ (ltB rfl) rfl rfl ?_
  refine r_dup i1_70 rfl ?_
  refine r_iconst i1_71 ?_
  refine r_iloadN i1_72 rfl ?_
  refine r_iastore (i := 2) (vs' := [_, _, _, _]) (H1 := [_]) i1_73 rfl ⟨by decide, by decide⟩ (ltB rfl) rfl rfl ?_
  refine r_dup i1_74 rfl ?_
  refine r_iconst i1_75 ?_
  refine r_iload i1_76 rfl ?_
  refine r_iastore (i := 3) (vs' := [_, _, _, _]) (H1 := [_]) i1_78 rfl ⟨by decide, by decide⟩ (ltB rfl) rfl rfl ?_
  exact r_areturn i1_79 rfl rfl rfl
def f4_42 (x0 : Int32) (x1 : Int32) (x2 : Int32) (x3 : Int32) (x4 : Int32) (x5 : Int32) (x6 : Int32) : Int32 := (if 3 < x1 then (if x5 < x0 then x6 + 1 else x6) else x6)
set_option maxRecDepth 4000 in
theorem g4_42 {l : Launch} {Z : State} {a0 : Array Value} {n0 : Nat} (hw : HW Z a0) {H : List Ob} (x0 : Int32) (x1 : Int32) (x2 : Int32) (x3 : Int32) (x4 : Int32) (x5 : Int32) (x6 : Int32) : Runs K l Z n0 m4 42 [.val (.int x0), .val (.int x1), .val (.int x2), .val (.int x3), .val (.int x4), .val (.int x5), .val (.int x6)] [] H (some (.int (f4_42 x0 x1 x2 x3 x4 x5 x6))) H := by
  unfold f4_42
  refine r_iloadN i4_42 rfl ?_
  refine r_iconst i4_43 ?_
  by_cases h7 : 3 < x1
  · rw [if_pos h7]
    refine r_icF i4_44 (XT.ii_le_f h7) ?_
    refine r_iload i4_47 rfl ?_
    refine r_iloadN i4_49 rfl ?_
    by_cases h8 : x5 < x0
    · rw [if_pos h8]
      refine r_icF i4_50 (XT.ii_ge_f h8) ?_
      refine r_iinc (ls' := [_, _, _, _, _, _, _]) i4_53 rfl rfl ?_
      refine r_iload i4_56 rfl ?_
      exact r_ireturn i4_58 rfl
    · rw [if_neg h8]
      refine r_icT i4_50 (XT.ii_ge_t h8) ?_
      refine r_iload i4_56 rfl ?_
      exact r_ireturn i4_58 rfl
  · rw [if_neg h7]
    refine r_icT i4_44 (XT.ii_le_t h7) ?_
    refine r_iload i4_56 rfl ?_
    exact r_ireturn i4_58 rfl
def f4_28 (x0 : Int32) (x1 : Int32) (x2 : Int32) (x3 : Int32) (x4 : Int32) (x5 : Int32) (x6 : Int32) : Int32 := (if 2 < x1 then (if x4 < x0 then f4_42 x0 x1 x2 x3 x4 x5 (x6 + 1) else f4_42 x0 x1 x2 x3 x4 x5 x6) else f4_42 x0 x1 x2 x3 x4 x5 x6)
set_option maxRecDepth 4000 in
theorem g4_28 {l : Launch} {Z : State} {a0 : Array Value} {n0 : Nat} (hw : HW Z a0) {H : List Ob} (x0 : Int32) (x1 : Int32) (x2 : Int32) (x3 : Int32) (x4 : Int32) (x5 : Int32) (x6 : Int32) : Runs K l Z n0 m4 28 [.val (.int x0), .val (.int x1), .val (.int x2), .val (.int x3), .val (.int x4), .val (.int x5), .val (.int x6)] [] H (some (.int (f4_28 x0 x1 x2 x3 x4 x5 x6))) H := by
  unfold f4_28
  refine r_iloadN i4_28 rfl ?_
  refine r_iconst i4_29 ?_
  by_cases h5 : 2 < x1
  · rw [if_pos h5]
    refine r_icF i4_30 (XT.ii_le_f h5) ?_
    refine r_iload i4_33 rfl ?_
    refine r_iloadN i4_35 rfl ?_
    by_cases h6 : x4 < x0
    · rw [if_pos h6]
      refine r_icF i4_36 (XT.ii_ge_f h6) ?_
      refine r_iinc (ls' := [_, _, _, _, _, _, _]) i4_39 rfl rfl ?_
      exact g4_42 hw x0 x1 x2 x3 x4 x5 (x6 + 1)
    · rw [if_neg h6]
      refine r_icT i4_36 (XT.ii_ge_t h6) ?_
      exact g4_42 hw x0 x1 x2 x3 x4 x5 x6
  · rw [if_neg h5]
    refine r_icT i4_30 (XT.ii_le_t h5) ?_
    exact g4_42 hw x0 x1 x2 x3 x4 x5 x6
def f4_15 (x0 : Int32) (x1 : Int32) (x2 : Int32) (x3 : Int32) (x4 : Int32) (x5 : Int32) (x6 : Int32) : Int32 := (if 1 < x1 then (if x3 < x0 then f4_28 x0 x1 x2 x3 x4 x5 (x6 + 1) else f4_28 x0 x1 x2 x3 x4 x5 x6) else f4_28 x0 x1 x2 x3 x4 x5 x6)
set_option maxRecDepth 4000 in
theorem g4_15 {l : Launch} {Z : State} {a0 : Array Value} {n0 : Nat} (hw : HW Z a0) {H : List Ob} (x0 : Int32) (x1 : Int32) (x2 : Int32) (x3 : Int32) (x4 : Int32) (x5 : Int32) (x6 : Int32) : Runs K l Z n0 m4 15 [.val (.int x0), .val (.int x1), .val (.int x2), .val (.int x3), .val (.int x4), .val (.int x5), .val (.int x6)] [] H (some (.int (f4_15 x0 x1 x2 x3 x4 x5 x6))) H := by
  unfold f4_15
  refine r_iloadN i4_15 rfl ?_
  refine r_iconst i4_16 ?_
  by_cases h3 : 1 < x1
  · rw [if_pos h3]
    refine r_icF i4_17 (XT.ii_le_f h3) ?_
    refine r_iloadN i4_20 rfl ?_
    refine r_iloadN i4_21 rfl ?_
    by_cases h4 : x3 < x0
    · rw [if_pos h4]
      refine r_icF i4_22 (XT.ii_ge_f h4) ?_
      refine r_iinc (ls' := [_, _, _, _, _, _, _]) i4_25 rfl rfl ?_
      exact g4_28 hw x0 x1 x2 x3 x4 x5 (x6 + 1)
    · rw [if_neg h4]
      refine r_icT i4_22 (XT.ii_ge_t h4) ?_
      exact g4_28 hw x0 x1 x2 x3 x4 x5 x6
  · rw [if_neg h3]
    refine r_icT i4_17 (XT.ii_le_t h3) ?_
    exact g4_28 hw x0 x1 x2 x3 x4 x5 x6
def f4_0 (x0 : Int32) (x1 : Int32) (x2 : Int32) (x3 : Int32) (x4 : Int32) (x5 : Int32) : Int32 := (if 0 < x1 then (if x2 < x0 then f4_15 x0 x1 x2 x3 x4 x5 (0 + 1) else f4_15 x0 x1 x2 x3 x4 x5 0) else f4_15 x0 x1 x2 x3 x4 x5 0)
set_option maxRecDepth 4000 in
theorem g4_0 {l : Launch} {Z : State} {a0 : Array Value} {n0 : Nat} (hw : HW Z a0) {H : List Ob} (x0 : Int32) (x1 : Int32) (x2 : Int32) (x3 : Int32) (x4 : Int32) (x5 : Int32) : Runs K l Z n0 m4 0 [.val (.int x0), .val (.int x1), .val (.int x2), .val (.int x3), .val (.int x4), .val (.int x5), .unset] [] H (some (.int (f4_0 x0 x1 x2 x3 x4 x5))) H := by
  unfold f4_0
  refine r_iconst i4_0 ?_
  refine r_istore (ls' := [_, _, _, _, _, _, _]) i4_1 rfl rfl ?_
  refine r_iloadN i4_3 rfl ?_
  by_cases h1 : 0 < x1
  · rw [if_pos h1]
    refine r_ifF i4_4 (XT.i0_le_f h1) ?_
    refine r_iloadN i4_7 rfl ?_
    refine r_iloadN i4_8 rfl ?_
    by_cases h2 : x2 < x0
    · rw [if_pos h2]
      refine r_icF i4_9 (XT.ii_ge_f h2) ?_
      refine r_iinc (ls' := [_, _, _, _, _, _, _]) i4_12 rfl rfl ?_
      exact g4_15 hw x0 x1 x2 x3 x4 x5 (0 + 1)
    · rw [if_neg h2]
      refine r_icT i4_9 (XT.ii_ge_t h2) ?_
      exact g4_15 hw x0 x1 x2 x3 x4 x5 0
  · rw [if_neg h1]
    refine r_ifT i4_4 (XT.i0_le_t h1) ?_
    exact g4_15 hw x0 x1 x2 x3 x4 x5 0
theorem c4 {l : Launch} {Z : State} {a0 : Array Value} {n0 : Nat} (hw : HW Z a0) {H : List Ob} (x0 : Int32) (x1 : Int32) (x2 : Int32) (x3 : Int32) (x4 : Int32) (x5 : Int32) : Meets K l Z n0 m4 [.int x0, .int x1, .int x2, .int x3, .int x4, .int x5] H (some (.int (f4_0 x0 x1 x2 x3 x4 x5))) H := meets pf4 rfl (fun h => nomatch h) (g4_0 hw x0 x1 x2 x3 x4 x5)
theorem own_ofif (P : Prop) [Decidable P] (x y : Int32) (h1 : P → x = y) (h2 : ¬ P → x = y) : x = y := by
  by_cases p : P
  · exact h1 p
  · exact h2 p
theorem own_bel0 (j g0 g1 g2 g3 : Int32) : own_bl [] j = f4_0 j 0 g0 g1 g2 g3 := by
  unfold f4_0 f4_15 f4_28 f4_42
  simp only [own_bl]
  simp only [show ((0 : Int32) < 0) = False from by decide, show ((1 : Int32) < 0) = False from by decide, show ((2 : Int32) < 0) = False from by decide, show ((3 : Int32) < 0) = False from by decide, if_true, if_false]
theorem own_bel1 (j g0 g1 g2 g3 : Int32) : own_bl [g0] j = f4_0 j 1 g0 g1 g2 g3 := by
  unfold f4_0 f4_15 f4_28 f4_42
  simp only [own_bl]
  simp only [show ((0 : Int32) < 1) = True from by decide, show ((1 : Int32) < 1) = False from by decide, show ((2 : Int32) < 1) = False from by decide, show ((3 : Int32) < 1) = False from by decide, if_true, if_false]
  repeat' split
  all_goals first | rfl | decide | (exfalso; contradiction)
theorem own_bel2 (j g0 g1 g2 g3 : Int32) : own_bl [g0, g1] j = f4_0 j 2 g0 g1 g2 g3 := by
  unfold f4_0 f4_15 f4_28 f4_42
  simp only [own_bl]
  simp only [show ((0 : Int32) < 2) = True from by decide, show ((1 : Int32) < 2) = True from by decide, show ((2 : Int32) < 2) = False from by decide, show ((3 : Int32) < 2) = False from by decide, if_true, if_false]
  repeat' split
  all_goals first | rfl | decide | (exfalso; contradiction)
theorem own_bel3 (j g0 g1 g2 g3 : Int32) : own_bl [g0, g1, g2] j = f4_0 j 3 g0 g1 g2 g3 := by
  unfold f4_0 f4_15 f4_28 f4_42
  simp only [own_bl]
  simp only [show ((0 : Int32) < 3) = True from by decide, show ((1 : Int32) < 3) = True from by decide, show ((2 : Int32) < 3) = True from by decide, show ((3 : Int32) < 3) = False from by decide, if_true, if_false]
  repeat' split
  all_goals first | rfl | decide | (exfalso; contradiction)
theorem own_bel4 (j g0 g1 g2 g3 : Int32) : own_bl [g0, g1, g2, g3] j = f4_0 j 4 g0 g1 g2 g3 := by
  unfold f4_0 f4_15 f4_28 f4_42
  simp only [own_bl]
  simp only [show ((0 : Int32) < 4) = True from by decide, show ((1 : Int32) < 4) = True from by decide, show ((2 : Int32) < 4) = True from by decide, show ((3 : Int32) < 4) = True from by decide, if_true, if_false]
  repeat' split
  all_goals first | rfl | decide | (exfalso; contradiction)
theorem at_out {l : Launch} {Z : State} {a0 : Array Value} {n0 : Nat} (hw : HW Z a0) {j c n g0 g1 g2 g3 : Int32} {H : List Ob} (h : c < j) : Meets K l Z n0 m3 [.ref 1, .int j, .int c, .int n, .int g0, .int g1, .int g2, .int g3] H (some (.int 1)) H := by
  refine meets (ls := [_, _, _, _, _, _, _, _]) pf3 rfl (fun h => nomatch h) ?_
  refine r_iloadN i3_0 rfl ?_
  refine r_iloadN i3_1 rfl ?_
  refine r_icT i3_2 (XT.ii_gt_t h) ?_
  refine r_iconst i3_24 ?_
  refine r_goto i3_25 ?_
  exact r_zreturn i3_29 rfl (by first | decide | simp)
theorem at_in {l : Launch} {Z : State} {a0 : Array Value} {n0 : Nat} (hw : HW Z a0) {j c n g0 g1 g2 g3 x : Int32} {i : Nat} {q : Ob} {vs : List Value} (h : ¬ c < j) (hj : Ix j i) (hv : vs[i]? = some (.int x)) (he : x = f4_0 j n g0 g1 g2 g3) : Meets K l Z n0 m3 [.ref 1, .int j, .int c, .int n, .int g0, .int g1, .int g2, .int g3] [q, .inr (.int, vs)] (some (.int 1)) [q, .inr (.int, vs)] := by
  refine meets (ls := [_, _, _, _, _, _, _, _]) pf3 rfl (fun h => nomatch h) ?_
  refine r_iloadN i3_0 rfl ?_
  refine r_iloadN i3_1 rfl ?_
  refine r_icF i3_2 (XT.ii_gt_f h) ?_
  refine r_aloadN i3_5 rfl rfl ?_
  refine r_iloadN i3_6 rfl ?_
  refine r_iaload i3_7 rfl hj hv ?_
  refine r_iloadN i3_8 rfl ?_
  refine r_iloadN i3_9 rfl ?_
  refine r_iload i3_10 rfl ?_
  refine r_iload i3_12 rfl ?_
  refine r_iload i3_14 rfl ?_
  refine r_iload i3_16 rfl ?_
  refine s3_18 hw (H1 := [_, _]) (c4 hw _ _ _ _ _ _) rfl (leB rfl) ?_
  refine r_icF i3_21 (XT.ii_ne_f he) ?_
  refine r_iconst i3_24 ?_
  refine r_goto i3_25 ?_
  exact r_zreturn i3_29 rfl (by first | decide | simp)
set_option maxHeartbeats 4000000 in
theorem fin00 {l : Launch} {Z : State} {a0 : Array Value} {n0 : Nat} (hw : HW Z a0) (p0 p1 p2 p3 p4 p5 g0 g1 g2 g3 : Int32)  : RunsB K l Z n0 m0 99 [.val (.int p0), .val (.int p1), .val (.int p2), .val (.int p3), .val (.int p4), .val (.int p5), .val (.int 0), .val (.int 0), .val (.int g0), .val (.int g1), .val (.int g2), .val (.int g3), .unset, .unset] [] [] (some (.int 1)) 16 128 := by
  have hL : ∀ g ∈ ([] : List Int32), 0 ≤ g.toInt ∧ g.toInt < (0 : Nat) := allL0
  have hL0 : ∀ g ∈ ([] : List Int32), 0 ≤ g.toInt := fun g q => (hL g q).1
  refine lift (fun _ kk => r_iload i0_99 rfl kk) ?_
  refine lift (fun _ kk => r_iload i0_101 rfl kk) ?_
  refine lift (fun _ kk => r_iload i0_103 rfl kk) ?_
  refine lift (fun _ kk => r_iload i0_105 rfl kk) ?_
  refine lift (fun _ kk => r_iload i0_107 rfl kk) ?_
  refine lift (fun _ kk => s0_109 hw (H1 := [_]) (build0 hw) rfl (leB rfl) kk) ?_
  refine lift (fun _ kk => r_astore (ls' := [_, _, _, _, _, _, _, _, _, _, _, _, _, _]) i0_112 rfl rfl rfl kk) ?_
  refine lift (fun _ kk => r_aload i0_114 rfl rfl kk) ?_
  refine lift (fun _ kk => r_iload i0_116 rfl kk) ?_
  refine lift (fun _ kk => s0_118 hw (H1 := [_, _]) (starts_m hw [] 0 (by decide) (ltB rfl) hL) rfl (leB rfl) kk) ?_
  refine lift (fun _ kk => r_astore (ls' := [_, _, _, _, _, _, _, _, _, _, _, _, _, _]) i0_121 rfl rfl rfl kk) ?_
  refine lift (fun _ kk => r_aload i0_123 rfl rfl kk) ?_
  refine lift (fun _ kk => r_len (n := 0 + 1) i0_125 rfl (by rw [arrF_len]; rfl) kk) ?_
  refine lift (fun _ kk => r_iload i0_126 rfl kk) ?_
  refine lift (fun _ kk => r_iconst i0_128 kk) ?_
  refine lift (fun _ kk => r_iadd i0_129 kk) ?_
  refine lift (fun _ kk => r_icT i0_130 (XT.ii_eq_t rfl) kk) ?_
  refine lift (fun _ kk => r_aload i0_135 rfl rfl kk) ?_
  refine lift (fun _ kk => r_iconst i0_137 kk) ?_
  refine lift (fun _ kk => r_iload i0_138 rfl kk) ?_
  refine lift (fun _ kk => r_iload i0_140 rfl kk) ?_
  refine lift (fun _ kk => r_iload i0_142 rfl kk) ?_
  refine lift (fun _ kk => r_iload i0_144 rfl kk) ?_
  refine lift (fun _ kk => r_iload i0_146 rfl kk) ?_
  refine lift (fun _ kk => r_iload i0_148 rfl kk) ?_
  refine lift (fun _ kk => s0_150 hw (H1 := [_, _]) (at_in hw (i := 0) (by decide) ⟨by decide, by decide⟩ (arrF_at (by decide)) ((own_fin [] 0 0 (by decide) (by decide) hL0).trans (own_bel0 _ _ _ _ _))) rfl (leB rfl) kk) ?_
  refine lift (fun _ kk => r_ifF i0_153 (XT.i0_eq_f (by decide)) kk) ?_
  refine lift (fun _ kk => r_aload i0_156 rfl rfl kk) ?_
  refine lift (fun _ kk => r_iconst i0_158 kk) ?_
  refine lift (fun _ kk => r_iload i0_159 rfl kk) ?_
  refine lift (fun _ kk => r_iload i0_161 rfl kk) ?_
  refine lift (fun _ kk => r_iload i0_163 rfl kk) ?_
  refine lift (fun _ kk => r_iload i0_165 rfl kk) ?_
  refine lift (fun _ kk => r_iload i0_167 rfl kk) ?_
  refine lift (fun _ kk => r_iload i0_169 rfl kk) ?_
  refine lift (fun _ kk => s0_171 hw (H1 := [_, _]) (at_out hw (by decide)) rfl (leB rfl) kk) ?_
  refine lift (fun _ kk => r_ifF i0_174 (XT.i0_eq_f (by decide)) kk) ?_
  refine lift (fun _ kk => r_aload i0_177 rfl rfl kk) ?_
  refine lift (fun _ kk => r_iconst i0_179 kk) ?_
  refine lift (fun _ kk => r_iload i0_180 rfl kk) ?_
  refine lift (fun _ kk => r_iload i0_182 rfl kk) ?_
  refine lift (fun _ kk => r_iload i0_184 rfl kk) ?_
  refine lift (fun _ kk => r_iload i0_186 rfl kk) ?_
  refine lift (fun _ kk => r_iload i0_188 rfl kk) ?_
  refine lift (fun _ kk => r_iload i0_190 rfl kk) ?_
  refine lift (fun _ kk => s0_192 hw (H1 := [_, _]) (at_out hw (by decide)) rfl (leB rfl) kk) ?_
  refine lift (fun _ kk => r_ifF i0_195 (XT.i0_eq_f (by decide)) kk) ?_
  refine lift (fun _ kk => r_aload i0_198 rfl rfl kk) ?_
  refine lift (fun _ kk => r_iconst i0_200 kk) ?_
  refine lift (fun _ kk => r_iload i0_201 rfl kk) ?_
  refine lift (fun _ kk => r_iload i0_203 rfl kk) ?_
  refine lift (fun _ kk => r_iload i0_205 rfl kk) ?_
  refine lift (fun _ kk => r_iload i0_207 rfl kk) ?_
  refine lift (fun _ kk => r_iload i0_209 rfl kk) ?_
  refine lift (fun _ kk => r_iload i0_211 rfl kk) ?_
  refine lift (fun _ kk => s0_213 hw (H1 := [_, _]) (at_out hw (by decide)) rfl (leB rfl) kk) ?_
  refine lift (fun _ kk => r_ifF i0_216 (XT.i0_eq_f (by decide)) kk) ?_
  refine lift (fun _ kk => r_aload i0_219 rfl rfl kk) ?_
  refine lift (fun _ kk => r_iconst i0_221 kk) ?_
  refine lift (fun _ kk => r_iload i0_222 rfl kk) ?_
  refine lift (fun _ kk => r_iload i0_224 rfl kk) ?_
  refine lift (fun _ kk => r_iload i0_226 rfl kk) ?_
  refine lift (fun _ kk => r_iload i0_228 rfl kk) ?_
  refine lift (fun _ kk => r_iload i0_230 rfl kk) ?_
  refine lift (fun _ kk => r_iload i0_232 rfl kk) ?_
  refine lift (fun _ kk => s0_234 hw (H1 := [_, _]) (at_out hw (by decide)) rfl (leB rfl) kk) ?_
  refine lift (fun _ kk => r_ifF i0_237 (XT.i0_eq_f (by decide)) kk) ?_
  refine lift (fun _ kk => r_iconst i0_240 kk) ?_
  refine lift (fun _ kk => r_goto i0_241 kk) ?_
  exact ⟨_, r_zreturn i0_245 rfl (by first | decide | simp), leB rfl, own_sz _ (leB rfl) (by decide)⟩
set_option maxHeartbeats 4000000 in
theorem fin10 {l : Launch} {Z : State} {a0 : Array Value} {n0 : Nat} (hw : HW Z a0) (p0 p1 p2 p3 p4 p5 g0 g1 g2 g3 : Int32)  : RunsB K l Z n0 m0 99 [.val (.int p0), .val (.int p1), .val (.int p2), .val (.int p3), .val (.int p4), .val (.int p5), .val (.int 1), .val (.int 0), .val (.int g0), .val (.int g1), .val (.int g2), .val (.int g3), .unset, .unset] [] [] (some (.int 1)) 16 128 := by
  have hL : ∀ g ∈ ([] : List Int32), 0 ≤ g.toInt ∧ g.toInt < (1 : Nat) := allL0
  have hL0 : ∀ g ∈ ([] : List Int32), 0 ≤ g.toInt := fun g q => (hL g q).1
  refine lift (fun _ kk => r_iload i0_99 rfl kk) ?_
  refine lift (fun _ kk => r_iload i0_101 rfl kk) ?_
  refine lift (fun _ kk => r_iload i0_103 rfl kk) ?_
  refine lift (fun _ kk => r_iload i0_105 rfl kk) ?_
  refine lift (fun _ kk => r_iload i0_107 rfl kk) ?_
  refine lift (fun _ kk => s0_109 hw (H1 := [_]) (build0 hw) rfl (leB rfl) kk) ?_
  refine lift (fun _ kk => r_astore (ls' := [_, _, _, _, _, _, _, _, _, _, _, _, _, _]) i0_112 rfl rfl rfl kk) ?_
  refine lift (fun _ kk => r_aload i0_114 rfl rfl kk) ?_
  refine lift (fun _ kk => r_iload i0_116 rfl kk) ?_
  refine lift (fun _ kk => s0_118 hw (H1 := [_, _]) (starts_m hw [] 1 (by decide) (ltB rfl) hL) rfl (leB rfl) kk) ?_
  refine lift (fun _ kk => r_astore (ls' := [_, _, _, _, _, _, _, _, _, _, _, _, _, _]) i0_121 rfl rfl rfl kk) ?_
  refine lift (fun _ kk => r_aload i0_123 rfl rfl kk) ?_
  refine lift (fun _ kk => r_len (n := 1 + 1) i0_125 rfl (by rw [arrF_len]; rfl) kk) ?_
  refine lift (fun _ kk => r_iload i0_126 rfl kk) ?_
  refine lift (fun _ kk => r_iconst i0_128 kk) ?_
  refine lift (fun _ kk => r_iadd i0_129 kk) ?_
  refine lift (fun _ kk => r_icT i0_130 (XT.ii_eq_t rfl) kk) ?_
  refine lift (fun _ kk => r_aload i0_135 rfl rfl kk) ?_
  refine lift (fun _ kk => r_iconst i0_137 kk) ?_
  refine lift (fun _ kk => r_iload i0_138 rfl kk) ?_
  refine lift (fun _ kk => r_iload i0_140 rfl kk) ?_
  refine lift (fun _ kk => r_iload i0_142 rfl kk) ?_
  refine lift (fun _ kk => r_iload i0_144 rfl kk) ?_
  refine lift (fun _ kk => r_iload i0_146 rfl kk) ?_
  refine lift (fun _ kk => r_iload i0_148 rfl kk) ?_
  refine lift (fun _ kk => s0_150 hw (H1 := [_, _]) (at_in hw (i := 0) (by decide) ⟨by decide, by decide⟩ (arrF_at (by decide)) ((own_fin [] 1 0 (by decide) (by decide) hL0).trans (own_bel0 _ _ _ _ _))) rfl (leB rfl) kk) ?_
  refine lift (fun _ kk => r_ifF i0_153 (XT.i0_eq_f (by decide)) kk) ?_
  refine lift (fun _ kk => r_aload i0_156 rfl rfl kk) ?_
  refine lift (fun _ kk => r_iconst i0_158 kk) ?_
  refine lift (fun _ kk => r_iload i0_159 rfl kk) ?_
  refine lift (fun _ kk => r_iload i0_161 rfl kk) ?_
  refine lift (fun _ kk => r_iload i0_163 rfl kk) ?_
  refine lift (fun _ kk => r_iload i0_165 rfl kk) ?_
  refine lift (fun _ kk => r_iload i0_167 rfl kk) ?_
  refine lift (fun _ kk => r_iload i0_169 rfl kk) ?_
  refine lift (fun _ kk => s0_171 hw (H1 := [_, _]) (at_in hw (i := 1) (by decide) ⟨by decide, by decide⟩ (arrF_at (by decide)) ((own_fin [] 1 1 (by decide) (by decide) hL0).trans (own_bel0 _ _ _ _ _))) rfl (leB rfl) kk) ?_
  refine lift (fun _ kk => r_ifF i0_174 (XT.i0_eq_f (by decide)) kk) ?_
  refine lift (fun _ kk => r_aload i0_177 rfl rfl kk) ?_
  refine lift (fun _ kk => r_iconst i0_179 kk) ?_
  refine lift (fun _ kk => r_iload i0_180 rfl kk) ?_
  refine lift (fun _ kk => r_iload i0_182 rfl kk) ?_
  refine lift (fun _ kk => r_iload i0_184 rfl kk) ?_
  refine lift (fun _ kk => r_iload i0_186 rfl kk) ?_
  refine lift (fun _ kk => r_iload i0_188 rfl kk) ?_
  refine lift (fun _ kk => r_iload i0_190 rfl kk) ?_
  refine lift (fun _ kk => s0_192 hw (H1 := [_, _]) (at_out hw (by decide)) rfl (leB rfl) kk) ?_
  refine lift (fun _ kk => r_ifF i0_195 (XT.i0_eq_f (by decide)) kk) ?_
  refine lift (fun _ kk => r_aload i0_198 rfl rfl kk) ?_
  refine lift (fun _ kk => r_iconst i0_200 kk) ?_
  refine lift (fun _ kk => r_iload i0_201 rfl kk) ?_
  refine lift (fun _ kk => r_iload i0_203 rfl kk) ?_
  refine lift (fun _ kk => r_iload i0_205 rfl kk) ?_
  refine lift (fun _ kk => r_iload i0_207 rfl kk) ?_
  refine lift (fun _ kk => r_iload i0_209 rfl kk) ?_
  refine lift (fun _ kk => r_iload i0_211 rfl kk) ?_
  refine lift (fun _ kk => s0_213 hw (H1 := [_, _]) (at_out hw (by decide)) rfl (leB rfl) kk) ?_
  refine lift (fun _ kk => r_ifF i0_216 (XT.i0_eq_f (by decide)) kk) ?_
  refine lift (fun _ kk => r_aload i0_219 rfl rfl kk) ?_
  refine lift (fun _ kk => r_iconst i0_221 kk) ?_
  refine lift (fun _ kk => r_iload i0_222 rfl kk) ?_
  refine lift (fun _ kk => r_iload i0_224 rfl kk) ?_
  refine lift (fun _ kk => r_iload i0_226 rfl kk) ?_
  refine lift (fun _ kk => r_iload i0_228 rfl kk) ?_
  refine lift (fun _ kk => r_iload i0_230 rfl kk) ?_
  refine lift (fun _ kk => r_iload i0_232 rfl kk) ?_
  refine lift (fun _ kk => s0_234 hw (H1 := [_, _]) (at_out hw (by decide)) rfl (leB rfl) kk) ?_
  refine lift (fun _ kk => r_ifF i0_237 (XT.i0_eq_f (by decide)) kk) ?_
  refine lift (fun _ kk => r_iconst i0_240 kk) ?_
  refine lift (fun _ kk => r_goto i0_241 kk) ?_
  exact ⟨_, r_zreturn i0_245 rfl (by first | decide | simp), leB rfl, own_sz _ (leB rfl) (by decide)⟩
set_option maxHeartbeats 4000000 in
theorem fin11 {l : Launch} {Z : State} {a0 : Array Value} {n0 : Nat} (hw : HW Z a0) (p0 p1 p2 p3 p4 p5 g0 g1 g2 g3 : Int32) (h0 : 0 ≤ g0.toInt ∧ g0.toInt < 1) : RunsB K l Z n0 m0 99 [.val (.int p0), .val (.int p1), .val (.int p2), .val (.int p3), .val (.int p4), .val (.int p5), .val (.int 1), .val (.int 1), .val (.int g0), .val (.int g1), .val (.int g2), .val (.int g3), .unset, .unset] [] [] (some (.int 1)) 16 128 := by
  have hL : ∀ g ∈ ([g0] : List Int32), 0 ≤ g.toInt ∧ g.toInt < (1 : Nat) := (allLS h0 allL0)
  have hL0 : ∀ g ∈ ([g0] : List Int32), 0 ≤ g.toInt := fun g q => (hL g q).1
  refine lift (fun _ kk => r_iload i0_99 rfl kk) ?_
  refine lift (fun _ kk => r_iload i0_101 rfl kk) ?_
  refine lift (fun _ kk => r_iload i0_103 rfl kk) ?_
  refine lift (fun _ kk => r_iload i0_105 rfl kk) ?_
  refine lift (fun _ kk => r_iload i0_107 rfl kk) ?_
  refine lift (fun _ kk => s0_109 hw (H1 := [_]) (build1 hw) rfl (leB rfl) kk) ?_
  refine lift (fun _ kk => r_astore (ls' := [_, _, _, _, _, _, _, _, _, _, _, _, _, _]) i0_112 rfl rfl rfl kk) ?_
  refine lift (fun _ kk => r_aload i0_114 rfl rfl kk) ?_
  refine lift (fun _ kk => r_iload i0_116 rfl kk) ?_
  refine lift (fun _ kk => s0_118 hw (H1 := [_, _]) (starts_m hw [g0] 1 (by decide) (ltB rfl) hL) rfl (leB rfl) kk) ?_
  refine lift (fun _ kk => r_astore (ls' := [_, _, _, _, _, _, _, _, _, _, _, _, _, _]) i0_121 rfl rfl rfl kk) ?_
  refine lift (fun _ kk => r_aload i0_123 rfl rfl kk) ?_
  refine lift (fun _ kk => r_len (n := 1 + 1) i0_125 rfl (by rw [arrF_len]; rfl) kk) ?_
  refine lift (fun _ kk => r_iload i0_126 rfl kk) ?_
  refine lift (fun _ kk => r_iconst i0_128 kk) ?_
  refine lift (fun _ kk => r_iadd i0_129 kk) ?_
  refine lift (fun _ kk => r_icT i0_130 (XT.ii_eq_t rfl) kk) ?_
  refine lift (fun _ kk => r_aload i0_135 rfl rfl kk) ?_
  refine lift (fun _ kk => r_iconst i0_137 kk) ?_
  refine lift (fun _ kk => r_iload i0_138 rfl kk) ?_
  refine lift (fun _ kk => r_iload i0_140 rfl kk) ?_
  refine lift (fun _ kk => r_iload i0_142 rfl kk) ?_
  refine lift (fun _ kk => r_iload i0_144 rfl kk) ?_
  refine lift (fun _ kk => r_iload i0_146 rfl kk) ?_
  refine lift (fun _ kk => r_iload i0_148 rfl kk) ?_
  refine lift (fun _ kk => s0_150 hw (H1 := [_, _]) (at_in hw (i := 0) (by decide) ⟨by decide, by decide⟩ (arrF_at (by decide)) ((own_fin [g0] 1 0 (by decide) (by decide) hL0).trans (own_bel1 _ _ _ _ _))) rfl (leB rfl) kk) ?_
  refine lift (fun _ kk => r_ifF i0_153 (XT.i0_eq_f (by decide)) kk) ?_
  refine lift (fun _ kk => r_aload i0_156 rfl rfl kk) ?_
  refine lift (fun _ kk => r_iconst i0_158 kk) ?_
  refine lift (fun _ kk => r_iload i0_159 rfl kk) ?_
  refine lift (fun _ kk => r_iload i0_161 rfl kk) ?_
  refine lift (fun _ kk => r_iload i0_163 rfl kk) ?_
  refine lift (fun _ kk => r_iload i0_165 rfl kk) ?_
  refine lift (fun _ kk => r_iload i0_167 rfl kk) ?_
  refine lift (fun _ kk => r_iload i0_169 rfl kk) ?_
  refine lift (fun _ kk => s0_171 hw (H1 := [_, _]) (at_in hw (i := 1) (by decide) ⟨by decide, by decide⟩ (arrF_at (by decide)) ((own_fin [g0] 1 1 (by decide) (by decide) hL0).trans (own_bel1 _ _ _ _ _))) rfl (leB rfl) kk) ?_
  refine lift (fun _ kk => r_ifF i0_174 (XT.i0_eq_f (by decide)) kk) ?_
  refine lift (fun _ kk => r_aload i0_177 rfl rfl kk) ?_
  refine lift (fun _ kk => r_iconst i0_179 kk) ?_
  refine lift (fun _ kk => r_iload i0_180 rfl kk) ?_
  refine lift (fun _ kk => r_iload i0_182 rfl kk) ?_
  refine lift (fun _ kk => r_iload i0_184 rfl kk) ?_
  refine lift (fun _ kk => r_iload i0_186 rfl kk) ?_
  refine lift (fun _ kk => r_iload i0_188 rfl kk) ?_
  refine lift (fun _ kk => r_iload i0_190 rfl kk) ?_
  refine lift (fun _ kk => s0_192 hw (H1 := [_, _]) (at_out hw (by decide)) rfl (leB rfl) kk) ?_
  refine lift (fun _ kk => r_ifF i0_195 (XT.i0_eq_f (by decide)) kk) ?_
  refine lift (fun _ kk => r_aload i0_198 rfl rfl kk) ?_
  refine lift (fun _ kk => r_iconst i0_200 kk) ?_
  refine lift (fun _ kk => r_iload i0_201 rfl kk) ?_
  refine lift (fun _ kk => r_iload i0_203 rfl kk) ?_
  refine lift (fun _ kk => r_iload i0_205 rfl kk) ?_
  refine lift (fun _ kk => r_iload i0_207 rfl kk) ?_
  refine lift (fun _ kk => r_iload i0_209 rfl kk) ?_
  refine lift (fun _ kk => r_iload i0_211 rfl kk) ?_
  refine lift (fun _ kk => s0_213 hw (H1 := [_, _]) (at_out hw (by decide)) rfl (leB rfl) kk) ?_
  refine lift (fun _ kk => r_ifF i0_216 (XT.i0_eq_f (by decide)) kk) ?_
  refine lift (fun _ kk => r_aload i0_219 rfl rfl kk) ?_
  refine lift (fun _ kk => r_iconst i0_221 kk) ?_
  refine lift (fun _ kk => r_iload i0_222 rfl kk) ?_
  refine lift (fun _ kk => r_iload i0_224 rfl kk) ?_
  refine lift (fun _ kk => r_iload i0_226 rfl kk) ?_
  refine lift (fun _ kk => r_iload i0_228 rfl kk) ?_
  refine lift (fun _ kk => r_iload i0_230 rfl kk) ?_
  refine lift (fun _ kk => r_iload i0_232 rfl kk) ?_
  refine lift (fun _ kk => s0_234 hw (H1 := [_, _]) (at_out hw (by decide)) rfl (leB rfl) kk) ?_
  refine lift (fun _ kk => r_ifF i0_237 (XT.i0_eq_f (by decide)) kk) ?_
  refine lift (fun _ kk => r_iconst i0_240 kk) ?_
  refine lift (fun _ kk => r_goto i0_241 kk) ?_
  exact ⟨_, r_zreturn i0_245 rfl (by first | decide | simp), leB rfl, own_sz _ (leB rfl) (by decide)⟩
set_option maxHeartbeats 4000000 in
theorem fin12 {l : Launch} {Z : State} {a0 : Array Value} {n0 : Nat} (hw : HW Z a0) (p0 p1 p2 p3 p4 p5 g0 g1 g2 g3 : Int32) (h0 : 0 ≤ g0.toInt ∧ g0.toInt < 1) (h1 : 0 ≤ g1.toInt ∧ g1.toInt < 1) : RunsB K l Z n0 m0 99 [.val (.int p0), .val (.int p1), .val (.int p2), .val (.int p3), .val (.int p4), .val (.int p5), .val (.int 1), .val (.int 2), .val (.int g0), .val (.int g1), .val (.int g2), .val (.int g3), .unset, .unset] [] [] (some (.int 1)) 16 128 := by
  have hL : ∀ g ∈ ([g0, g1] : List Int32), 0 ≤ g.toInt ∧ g.toInt < (1 : Nat) := (allLS h0 (allLS h1 allL0))
  have hL0 : ∀ g ∈ ([g0, g1] : List Int32), 0 ≤ g.toInt := fun g q => (hL g q).1
  refine lift (fun _ kk => r_iload i0_99 rfl kk) ?_
  refine lift (fun _ kk => r_iload i0_101 rfl kk) ?_
  refine lift (fun _ kk => r_iload i0_103 rfl kk) ?_
  refine lift (fun _ kk => r_iload i0_105 rfl kk) ?_
  refine lift (fun _ kk => r_iload i0_107 rfl kk) ?_
  refine lift (fun _ kk => s0_109 hw (H1 := [_]) (build2 hw) rfl (leB rfl) kk) ?_
  refine lift (fun _ kk => r_astore (ls' := [_, _, _, _, _, _, _, _, _, _, _, _, _, _]) i0_112 rfl rfl rfl kk) ?_
  refine lift (fun _ kk => r_aload i0_114 rfl rfl kk) ?_
  refine lift (fun _ kk => r_iload i0_116 rfl kk) ?_
  refine lift (fun _ kk => s0_118 hw (H1 := [_, _]) (starts_m hw [g0, g1] 1 (by decide) (ltB rfl) hL) rfl (leB rfl) kk) ?_
  refine lift (fun _ kk => r_astore (ls' := [_, _, _, _, _, _, _, _, _, _, _, _, _, _]) i0_121 rfl rfl rfl kk) ?_
  refine lift (fun _ kk => r_aload i0_123 rfl rfl kk) ?_
  refine lift (fun _ kk => r_len (n := 1 + 1) i0_125 rfl (by rw [arrF_len]; rfl) kk) ?_
  refine lift (fun _ kk => r_iload i0_126 rfl kk) ?_
  refine lift (fun _ kk => r_iconst i0_128 kk) ?_
  refine lift (fun _ kk => r_iadd i0_129 kk) ?_
  refine lift (fun _ kk => r_icT i0_130 (XT.ii_eq_t rfl) kk) ?_
  refine lift (fun _ kk => r_aload i0_135 rfl rfl kk) ?_
  refine lift (fun _ kk => r_iconst i0_137 kk) ?_
  refine lift (fun _ kk => r_iload i0_138 rfl kk) ?_
  refine lift (fun _ kk => r_iload i0_140 rfl kk) ?_
  refine lift (fun _ kk => r_iload i0_142 rfl kk) ?_
  refine lift (fun _ kk => r_iload i0_144 rfl kk) ?_
  refine lift (fun _ kk => r_iload i0_146 rfl kk) ?_
  refine lift (fun _ kk => r_iload i0_148 rfl kk) ?_
  refine lift (fun _ kk => s0_150 hw (H1 := [_, _]) (at_in hw (i := 0) (by decide) ⟨by decide, by decide⟩ (arrF_at (by decide)) ((own_fin [g0, g1] 1 0 (by decide) (by decide) hL0).trans (own_bel2 _ _ _ _ _))) rfl (leB rfl) kk) ?_
  refine lift (fun _ kk => r_ifF i0_153 (XT.i0_eq_f (by decide)) kk) ?_
  refine lift (fun _ kk => r_aload i0_156 rfl rfl kk) ?_
  refine lift (fun _ kk => r_iconst i0_158 kk) ?_
  refine lift (fun _ kk => r_iload i0_159 rfl kk) ?_
  refine lift (fun _ kk => r_iload i0_161 rfl kk) ?_
  refine lift (fun _ kk => r_iload i0_163 rfl kk) ?_
  refine lift (fun _ kk => r_iload i0_165 rfl kk) ?_
  refine lift (fun _ kk => r_iload i0_167 rfl kk) ?_
  refine lift (fun _ kk => r_iload i0_169 rfl kk) ?_
  refine lift (fun _ kk => s0_171 hw (H1 := [_, _]) (at_in hw (i := 1) (by decide) ⟨by decide, by decide⟩ (arrF_at (by decide)) ((own_fin [g0, g1] 1 1 (by decide) (by decide) hL0).trans (own_bel2 _ _ _ _ _))) rfl (leB rfl) kk) ?_
  refine lift (fun _ kk => r_ifF i0_174 (XT.i0_eq_f (by decide)) kk) ?_
  refine lift (fun _ kk => r_aload i0_177 rfl rfl kk) ?_
  refine lift (fun _ kk => r_iconst i0_179 kk) ?_
  refine lift (fun _ kk => r_iload i0_180 rfl kk) ?_
  refine lift (fun _ kk => r_iload i0_182 rfl kk) ?_
  refine lift (fun _ kk => r_iload i0_184 rfl kk) ?_
  refine lift (fun _ kk => r_iload i0_186 rfl kk) ?_
  refine lift (fun _ kk => r_iload i0_188 rfl kk) ?_
  refine lift (fun _ kk => r_iload i0_190 rfl kk) ?_
  refine lift (fun _ kk => s0_192 hw (H1 := [_, _]) (at_out hw (by decide)) rfl (leB rfl) kk) ?_
  refine lift (fun _ kk => r_ifF i0_195 (XT.i0_eq_f (by decide)) kk) ?_
  refine lift (fun _ kk => r_aload i0_198 rfl rfl kk) ?_
  refine lift (fun _ kk => r_iconst i0_200 kk) ?_
  refine lift (fun _ kk => r_iload i0_201 rfl kk) ?_
  refine lift (fun _ kk => r_iload i0_203 rfl kk) ?_
  refine lift (fun _ kk => r_iload i0_205 rfl kk) ?_
  refine lift (fun _ kk => r_iload i0_207 rfl kk) ?_
  refine lift (fun _ kk => r_iload i0_209 rfl kk) ?_
  refine lift (fun _ kk => r_iload i0_211 rfl kk) ?_
  refine lift (fun _ kk => s0_213 hw (H1 := [_, _]) (at_out hw (by decide)) rfl (leB rfl) kk) ?_
  refine lift (fun _ kk => r_ifF i0_216 (XT.i0_eq_f (by decide)) kk) ?_
  refine lift (fun _ kk => r_aload i0_219 rfl rfl kk) ?_
  refine lift (fun _ kk => r_iconst i0_221 kk) ?_
  refine lift (fun _ kk => r_iload i0_222 rfl kk) ?_
  refine lift (fun _ kk => r_iload i0_224 rfl kk) ?_
  refine lift (fun _ kk => r_iload i0_226 rfl kk) ?_
  refine lift (fun _ kk => r_iload i0_228 rfl kk) ?_
  refine lift (fun _ kk => r_iload i0_230 rfl kk) ?_
  refine lift (fun _ kk => r_iload i0_232 rfl kk) ?_
  refine lift (fun _ kk => s0_234 hw (H1 := [_, _]) (at_out hw (by decide)) rfl (leB rfl) kk) ?_
  refine lift (fun _ kk => r_ifF i0_237 (XT.i0_eq_f (by decide)) kk) ?_
  refine lift (fun _ kk => r_iconst i0_240 kk) ?_
  refine lift (fun _ kk => r_goto i0_241 kk) ?_
  exact ⟨_, r_zreturn i0_245 rfl (by first | decide | simp), leB rfl, own_sz _ (leB rfl) (by decide)⟩
set_option maxHeartbeats 4000000 in
theorem fin13 {l : Launch} {Z : State} {a0 : Array Value} {n0 : Nat} (hw : HW Z a0) (p0 p1 p2 p3 p4 p5 g0 g1 g2 g3 : Int32) (h0 : 0 ≤ g0.toInt ∧ g0.toInt < 1) (h1 : 0 ≤ g1.toInt ∧ g1.toInt < 1) (h2 : 0 ≤ g2.toInt ∧ g2.toInt < 1) : RunsB K l Z n0 m0 99 [.val (.int p0), .val (.int p1), .val (.int p2), .val (.int p3), .val (.int p4), .val (.int p5), .val (.int 1), .val (.int 3), .val (.int g0), .val (.int g1), .val (.int g2), .val (.int g3), .unset, .unset] [] [] (some (.int 1)) 16 128 := by
  have hL : ∀ g ∈ ([g0, g1, g2] : List Int32), 0 ≤ g.toInt ∧ g.toInt < (1 : Nat) := (allLS h0 (allLS h1 (allLS h2 allL0)))
  have hL0 : ∀ g ∈ ([g0, g1, g2] : List Int32), 0 ≤ g.toInt := fun g q => (hL g q).1
  refine lift (fun _ kk => r_iload i0_99 rfl kk) ?_
  refine lift (fun _ kk => r_iload i0_101 rfl kk) ?_
  refine lift (fun _ kk => r_iload i0_103 rfl kk) ?_
  refine lift (fun _ kk => r_iload i0_105 rfl kk) ?_
  refine lift (fun _ kk => r_iload i0_107 rfl kk) ?_
  refine lift (fun _ kk => s0_109 hw (H1 := [_]) (build3 hw) rfl (leB rfl) kk) ?_
  refine lift (fun _ kk => r_astore (ls' := [_, _, _, _, _, _, _, _, _, _, _, _, _, _]) i0_112 rfl rfl rfl kk) ?_
  refine lift (fun _ kk => r_aload i0_114 rfl rfl kk) ?_
  refine lift (fun _ kk => r_iload i0_116 rfl kk) ?_
  refine lift (fun _ kk => s0_118 hw (H1 := [_, _]) (starts_m hw [g0, g1, g2] 1 (by decide) (ltB rfl) hL) rfl (leB rfl) kk) ?_
  refine lift (fun _ kk => r_astore (ls' := [_, _, _, _, _, _, _, _, _, _, _, _, _, _]) i0_121 rfl rfl rfl kk) ?_
  refine lift (fun _ kk => r_aload i0_123 rfl rfl kk) ?_
  refine lift (fun _ kk => r_len (n := 1 + 1) i0_125 rfl (by rw [arrF_len]; rfl) kk) ?_
  refine lift (fun _ kk => r_iload i0_126 rfl kk) ?_
  refine lift (fun _ kk => r_iconst i0_128 kk) ?_
  refine lift (fun _ kk => r_iadd i0_129 kk) ?_
  refine lift (fun _ kk => r_icT i0_130 (XT.ii_eq_t rfl) kk) ?_
  refine lift (fun _ kk => r_aload i0_135 rfl rfl kk) ?_
  refine lift (fun _ kk => r_iconst i0_137 kk) ?_
  refine lift (fun _ kk => r_iload i0_138 rfl kk) ?_
  refine lift (fun _ kk => r_iload i0_140 rfl kk) ?_
  refine lift (fun _ kk => r_iload i0_142 rfl kk) ?_
  refine lift (fun _ kk => r_iload i0_144 rfl kk) ?_
  refine lift (fun _ kk => r_iload i0_146 rfl kk) ?_
  refine lift (fun _ kk => r_iload i0_148 rfl kk) ?_
  refine lift (fun _ kk => s0_150 hw (H1 := [_, _]) (at_in hw (i := 0) (by decide) ⟨by decide, by decide⟩ (arrF_at (by decide)) ((own_fin [g0, g1, g2] 1 0 (by decide) (by decide) hL0).trans (own_bel3 _ _ _ _ _))) rfl (leB rfl) kk) ?_
  refine lift (fun _ kk => r_ifF i0_153 (XT.i0_eq_f (by decide)) kk) ?_
  refine lift (fun _ kk => r_aload i0_156 rfl rfl kk) ?_
  refine lift (fun _ kk => r_iconst i0_158 kk) ?_
  refine lift (fun _ kk => r_iload i0_159 rfl kk) ?_
  refine lift (fun _ kk => r_iload i0_161 rfl kk) ?_
  refine lift (fun _ kk => r_iload i0_163 rfl kk) ?_
  refine lift (fun _ kk => r_iload i0_165 rfl kk) ?_
  refine lift (fun _ kk => r_iload i0_167 rfl kk) ?_
  refine lift (fun _ kk => r_iload i0_169 rfl kk) ?_
  refine lift (fun _ kk => s0_171 hw (H1 := [_, _]) (at_in hw (i := 1) (by decide) ⟨by decide, by decide⟩ (arrF_at (by decide)) ((own_fin [g0, g1, g2] 1 1 (by decide) (by decide) hL0).trans (own_bel3 _ _ _ _ _))) rfl (leB rfl) kk) ?_
  refine lift (fun _ kk => r_ifF i0_174 (XT.i0_eq_f (by decide)) kk) ?_
  refine lift (fun _ kk => r_aload i0_177 rfl rfl kk) ?_
  refine lift (fun _ kk => r_iconst i0_179 kk) ?_
  refine lift (fun _ kk => r_iload i0_180 rfl kk) ?_
  refine lift (fun _ kk => r_iload i0_182 rfl kk) ?_
  refine lift (fun _ kk => r_iload i0_184 rfl kk) ?_
  refine lift (fun _ kk => r_iload i0_186 rfl kk) ?_
  refine lift (fun _ kk => r_iload i0_188 rfl kk) ?_
  refine lift (fun _ kk => r_iload i0_190 rfl kk) ?_
  refine lift (fun _ kk => s0_192 hw (H1 := [_, _]) (at_out hw (by decide)) rfl (leB rfl) kk) ?_
  refine lift (fun _ kk => r_ifF i0_195 (XT.i0_eq_f (by decide)) kk) ?_
  refine lift (fun _ kk => r_aload i0_198 rfl rfl kk) ?_
  refine lift (fun _ kk => r_iconst i0_200 kk) ?_
  refine lift (fun _ kk => r_iload i0_201 rfl kk) ?_
  refine lift (fun _ kk => r_iload i0_203 rfl kk) ?_
  refine lift (fun _ kk => r_iload i0_205 rfl kk) ?_
  refine lift (fun _ kk => r_iload i0_207 rfl kk) ?_
  refine lift (fun _ kk => r_iload i0_209 rfl kk) ?_
  refine lift (fun _ kk => r_iload i0_211 rfl kk) ?_
  refine lift (fun _ kk => s0_213 hw (H1 := [_, _]) (at_out hw (by decide)) rfl (leB rfl) kk) ?_
  refine lift (fun _ kk => r_ifF i0_216 (XT.i0_eq_f (by decide)) kk) ?_
  refine lift (fun _ kk => r_aload i0_219 rfl rfl kk) ?_
  refine lift (fun _ kk => r_iconst i0_221 kk) ?_
  refine lift (fun _ kk => r_iload i0_222 rfl kk) ?_
  refine lift (fun _ kk => r_iload i0_224 rfl kk) ?_
  refine lift (fun _ kk => r_iload i0_226 rfl kk) ?_
  refine lift (fun _ kk => r_iload i0_228 rfl kk) ?_
  refine lift (fun _ kk => r_iload i0_230 rfl kk) ?_
  refine lift (fun _ kk => r_iload i0_232 rfl kk) ?_
  refine lift (fun _ kk => s0_234 hw (H1 := [_, _]) (at_out hw (by decide)) rfl (leB rfl) kk) ?_
  refine lift (fun _ kk => r_ifF i0_237 (XT.i0_eq_f (by decide)) kk) ?_
  refine lift (fun _ kk => r_iconst i0_240 kk) ?_
  refine lift (fun _ kk => r_goto i0_241 kk) ?_
  exact ⟨_, r_zreturn i0_245 rfl (by first | decide | simp), leB rfl, own_sz _ (leB rfl) (by decide)⟩
set_option maxHeartbeats 4000000 in
theorem fin14 {l : Launch} {Z : State} {a0 : Array Value} {n0 : Nat} (hw : HW Z a0) (p0 p1 p2 p3 p4 p5 g0 g1 g2 g3 : Int32) (h0 : 0 ≤ g0.toInt ∧ g0.toInt < 1) (h1 : 0 ≤ g1.toInt ∧ g1.toInt < 1) (h2 : 0 ≤ g2.toInt ∧ g2.toInt < 1) (h3 : 0 ≤ g3.toInt ∧ g3.toInt < 1) : RunsB K l Z n0 m0 99 [.val (.int p0), .val (.int p1), .val (.int p2), .val (.int p3), .val (.int p4), .val (.int p5), .val (.int 1), .val (.int 4), .val (.int g0), .val (.int g1), .val (.int g2), .val (.int g3), .unset, .unset] [] [] (some (.int 1)) 16 128 := by
  have hL : ∀ g ∈ ([g0, g1, g2, g3] : List Int32), 0 ≤ g.toInt ∧ g.toInt < (1 : Nat) := (allLS h0 (allLS h1 (allLS h2 (allLS h3 allL0))))
  have hL0 : ∀ g ∈ ([g0, g1, g2, g3] : List Int32), 0 ≤ g.toInt := fun g q => (hL g q).1
  refine lift (fun _ kk => r_iload i0_99 rfl kk) ?_
  refine lift (fun _ kk => r_iload i0_101 rfl kk) ?_
  refine lift (fun _ kk => r_iload i0_103 rfl kk) ?_
  refine lift (fun _ kk => r_iload i0_105 rfl kk) ?_
  refine lift (fun _ kk => r_iload i0_107 rfl kk) ?_
  refine lift (fun _ kk => s0_109 hw (H1 := [_]) (build4 hw) rfl (leB rfl) kk) ?_
  refine lift (fun _ kk => r_astore (ls' := [_, _, _, _, _, _, _, _, _, _, _, _, _, _]) i0_112 rfl rfl rfl kk) ?_
  refine lift (fun _ kk => r_aload i0_114 rfl rfl kk) ?_
  refine lift (fun _ kk => r_iload i0_116 rfl kk) ?_
  refine lift (fun _ kk => s0_118 hw (H1 := [_, _]) (starts_m hw [g0, g1, g2, g3] 1 (by decide) (ltB rfl) hL) rfl (leB rfl) kk) ?_
  refine lift (fun _ kk => r_astore (ls' := [_, _, _, _, _, _, _, _, _, _, _, _, _, _]) i0_121 rfl rfl rfl kk) ?_
  refine lift (fun _ kk => r_aload i0_123 rfl rfl kk) ?_
  refine lift (fun _ kk => r_len (n := 1 + 1) i0_125 rfl (by rw [arrF_len]; rfl) kk) ?_
  refine lift (fun _ kk => r_iload i0_126 rfl kk) ?_
  refine lift (fun _ kk => r_iconst i0_128 kk) ?_
  refine lift (fun _ kk => r_iadd i0_129 kk) ?_
  refine lift (fun _ kk => r_icT i0_130 (XT.ii_eq_t rfl) kk) ?_
  refine lift (fun _ kk => r_aload i0_135 rfl rfl kk) ?_
  refine lift (fun _ kk => r_iconst i0_137 kk) ?_
  refine lift (fun _ kk => r_iload i0_138 rfl kk) ?_
  refine lift (fun _ kk => r_iload i0_140 rfl kk) ?_
  refine lift (fun _ kk => r_iload i0_142 rfl kk) ?_
  refine lift (fun _ kk => r_iload i0_144 rfl kk) ?_
  refine lift (fun _ kk => r_iload i0_146 rfl kk) ?_
  refine lift (fun _ kk => r_iload i0_148 rfl kk) ?_
  refine lift (fun _ kk => s0_150 hw (H1 := [_, _]) (at_in hw (i := 0) (by decide) ⟨by decide, by decide⟩ (arrF_at (by decide)) ((own_fin [g0, g1, g2, g3] 1 0 (by decide) (by decide) hL0).trans (own_bel4 _ _ _ _ _))) rfl (leB rfl) kk) ?_
  refine lift (fun _ kk => r_ifF i0_153 (XT.i0_eq_f (by decide)) kk) ?_
  refine lift (fun _ kk => r_aload i0_156 rfl rfl kk) ?_
  refine lift (fun _ kk => r_iconst i0_158 kk) ?_
  refine lift (fun _ kk => r_iload i0_159 rfl kk) ?_
  refine lift (fun _ kk => r_iload i0_161 rfl kk) ?_
  refine lift (fun _ kk => r_iload i0_163 rfl kk) ?_
  refine lift (fun _ kk => r_iload i0_165 rfl kk) ?_
  refine lift (fun _ kk => r_iload i0_167 rfl kk) ?_
  refine lift (fun _ kk => r_iload i0_169 rfl kk) ?_
  refine lift (fun _ kk => s0_171 hw (H1 := [_, _]) (at_in hw (i := 1) (by decide) ⟨by decide, by decide⟩ (arrF_at (by decide)) ((own_fin [g0, g1, g2, g3] 1 1 (by decide) (by decide) hL0).trans (own_bel4 _ _ _ _ _))) rfl (leB rfl) kk) ?_
  refine lift (fun _ kk => r_ifF i0_174 (XT.i0_eq_f (by decide)) kk) ?_
  refine lift (fun _ kk => r_aload i0_177 rfl rfl kk) ?_
  refine lift (fun _ kk => r_iconst i0_179 kk) ?_
  refine lift (fun _ kk => r_iload i0_180 rfl kk) ?_
  refine lift (fun _ kk => r_iload i0_182 rfl kk) ?_
  refine lift (fun _ kk => r_iload i0_184 rfl kk) ?_
  refine lift (fun _ kk => r_iload i0_186 rfl kk) ?_
  refine lift (fun _ kk => r_iload i0_188 rfl kk) ?_
  refine lift (fun _ kk => r_iload i0_190 rfl kk) ?_
  refine lift (fun _ kk => s0_192 hw (H1 := [_, _]) (at_out hw (by decide)) rfl (leB rfl) kk) ?_
  refine lift (fun _ kk => r_ifF i0_195 (XT.i0_eq_f (by decide)) kk) ?_
  refine lift (fun _ kk => r_aload i0_198 rfl rfl kk) ?_
  refine lift (fun _ kk => r_iconst i0_200 kk) ?_
  refine lift (fun _ kk => r_iload i0_201 rfl kk) ?_
  refine lift (fun _ kk => r_iload i0_203 rfl kk) ?_
  refine lift (fun _ kk => r_iload i0_205 rfl kk) ?_
  refine lift (fun _ kk => r_iload i0_207 rfl kk) ?_
  refine lift (fun _ kk => r_iload i0_209 rfl kk) ?_
  refine lift (fun _ kk => r_iload i0_211 rfl kk) ?_
  refine lift (fun _ kk => s0_213 hw (H1 := [_, _]) (at_out hw (by decide)) rfl (leB rfl) kk) ?_
  refine lift (fun _ kk => r_ifF i0_216 (XT.i0_eq_f (by decide)) kk) ?_
  refine lift (fun _ kk => r_aload i0_219 rfl rfl kk) ?_
  refine lift (fun _ kk => r_iconst i0_221 kk) ?_
  refine lift (fun _ kk => r_iload i0_222 rfl kk) ?_
  refine lift (fun _ kk => r_iload i0_224 rfl kk) ?_
  refine lift (fun _ kk => r_iload i0_226 rfl kk) ?_
  refine lift (fun _ kk => r_iload i0_228 rfl kk) ?_
  refine lift (fun _ kk => r_iload i0_230 rfl kk) ?_
  refine lift (fun _ kk => r_iload i0_232 rfl kk) ?_
  refine lift (fun _ kk => s0_234 hw (H1 := [_, _]) (at_out hw (by decide)) rfl (leB rfl) kk) ?_
  refine lift (fun _ kk => r_ifF i0_237 (XT.i0_eq_f (by decide)) kk) ?_
  refine lift (fun _ kk => r_iconst i0_240 kk) ?_
  refine lift (fun _ kk => r_goto i0_241 kk) ?_
  exact ⟨_, r_zreturn i0_245 rfl (by first | decide | simp), leB rfl, own_sz _ (leB rfl) (by decide)⟩
set_option maxHeartbeats 4000000 in
theorem fin20 {l : Launch} {Z : State} {a0 : Array Value} {n0 : Nat} (hw : HW Z a0) (p0 p1 p2 p3 p4 p5 g0 g1 g2 g3 : Int32)  : RunsB K l Z n0 m0 99 [.val (.int p0), .val (.int p1), .val (.int p2), .val (.int p3), .val (.int p4), .val (.int p5), .val (.int 2), .val (.int 0), .val (.int g0), .val (.int g1), .val (.int g2), .val (.int g3), .unset, .unset] [] [] (some (.int 1)) 16 128 := by
  have hL : ∀ g ∈ ([] : List Int32), 0 ≤ g.toInt ∧ g.toInt < (2 : Nat) := allL0
  have hL0 : ∀ g ∈ ([] : List Int32), 0 ≤ g.toInt := fun g q => (hL g q).1
  refine lift (fun _ kk => r_iload i0_99 rfl kk) ?_
  refine lift (fun _ kk => r_iload i0_101 rfl kk) ?_
  refine lift (fun _ kk => r_iload i0_103 rfl kk) ?_
  refine lift (fun _ kk => r_iload i0_105 rfl kk) ?_
  refine lift (fun _ kk => r_iload i0_107 rfl kk) ?_
  refine lift (fun _ kk => s0_109 hw (H1 := [_]) (build0 hw) rfl (leB rfl) kk) ?_
  refine lift (fun _ kk => r_astore (ls' := [_, _, _, _, _, _, _, _, _, _, _, _, _, _]) i0_112 rfl rfl rfl kk) ?_
  refine lift (fun _ kk => r_aload i0_114 rfl rfl kk) ?_
  refine lift (fun _ kk => r_iload i0_116 rfl kk) ?_
  refine lift (fun _ kk => s0_118 hw (H1 := [_, _]) (starts_m hw [] 2 (by decide) (ltB rfl) hL) rfl (leB rfl) kk) ?_
  refine lift (fun _ kk => r_astore (ls' := [_, _, _, _, _, _, _, _, _, _, _, _, _, _]) i0_121 rfl rfl rfl kk) ?_
  refine lift (fun _ kk => r_aload i0_123 rfl rfl kk) ?_
  refine lift (fun _ kk => r_len (n := 2 + 1) i0_125 rfl (by rw [arrF_len]; rfl) kk) ?_
  refine lift (fun _ kk => r_iload i0_126 rfl kk) ?_
  refine lift (fun _ kk => r_iconst i0_128 kk) ?_
  refine lift (fun _ kk => r_iadd i0_129 kk) ?_
  refine lift (fun _ kk => r_icT i0_130 (XT.ii_eq_t rfl) kk) ?_
  refine lift (fun _ kk => r_aload i0_135 rfl rfl kk) ?_
  refine lift (fun _ kk => r_iconst i0_137 kk) ?_
  refine lift (fun _ kk => r_iload i0_138 rfl kk) ?_
  refine lift (fun _ kk => r_iload i0_140 rfl kk) ?_
  refine lift (fun _ kk => r_iload i0_142 rfl kk) ?_
  refine lift (fun _ kk => r_iload i0_144 rfl kk) ?_
  refine lift (fun _ kk => r_iload i0_146 rfl kk) ?_
  refine lift (fun _ kk => r_iload i0_148 rfl kk) ?_
  refine lift (fun _ kk => s0_150 hw (H1 := [_, _]) (at_in hw (i := 0) (by decide) ⟨by decide, by decide⟩ (arrF_at (by decide)) ((own_fin [] 2 0 (by decide) (by decide) hL0).trans (own_bel0 _ _ _ _ _))) rfl (leB rfl) kk) ?_
  refine lift (fun _ kk => r_ifF i0_153 (XT.i0_eq_f (by decide)) kk) ?_
  refine lift (fun _ kk => r_aload i0_156 rfl rfl kk) ?_
  refine lift (fun _ kk => r_iconst i0_158 kk) ?_
  refine lift (fun _ kk => r_iload i0_159 rfl kk) ?_
  refine lift (fun _ kk => r_iload i0_161 rfl kk) ?_
  refine lift (fun _ kk => r_iload i0_163 rfl kk) ?_
  refine lift (fun _ kk => r_iload i0_165 rfl kk) ?_
  refine lift (fun _ kk => r_iload i0_167 rfl kk) ?_
  refine lift (fun _ kk => r_iload i0_169 rfl kk) ?_
  refine lift (fun _ kk => s0_171 hw (H1 := [_, _]) (at_in hw (i := 1) (by decide) ⟨by decide, by decide⟩ (arrF_at (by decide)) ((own_fin [] 2 1 (by decide) (by decide) hL0).trans (own_bel0 _ _ _ _ _))) rfl (leB rfl) kk) ?_
  refine lift (fun _ kk => r_ifF i0_174 (XT.i0_eq_f (by decide)) kk) ?_
  refine lift (fun _ kk => r_aload i0_177 rfl rfl kk) ?_
  refine lift (fun _ kk => r_iconst i0_179 kk) ?_
  refine lift (fun _ kk => r_iload i0_180 rfl kk) ?_
  refine lift (fun _ kk => r_iload i0_182 rfl kk) ?_
  refine lift (fun _ kk => r_iload i0_184 rfl kk) ?_
  refine lift (fun _ kk => r_iload i0_186 rfl kk) ?_
  refine lift (fun _ kk => r_iload i0_188 rfl kk) ?_
  refine lift (fun _ kk => r_iload i0_190 rfl kk) ?_
  refine lift (fun _ kk => s0_192 hw (H1 := [_, _]) (at_in hw (i := 2) (by decide) ⟨by decide, by decide⟩ (arrF_at (by decide)) ((own_fin [] 2 2 (by decide) (by decide) hL0).trans (own_bel0 _ _ _ _ _))) rfl (leB rfl) kk) ?_
  refine lift (fun _ kk => r_ifF i0_195 (XT.i0_eq_f (by decide)) kk) ?_
  refine lift (fun _ kk => r_aload i0_198 rfl rfl kk) ?_
  refine lift (fun _ kk => r_iconst i0_200 kk) ?_
  refine lift (fun _ kk => r_iload i0_201 rfl kk) ?_
  refine lift (fun _ kk => r_iload i0_203 rfl kk) ?_
  refine lift (fun _ kk => r_iload i0_205 rfl kk) ?_
  refine lift (fun _ kk => r_iload i0_207 rfl kk) ?_
  refine lift (fun _ kk => r_iload i0_209 rfl kk) ?_
  refine lift (fun _ kk => r_iload i0_211 rfl kk) ?_
  refine lift (fun _ kk => s0_213 hw (H1 := [_, _]) (at_out hw (by decide)) rfl (leB rfl) kk) ?_
  refine lift (fun _ kk => r_ifF i0_216 (XT.i0_eq_f (by decide)) kk) ?_
  refine lift (fun _ kk => r_aload i0_219 rfl rfl kk) ?_
  refine lift (fun _ kk => r_iconst i0_221 kk) ?_
  refine lift (fun _ kk => r_iload i0_222 rfl kk) ?_
  refine lift (fun _ kk => r_iload i0_224 rfl kk) ?_
  refine lift (fun _ kk => r_iload i0_226 rfl kk) ?_
  refine lift (fun _ kk => r_iload i0_228 rfl kk) ?_
  refine lift (fun _ kk => r_iload i0_230 rfl kk) ?_
  refine lift (fun _ kk => r_iload i0_232 rfl kk) ?_
  refine lift (fun _ kk => s0_234 hw (H1 := [_, _]) (at_out hw (by decide)) rfl (leB rfl) kk) ?_
  refine lift (fun _ kk => r_ifF i0_237 (XT.i0_eq_f (by decide)) kk) ?_
  refine lift (fun _ kk => r_iconst i0_240 kk) ?_
  refine lift (fun _ kk => r_goto i0_241 kk) ?_
  exact ⟨_, r_zreturn i0_245 rfl (by first | decide | simp), leB rfl, own_sz _ (leB rfl) (by decide)⟩
set_option maxHeartbeats 4000000 in
theorem fin21 {l : Launch} {Z : State} {a0 : Array Value} {n0 : Nat} (hw : HW Z a0) (p0 p1 p2 p3 p4 p5 g0 g1 g2 g3 : Int32) (h0 : 0 ≤ g0.toInt ∧ g0.toInt < 2) : RunsB K l Z n0 m0 99 [.val (.int p0), .val (.int p1), .val (.int p2), .val (.int p3), .val (.int p4), .val (.int p5), .val (.int 2), .val (.int 1), .val (.int g0), .val (.int g1), .val (.int g2), .val (.int g3), .unset, .unset] [] [] (some (.int 1)) 16 128 := by
  have hL : ∀ g ∈ ([g0] : List Int32), 0 ≤ g.toInt ∧ g.toInt < (2 : Nat) := (allLS h0 allL0)
  have hL0 : ∀ g ∈ ([g0] : List Int32), 0 ≤ g.toInt := fun g q => (hL g q).1
  refine lift (fun _ kk => r_iload i0_99 rfl kk) ?_
  refine lift (fun _ kk => r_iload i0_101 rfl kk) ?_
  refine lift (fun _ kk => r_iload i0_103 rfl kk) ?_
  refine lift (fun _ kk => r_iload i0_105 rfl kk) ?_
  refine lift (fun _ kk => r_iload i0_107 rfl kk) ?_
  refine lift (fun _ kk => s0_109 hw (H1 := [_]) (build1 hw) rfl (leB rfl) kk) ?_
  refine lift (fun _ kk => r_astore (ls' := [_, _, _, _, _, _, _, _, _, _, _, _, _, _]) i0_112 rfl rfl rfl kk) ?_
  refine lift (fun _ kk => r_aload i0_114 rfl rfl kk) ?_
  refine lift (fun _ kk => r_iload i0_116 rfl kk) ?_
  refine lift (fun _ kk => s0_118 hw (H1 := [_, _]) (starts_m hw [g0] 2 (by decide) (ltB rfl) hL) rfl (leB rfl) kk) ?_
  refine lift (fun _ kk => r_astore (ls' := [_, _, _, _, _, _, _, _, _, _, _, _, _, _]) i0_121 rfl rfl rfl kk) ?_
  refine lift (fun _ kk => r_aload i0_123 rfl rfl kk) ?_
  refine lift (fun _ kk => r_len (n := 2 + 1) i0_125 rfl (by rw [arrF_len]; rfl) kk) ?_
  refine lift (fun _ kk => r_iload i0_126 rfl kk) ?_
  refine lift (fun _ kk => r_iconst i0_128 kk) ?_
  refine lift (fun _ kk => r_iadd i0_129 kk) ?_
  refine lift (fun _ kk => r_icT i0_130 (XT.ii_eq_t rfl) kk) ?_
  refine lift (fun _ kk => r_aload i0_135 rfl rfl kk) ?_
  refine lift (fun _ kk => r_iconst i0_137 kk) ?_
  refine lift (fun _ kk => r_iload i0_138 rfl kk) ?_
  refine lift (fun _ kk => r_iload i0_140 rfl kk) ?_
  refine lift (fun _ kk => r_iload i0_142 rfl kk) ?_
  refine lift (fun _ kk => r_iload i0_144 rfl kk) ?_
  refine lift (fun _ kk => r_iload i0_146 rfl kk) ?_
  refine lift (fun _ kk => r_iload i0_148 rfl kk) ?_
  refine lift (fun _ kk => s0_150 hw (H1 := [_, _]) (at_in hw (i := 0) (by decide) ⟨by decide, by decide⟩ (arrF_at (by decide)) ((own_fin [g0] 2 0 (by decide) (by decide) hL0).trans (own_bel1 _ _ _ _ _))) rfl (leB rfl) kk) ?_
  refine lift (fun _ kk => r_ifF i0_153 (XT.i0_eq_f (by decide)) kk) ?_
  refine lift (fun _ kk => r_aload i0_156 rfl rfl kk) ?_
  refine lift (fun _ kk => r_iconst i0_158 kk) ?_
  refine lift (fun _ kk => r_iload i0_159 rfl kk) ?_
  refine lift (fun _ kk => r_iload i0_161 rfl kk) ?_
  refine lift (fun _ kk => r_iload i0_163 rfl kk) ?_
  refine lift (fun _ kk => r_iload i0_165 rfl kk) ?_
  refine lift (fun _ kk => r_iload i0_167 rfl kk) ?_
  refine lift (fun _ kk => r_iload i0_169 rfl kk) ?_
  refine lift (fun _ kk => s0_171 hw (H1 := [_, _]) (at_in hw (i := 1) (by decide) ⟨by decide, by decide⟩ (arrF_at (by decide)) ((own_fin [g0] 2 1 (by decide) (by decide) hL0).trans (own_bel1 _ _ _ _ _))) rfl (leB rfl) kk) ?_
  refine lift (fun _ kk => r_ifF i0_174 (XT.i0_eq_f (by decide)) kk) ?_
  refine lift (fun _ kk => r_aload i0_177 rfl rfl kk) ?_
  refine lift (fun _ kk => r_iconst i0_179 kk) ?_
  refine lift (fun _ kk => r_iload i0_180 rfl kk) ?_
  refine lift (fun _ kk => r_iload i0_182 rfl kk) ?_
  refine lift (fun _ kk => r_iload i0_184 rfl kk) ?_
  refine lift (fun _ kk => r_iload i0_186 rfl kk) ?_
  refine lift (fun _ kk => r_iload i0_188 rfl kk) ?_
  refine lift (fun _ kk => r_iload i0_190 rfl kk) ?_
  refine lift (fun _ kk => s0_192 hw (H1 := [_, _]) (at_in hw (i := 2) (by decide) ⟨by decide, by decide⟩ (arrF_at (by decide)) ((own_fin [g0] 2 2 (by decide) (by decide) hL0).trans (own_bel1 _ _ _ _ _))) rfl (leB rfl) kk) ?_
  refine lift (fun _ kk => r_ifF i0_195 (XT.i0_eq_f (by decide)) kk) ?_
  refine lift (fun _ kk => r_aload i0_198 rfl rfl kk) ?_
  refine lift (fun _ kk => r_iconst i0_200 kk) ?_
  refine lift (fun _ kk => r_iload i0_201 rfl kk) ?_
  refine lift (fun _ kk => r_iload i0_203 rfl kk) ?_
  refine lift (fun _ kk => r_iload i0_205 rfl kk) ?_
  refine lift (fun _ kk => r_iload i0_207 rfl kk) ?_
  refine lift (fun _ kk => r_iload i0_209 rfl kk) ?_
  refine lift (fun _ kk => r_iload i0_211 rfl kk) ?_
  refine lift (fun _ kk => s0_213 hw (H1 := [_, _]) (at_out hw (by decide)) rfl (leB rfl) kk) ?_
  refine lift (fun _ kk => r_ifF i0_216 (XT.i0_eq_f (by decide)) kk) ?_
  refine lift (fun _ kk => r_aload i0_219 rfl rfl kk) ?_
  refine lift (fun _ kk => r_iconst i0_221 kk) ?_
  refine lift (fun _ kk => r_iload i0_222 rfl kk) ?_
  refine lift (fun _ kk => r_iload i0_224 rfl kk) ?_
  refine lift (fun _ kk => r_iload i0_226 rfl kk) ?_
  refine lift (fun _ kk => r_iload i0_228 rfl kk) ?_
  refine lift (fun _ kk => r_iload i0_230 rfl kk) ?_
  refine lift (fun _ kk => r_iload i0_232 rfl kk) ?_
  refine lift (fun _ kk => s0_234 hw (H1 := [_, _]) (at_out hw (by decide)) rfl (leB rfl) kk) ?_
  refine lift (fun _ kk => r_ifF i0_237 (XT.i0_eq_f (by decide)) kk) ?_
  refine lift (fun _ kk => r_iconst i0_240 kk) ?_
  refine lift (fun _ kk => r_goto i0_241 kk) ?_
  exact ⟨_, r_zreturn i0_245 rfl (by first | decide | simp), leB rfl, own_sz _ (leB rfl) (by decide)⟩
set_option maxHeartbeats 4000000 in
theorem fin22 {l : Launch} {Z : State} {a0 : Array Value} {n0 : Nat} (hw : HW Z a0) (p0 p1 p2 p3 p4 p5 g0 g1 g2 g3 : Int32) (h0 : 0 ≤ g0.toInt ∧ g0.toInt < 2) (h1 : 0 ≤ g1.toInt ∧ g1.toInt < 2) : RunsB K l Z n0 m0 99 [.val (.int p0), .val (.int p1), .val (.int p2), .val (.int p3), .val (.int p4), .val (.int p5), .val (.int 2), .val (.int 2), .val (.int g0), .val (.int g1), .val (.int g2), .val (.int g3), .unset, .unset] [] [] (some (.int 1)) 16 128 := by
  have hL : ∀ g ∈ ([g0, g1] : List Int32), 0 ≤ g.toInt ∧ g.toInt < (2 : Nat) := (allLS h0 (allLS h1 allL0))
  have hL0 : ∀ g ∈ ([g0, g1] : List Int32), 0 ≤ g.toInt := fun g q => (hL g q).1
  refine lift (fun _ kk => r_iload i0_99 rfl kk) ?_
  refine lift (fun _ kk => r_iload i0_101 rfl kk) ?_
  refine lift (fun _ kk => r_iload i0_103 rfl kk) ?_
  refine lift (fun _ kk => r_iload i0_105 rfl kk) ?_
  refine lift (fun _ kk => r_iload i0_107 rfl kk) ?_
  refine lift (fun _ kk => s0_109 hw (H1 := [_]) (build2 hw) rfl (leB rfl) kk) ?_
  refine lift (fun _ kk => r_astore (ls' := [_, _, _, _, _, _, _, _, _, _, _, _, _, _]) i0_112 rfl rfl rfl kk) ?_
  refine lift (fun _ kk => r_aload i0_114 rfl rfl kk) ?_
  refine lift (fun _ kk => r_iload i0_116 rfl kk) ?_
  refine lift (fun _ kk => s0_118 hw (H1 := [_, _]) (starts_m hw [g0, g1] 2 (by decide) (ltB rfl) hL) rfl (leB rfl) kk) ?_
  refine lift (fun _ kk => r_astore (ls' := [_, _, _, _, _, _, _, _, _, _, _, _, _, _]) i0_121 rfl rfl rfl kk) ?_
  refine lift (fun _ kk => r_aload i0_123 rfl rfl kk) ?_
  refine lift (fun _ kk => r_len (n := 2 + 1) i0_125 rfl (by rw [arrF_len]; rfl) kk) ?_
  refine lift (fun _ kk => r_iload i0_126 rfl kk) ?_
  refine lift (fun _ kk => r_iconst i0_128 kk) ?_
  refine lift (fun _ kk => r_iadd i0_129 kk) ?_
  refine lift (fun _ kk => r_icT i0_130 (XT.ii_eq_t rfl) kk) ?_
  refine lift (fun _ kk => r_aload i0_135 rfl rfl kk) ?_
  refine lift (fun _ kk => r_iconst i0_137 kk) ?_
  refine lift (fun _ kk => r_iload i0_138 rfl kk) ?_
  refine lift (fun _ kk => r_iload i0_140 rfl kk) ?_
  refine lift (fun _ kk => r_iload i0_142 rfl kk) ?_
  refine lift (fun _ kk => r_iload i0_144 rfl kk) ?_
  refine lift (fun _ kk => r_iload i0_146 rfl kk) ?_
  refine lift (fun _ kk => r_iload i0_148 rfl kk) ?_
  refine lift (fun _ kk => s0_150 hw (H1 := [_, _]) (at_in hw (i := 0) (by decide) ⟨by decide, by decide⟩ (arrF_at (by decide)) ((own_fin [g0, g1] 2 0 (by decide) (by decide) hL0).trans (own_bel2 _ _ _ _ _))) rfl (leB rfl) kk) ?_
  refine lift (fun _ kk => r_ifF i0_153 (XT.i0_eq_f (by decide)) kk) ?_
  refine lift (fun _ kk => r_aload i0_156 rfl rfl kk) ?_
  refine lift (fun _ kk => r_iconst i0_158 kk) ?_
  refine lift (fun _ kk => r_iload i0_159 rfl kk) ?_
  refine lift (fun _ kk => r_iload i0_161 rfl kk) ?_
  refine lift (fun _ kk => r_iload i0_163 rfl kk) ?_
  refine lift (fun _ kk => r_iload i0_165 rfl kk) ?_
  refine lift (fun _ kk => r_iload i0_167 rfl kk) ?_
  refine lift (fun _ kk => r_iload i0_169 rfl kk) ?_
  refine lift (fun _ kk => s0_171 hw (H1 := [_, _]) (at_in hw (i := 1) (by decide) ⟨by decide, by decide⟩ (arrF_at (by decide)) ((own_fin [g0, g1] 2 1 (by decide) (by decide) hL0).trans (own_bel2 _ _ _ _ _))) rfl (leB rfl) kk) ?_
  refine lift (fun _ kk => r_ifF i0_174 (XT.i0_eq_f (by decide)) kk) ?_
  refine lift (fun _ kk => r_aload i0_177 rfl rfl kk) ?_
  refine lift (fun _ kk => r_iconst i0_179 kk) ?_
  refine lift (fun _ kk => r_iload i0_180 rfl kk) ?_
  refine lift (fun _ kk => r_iload i0_182 rfl kk) ?_
  refine lift (fun _ kk => r_iload i0_184 rfl kk) ?_
  refine lift (fun _ kk => r_iload i0_186 rfl kk) ?_
  refine lift (fun _ kk => r_iload i0_188 rfl kk) ?_
  refine lift (fun _ kk => r_iload i0_190 rfl kk) ?_
  refine lift (fun _ kk => s0_192 hw (H1 := [_, _]) (at_in hw (i := 2) (by decide) ⟨by decide, by decide⟩ (arrF_at (by decide)) ((own_fin [g0, g1] 2 2 (by decide) (by decide) hL0).trans (own_bel2 _ _ _ _ _))) rfl (leB rfl) kk) ?_
  refine lift (fun _ kk => r_ifF i0_195 (XT.i0_eq_f (by decide)) kk) ?_
  refine lift (fun _ kk => r_aload i0_198 rfl rfl kk) ?_
  refine lift (fun _ kk => r_iconst i0_200 kk) ?_
  refine lift (fun _ kk => r_iload i0_201 rfl kk) ?_
  refine lift (fun _ kk => r_iload i0_203 rfl kk) ?_
  refine lift (fun _ kk => r_iload i0_205 rfl kk) ?_
  refine lift (fun _ kk => r_iload i0_207 rfl kk) ?_
  refine lift (fun _ kk => r_iload i0_209 rfl kk) ?_
  refine lift (fun _ kk => r_iload i0_211 rfl kk) ?_
  refine lift (fun _ kk => s0_213 hw (H1 := [_, _]) (at_out hw (by decide)) rfl (leB rfl) kk) ?_
  refine lift (fun _ kk => r_ifF i0_216 (XT.i0_eq_f (by decide)) kk) ?_
  refine lift (fun _ kk => r_aload i0_219 rfl rfl kk) ?_
  refine lift (fun _ kk => r_iconst i0_221 kk) ?_
  refine lift (fun _ kk => r_iload i0_222 rfl kk) ?_
  refine lift (fun _ kk => r_iload i0_224 rfl kk) ?_
  refine lift (fun _ kk => r_iload i0_226 rfl kk) ?_
  refine lift (fun _ kk => r_iload i0_228 rfl kk) ?_
  refine lift (fun _ kk => r_iload i0_230 rfl kk) ?_
  refine lift (fun _ kk => r_iload i0_232 rfl kk) ?_
  refine lift (fun _ kk => s0_234 hw (H1 := [_, _]) (at_out hw (by decide)) rfl (leB rfl) kk) ?_
  refine lift (fun _ kk => r_ifF i0_237 (XT.i0_eq_f (by decide)) kk) ?_
  refine lift (fun _ kk => r_iconst i0_240 kk) ?_
  refine lift (fun _ kk => r_goto i0_241 kk) ?_
  exact ⟨_, r_zreturn i0_245 rfl (by first | decide | simp), leB rfl, own_sz _ (leB rfl) (by decide)⟩
set_option maxHeartbeats 4000000 in
theorem fin23 {l : Launch} {Z : State} {a0 : Array Value} {n0 : Nat} (hw : HW Z a0) (p0 p1 p2 p3 p4 p5 g0 g1 g2 g3 : Int32) (h0 : 0 ≤ g0.toInt ∧ g0.toInt < 2) (h1 : 0 ≤ g1.toInt ∧ g1.toInt < 2) (h2 : 0 ≤ g2.toInt ∧ g2.toInt < 2) : RunsB K l Z n0 m0 99 [.val (.int p0), .val (.int p1), .val (.int p2), .val (.int p3), .val (.int p4), .val (.int p5), .val (.int 2), .val (.int 3), .val (.int g0), .val (.int g1), .val (.int g2), .val (.int g3), .unset, .unset] [] [] (some (.int 1)) 16 128 := by
  have hL : ∀ g ∈ ([g0, g1, g2] : List Int32), 0 ≤ g.toInt ∧ g.toInt < (2 : Nat) := (allLS h0 (allLS h1 (allLS h2 allL0)))
  have hL0 : ∀ g ∈ ([g0, g1, g2] : List Int32), 0 ≤ g.toInt := fun g q => (hL g q).1
  refine lift (fun _ kk => r_iload i0_99 rfl kk) ?_
  refine lift (fun _ kk => r_iload i0_101 rfl kk) ?_
  refine lift (fun _ kk => r_iload i0_103 rfl kk) ?_
  refine lift (fun _ kk => r_iload i0_105 rfl kk) ?_
  refine lift (fun _ kk => r_iload i0_107 rfl kk) ?_
  refine lift (fun _ kk => s0_109 hw (H1 := [_]) (build3 hw) rfl (leB rfl) kk) ?_
  refine lift (fun _ kk => r_astore (ls' := [_, _, _, _, _, _, _, _, _, _, _, _, _, _]) i0_112 rfl rfl rfl kk) ?_
  refine lift (fun _ kk => r_aload i0_114 rfl rfl kk) ?_
  refine lift (fun _ kk => r_iload i0_116 rfl kk) ?_
  refine lift (fun _ kk => s0_118 hw (H1 := [_, _]) (starts_m hw [g0, g1, g2] 2 (by decide) (ltB rfl) hL) rfl (leB rfl) kk) ?_
  refine lift (fun _ kk => r_astore (ls' := [_, _, _, _, _, _, _, _, _, _, _, _, _, _]) i0_121 rfl rfl rfl kk) ?_
  refine lift (fun _ kk => r_aload i0_123 rfl rfl kk) ?_
  refine lift (fun _ kk => r_len (n := 2 + 1) i0_125 rfl (by rw [arrF_len]; rfl) kk) ?_
  refine lift (fun _ kk => r_iload i0_126 rfl kk) ?_
  refine lift (fun _ kk => r_iconst i0_128 kk) ?_
  refine lift (fun _ kk => r_iadd i0_129 kk) ?_
  refine lift (fun _ kk => r_icT i0_130 (XT.ii_eq_t rfl) kk) ?_
  refine lift (fun _ kk => r_aload i0_135 rfl rfl kk) ?_
  refine lift (fun _ kk => r_iconst i0_137 kk) ?_
  refine lift (fun _ kk => r_iload i0_138 rfl kk) ?_
  refine lift (fun _ kk => r_iload i0_140 rfl kk) ?_
  refine lift (fun _ kk => r_iload i0_142 rfl kk) ?_
  refine lift (fun _ kk => r_iload i0_144 rfl kk) ?_
  refine lift (fun _ kk => r_iload i0_146 rfl kk) ?_
  refine lift (fun _ kk => r_iload i0_148 rfl kk) ?_
  refine lift (fun _ kk => s0_150 hw (H1 := [_, _]) (at_in hw (i := 0) (by decide) ⟨by decide, by decide⟩ (arrF_at (by decide)) ((own_fin [g0, g1, g2] 2 0 (by decide) (by decide) hL0).trans (own_bel3 _ _ _ _ _))) rfl (leB rfl) kk) ?_
  refine lift (fun _ kk => r_ifF i0_153 (XT.i0_eq_f (by decide)) kk) ?_
  refine lift (fun _ kk => r_aload i0_156 rfl rfl kk) ?_
  refine lift (fun _ kk => r_iconst i0_158 kk) ?_
  refine lift (fun _ kk => r_iload i0_159 rfl kk) ?_
  refine lift (fun _ kk => r_iload i0_161 rfl kk) ?_
  refine lift (fun _ kk => r_iload i0_163 rfl kk) ?_
  refine lift (fun _ kk => r_iload i0_165 rfl kk) ?_
  refine lift (fun _ kk => r_iload i0_167 rfl kk) ?_
  refine lift (fun _ kk => r_iload i0_169 rfl kk) ?_
  refine lift (fun _ kk => s0_171 hw (H1 := [_, _]) (at_in hw (i := 1) (by decide) ⟨by decide, by decide⟩ (arrF_at (by decide)) ((own_fin [g0, g1, g2] 2 1 (by decide) (by decide) hL0).trans (own_bel3 _ _ _ _ _))) rfl (leB rfl) kk) ?_
  refine lift (fun _ kk => r_ifF i0_174 (XT.i0_eq_f (by decide)) kk) ?_
  refine lift (fun _ kk => r_aload i0_177 rfl rfl kk) ?_
  refine lift (fun _ kk => r_iconst i0_179 kk) ?_
  refine lift (fun _ kk => r_iload i0_180 rfl kk) ?_
  refine lift (fun _ kk => r_iload i0_182 rfl kk) ?_
  refine lift (fun _ kk => r_iload i0_184 rfl kk) ?_
  refine lift (fun _ kk => r_iload i0_186 rfl kk) ?_
  refine lift (fun _ kk => r_iload i0_188 rfl kk) ?_
  refine lift (fun _ kk => r_iload i0_190 rfl kk) ?_
  refine lift (fun _ kk => s0_192 hw (H1 := [_, _]) (at_in hw (i := 2) (by decide) ⟨by decide, by decide⟩ (arrF_at (by decide)) ((own_fin [g0, g1, g2] 2 2 (by decide) (by decide) hL0).trans (own_bel3 _ _ _ _ _))) rfl (leB rfl) kk) ?_
  refine lift (fun _ kk => r_ifF i0_195 (XT.i0_eq_f (by decide)) kk) ?_
  refine lift (fun _ kk => r_aload i0_198 rfl rfl kk) ?_
  refine lift (fun _ kk => r_iconst i0_200 kk) ?_
  refine lift (fun _ kk => r_iload i0_201 rfl kk) ?_
  refine lift (fun _ kk => r_iload i0_203 rfl kk) ?_
  refine lift (fun _ kk => r_iload i0_205 rfl kk) ?_
  refine lift (fun _ kk => r_iload i0_207 rfl kk) ?_
  refine lift (fun _ kk => r_iload i0_209 rfl kk) ?_
  refine lift (fun _ kk => r_iload i0_211 rfl kk) ?_
  refine lift (fun _ kk => s0_213 hw (H1 := [_, _]) (at_out hw (by decide)) rfl (leB rfl) kk) ?_
  refine lift (fun _ kk => r_ifF i0_216 (XT.i0_eq_f (by decide)) kk) ?_
  refine lift (fun _ kk => r_aload i0_219 rfl rfl kk) ?_
  refine lift (fun _ kk => r_iconst i0_221 kk) ?_
  refine lift (fun _ kk => r_iload i0_222 rfl kk) ?_
  refine lift (fun _ kk => r_iload i0_224 rfl kk) ?_
  refine lift (fun _ kk => r_iload i0_226 rfl kk) ?_
  refine lift (fun _ kk => r_iload i0_228 rfl kk) ?_
  refine lift (fun _ kk => r_iload i0_230 rfl kk) ?_
  refine lift (fun _ kk => r_iload i0_232 rfl kk) ?_
  refine lift (fun _ kk => s0_234 hw (H1 := [_, _]) (at_out hw (by decide)) rfl (leB rfl) kk) ?_
  refine lift (fun _ kk => r_ifF i0_237 (XT.i0_eq_f (by decide)) kk) ?_
  refine lift (fun _ kk => r_iconst i0_240 kk) ?_
  refine lift (fun _ kk => r_goto i0_241 kk) ?_
  exact ⟨_, r_zreturn i0_245 rfl (by first | decide | simp), leB rfl, own_sz _ (leB rfl) (by decide)⟩
set_option maxHeartbeats 4000000 in
theorem fin24 {l : Launch} {Z : State} {a0 : Array Value} {n0 : Nat} (hw : HW Z a0) (p0 p1 p2 p3 p4 p5 g0 g1 g2 g3 : Int32) (h0 : 0 ≤ g0.toInt ∧ g0.toInt < 2) (h1 : 0 ≤ g1.toInt ∧ g1.toInt < 2) (h2 : 0 ≤ g2.toInt ∧ g2.toInt < 2) (h3 : 0 ≤ g3.toInt ∧ g3.toInt < 2) : RunsB K l Z n0 m0 99 [.val (.int p0), .val (.int p1), .val (.int p2), .val (.int p3), .val (.int p4), .val (.int p5), .val (.int 2), .val (.int 4), .val (.int g0), .val (.int g1), .val (.int g2), .val (.int g3), .unset, .unset] [] [] (some (.int 1)) 16 128 := by
  have hL : ∀ g ∈ ([g0, g1, g2, g3] : List Int32), 0 ≤ g.toInt ∧ g.toInt < (2 : Nat) := (allLS h0 (allLS h1 (allLS h2 (allLS h3 allL0))))
  have hL0 : ∀ g ∈ ([g0, g1, g2, g3] : List Int32), 0 ≤ g.toInt := fun g q => (hL g q).1
  refine lift (fun _ kk => r_iload i0_99 rfl kk) ?_
  refine lift (fun _ kk => r_iload i0_101 rfl kk) ?_
  refine lift (fun _ kk => r_iload i0_103 rfl kk) ?_
  refine lift (fun _ kk => r_iload i0_105 rfl kk) ?_
  refine lift (fun _ kk => r_iload i0_107 rfl kk) ?_
  refine lift (fun _ kk => s0_109 hw (H1 := [_]) (build4 hw) rfl (leB rfl) kk) ?_
  refine lift (fun _ kk => r_astore (ls' := [_, _, _, _, _, _, _, _, _, _, _, _, _, _]) i0_112 rfl rfl rfl kk) ?_
  refine lift (fun _ kk => r_aload i0_114 rfl rfl kk) ?_
  refine lift (fun _ kk => r_iload i0_116 rfl kk) ?_
  refine lift (fun _ kk => s0_118 hw (H1 := [_, _]) (starts_m hw [g0, g1, g2, g3] 2 (by decide) (ltB rfl) hL) rfl (leB rfl) kk) ?_
  refine lift (fun _ kk => r_astore (ls' := [_, _, _, _, _, _, _, _, _, _, _, _, _, _]) i0_121 rfl rfl rfl kk) ?_
  refine lift (fun _ kk => r_aload i0_123 rfl rfl kk) ?_
  refine lift (fun _ kk => r_len (n := 2 + 1) i0_125 rfl (by rw [arrF_len]; rfl) kk) ?_
  refine lift (fun _ kk => r_iload i0_126 rfl kk) ?_
  refine lift (fun _ kk => r_iconst i0_128 kk) ?_
  refine lift (fun _ kk => r_iadd i0_129 kk) ?_
  refine lift (fun _ kk => r_icT i0_130 (XT.ii_eq_t rfl) kk) ?_
  refine lift (fun _ kk => r_aload i0_135 rfl rfl kk) ?_
  refine lift (fun _ kk => r_iconst i0_137 kk) ?_
  refine lift (fun _ kk => r_iload i0_138 rfl kk) ?_
  refine lift (fun _ kk => r_iload i0_140 rfl kk) ?_
  refine lift (fun _ kk => r_iload i0_142 rfl kk) ?_
  refine lift (fun _ kk => r_iload i0_144 rfl kk) ?_
  refine lift (fun _ kk => r_iload i0_146 rfl kk) ?_
  refine lift (fun _ kk => r_iload i0_148 rfl kk) ?_
  refine lift (fun _ kk => s0_150 hw (H1 := [_, _]) (at_in hw (i := 0) (by decide) ⟨by decide, by decide⟩ (arrF_at (by decide)) ((own_fin [g0, g1, g2, g3] 2 0 (by decide) (by decide) hL0).trans (own_bel4 _ _ _ _ _))) rfl (leB rfl) kk) ?_
  refine lift (fun _ kk => r_ifF i0_153 (XT.i0_eq_f (by decide)) kk) ?_
  refine lift (fun _ kk => r_aload i0_156 rfl rfl kk) ?_
  refine lift (fun _ kk => r_iconst i0_158 kk) ?_
  refine lift (fun _ kk => r_iload i0_159 rfl kk) ?_
  refine lift (fun _ kk => r_iload i0_161 rfl kk) ?_
  refine lift (fun _ kk => r_iload i0_163 rfl kk) ?_
  refine lift (fun _ kk => r_iload i0_165 rfl kk) ?_
  refine lift (fun _ kk => r_iload i0_167 rfl kk) ?_
  refine lift (fun _ kk => r_iload i0_169 rfl kk) ?_
  refine lift (fun _ kk => s0_171 hw (H1 := [_, _]) (at_in hw (i := 1) (by decide) ⟨by decide, by decide⟩ (arrF_at (by decide)) ((own_fin [g0, g1, g2, g3] 2 1 (by decide) (by decide) hL0).trans (own_bel4 _ _ _ _ _))) rfl (leB rfl) kk) ?_
  refine lift (fun _ kk => r_ifF i0_174 (XT.i0_eq_f (by decide)) kk) ?_
  refine lift (fun _ kk => r_aload i0_177 rfl rfl kk) ?_
  refine lift (fun _ kk => r_iconst i0_179 kk) ?_
  refine lift (fun _ kk => r_iload i0_180 rfl kk) ?_
  refine lift (fun _ kk => r_iload i0_182 rfl kk) ?_
  refine lift (fun _ kk => r_iload i0_184 rfl kk) ?_
  refine lift (fun _ kk => r_iload i0_186 rfl kk) ?_
  refine lift (fun _ kk => r_iload i0_188 rfl kk) ?_
  refine lift (fun _ kk => r_iload i0_190 rfl kk) ?_
  refine lift (fun _ kk => s0_192 hw (H1 := [_, _]) (at_in hw (i := 2) (by decide) ⟨by decide, by decide⟩ (arrF_at (by decide)) ((own_fin [g0, g1, g2, g3] 2 2 (by decide) (by decide) hL0).trans (own_bel4 _ _ _ _ _))) rfl (leB rfl) kk) ?_
  refine lift (fun _ kk => r_ifF i0_195 (XT.i0_eq_f (by decide)) kk) ?_
  refine lift (fun _ kk => r_aload i0_198 rfl rfl kk) ?_
  refine lift (fun _ kk => r_iconst i0_200 kk) ?_
  refine lift (fun _ kk => r_iload i0_201 rfl kk) ?_
  refine lift (fun _ kk => r_iload i0_203 rfl kk) ?_
  refine lift (fun _ kk => r_iload i0_205 rfl kk) ?_
  refine lift (fun _ kk => r_iload i0_207 rfl kk) ?_
  refine lift (fun _ kk => r_iload i0_209 rfl kk) ?_
  refine lift (fun _ kk => r_iload i0_211 rfl kk) ?_
  refine lift (fun _ kk => s0_213 hw (H1 := [_, _]) (at_out hw (by decide)) rfl (leB rfl) kk) ?_
  refine lift (fun _ kk => r_ifF i0_216 (XT.i0_eq_f (by decide)) kk) ?_
  refine lift (fun _ kk => r_aload i0_219 rfl rfl kk) ?_
  refine lift (fun _ kk => r_iconst i0_221 kk) ?_
  refine lift (fun _ kk => r_iload i0_222 rfl kk) ?_
  refine lift (fun _ kk => r_iload i0_224 rfl kk) ?_
  refine lift (fun _ kk => r_iload i0_226 rfl kk) ?_
  refine lift (fun _ kk => r_iload i0_228 rfl kk) ?_
  refine lift (fun _ kk => r_iload i0_230 rfl kk) ?_
  refine lift (fun _ kk => r_iload i0_232 rfl kk) ?_
  refine lift (fun _ kk => s0_234 hw (H1 := [_, _]) (at_out hw (by decide)) rfl (leB rfl) kk) ?_
  refine lift (fun _ kk => r_ifF i0_237 (XT.i0_eq_f (by decide)) kk) ?_
  refine lift (fun _ kk => r_iconst i0_240 kk) ?_
  refine lift (fun _ kk => r_goto i0_241 kk) ?_
  exact ⟨_, r_zreturn i0_245 rfl (by first | decide | simp), leB rfl, own_sz _ (leB rfl) (by decide)⟩
set_option maxHeartbeats 4000000 in
theorem fin30 {l : Launch} {Z : State} {a0 : Array Value} {n0 : Nat} (hw : HW Z a0) (p0 p1 p2 p3 p4 p5 g0 g1 g2 g3 : Int32)  : RunsB K l Z n0 m0 99 [.val (.int p0), .val (.int p1), .val (.int p2), .val (.int p3), .val (.int p4), .val (.int p5), .val (.int 3), .val (.int 0), .val (.int g0), .val (.int g1), .val (.int g2), .val (.int g3), .unset, .unset] [] [] (some (.int 1)) 16 128 := by
  have hL : ∀ g ∈ ([] : List Int32), 0 ≤ g.toInt ∧ g.toInt < (3 : Nat) := allL0
  have hL0 : ∀ g ∈ ([] : List Int32), 0 ≤ g.toInt := fun g q => (hL g q).1
  refine lift (fun _ kk => r_iload i0_99 rfl kk) ?_
  refine lift (fun _ kk => r_iload i0_101 rfl kk) ?_
  refine lift (fun _ kk => r_iload i0_103 rfl kk) ?_
  refine lift (fun _ kk => r_iload i0_105 rfl kk) ?_
  refine lift (fun _ kk => r_iload i0_107 rfl kk) ?_
  refine lift (fun _ kk => s0_109 hw (H1 := [_]) (build0 hw) rfl (leB rfl) kk) ?_
  refine lift (fun _ kk => r_astore (ls' := [_, _, _, _, _, _, _, _, _, _, _, _, _, _]) i0_112 rfl rfl rfl kk) ?_
  refine lift (fun _ kk => r_aload i0_114 rfl rfl kk) ?_
  refine lift (fun _ kk => r_iload i0_116 rfl kk) ?_
  refine lift (fun _ kk => s0_118 hw (H1 := [_, _]) (starts_m hw [] 3 (by decide) (ltB rfl) hL) rfl (leB rfl) kk) ?_
  refine lift (fun _ kk => r_astore (ls' := [_, _, _, _, _, _, _, _, _, _, _, _, _, _]) i0_121 rfl rfl rfl kk) ?_
  refine lift (fun _ kk => r_aload i0_123 rfl rfl kk) ?_
  refine lift (fun _ kk => r_len (n := 3 + 1) i0_125 rfl (by rw [arrF_len]; rfl) kk) ?_
  refine lift (fun _ kk => r_iload i0_126 rfl kk) ?_
  refine lift (fun _ kk => r_iconst i0_128 kk) ?_
  refine lift (fun _ kk => r_iadd i0_129 kk) ?_
  refine lift (fun _ kk => r_icT i0_130 (XT.ii_eq_t rfl) kk) ?_
  refine lift (fun _ kk => r_aload i0_135 rfl rfl kk) ?_
  refine lift (fun _ kk => r_iconst i0_137 kk) ?_
  refine lift (fun _ kk => r_iload i0_138 rfl kk) ?_
  refine lift (fun _ kk => r_iload i0_140 rfl kk) ?_
  refine lift (fun _ kk => r_iload i0_142 rfl kk) ?_
  refine lift (fun _ kk => r_iload i0_144 rfl kk) ?_
  refine lift (fun _ kk => r_iload i0_146 rfl kk) ?_
  refine lift (fun _ kk => r_iload i0_148 rfl kk) ?_
  refine lift (fun _ kk => s0_150 hw (H1 := [_, _]) (at_in hw (i := 0) (by decide) ⟨by decide, by decide⟩ (arrF_at (by decide)) ((own_fin [] 3 0 (by decide) (by decide) hL0).trans (own_bel0 _ _ _ _ _))) rfl (leB rfl) kk) ?_
  refine lift (fun _ kk => r_ifF i0_153 (XT.i0_eq_f (by decide)) kk) ?_
  refine lift (fun _ kk => r_aload i0_156 rfl rfl kk) ?_
  refine lift (fun _ kk => r_iconst i0_158 kk) ?_
  refine lift (fun _ kk => r_iload i0_159 rfl kk) ?_
  refine lift (fun _ kk => r_iload i0_161 rfl kk) ?_
  refine lift (fun _ kk => r_iload i0_163 rfl kk) ?_
  refine lift (fun _ kk => r_iload i0_165 rfl kk) ?_
  refine lift (fun _ kk => r_iload i0_167 rfl kk) ?_
  refine lift (fun _ kk => r_iload i0_169 rfl kk) ?_
  refine lift (fun _ kk => s0_171 hw (H1 := [_, _]) (at_in hw (i := 1) (by decide) ⟨by decide, by decide⟩ (arrF_at (by decide)) ((own_fin [] 3 1 (by decide) (by decide) hL0).trans (own_bel0 _ _ _ _ _))) rfl (leB rfl) kk) ?_
  refine lift (fun _ kk => r_ifF i0_174 (XT.i0_eq_f (by decide)) kk) ?_
  refine lift (fun _ kk => r_aload i0_177 rfl rfl kk) ?_
  refine lift (fun _ kk => r_iconst i0_179 kk) ?_
  refine lift (fun _ kk => r_iload i0_180 rfl kk) ?_
  refine lift (fun _ kk => r_iload i0_182 rfl kk) ?_
  refine lift (fun _ kk => r_iload i0_184 rfl kk) ?_
  refine lift (fun _ kk => r_iload i0_186 rfl kk) ?_
  refine lift (fun _ kk => r_iload i0_188 rfl kk) ?_
  refine lift (fun _ kk => r_iload i0_190 rfl kk) ?_
  refine lift (fun _ kk => s0_192 hw (H1 := [_, _]) (at_in hw (i := 2) (by decide) ⟨by decide, by decide⟩ (arrF_at (by decide)) ((own_fin [] 3 2 (by decide) (by decide) hL0).trans (own_bel0 _ _ _ _ _))) rfl (leB rfl) kk) ?_
  refine lift (fun _ kk => r_ifF i0_195 (XT.i0_eq_f (by decide)) kk) ?_
  refine lift (fun _ kk => r_aload i0_198 rfl rfl kk) ?_
  refine lift (fun _ kk => r_iconst i0_200 kk) ?_
  refine lift (fun _ kk => r_iload i0_201 rfl kk) ?_
  refine lift (fun _ kk => r_iload i0_203 rfl kk) ?_
  refine lift (fun _ kk => r_iload i0_205 rfl kk) ?_
  refine lift (fun _ kk => r_iload i0_207 rfl kk) ?_
  refine lift (fun _ kk => r_iload i0_209 rfl kk) ?_
  refine lift (fun _ kk => r_iload i0_211 rfl kk) ?_
  refine lift (fun _ kk => s0_213 hw (H1 := [_, _]) (at_in hw (i := 3) (by decide) ⟨by decide, by decide⟩ (arrF_at (by decide)) ((own_fin [] 3 3 (by decide) (by decide) hL0).trans (own_bel0 _ _ _ _ _))) rfl (leB rfl) kk) ?_
  refine lift (fun _ kk => r_ifF i0_216 (XT.i0_eq_f (by decide)) kk) ?_
  refine lift (fun _ kk => r_aload i0_219 rfl rfl kk) ?_
  refine lift (fun _ kk => r_iconst i0_221 kk) ?_
  refine lift (fun _ kk => r_iload i0_222 rfl kk) ?_
  refine lift (fun _ kk => r_iload i0_224 rfl kk) ?_
  refine lift (fun _ kk => r_iload i0_226 rfl kk) ?_
  refine lift (fun _ kk => r_iload i0_228 rfl kk) ?_
  refine lift (fun _ kk => r_iload i0_230 rfl kk) ?_
  refine lift (fun _ kk => r_iload i0_232 rfl kk) ?_
  refine lift (fun _ kk => s0_234 hw (H1 := [_, _]) (at_out hw (by decide)) rfl (leB rfl) kk) ?_
  refine lift (fun _ kk => r_ifF i0_237 (XT.i0_eq_f (by decide)) kk) ?_
  refine lift (fun _ kk => r_iconst i0_240 kk) ?_
  refine lift (fun _ kk => r_goto i0_241 kk) ?_
  exact ⟨_, r_zreturn i0_245 rfl (by first | decide | simp), leB rfl, own_sz _ (leB rfl) (by decide)⟩
set_option maxHeartbeats 4000000 in
theorem fin31 {l : Launch} {Z : State} {a0 : Array Value} {n0 : Nat} (hw : HW Z a0) (p0 p1 p2 p3 p4 p5 g0 g1 g2 g3 : Int32) (h0 : 0 ≤ g0.toInt ∧ g0.toInt < 3) : RunsB K l Z n0 m0 99 [.val (.int p0), .val (.int p1), .val (.int p2), .val (.int p3), .val (.int p4), .val (.int p5), .val (.int 3), .val (.int 1), .val (.int g0), .val (.int g1), .val (.int g2), .val (.int g3), .unset, .unset] [] [] (some (.int 1)) 16 128 := by
  have hL : ∀ g ∈ ([g0] : List Int32), 0 ≤ g.toInt ∧ g.toInt < (3 : Nat) := (allLS h0 allL0)
  have hL0 : ∀ g ∈ ([g0] : List Int32), 0 ≤ g.toInt := fun g q => (hL g q).1
  refine lift (fun _ kk => r_iload i0_99 rfl kk) ?_
  refine lift (fun _ kk => r_iload i0_101 rfl kk) ?_
  refine lift (fun _ kk => r_iload i0_103 rfl kk) ?_
  refine lift (fun _ kk => r_iload i0_105 rfl kk) ?_
  refine lift (fun _ kk => r_iload i0_107 rfl kk) ?_
  refine lift (fun _ kk => s0_109 hw (H1 := [_]) (build1 hw) rfl (leB rfl) kk) ?_
  refine lift (fun _ kk => r_astore (ls' := [_, _, _, _, _, _, _, _, _, _, _, _, _, _]) i0_112 rfl rfl rfl kk) ?_
  refine lift (fun _ kk => r_aload i0_114 rfl rfl kk) ?_
  refine lift (fun _ kk => r_iload i0_116 rfl kk) ?_
  refine lift (fun _ kk => s0_118 hw (H1 := [_, _]) (starts_m hw [g0] 3 (by decide) (ltB rfl) hL) rfl (leB rfl) kk) ?_
  refine lift (fun _ kk => r_astore (ls' := [_, _, _, _, _, _, _, _, _, _, _, _, _, _]) i0_121 rfl rfl rfl kk) ?_
  refine lift (fun _ kk => r_aload i0_123 rfl rfl kk) ?_
  refine lift (fun _ kk => r_len (n := 3 + 1) i0_125 rfl (by rw [arrF_len]; rfl) kk) ?_
  refine lift (fun _ kk => r_iload i0_126 rfl kk) ?_
  refine lift (fun _ kk => r_iconst i0_128 kk) ?_
  refine lift (fun _ kk => r_iadd i0_129 kk) ?_
  refine lift (fun _ kk => r_icT i0_130 (XT.ii_eq_t rfl) kk) ?_
  refine lift (fun _ kk => r_aload i0_135 rfl rfl kk) ?_
  refine lift (fun _ kk => r_iconst i0_137 kk) ?_
  refine lift (fun _ kk => r_iload i0_138 rfl kk) ?_
  refine lift (fun _ kk => r_iload i0_140 rfl kk) ?_
  refine lift (fun _ kk => r_iload i0_142 rfl kk) ?_
  refine lift (fun _ kk => r_iload i0_144 rfl kk) ?_
  refine lift (fun _ kk => r_iload i0_146 rfl kk) ?_
  refine lift (fun _ kk => r_iload i0_148 rfl kk) ?_
  refine lift (fun _ kk => s0_150 hw (H1 := [_, _]) (at_in hw (i := 0) (by decide) ⟨by decide, by decide⟩ (arrF_at (by decide)) ((own_fin [g0] 3 0 (by decide) (by decide) hL0).trans (own_bel1 _ _ _ _ _))) rfl (leB rfl) kk) ?_
  refine lift (fun _ kk => r_ifF i0_153 (XT.i0_eq_f (by decide)) kk) ?_
  refine lift (fun _ kk => r_aload i0_156 rfl rfl kk) ?_
  refine lift (fun _ kk => r_iconst i0_158 kk) ?_
  refine lift (fun _ kk => r_iload i0_159 rfl kk) ?_
  refine lift (fun _ kk => r_iload i0_161 rfl kk) ?_
  refine lift (fun _ kk => r_iload i0_163 rfl kk) ?_
  refine lift (fun _ kk => r_iload i0_165 rfl kk) ?_
  refine lift (fun _ kk => r_iload i0_167 rfl kk) ?_
  refine lift (fun _ kk => r_iload i0_169 rfl kk) ?_
  refine lift (fun _ kk => s0_171 hw (H1 := [_, _]) (at_in hw (i := 1) (by decide) ⟨by decide, by decide⟩ (arrF_at (by decide)) ((own_fin [g0] 3 1 (by decide) (by decide) hL0).trans (own_bel1 _ _ _ _ _))) rfl (leB rfl) kk) ?_
  refine lift (fun _ kk => r_ifF i0_174 (XT.i0_eq_f (by decide)) kk) ?_
  refine lift (fun _ kk => r_aload i0_177 rfl rfl kk) ?_
  refine lift (fun _ kk => r_iconst i0_179 kk) ?_
  refine lift (fun _ kk => r_iload i0_180 rfl kk) ?_
  refine lift (fun _ kk => r_iload i0_182 rfl kk) ?_
  refine lift (fun _ kk => r_iload i0_184 rfl kk) ?_
  refine lift (fun _ kk => r_iload i0_186 rfl kk) ?_
  refine lift (fun _ kk => r_iload i0_188 rfl kk) ?_
  refine lift (fun _ kk => r_iload i0_190 rfl kk) ?_
  refine lift (fun _ kk => s0_192 hw (H1 := [_, _]) (at_in hw (i := 2) (by decide) ⟨by decide, by decide⟩ (arrF_at (by decide)) ((own_fin [g0] 3 2 (by decide) (by decide) hL0).trans (own_bel1 _ _ _ _ _))) rfl (leB rfl) kk) ?_
  refine lift (fun _ kk => r_ifF i0_195 (XT.i0_eq_f (by decide)) kk) ?_
  refine lift (fun _ kk => r_aload i0_198 rfl rfl kk) ?_
  refine lift (fun _ kk => r_iconst i0_200 kk) ?_
  refine lift (fun _ kk => r_iload i0_201 rfl kk) ?_
  refine lift (fun _ kk => r_iload i0_203 rfl kk) ?_
  refine lift (fun _ kk => r_iload i0_205 rfl kk) ?_
  refine lift (fun _ kk => r_iload i0_207 rfl kk) ?_
  refine lift (fun _ kk => r_iload i0_209 rfl kk) ?_
  refine lift (fun _ kk => r_iload i0_211 rfl kk) ?_
  refine lift (fun _ kk => s0_213 hw (H1 := [_, _]) (at_in hw (i := 3) (by decide) ⟨by decide, by decide⟩ (arrF_at (by decide)) ((own_fin [g0] 3 3 (by decide) (by decide) hL0).trans (own_bel1 _ _ _ _ _))) rfl (leB rfl) kk) ?_
  refine lift (fun _ kk => r_ifF i0_216 (XT.i0_eq_f (by decide)) kk) ?_
  refine lift (fun _ kk => r_aload i0_219 rfl rfl kk) ?_
  refine lift (fun _ kk => r_iconst i0_221 kk) ?_
  refine lift (fun _ kk => r_iload i0_222 rfl kk) ?_
  refine lift (fun _ kk => r_iload i0_224 rfl kk) ?_
  refine lift (fun _ kk => r_iload i0_226 rfl kk) ?_
  refine lift (fun _ kk => r_iload i0_228 rfl kk) ?_
  refine lift (fun _ kk => r_iload i0_230 rfl kk) ?_
  refine lift (fun _ kk => r_iload i0_232 rfl kk) ?_
  refine lift (fun _ kk => s0_234 hw (H1 := [_, _]) (at_out hw (by decide)) rfl (leB rfl) kk) ?_
  refine lift (fun _ kk => r_ifF i0_237 (XT.i0_eq_f (by decide)) kk) ?_
  refine lift (fun _ kk => r_iconst i0_240 kk) ?_
  refine lift (fun _ kk => r_goto i0_241 kk) ?_
  exact ⟨_, r_zreturn i0_245 rfl (by first | decide | simp), leB rfl, own_sz _ (leB rfl) (by decide)⟩
set_option maxHeartbeats 4000000 in
theorem fin32 {l : Launch} {Z : State} {a0 : Array Value} {n0 : Nat} (hw : HW Z a0) (p0 p1 p2 p3 p4 p5 g0 g1 g2 g3 : Int32) (h0 : 0 ≤ g0.toInt ∧ g0.toInt < 3) (h1 : 0 ≤ g1.toInt ∧ g1.toInt < 3) : RunsB K l Z n0 m0 99 [.val (.int p0), .val (.int p1), .val (.int p2), .val (.int p3), .val (.int p4), .val (.int p5), .val (.int 3), .val (.int 2), .val (.int g0), .val (.int g1), .val (.int g2), .val (.int g3), .unset, .unset] [] [] (some (.int 1)) 16 128 := by
  have hL : ∀ g ∈ ([g0, g1] : List Int32), 0 ≤ g.toInt ∧ g.toInt < (3 : Nat) := (allLS h0 (allLS h1 allL0))
  have hL0 : ∀ g ∈ ([g0, g1] : List Int32), 0 ≤ g.toInt := fun g q => (hL g q).1
  refine lift (fun _ kk => r_iload i0_99 rfl kk) ?_
  refine lift (fun _ kk => r_iload i0_101 rfl kk) ?_
  refine lift (fun _ kk => r_iload i0_103 rfl kk) ?_
  refine lift (fun _ kk => r_iload i0_105 rfl kk) ?_
  refine lift (fun _ kk => r_iload i0_107 rfl kk) ?_
  refine lift (fun _ kk => s0_109 hw (H1 := [_]) (build2 hw) rfl (leB rfl) kk) ?_
  refine lift (fun _ kk => r_astore (ls' := [_, _, _, _, _, _, _, _, _, _, _, _, _, _]) i0_112 rfl rfl rfl kk) ?_
  refine lift (fun _ kk => r_aload i0_114 rfl rfl kk) ?_
  refine lift (fun _ kk => r_iload i0_116 rfl kk) ?_
  refine lift (fun _ kk => s0_118 hw (H1 := [_, _]) (starts_m hw [g0, g1] 3 (by decide) (ltB rfl) hL) rfl (leB rfl) kk) ?_
  refine lift (fun _ kk => r_astore (ls' := [_, _, _, _, _, _, _, _, _, _, _, _, _, _]) i0_121 rfl rfl rfl kk) ?_
  refine lift (fun _ kk => r_aload i0_123 rfl rfl kk) ?_
  refine lift (fun _ kk => r_len (n := 3 + 1) i0_125 rfl (by rw [arrF_len]; rfl) kk) ?_
  refine lift (fun _ kk => r_iload i0_126 rfl kk) ?_
  refine lift (fun _ kk => r_iconst i0_128 kk) ?_
  refine lift (fun _ kk => r_iadd i0_129 kk) ?_
  refine lift (fun _ kk => r_icT i0_130 (XT.ii_eq_t rfl) kk) ?_
  refine lift (fun _ kk => r_aload i0_135 rfl rfl kk) ?_
  refine lift (fun _ kk => r_iconst i0_137 kk) ?_
  refine lift (fun _ kk => r_iload i0_138 rfl kk) ?_
  refine lift (fun _ kk => r_iload i0_140 rfl kk) ?_
  refine lift (fun _ kk => r_iload i0_142 rfl kk) ?_
  refine lift (fun _ kk => r_iload i0_144 rfl kk) ?_
  refine lift (fun _ kk => r_iload i0_146 rfl kk) ?_
  refine lift (fun _ kk => r_iload i0_148 rfl kk) ?_
  refine lift (fun _ kk => s0_150 hw (H1 := [_, _]) (at_in hw (i := 0) (by decide) ⟨by decide, by decide⟩ (arrF_at (by decide)) ((own_fin [g0, g1] 3 0 (by decide) (by decide) hL0).trans (own_bel2 _ _ _ _ _))) rfl (leB rfl) kk) ?_
  refine lift (fun _ kk => r_ifF i0_153 (XT.i0_eq_f (by decide)) kk) ?_
  refine lift (fun _ kk => r_aload i0_156 rfl rfl kk) ?_
  refine lift (fun _ kk => r_iconst i0_158 kk) ?_
  refine lift (fun _ kk => r_iload i0_159 rfl kk) ?_
  refine lift (fun _ kk => r_iload i0_161 rfl kk) ?_
  refine lift (fun _ kk => r_iload i0_163 rfl kk) ?_
  refine lift (fun _ kk => r_iload i0_165 rfl kk) ?_
  refine lift (fun _ kk => r_iload i0_167 rfl kk) ?_
  refine lift (fun _ kk => r_iload i0_169 rfl kk) ?_
  refine lift (fun _ kk => s0_171 hw (H1 := [_, _]) (at_in hw (i := 1) (by decide) ⟨by decide, by decide⟩ (arrF_at (by decide)) ((own_fin [g0, g1] 3 1 (by decide) (by decide) hL0).trans (own_bel2 _ _ _ _ _))) rfl (leB rfl) kk) ?_
  refine lift (fun _ kk => r_ifF i0_174 (XT.i0_eq_f (by decide)) kk) ?_
  refine lift (fun _ kk => r_aload i0_177 rfl rfl kk) ?_
  refine lift (fun _ kk => r_iconst i0_179 kk) ?_
  refine lift (fun _ kk => r_iload i0_180 rfl kk) ?_
  refine lift (fun _ kk => r_iload i0_182 rfl kk) ?_
  refine lift (fun _ kk => r_iload i0_184 rfl kk) ?_
  refine lift (fun _ kk => r_iload i0_186 rfl kk) ?_
  refine lift (fun _ kk => r_iload i0_188 rfl kk) ?_
  refine lift (fun _ kk => r_iload i0_190 rfl kk) ?_
  refine lift (fun _ kk => s0_192 hw (H1 := [_, _]) (at_in hw (i := 2) (by decide) ⟨by decide, by decide⟩ (arrF_at (by decide)) ((own_fin [g0, g1] 3 2 (by decide) (by decide) hL0).trans (own_bel2 _ _ _ _ _))) rfl (leB rfl) kk) ?_
  refine lift (fun _ kk => r_ifF i0_195 (XT.i0_eq_f (by decide)) kk) ?_
  refine lift (fun _ kk => r_aload i0_198 rfl rfl kk) ?_
  refine lift (fun _ kk => r_iconst i0_200 kk) ?_
  refine lift (fun _ kk => r_iload i0_201 rfl kk) ?_
  refine lift (fun _ kk => r_iload i0_203 rfl kk) ?_
  refine lift (fun _ kk => r_iload i0_205 rfl kk) ?_
  refine lift (fun _ kk => r_iload i0_207 rfl kk) ?_
  refine lift (fun _ kk => r_iload i0_209 rfl kk) ?_
  refine lift (fun _ kk => r_iload i0_211 rfl kk) ?_
  refine lift (fun _ kk => s0_213 hw (H1 := [_, _]) (at_in hw (i := 3) (by decide) ⟨by decide, by decide⟩ (arrF_at (by decide)) ((own_fin [g0, g1] 3 3 (by decide) (by decide) hL0).trans (own_bel2 _ _ _ _ _))) rfl (leB rfl) kk) ?_
  refine lift (fun _ kk => r_ifF i0_216 (XT.i0_eq_f (by decide)) kk) ?_
  refine lift (fun _ kk => r_aload i0_219 rfl rfl kk) ?_
  refine lift (fun _ kk => r_iconst i0_221 kk) ?_
  refine lift (fun _ kk => r_iload i0_222 rfl kk) ?_
  refine lift (fun _ kk => r_iload i0_224 rfl kk) ?_
  refine lift (fun _ kk => r_iload i0_226 rfl kk) ?_
  refine lift (fun _ kk => r_iload i0_228 rfl kk) ?_
  refine lift (fun _ kk => r_iload i0_230 rfl kk) ?_
  refine lift (fun _ kk => r_iload i0_232 rfl kk) ?_
  refine lift (fun _ kk => s0_234 hw (H1 := [_, _]) (at_out hw (by decide)) rfl (leB rfl) kk) ?_
  refine lift (fun _ kk => r_ifF i0_237 (XT.i0_eq_f (by decide)) kk) ?_
  refine lift (fun _ kk => r_iconst i0_240 kk) ?_
  refine lift (fun _ kk => r_goto i0_241 kk) ?_
  exact ⟨_, r_zreturn i0_245 rfl (by first | decide | simp), leB rfl, own_sz _ (leB rfl) (by decide)⟩
set_option maxHeartbeats 4000000 in
theorem fin33 {l : Launch} {Z : State} {a0 : Array Value} {n0 : Nat} (hw : HW Z a0) (p0 p1 p2 p3 p4 p5 g0 g1 g2 g3 : Int32) (h0 : 0 ≤ g0.toInt ∧ g0.toInt < 3) (h1 : 0 ≤ g1.toInt ∧ g1.toInt < 3) (h2 : 0 ≤ g2.toInt ∧ g2.toInt < 3) : RunsB K l Z n0 m0 99 [.val (.int p0), .val (.int p1), .val (.int p2), .val (.int p3), .val (.int p4), .val (.int p5), .val (.int 3), .val (.int 3), .val (.int g0), .val (.int g1), .val (.int g2), .val (.int g3), .unset, .unset] [] [] (some (.int 1)) 16 128 := by
  have hL : ∀ g ∈ ([g0, g1, g2] : List Int32), 0 ≤ g.toInt ∧ g.toInt < (3 : Nat) := (allLS h0 (allLS h1 (allLS h2 allL0)))
  have hL0 : ∀ g ∈ ([g0, g1, g2] : List Int32), 0 ≤ g.toInt := fun g q => (hL g q).1
  refine lift (fun _ kk => r_iload i0_99 rfl kk) ?_
  refine lift (fun _ kk => r_iload i0_101 rfl kk) ?_
  refine lift (fun _ kk => r_iload i0_103 rfl kk) ?_
  refine lift (fun _ kk => r_iload i0_105 rfl kk) ?_
  refine lift (fun _ kk => r_iload i0_107 rfl kk) ?_
  refine lift (fun _ kk => s0_109 hw (H1 := [_]) (build3 hw) rfl (leB rfl) kk) ?_
  refine lift (fun _ kk => r_astore (ls' := [_, _, _, _, _, _, _, _, _, _, _, _, _, _]) i0_112 rfl rfl rfl kk) ?_
  refine lift (fun _ kk => r_aload i0_114 rfl rfl kk) ?_
  refine lift (fun _ kk => r_iload i0_116 rfl kk) ?_
  refine lift (fun _ kk => s0_118 hw (H1 := [_, _]) (starts_m hw [g0, g1, g2] 3 (by decide) (ltB rfl) hL) rfl (leB rfl) kk) ?_
  refine lift (fun _ kk => r_astore (ls' := [_, _, _, _, _, _, _, _, _, _, _, _, _, _]) i0_121 rfl rfl rfl kk) ?_
  refine lift (fun _ kk => r_aload i0_123 rfl rfl kk) ?_
  refine lift (fun _ kk => r_len (n := 3 + 1) i0_125 rfl (by rw [arrF_len]; rfl) kk) ?_
  refine lift (fun _ kk => r_iload i0_126 rfl kk) ?_
  refine lift (fun _ kk => r_iconst i0_128 kk) ?_
  refine lift (fun _ kk => r_iadd i0_129 kk) ?_
  refine lift (fun _ kk => r_icT i0_130 (XT.ii_eq_t rfl) kk) ?_
  refine lift (fun _ kk => r_aload i0_135 rfl rfl kk) ?_
  refine lift (fun _ kk => r_iconst i0_137 kk) ?_
  refine lift (fun _ kk => r_iload i0_138 rfl kk) ?_
  refine lift (fun _ kk => r_iload i0_140 rfl kk) ?_
  refine lift (fun _ kk => r_iload i0_142 rfl kk) ?_
  refine lift (fun _ kk => r_iload i0_144 rfl kk) ?_
  refine lift (fun _ kk => r_iload i0_146 rfl kk) ?_
  refine lift (fun _ kk => r_iload i0_148 rfl kk) ?_
  refine lift (fun _ kk => s0_150 hw (H1 := [_, _]) (at_in hw (i := 0) (by decide) ⟨by decide, by decide⟩ (arrF_at (by decide)) ((own_fin [g0, g1, g2] 3 0 (by decide) (by decide) hL0).trans (own_bel3 _ _ _ _ _))) rfl (leB rfl) kk) ?_
  refine lift (fun _ kk => r_ifF i0_153 (XT.i0_eq_f (by decide)) kk) ?_
  refine lift (fun _ kk => r_aload i0_156 rfl rfl kk) ?_
  refine lift (fun _ kk => r_iconst i0_158 kk) ?_
  refine lift (fun _ kk => r_iload i0_159 rfl kk) ?_
  refine lift (fun _ kk => r_iload i0_161 rfl kk) ?_
  refine lift (fun _ kk => r_iload i0_163 rfl kk) ?_
  refine lift (fun _ kk => r_iload i0_165 rfl kk) ?_
  refine lift (fun _ kk => r_iload i0_167 rfl kk) ?_
  refine lift (fun _ kk => r_iload i0_169 rfl kk) ?_
  refine lift (fun _ kk => s0_171 hw (H1 := [_, _]) (at_in hw (i := 1) (by decide) ⟨by decide, by decide⟩ (arrF_at (by decide)) ((own_fin [g0, g1, g2] 3 1 (by decide) (by decide) hL0).trans (own_bel3 _ _ _ _ _))) rfl (leB rfl) kk) ?_
  refine lift (fun _ kk => r_ifF i0_174 (XT.i0_eq_f (by decide)) kk) ?_
  refine lift (fun _ kk => r_aload i0_177 rfl rfl kk) ?_
  refine lift (fun _ kk => r_iconst i0_179 kk) ?_
  refine lift (fun _ kk => r_iload i0_180 rfl kk) ?_
  refine lift (fun _ kk => r_iload i0_182 rfl kk) ?_
  refine lift (fun _ kk => r_iload i0_184 rfl kk) ?_
  refine lift (fun _ kk => r_iload i0_186 rfl kk) ?_
  refine lift (fun _ kk => r_iload i0_188 rfl kk) ?_
  refine lift (fun _ kk => r_iload i0_190 rfl kk) ?_
  refine lift (fun _ kk => s0_192 hw (H1 := [_, _]) (at_in hw (i := 2) (by decide) ⟨by decide, by decide⟩ (arrF_at (by decide)) ((own_fin [g0, g1, g2] 3 2 (by decide) (by decide) hL0).trans (own_bel3 _ _ _ _ _))) rfl (leB rfl) kk) ?_
  refine lift (fun _ kk => r_ifF i0_195 (XT.i0_eq_f (by decide)) kk) ?_
  refine lift (fun _ kk => r_aload i0_198 rfl rfl kk) ?_
  refine lift (fun _ kk => r_iconst i0_200 kk) ?_
  refine lift (fun _ kk => r_iload i0_201 rfl kk) ?_
  refine lift (fun _ kk => r_iload i0_203 rfl kk) ?_
  refine lift (fun _ kk => r_iload i0_205 rfl kk) ?_
  refine lift (fun _ kk => r_iload i0_207 rfl kk) ?_
  refine lift (fun _ kk => r_iload i0_209 rfl kk) ?_
  refine lift (fun _ kk => r_iload i0_211 rfl kk) ?_
  refine lift (fun _ kk => s0_213 hw (H1 := [_, _]) (at_in hw (i := 3) (by decide) ⟨by decide, by decide⟩ (arrF_at (by decide)) ((own_fin [g0, g1, g2] 3 3 (by decide) (by decide) hL0).trans (own_bel3 _ _ _ _ _))) rfl (leB rfl) kk) ?_
  refine lift (fun _ kk => r_ifF i0_216 (XT.i0_eq_f (by decide)) kk) ?_
  refine lift (fun _ kk => r_aload i0_219 rfl rfl kk) ?_
  refine lift (fun _ kk => r_iconst i0_221 kk) ?_
  refine lift (fun _ kk => r_iload i0_222 rfl kk) ?_
  refine lift (fun _ kk => r_iload i0_224 rfl kk) ?_
  refine lift (fun _ kk => r_iload i0_226 rfl kk) ?_
  refine lift (fun _ kk => r_iload i0_228 rfl kk) ?_
  refine lift (fun _ kk => r_iload i0_230 rfl kk) ?_
  refine lift (fun _ kk => r_iload i0_232 rfl kk) ?_
  refine lift (fun _ kk => s0_234 hw (H1 := [_, _]) (at_out hw (by decide)) rfl (leB rfl) kk) ?_
  refine lift (fun _ kk => r_ifF i0_237 (XT.i0_eq_f (by decide)) kk) ?_
  refine lift (fun _ kk => r_iconst i0_240 kk) ?_
  refine lift (fun _ kk => r_goto i0_241 kk) ?_
  exact ⟨_, r_zreturn i0_245 rfl (by first | decide | simp), leB rfl, own_sz _ (leB rfl) (by decide)⟩
set_option maxHeartbeats 4000000 in
theorem fin34 {l : Launch} {Z : State} {a0 : Array Value} {n0 : Nat} (hw : HW Z a0) (p0 p1 p2 p3 p4 p5 g0 g1 g2 g3 : Int32) (h0 : 0 ≤ g0.toInt ∧ g0.toInt < 3) (h1 : 0 ≤ g1.toInt ∧ g1.toInt < 3) (h2 : 0 ≤ g2.toInt ∧ g2.toInt < 3) (h3 : 0 ≤ g3.toInt ∧ g3.toInt < 3) : RunsB K l Z n0 m0 99 [.val (.int p0), .val (.int p1), .val (.int p2), .val (.int p3), .val (.int p4), .val (.int p5), .val (.int 3), .val (.int 4), .val (.int g0), .val (.int g1), .val (.int g2), .val (.int g3), .unset, .unset] [] [] (some (.int 1)) 16 128 := by
  have hL : ∀ g ∈ ([g0, g1, g2, g3] : List Int32), 0 ≤ g.toInt ∧ g.toInt < (3 : Nat) := (allLS h0 (allLS h1 (allLS h2 (allLS h3 allL0))))
  have hL0 : ∀ g ∈ ([g0, g1, g2, g3] : List Int32), 0 ≤ g.toInt := fun g q => (hL g q).1
  refine lift (fun _ kk => r_iload i0_99 rfl kk) ?_
  refine lift (fun _ kk => r_iload i0_101 rfl kk) ?_
  refine lift (fun _ kk => r_iload i0_103 rfl kk) ?_
  refine lift (fun _ kk => r_iload i0_105 rfl kk) ?_
  refine lift (fun _ kk => r_iload i0_107 rfl kk) ?_
  refine lift (fun _ kk => s0_109 hw (H1 := [_]) (build4 hw) rfl (leB rfl) kk) ?_
  refine lift (fun _ kk => r_astore (ls' := [_, _, _, _, _, _, _, _, _, _, _, _, _, _]) i0_112 rfl rfl rfl kk) ?_
  refine lift (fun _ kk => r_aload i0_114 rfl rfl kk) ?_
  refine lift (fun _ kk => r_iload i0_116 rfl kk) ?_
  refine lift (fun _ kk => s0_118 hw (H1 := [_, _]) (starts_m hw [g0, g1, g2, g3] 3 (by decide) (ltB rfl) hL) rfl (leB rfl) kk) ?_
  refine lift (fun _ kk => r_astore (ls' := [_, _, _, _, _, _, _, _, _, _, _, _, _, _]) i0_121 rfl rfl rfl kk) ?_
  refine lift (fun _ kk => r_aload i0_123 rfl rfl kk) ?_
  refine lift (fun _ kk => r_len (n := 3 + 1) i0_125 rfl (by rw [arrF_len]; rfl) kk) ?_
  refine lift (fun _ kk => r_iload i0_126 rfl kk) ?_
  refine lift (fun _ kk => r_iconst i0_128 kk) ?_
  refine lift (fun _ kk => r_iadd i0_129 kk) ?_
  refine lift (fun _ kk => r_icT i0_130 (XT.ii_eq_t rfl) kk) ?_
  refine lift (fun _ kk => r_aload i0_135 rfl rfl kk) ?_
  refine lift (fun _ kk => r_iconst i0_137 kk) ?_
  refine lift (fun _ kk => r_iload i0_138 rfl kk) ?_
  refine lift (fun _ kk => r_iload i0_140 rfl kk) ?_
  refine lift (fun _ kk => r_iload i0_142 rfl kk) ?_
  refine lift (fun _ kk => r_iload i0_144 rfl kk) ?_
  refine lift (fun _ kk => r_iload i0_146 rfl kk) ?_
  refine lift (fun _ kk => r_iload i0_148 rfl kk) ?_
  refine lift (fun _ kk => s0_150 hw (H1 := [_, _]) (at_in hw (i := 0) (by decide) ⟨by decide, by decide⟩ (arrF_at (by decide)) ((own_fin [g0, g1, g2, g3] 3 0 (by decide) (by decide) hL0).trans (own_bel4 _ _ _ _ _))) rfl (leB rfl) kk) ?_
  refine lift (fun _ kk => r_ifF i0_153 (XT.i0_eq_f (by decide)) kk) ?_
  refine lift (fun _ kk => r_aload i0_156 rfl rfl kk) ?_
  refine lift (fun _ kk => r_iconst i0_158 kk) ?_
  refine lift (fun _ kk => r_iload i0_159 rfl kk) ?_
  refine lift (fun _ kk => r_iload i0_161 rfl kk) ?_
  refine lift (fun _ kk => r_iload i0_163 rfl kk) ?_
  refine lift (fun _ kk => r_iload i0_165 rfl kk) ?_
  refine lift (fun _ kk => r_iload i0_167 rfl kk) ?_
  refine lift (fun _ kk => r_iload i0_169 rfl kk) ?_
  refine lift (fun _ kk => s0_171 hw (H1 := [_, _]) (at_in hw (i := 1) (by decide) ⟨by decide, by decide⟩ (arrF_at (by decide)) ((own_fin [g0, g1, g2, g3] 3 1 (by decide) (by decide) hL0).trans (own_bel4 _ _ _ _ _))) rfl (leB rfl) kk) ?_
  refine lift (fun _ kk => r_ifF i0_174 (XT.i0_eq_f (by decide)) kk) ?_
  refine lift (fun _ kk => r_aload i0_177 rfl rfl kk) ?_
  refine lift (fun _ kk => r_iconst i0_179 kk) ?_
  refine lift (fun _ kk => r_iload i0_180 rfl kk) ?_
  refine lift (fun _ kk => r_iload i0_182 rfl kk) ?_
  refine lift (fun _ kk => r_iload i0_184 rfl kk) ?_
  refine lift (fun _ kk => r_iload i0_186 rfl kk) ?_
  refine lift (fun _ kk => r_iload i0_188 rfl kk) ?_
  refine lift (fun _ kk => r_iload i0_190 rfl kk) ?_
  refine lift (fun _ kk => s0_192 hw (H1 := [_, _]) (at_in hw (i := 2) (by decide) ⟨by decide, by decide⟩ (arrF_at (by decide)) ((own_fin [g0, g1, g2, g3] 3 2 (by decide) (by decide) hL0).trans (own_bel4 _ _ _ _ _))) rfl (leB rfl) kk) ?_
  refine lift (fun _ kk => r_ifF i0_195 (XT.i0_eq_f (by decide)) kk) ?_
  refine lift (fun _ kk => r_aload i0_198 rfl rfl kk) ?_
  refine lift (fun _ kk => r_iconst i0_200 kk) ?_
  refine lift (fun _ kk => r_iload i0_201 rfl kk) ?_
  refine lift (fun _ kk => r_iload i0_203 rfl kk) ?_
  refine lift (fun _ kk => r_iload i0_205 rfl kk) ?_
  refine lift (fun _ kk => r_iload i0_207 rfl kk) ?_
  refine lift (fun _ kk => r_iload i0_209 rfl kk) ?_
  refine lift (fun _ kk => r_iload i0_211 rfl kk) ?_
  refine lift (fun _ kk => s0_213 hw (H1 := [_, _]) (at_in hw (i := 3) (by decide) ⟨by decide, by decide⟩ (arrF_at (by decide)) ((own_fin [g0, g1, g2, g3] 3 3 (by decide) (by decide) hL0).trans (own_bel4 _ _ _ _ _))) rfl (leB rfl) kk) ?_
  refine lift (fun _ kk => r_ifF i0_216 (XT.i0_eq_f (by decide)) kk) ?_
  refine lift (fun _ kk => r_aload i0_219 rfl rfl kk) ?_
  refine lift (fun _ kk => r_iconst i0_221 kk) ?_
  refine lift (fun _ kk => r_iload i0_222 rfl kk) ?_
  refine lift (fun _ kk => r_iload i0_224 rfl kk) ?_
  refine lift (fun _ kk => r_iload i0_226 rfl kk) ?_
  refine lift (fun _ kk => r_iload i0_228 rfl kk) ?_
  refine lift (fun _ kk => r_iload i0_230 rfl kk) ?_
  refine lift (fun _ kk => r_iload i0_232 rfl kk) ?_
  refine lift (fun _ kk => s0_234 hw (H1 := [_, _]) (at_out hw (by decide)) rfl (leB rfl) kk) ?_
  refine lift (fun _ kk => r_ifF i0_237 (XT.i0_eq_f (by decide)) kk) ?_
  refine lift (fun _ kk => r_iconst i0_240 kk) ?_
  refine lift (fun _ kk => r_goto i0_241 kk) ?_
  exact ⟨_, r_zreturn i0_245 rfl (by first | decide | simp), leB rfl, own_sz _ (leB rfl) (by decide)⟩
set_option maxHeartbeats 4000000 in
theorem fin40 {l : Launch} {Z : State} {a0 : Array Value} {n0 : Nat} (hw : HW Z a0) (p0 p1 p2 p3 p4 p5 g0 g1 g2 g3 : Int32)  : RunsB K l Z n0 m0 99 [.val (.int p0), .val (.int p1), .val (.int p2), .val (.int p3), .val (.int p4), .val (.int p5), .val (.int 4), .val (.int 0), .val (.int g0), .val (.int g1), .val (.int g2), .val (.int g3), .unset, .unset] [] [] (some (.int 1)) 16 128 := by
  have hL : ∀ g ∈ ([] : List Int32), 0 ≤ g.toInt ∧ g.toInt < (4 : Nat) := allL0
  have hL0 : ∀ g ∈ ([] : List Int32), 0 ≤ g.toInt := fun g q => (hL g q).1
  refine lift (fun _ kk => r_iload i0_99 rfl kk) ?_
  refine lift (fun _ kk => r_iload i0_101 rfl kk) ?_
  refine lift (fun _ kk => r_iload i0_103 rfl kk) ?_
  refine lift (fun _ kk => r_iload i0_105 rfl kk) ?_
  refine lift (fun _ kk => r_iload i0_107 rfl kk) ?_
  refine lift (fun _ kk => s0_109 hw (H1 := [_]) (build0 hw) rfl (leB rfl) kk) ?_
  refine lift (fun _ kk => r_astore (ls' := [_, _, _, _, _, _, _, _, _, _, _, _, _, _]) i0_112 rfl rfl rfl kk) ?_
  refine lift (fun _ kk => r_aload i0_114 rfl rfl kk) ?_
  refine lift (fun _ kk => r_iload i0_116 rfl kk) ?_
  refine lift (fun _ kk => s0_118 hw (H1 := [_, _]) (starts_m hw [] 4 (by decide) (ltB rfl) hL) rfl (leB rfl) kk) ?_
  refine lift (fun _ kk => r_astore (ls' := [_, _, _, _, _, _, _, _, _, _, _, _, _, _]) i0_121 rfl rfl rfl kk) ?_
  refine lift (fun _ kk => r_aload i0_123 rfl rfl kk) ?_
  refine lift (fun _ kk => r_len (n := 4 + 1) i0_125 rfl (by rw [arrF_len]; rfl) kk) ?_
  refine lift (fun _ kk => r_iload i0_126 rfl kk) ?_
  refine lift (fun _ kk => r_iconst i0_128 kk) ?_
  refine lift (fun _ kk => r_iadd i0_129 kk) ?_
  refine lift (fun _ kk => r_icT i0_130 (XT.ii_eq_t rfl) kk) ?_
  refine lift (fun _ kk => r_aload i0_135 rfl rfl kk) ?_
  refine lift (fun _ kk => r_iconst i0_137 kk) ?_
  refine lift (fun _ kk => r_iload i0_138 rfl kk) ?_
  refine lift (fun _ kk => r_iload i0_140 rfl kk) ?_
  refine lift (fun _ kk => r_iload i0_142 rfl kk) ?_
  refine lift (fun _ kk => r_iload i0_144 rfl kk) ?_
  refine lift (fun _ kk => r_iload i0_146 rfl kk) ?_
  refine lift (fun _ kk => r_iload i0_148 rfl kk) ?_
  refine lift (fun _ kk => s0_150 hw (H1 := [_, _]) (at_in hw (i := 0) (by decide) ⟨by decide, by decide⟩ (arrF_at (by decide)) ((own_fin [] 4 0 (by decide) (by decide) hL0).trans (own_bel0 _ _ _ _ _))) rfl (leB rfl) kk) ?_
  refine lift (fun _ kk => r_ifF i0_153 (XT.i0_eq_f (by decide)) kk) ?_
  refine lift (fun _ kk => r_aload i0_156 rfl rfl kk) ?_
  refine lift (fun _ kk => r_iconst i0_158 kk) ?_
  refine lift (fun _ kk => r_iload i0_159 rfl kk) ?_
  refine lift (fun _ kk => r_iload i0_161 rfl kk) ?_
  refine lift (fun _ kk => r_iload i0_163 rfl kk) ?_
  refine lift (fun _ kk => r_iload i0_165 rfl kk) ?_
  refine lift (fun _ kk => r_iload i0_167 rfl kk) ?_
  refine lift (fun _ kk => r_iload i0_169 rfl kk) ?_
  refine lift (fun _ kk => s0_171 hw (H1 := [_, _]) (at_in hw (i := 1) (by decide) ⟨by decide, by decide⟩ (arrF_at (by decide)) ((own_fin [] 4 1 (by decide) (by decide) hL0).trans (own_bel0 _ _ _ _ _))) rfl (leB rfl) kk) ?_
  refine lift (fun _ kk => r_ifF i0_174 (XT.i0_eq_f (by decide)) kk) ?_
  refine lift (fun _ kk => r_aload i0_177 rfl rfl kk) ?_
  refine lift (fun _ kk => r_iconst i0_179 kk) ?_
  refine lift (fun _ kk => r_iload i0_180 rfl kk) ?_
  refine lift (fun _ kk => r_iload i0_182 rfl kk) ?_
  refine lift (fun _ kk => r_iload i0_184 rfl kk) ?_
  refine lift (fun _ kk => r_iload i0_186 rfl kk) ?_
  refine lift (fun _ kk => r_iload i0_188 rfl kk) ?_
  refine lift (fun _ kk => r_iload i0_190 rfl kk) ?_
  refine lift (fun _ kk => s0_192 hw (H1 := [_, _]) (at_in hw (i := 2) (by decide) ⟨by decide, by decide⟩ (arrF_at (by decide)) ((own_fin [] 4 2 (by decide) (by decide) hL0).trans (own_bel0 _ _ _ _ _))) rfl (leB rfl) kk) ?_
  refine lift (fun _ kk => r_ifF i0_195 (XT.i0_eq_f (by decide)) kk) ?_
  refine lift (fun _ kk => r_aload i0_198 rfl rfl kk) ?_
  refine lift (fun _ kk => r_iconst i0_200 kk) ?_
  refine lift (fun _ kk => r_iload i0_201 rfl kk) ?_
  refine lift (fun _ kk => r_iload i0_203 rfl kk) ?_
  refine lift (fun _ kk => r_iload i0_205 rfl kk) ?_
  refine lift (fun _ kk => r_iload i0_207 rfl kk) ?_
  refine lift (fun _ kk => r_iload i0_209 rfl kk) ?_
  refine lift (fun _ kk => r_iload i0_211 rfl kk) ?_
  refine lift (fun _ kk => s0_213 hw (H1 := [_, _]) (at_in hw (i := 3) (by decide) ⟨by decide, by decide⟩ (arrF_at (by decide)) ((own_fin [] 4 3 (by decide) (by decide) hL0).trans (own_bel0 _ _ _ _ _))) rfl (leB rfl) kk) ?_
  refine lift (fun _ kk => r_ifF i0_216 (XT.i0_eq_f (by decide)) kk) ?_
  refine lift (fun _ kk => r_aload i0_219 rfl rfl kk) ?_
  refine lift (fun _ kk => r_iconst i0_221 kk) ?_
  refine lift (fun _ kk => r_iload i0_222 rfl kk) ?_
  refine lift (fun _ kk => r_iload i0_224 rfl kk) ?_
  refine lift (fun _ kk => r_iload i0_226 rfl kk) ?_
  refine lift (fun _ kk => r_iload i0_228 rfl kk) ?_
  refine lift (fun _ kk => r_iload i0_230 rfl kk) ?_
  refine lift (fun _ kk => r_iload i0_232 rfl kk) ?_
  refine lift (fun _ kk => s0_234 hw (H1 := [_, _]) (at_in hw (i := 4) (by decide) ⟨by decide, by decide⟩ (arrF_at (by decide)) ((own_fin [] 4 4 (by decide) (by decide) hL0).trans (own_bel0 _ _ _ _ _))) rfl (leB rfl) kk) ?_
  refine lift (fun _ kk => r_ifF i0_237 (XT.i0_eq_f (by decide)) kk) ?_
  refine lift (fun _ kk => r_iconst i0_240 kk) ?_
  refine lift (fun _ kk => r_goto i0_241 kk) ?_
  exact ⟨_, r_zreturn i0_245 rfl (by first | decide | simp), leB rfl, own_sz _ (leB rfl) (by decide)⟩
set_option maxHeartbeats 4000000 in
theorem fin41 {l : Launch} {Z : State} {a0 : Array Value} {n0 : Nat} (hw : HW Z a0) (p0 p1 p2 p3 p4 p5 g0 g1 g2 g3 : Int32) (h0 : 0 ≤ g0.toInt ∧ g0.toInt < 4) : RunsB K l Z n0 m0 99 [.val (.int p0), .val (.int p1), .val (.int p2), .val (.int p3), .val (.int p4), .val (.int p5), .val (.int 4), .val (.int 1), .val (.int g0), .val (.int g1), .val (.int g2), .val (.int g3), .unset, .unset] [] [] (some (.int 1)) 16 128 := by
  have hL : ∀ g ∈ ([g0] : List Int32), 0 ≤ g.toInt ∧ g.toInt < (4 : Nat) := (allLS h0 allL0)
  have hL0 : ∀ g ∈ ([g0] : List Int32), 0 ≤ g.toInt := fun g q => (hL g q).1
  refine lift (fun _ kk => r_iload i0_99 rfl kk) ?_
  refine lift (fun _ kk => r_iload i0_101 rfl kk) ?_
  refine lift (fun _ kk => r_iload i0_103 rfl kk) ?_
  refine lift (fun _ kk => r_iload i0_105 rfl kk) ?_
  refine lift (fun _ kk => r_iload i0_107 rfl kk) ?_
  refine lift (fun _ kk => s0_109 hw (H1 := [_]) (build1 hw) rfl (leB rfl) kk) ?_
  refine lift (fun _ kk => r_astore (ls' := [_, _, _, _, _, _, _, _, _, _, _, _, _, _]) i0_112 rfl rfl rfl kk) ?_
  refine lift (fun _ kk => r_aload i0_114 rfl rfl kk) ?_
  refine lift (fun _ kk => r_iload i0_116 rfl kk) ?_
  refine lift (fun _ kk => s0_118 hw (H1 := [_, _]) (starts_m hw [g0] 4 (by decide) (ltB rfl) hL) rfl (leB rfl) kk) ?_
  refine lift (fun _ kk => r_astore (ls' := [_, _, _, _, _, _, _, _, _, _, _, _, _, _]) i0_121 rfl rfl rfl kk) ?_
  refine lift (fun _ kk => r_aload i0_123 rfl rfl kk) ?_
  refine lift (fun _ kk => r_len (n := 4 + 1) i0_125 rfl (by rw [arrF_len]; rfl) kk) ?_
  refine lift (fun _ kk => r_iload i0_126 rfl kk) ?_
  refine lift (fun _ kk => r_iconst i0_128 kk) ?_
  refine lift (fun _ kk => r_iadd i0_129 kk) ?_
  refine lift (fun _ kk => r_icT i0_130 (XT.ii_eq_t rfl) kk) ?_
  refine lift (fun _ kk => r_aload i0_135 rfl rfl kk) ?_
  refine lift (fun _ kk => r_iconst i0_137 kk) ?_
  refine lift (fun _ kk => r_iload i0_138 rfl kk) ?_
  refine lift (fun _ kk => r_iload i0_140 rfl kk) ?_
  refine lift (fun _ kk => r_iload i0_142 rfl kk) ?_
  refine lift (fun _ kk => r_iload i0_144 rfl kk) ?_
  refine lift (fun _ kk => r_iload i0_146 rfl kk) ?_
  refine lift (fun _ kk => r_iload i0_148 rfl kk) ?_
  refine lift (fun _ kk => s0_150 hw (H1 := [_, _]) (at_in hw (i := 0) (by decide) ⟨by decide, by decide⟩ (arrF_at (by decide)) ((own_fin [g0] 4 0 (by decide) (by decide) hL0).trans (own_bel1 _ _ _ _ _))) rfl (leB rfl) kk) ?_
  refine lift (fun _ kk => r_ifF i0_153 (XT.i0_eq_f (by decide)) kk) ?_
  refine lift (fun _ kk => r_aload i0_156 rfl rfl kk) ?_
  refine lift (fun _ kk => r_iconst i0_158 kk) ?_
  refine lift (fun _ kk => r_iload i0_159 rfl kk) ?_
  refine lift (fun _ kk => r_iload i0_161 rfl kk) ?_
  refine lift (fun _ kk => r_iload i0_163 rfl kk) ?_
  refine lift (fun _ kk => r_iload i0_165 rfl kk) ?_
  refine lift (fun _ kk => r_iload i0_167 rfl kk) ?_
  refine lift (fun _ kk => r_iload i0_169 rfl kk) ?_
  refine lift (fun _ kk => s0_171 hw (H1 := [_, _]) (at_in hw (i := 1) (by decide) ⟨by decide, by decide⟩ (arrF_at (by decide)) ((own_fin [g0] 4 1 (by decide) (by decide) hL0).trans (own_bel1 _ _ _ _ _))) rfl (leB rfl) kk) ?_
  refine lift (fun _ kk => r_ifF i0_174 (XT.i0_eq_f (by decide)) kk) ?_
  refine lift (fun _ kk => r_aload i0_177 rfl rfl kk) ?_
  refine lift (fun _ kk => r_iconst i0_179 kk) ?_
  refine lift (fun _ kk => r_iload i0_180 rfl kk) ?_
  refine lift (fun _ kk => r_iload i0_182 rfl kk) ?_
  refine lift (fun _ kk => r_iload i0_184 rfl kk) ?_
  refine lift (fun _ kk => r_iload i0_186 rfl kk) ?_
  refine lift (fun _ kk => r_iload i0_188 rfl kk) ?_
  refine lift (fun _ kk => r_iload i0_190 rfl kk) ?_
  refine lift (fun _ kk => s0_192 hw (H1 := [_, _]) (at_in hw (i := 2) (by decide) ⟨by decide, by decide⟩ (arrF_at (by decide)) ((own_fin [g0] 4 2 (by decide) (by decide) hL0).trans (own_bel1 _ _ _ _ _))) rfl (leB rfl) kk) ?_
  refine lift (fun _ kk => r_ifF i0_195 (XT.i0_eq_f (by decide)) kk) ?_
  refine lift (fun _ kk => r_aload i0_198 rfl rfl kk) ?_
  refine lift (fun _ kk => r_iconst i0_200 kk) ?_
  refine lift (fun _ kk => r_iload i0_201 rfl kk) ?_
  refine lift (fun _ kk => r_iload i0_203 rfl kk) ?_
  refine lift (fun _ kk => r_iload i0_205 rfl kk) ?_
  refine lift (fun _ kk => r_iload i0_207 rfl kk) ?_
  refine lift (fun _ kk => r_iload i0_209 rfl kk) ?_
  refine lift (fun _ kk => r_iload i0_211 rfl kk) ?_
  refine lift (fun _ kk => s0_213 hw (H1 := [_, _]) (at_in hw (i := 3) (by decide) ⟨by decide, by decide⟩ (arrF_at (by decide)) ((own_fin [g0] 4 3 (by decide) (by decide) hL0).trans (own_bel1 _ _ _ _ _))) rfl (leB rfl) kk) ?_
  refine lift (fun _ kk => r_ifF i0_216 (XT.i0_eq_f (by decide)) kk) ?_
  refine lift (fun _ kk => r_aload i0_219 rfl rfl kk) ?_
  refine lift (fun _ kk => r_iconst i0_221 kk) ?_
  refine lift (fun _ kk => r_iload i0_222 rfl kk) ?_
  refine lift (fun _ kk => r_iload i0_224 rfl kk) ?_
  refine lift (fun _ kk => r_iload i0_226 rfl kk) ?_
  refine lift (fun _ kk => r_iload i0_228 rfl kk) ?_
  refine lift (fun _ kk => r_iload i0_230 rfl kk) ?_
  refine lift (fun _ kk => r_iload i0_232 rfl kk) ?_
  refine lift (fun _ kk => s0_234 hw (H1 := [_, _]) (at_in hw (i := 4) (by decide) ⟨by decide, by decide⟩ (arrF_at (by decide)) ((own_fin [g0] 4 4 (by decide) (by decide) hL0).trans (own_bel1 _ _ _ _ _))) rfl (leB rfl) kk) ?_
  refine lift (fun _ kk => r_ifF i0_237 (XT.i0_eq_f (by decide)) kk) ?_
  refine lift (fun _ kk => r_iconst i0_240 kk) ?_
  refine lift (fun _ kk => r_goto i0_241 kk) ?_
  exact ⟨_, r_zreturn i0_245 rfl (by first | decide | simp), leB rfl, own_sz _ (leB rfl) (by decide)⟩
set_option maxHeartbeats 4000000 in
theorem fin42 {l : Launch} {Z : State} {a0 : Array Value} {n0 : Nat} (hw : HW Z a0) (p0 p1 p2 p3 p4 p5 g0 g1 g2 g3 : Int32) (h0 : 0 ≤ g0.toInt ∧ g0.toInt < 4) (h1 : 0 ≤ g1.toInt ∧ g1.toInt < 4) : RunsB K l Z n0 m0 99 [.val (.int p0), .val (.int p1), .val (.int p2), .val (.int p3), .val (.int p4), .val (.int p5), .val (.int 4), .val (.int 2), .val (.int g0), .val (.int g1), .val (.int g2), .val (.int g3), .unset, .unset] [] [] (some (.int 1)) 16 128 := by
  have hL : ∀ g ∈ ([g0, g1] : List Int32), 0 ≤ g.toInt ∧ g.toInt < (4 : Nat) := (allLS h0 (allLS h1 allL0))
  have hL0 : ∀ g ∈ ([g0, g1] : List Int32), 0 ≤ g.toInt := fun g q => (hL g q).1
  refine lift (fun _ kk => r_iload i0_99 rfl kk) ?_
  refine lift (fun _ kk => r_iload i0_101 rfl kk) ?_
  refine lift (fun _ kk => r_iload i0_103 rfl kk) ?_
  refine lift (fun _ kk => r_iload i0_105 rfl kk) ?_
  refine lift (fun _ kk => r_iload i0_107 rfl kk) ?_
  refine lift (fun _ kk => s0_109 hw (H1 := [_]) (build2 hw) rfl (leB rfl) kk) ?_
  refine lift (fun _ kk => r_astore (ls' := [_, _, _, _, _, _, _, _, _, _, _, _, _, _]) i0_112 rfl rfl rfl kk) ?_
  refine lift (fun _ kk => r_aload i0_114 rfl rfl kk) ?_
  refine lift (fun _ kk => r_iload i0_116 rfl kk) ?_
  refine lift (fun _ kk => s0_118 hw (H1 := [_, _]) (starts_m hw [g0, g1] 4 (by decide) (ltB rfl) hL) rfl (leB rfl) kk) ?_
  refine lift (fun _ kk => r_astore (ls' := [_, _, _, _, _, _, _, _, _, _, _, _, _, _]) i0_121 rfl rfl rfl kk) ?_
  refine lift (fun _ kk => r_aload i0_123 rfl rfl kk) ?_
  refine lift (fun _ kk => r_len (n := 4 + 1) i0_125 rfl (by rw [arrF_len]; rfl) kk) ?_
  refine lift (fun _ kk => r_iload i0_126 rfl kk) ?_
  refine lift (fun _ kk => r_iconst i0_128 kk) ?_
  refine lift (fun _ kk => r_iadd i0_129 kk) ?_
  refine lift (fun _ kk => r_icT i0_130 (XT.ii_eq_t rfl) kk) ?_
  refine lift (fun _ kk => r_aload i0_135 rfl rfl kk) ?_
  refine lift (fun _ kk => r_iconst i0_137 kk) ?_
  refine lift (fun _ kk => r_iload i0_138 rfl kk) ?_
  refine lift (fun _ kk => r_iload i0_140 rfl kk) ?_
  refine lift (fun _ kk => r_iload i0_142 rfl kk) ?_
  refine lift (fun _ kk => r_iload i0_144 rfl kk) ?_
  refine lift (fun _ kk => r_iload i0_146 rfl kk) ?_
  refine lift (fun _ kk => r_iload i0_148 rfl kk) ?_
  refine lift (fun _ kk => s0_150 hw (H1 := [_, _]) (at_in hw (i := 0) (by decide) ⟨by decide, by decide⟩ (arrF_at (by decide)) ((own_fin [g0, g1] 4 0 (by decide) (by decide) hL0).trans (own_bel2 _ _ _ _ _))) rfl (leB rfl) kk) ?_
  refine lift (fun _ kk => r_ifF i0_153 (XT.i0_eq_f (by decide)) kk) ?_
  refine lift (fun _ kk => r_aload i0_156 rfl rfl kk) ?_
  refine lift (fun _ kk => r_iconst i0_158 kk) ?_
  refine lift (fun _ kk => r_iload i0_159 rfl kk) ?_
  refine lift (fun _ kk => r_iload i0_161 rfl kk) ?_
  refine lift (fun _ kk => r_iload i0_163 rfl kk) ?_
  refine lift (fun _ kk => r_iload i0_165 rfl kk) ?_
  refine lift (fun _ kk => r_iload i0_167 rfl kk) ?_
  refine lift (fun _ kk => r_iload i0_169 rfl kk) ?_
  refine lift (fun _ kk => s0_171 hw (H1 := [_, _]) (at_in hw (i := 1) (by decide) ⟨by decide, by decide⟩ (arrF_at (by decide)) ((own_fin [g0, g1] 4 1 (by decide) (by decide) hL0).trans (own_bel2 _ _ _ _ _))) rfl (leB rfl) kk) ?_
  refine lift (fun _ kk => r_ifF i0_174 (XT.i0_eq_f (by decide)) kk) ?_
  refine lift (fun _ kk => r_aload i0_177 rfl rfl kk) ?_
  refine lift (fun _ kk => r_iconst i0_179 kk) ?_
  refine lift (fun _ kk => r_iload i0_180 rfl kk) ?_
  refine lift (fun _ kk => r_iload i0_182 rfl kk) ?_
  refine lift (fun _ kk => r_iload i0_184 rfl kk) ?_
  refine lift (fun _ kk => r_iload i0_186 rfl kk) ?_
  refine lift (fun _ kk => r_iload i0_188 rfl kk) ?_
  refine lift (fun _ kk => r_iload i0_190 rfl kk) ?_
  refine lift (fun _ kk => s0_192 hw (H1 := [_, _]) (at_in hw (i := 2) (by decide) ⟨by decide, by decide⟩ (arrF_at (by decide)) ((own_fin [g0, g1] 4 2 (by decide) (by decide) hL0).trans (own_bel2 _ _ _ _ _))) rfl (leB rfl) kk) ?_
  refine lift (fun _ kk => r_ifF i0_195 (XT.i0_eq_f (by decide)) kk) ?_
  refine lift (fun _ kk => r_aload i0_198 rfl rfl kk) ?_
  refine lift (fun _ kk => r_iconst i0_200 kk) ?_
  refine lift (fun _ kk => r_iload i0_201 rfl kk) ?_
  refine lift (fun _ kk => r_iload i0_203 rfl kk) ?_
  refine lift (fun _ kk => r_iload i0_205 rfl kk) ?_
  refine lift (fun _ kk => r_iload i0_207 rfl kk) ?_
  refine lift (fun _ kk => r_iload i0_209 rfl kk) ?_
  refine lift (fun _ kk => r_iload i0_211 rfl kk) ?_
  refine lift (fun _ kk => s0_213 hw (H1 := [_, _]) (at_in hw (i := 3) (by decide) ⟨by decide, by decide⟩ (arrF_at (by decide)) ((own_fin [g0, g1] 4 3 (by decide) (by decide) hL0).trans (own_bel2 _ _ _ _ _))) rfl (leB rfl) kk) ?_
  refine lift (fun _ kk => r_ifF i0_216 (XT.i0_eq_f (by decide)) kk) ?_
  refine lift (fun _ kk => r_aload i0_219 rfl rfl kk) ?_
  refine lift (fun _ kk => r_iconst i0_221 kk) ?_
  refine lift (fun _ kk => r_iload i0_222 rfl kk) ?_
  refine lift (fun _ kk => r_iload i0_224 rfl kk) ?_
  refine lift (fun _ kk => r_iload i0_226 rfl kk) ?_
  refine lift (fun _ kk => r_iload i0_228 rfl kk) ?_
  refine lift (fun _ kk => r_iload i0_230 rfl kk) ?_
  refine lift (fun _ kk => r_iload i0_232 rfl kk) ?_
  refine lift (fun _ kk => s0_234 hw (H1 := [_, _]) (at_in hw (i := 4) (by decide) ⟨by decide, by decide⟩ (arrF_at (by decide)) ((own_fin [g0, g1] 4 4 (by decide) (by decide) hL0).trans (own_bel2 _ _ _ _ _))) rfl (leB rfl) kk) ?_
  refine lift (fun _ kk => r_ifF i0_237 (XT.i0_eq_f (by decide)) kk) ?_
  refine lift (fun _ kk => r_iconst i0_240 kk) ?_
  refine lift (fun _ kk => r_goto i0_241 kk) ?_
  exact ⟨_, r_zreturn i0_245 rfl (by first | decide | simp), leB rfl, own_sz _ (leB rfl) (by decide)⟩
set_option maxHeartbeats 4000000 in
theorem fin43 {l : Launch} {Z : State} {a0 : Array Value} {n0 : Nat} (hw : HW Z a0) (p0 p1 p2 p3 p4 p5 g0 g1 g2 g3 : Int32) (h0 : 0 ≤ g0.toInt ∧ g0.toInt < 4) (h1 : 0 ≤ g1.toInt ∧ g1.toInt < 4) (h2 : 0 ≤ g2.toInt ∧ g2.toInt < 4) : RunsB K l Z n0 m0 99 [.val (.int p0), .val (.int p1), .val (.int p2), .val (.int p3), .val (.int p4), .val (.int p5), .val (.int 4), .val (.int 3), .val (.int g0), .val (.int g1), .val (.int g2), .val (.int g3), .unset, .unset] [] [] (some (.int 1)) 16 128 := by
  have hL : ∀ g ∈ ([g0, g1, g2] : List Int32), 0 ≤ g.toInt ∧ g.toInt < (4 : Nat) := (allLS h0 (allLS h1 (allLS h2 allL0)))
  have hL0 : ∀ g ∈ ([g0, g1, g2] : List Int32), 0 ≤ g.toInt := fun g q => (hL g q).1
  refine lift (fun _ kk => r_iload i0_99 rfl kk) ?_
  refine lift (fun _ kk => r_iload i0_101 rfl kk) ?_
  refine lift (fun _ kk => r_iload i0_103 rfl kk) ?_
  refine lift (fun _ kk => r_iload i0_105 rfl kk) ?_
  refine lift (fun _ kk => r_iload i0_107 rfl kk) ?_
  refine lift (fun _ kk => s0_109 hw (H1 := [_]) (build3 hw) rfl (leB rfl) kk) ?_
  refine lift (fun _ kk => r_astore (ls' := [_, _, _, _, _, _, _, _, _, _, _, _, _, _]) i0_112 rfl rfl rfl kk) ?_
  refine lift (fun _ kk => r_aload i0_114 rfl rfl kk) ?_
  refine lift (fun _ kk => r_iload i0_116 rfl kk) ?_
  refine lift (fun _ kk => s0_118 hw (H1 := [_, _]) (starts_m hw [g0, g1, g2] 4 (by decide) (ltB rfl) hL) rfl (leB rfl) kk) ?_
  refine lift (fun _ kk => r_astore (ls' := [_, _, _, _, _, _, _, _, _, _, _, _, _, _]) i0_121 rfl rfl rfl kk) ?_
  refine lift (fun _ kk => r_aload i0_123 rfl rfl kk) ?_
  refine lift (fun _ kk => r_len (n := 4 + 1) i0_125 rfl (by rw [arrF_len]; rfl) kk) ?_
  refine lift (fun _ kk => r_iload i0_126 rfl kk) ?_
  refine lift (fun _ kk => r_iconst i0_128 kk) ?_
  refine lift (fun _ kk => r_iadd i0_129 kk) ?_
  refine lift (fun _ kk => r_icT i0_130 (XT.ii_eq_t rfl) kk) ?_
  refine lift (fun _ kk => r_aload i0_135 rfl rfl kk) ?_
  refine lift (fun _ kk => r_iconst i0_137 kk) ?_
  refine lift (fun _ kk => r_iload i0_138 rfl kk) ?_
  refine lift (fun _ kk => r_iload i0_140 rfl kk) ?_
  refine lift (fun _ kk => r_iload i0_142 rfl kk) ?_
  refine lift (fun _ kk => r_iload i0_144 rfl kk) ?_
  refine lift (fun _ kk => r_iload i0_146 rfl kk) ?_
  refine lift (fun _ kk => r_iload i0_148 rfl kk) ?_
  refine lift (fun _ kk => s0_150 hw (H1 := [_, _]) (at_in hw (i := 0) (by decide) ⟨by decide, by decide⟩ (arrF_at (by decide)) ((own_fin [g0, g1, g2] 4 0 (by decide) (by decide) hL0).trans (own_bel3 _ _ _ _ _))) rfl (leB rfl) kk) ?_
  refine lift (fun _ kk => r_ifF i0_153 (XT.i0_eq_f (by decide)) kk) ?_
  refine lift (fun _ kk => r_aload i0_156 rfl rfl kk) ?_
  refine lift (fun _ kk => r_iconst i0_158 kk) ?_
  refine lift (fun _ kk => r_iload i0_159 rfl kk) ?_
  refine lift (fun _ kk => r_iload i0_161 rfl kk) ?_
  refine lift (fun _ kk => r_iload i0_163 rfl kk) ?_
  refine lift (fun _ kk => r_iload i0_165 rfl kk) ?_
  refine lift (fun _ kk => r_iload i0_167 rfl kk) ?_
  refine lift (fun _ kk => r_iload i0_169 rfl kk) ?_
  refine lift (fun _ kk => s0_171 hw (H1 := [_, _]) (at_in hw (i := 1) (by decide) ⟨by decide, by decide⟩ (arrF_at (by decide)) ((own_fin [g0, g1, g2] 4 1 (by decide) (by decide) hL0).trans (own_bel3 _ _ _ _ _))) rfl (leB rfl) kk) ?_
  refine lift (fun _ kk => r_ifF i0_174 (XT.i0_eq_f (by decide)) kk) ?_
  refine lift (fun _ kk => r_aload i0_177 rfl rfl kk) ?_
  refine lift (fun _ kk => r_iconst i0_179 kk) ?_
  refine lift (fun _ kk => r_iload i0_180 rfl kk) ?_
  refine lift (fun _ kk => r_iload i0_182 rfl kk) ?_
  refine lift (fun _ kk => r_iload i0_184 rfl kk) ?_
  refine lift (fun _ kk => r_iload i0_186 rfl kk) ?_
  refine lift (fun _ kk => r_iload i0_188 rfl kk) ?_
  refine lift (fun _ kk => r_iload i0_190 rfl kk) ?_
  refine lift (fun _ kk => s0_192 hw (H1 := [_, _]) (at_in hw (i := 2) (by decide) ⟨by decide, by decide⟩ (arrF_at (by decide)) ((own_fin [g0, g1, g2] 4 2 (by decide) (by decide) hL0).trans (own_bel3 _ _ _ _ _))) rfl (leB rfl) kk) ?_
  refine lift (fun _ kk => r_ifF i0_195 (XT.i0_eq_f (by decide)) kk) ?_
  refine lift (fun _ kk => r_aload i0_198 rfl rfl kk) ?_
  refine lift (fun _ kk => r_iconst i0_200 kk) ?_
  refine lift (fun _ kk => r_iload i0_201 rfl kk) ?_
  refine lift (fun _ kk => r_iload i0_203 rfl kk) ?_
  refine lift (fun _ kk => r_iload i0_205 rfl kk) ?_
  refine lift (fun _ kk => r_iload i0_207 rfl kk) ?_
  refine lift (fun _ kk => r_iload i0_209 rfl kk) ?_
  refine lift (fun _ kk => r_iload i0_211 rfl kk) ?_
  refine lift (fun _ kk => s0_213 hw (H1 := [_, _]) (at_in hw (i := 3) (by decide) ⟨by decide, by decide⟩ (arrF_at (by decide)) ((own_fin [g0, g1, g2] 4 3 (by decide) (by decide) hL0).trans (own_bel3 _ _ _ _ _))) rfl (leB rfl) kk) ?_
  refine lift (fun _ kk => r_ifF i0_216 (XT.i0_eq_f (by decide)) kk) ?_
  refine lift (fun _ kk => r_aload i0_219 rfl rfl kk) ?_
  refine lift (fun _ kk => r_iconst i0_221 kk) ?_
  refine lift (fun _ kk => r_iload i0_222 rfl kk) ?_
  refine lift (fun _ kk => r_iload i0_224 rfl kk) ?_
  refine lift (fun _ kk => r_iload i0_226 rfl kk) ?_
  refine lift (fun _ kk => r_iload i0_228 rfl kk) ?_
  refine lift (fun _ kk => r_iload i0_230 rfl kk) ?_
  refine lift (fun _ kk => r_iload i0_232 rfl kk) ?_
  refine lift (fun _ kk => s0_234 hw (H1 := [_, _]) (at_in hw (i := 4) (by decide) ⟨by decide, by decide⟩ (arrF_at (by decide)) ((own_fin [g0, g1, g2] 4 4 (by decide) (by decide) hL0).trans (own_bel3 _ _ _ _ _))) rfl (leB rfl) kk) ?_
  refine lift (fun _ kk => r_ifF i0_237 (XT.i0_eq_f (by decide)) kk) ?_
  refine lift (fun _ kk => r_iconst i0_240 kk) ?_
  refine lift (fun _ kk => r_goto i0_241 kk) ?_
  exact ⟨_, r_zreturn i0_245 rfl (by first | decide | simp), leB rfl, own_sz _ (leB rfl) (by decide)⟩
set_option maxHeartbeats 4000000 in
theorem fin44 {l : Launch} {Z : State} {a0 : Array Value} {n0 : Nat} (hw : HW Z a0) (p0 p1 p2 p3 p4 p5 g0 g1 g2 g3 : Int32) (h0 : 0 ≤ g0.toInt ∧ g0.toInt < 4) (h1 : 0 ≤ g1.toInt ∧ g1.toInt < 4) (h2 : 0 ≤ g2.toInt ∧ g2.toInt < 4) (h3 : 0 ≤ g3.toInt ∧ g3.toInt < 4) : RunsB K l Z n0 m0 99 [.val (.int p0), .val (.int p1), .val (.int p2), .val (.int p3), .val (.int p4), .val (.int p5), .val (.int 4), .val (.int 4), .val (.int g0), .val (.int g1), .val (.int g2), .val (.int g3), .unset, .unset] [] [] (some (.int 1)) 16 128 := by
  have hL : ∀ g ∈ ([g0, g1, g2, g3] : List Int32), 0 ≤ g.toInt ∧ g.toInt < (4 : Nat) := (allLS h0 (allLS h1 (allLS h2 (allLS h3 allL0))))
  have hL0 : ∀ g ∈ ([g0, g1, g2, g3] : List Int32), 0 ≤ g.toInt := fun g q => (hL g q).1
  refine lift (fun _ kk => r_iload i0_99 rfl kk) ?_
  refine lift (fun _ kk => r_iload i0_101 rfl kk) ?_
  refine lift (fun _ kk => r_iload i0_103 rfl kk) ?_
  refine lift (fun _ kk => r_iload i0_105 rfl kk) ?_
  refine lift (fun _ kk => r_iload i0_107 rfl kk) ?_
  refine lift (fun _ kk => s0_109 hw (H1 := [_]) (build4 hw) rfl (leB rfl) kk) ?_
  refine lift (fun _ kk => r_astore (ls' := [_, _, _, _, _, _, _, _, _, _, _, _, _, _]) i0_112 rfl rfl rfl kk) ?_
  refine lift (fun _ kk => r_aload i0_114 rfl rfl kk) ?_
  refine lift (fun _ kk => r_iload i0_116 rfl kk) ?_
  refine lift (fun _ kk => s0_118 hw (H1 := [_, _]) (starts_m hw [g0, g1, g2, g3] 4 (by decide) (ltB rfl) hL) rfl (leB rfl) kk) ?_
  refine lift (fun _ kk => r_astore (ls' := [_, _, _, _, _, _, _, _, _, _, _, _, _, _]) i0_121 rfl rfl rfl kk) ?_
  refine lift (fun _ kk => r_aload i0_123 rfl rfl kk) ?_
  refine lift (fun _ kk => r_len (n := 4 + 1) i0_125 rfl (by rw [arrF_len]; rfl) kk) ?_
  refine lift (fun _ kk => r_iload i0_126 rfl kk) ?_
  refine lift (fun _ kk => r_iconst i0_128 kk) ?_
  refine lift (fun _ kk => r_iadd i0_129 kk) ?_
  refine lift (fun _ kk => r_icT i0_130 (XT.ii_eq_t rfl) kk) ?_
  refine lift (fun _ kk => r_aload i0_135 rfl rfl kk) ?_
  refine lift (fun _ kk => r_iconst i0_137 kk) ?_
  refine lift (fun _ kk => r_iload i0_138 rfl kk) ?_
  refine lift (fun _ kk => r_iload i0_140 rfl kk) ?_
  refine lift (fun _ kk => r_iload i0_142 rfl kk) ?_
  refine lift (fun _ kk => r_iload i0_144 rfl kk) ?_
  refine lift (fun _ kk => r_iload i0_146 rfl kk) ?_
  refine lift (fun _ kk => r_iload i0_148 rfl kk) ?_
  refine lift (fun _ kk => s0_150 hw (H1 := [_, _]) (at_in hw (i := 0) (by decide) ⟨by decide, by decide⟩ (arrF_at (by decide)) ((own_fin [g0, g1, g2, g3] 4 0 (by decide) (by decide) hL0).trans (own_bel4 _ _ _ _ _))) rfl (leB rfl) kk) ?_
  refine lift (fun _ kk => r_ifF i0_153 (XT.i0_eq_f (by decide)) kk) ?_
  refine lift (fun _ kk => r_aload i0_156 rfl rfl kk) ?_
  refine lift (fun _ kk => r_iconst i0_158 kk) ?_
  refine lift (fun _ kk => r_iload i0_159 rfl kk) ?_
  refine lift (fun _ kk => r_iload i0_161 rfl kk) ?_
  refine lift (fun _ kk => r_iload i0_163 rfl kk) ?_
  refine lift (fun _ kk => r_iload i0_165 rfl kk) ?_
  refine lift (fun _ kk => r_iload i0_167 rfl kk) ?_
  refine lift (fun _ kk => r_iload i0_169 rfl kk) ?_
  refine lift (fun _ kk => s0_171 hw (H1 := [_, _]) (at_in hw (i := 1) (by decide) ⟨by decide, by decide⟩ (arrF_at (by decide)) ((own_fin [g0, g1, g2, g3] 4 1 (by decide) (by decide) hL0).trans (own_bel4 _ _ _ _ _))) rfl (leB rfl) kk) ?_
  refine lift (fun _ kk => r_ifF i0_174 (XT.i0_eq_f (by decide)) kk) ?_
  refine lift (fun _ kk => r_aload i0_177 rfl rfl kk) ?_
  refine lift (fun _ kk => r_iconst i0_179 kk) ?_
  refine lift (fun _ kk => r_iload i0_180 rfl kk) ?_
  refine lift (fun _ kk => r_iload i0_182 rfl kk) ?_
  refine lift (fun _ kk => r_iload i0_184 rfl kk) ?_
  refine lift (fun _ kk => r_iload i0_186 rfl kk) ?_
  refine lift (fun _ kk => r_iload i0_188 rfl kk) ?_
  refine lift (fun _ kk => r_iload i0_190 rfl kk) ?_
  refine lift (fun _ kk => s0_192 hw (H1 := [_, _]) (at_in hw (i := 2) (by decide) ⟨by decide, by decide⟩ (arrF_at (by decide)) ((own_fin [g0, g1, g2, g3] 4 2 (by decide) (by decide) hL0).trans (own_bel4 _ _ _ _ _))) rfl (leB rfl) kk) ?_
  refine lift (fun _ kk => r_ifF i0_195 (XT.i0_eq_f (by decide)) kk) ?_
  refine lift (fun _ kk => r_aload i0_198 rfl rfl kk) ?_
  refine lift (fun _ kk => r_iconst i0_200 kk) ?_
  refine lift (fun _ kk => r_iload i0_201 rfl kk) ?_
  refine lift (fun _ kk => r_iload i0_203 rfl kk) ?_
  refine lift (fun _ kk => r_iload i0_205 rfl kk) ?_
  refine lift (fun _ kk => r_iload i0_207 rfl kk) ?_
  refine lift (fun _ kk => r_iload i0_209 rfl kk) ?_
  refine lift (fun _ kk => r_iload i0_211 rfl kk) ?_
  refine lift (fun _ kk => s0_213 hw (H1 := [_, _]) (at_in hw (i := 3) (by decide) ⟨by decide, by decide⟩ (arrF_at (by decide)) ((own_fin [g0, g1, g2, g3] 4 3 (by decide) (by decide) hL0).trans (own_bel4 _ _ _ _ _))) rfl (leB rfl) kk) ?_
  refine lift (fun _ kk => r_ifF i0_216 (XT.i0_eq_f (by decide)) kk) ?_
  refine lift (fun _ kk => r_aload i0_219 rfl rfl kk) ?_
  refine lift (fun _ kk => r_iconst i0_221 kk) ?_
  refine lift (fun _ kk => r_iload i0_222 rfl kk) ?_
  refine lift (fun _ kk => r_iload i0_224 rfl kk) ?_
  refine lift (fun _ kk => r_iload i0_226 rfl kk) ?_
  refine lift (fun _ kk => r_iload i0_228 rfl kk) ?_
  refine lift (fun _ kk => r_iload i0_230 rfl kk) ?_
  refine lift (fun _ kk => r_iload i0_232 rfl kk) ?_
  refine lift (fun _ kk => s0_234 hw (H1 := [_, _]) (at_in hw (i := 4) (by decide) ⟨by decide, by decide⟩ (arrF_at (by decide)) ((own_fin [g0, g1, g2, g3] 4 4 (by decide) (by decide) hL0).trans (own_bel4 _ _ _ _ _))) rfl (leB rfl) kk) ?_
  refine lift (fun _ kk => r_ifF i0_237 (XT.i0_eq_f (by decide)) kk) ?_
  refine lift (fun _ kk => r_iconst i0_240 kk) ?_
  refine lift (fun _ kk => r_goto i0_241 kk) ?_
  exact ⟨_, r_zreturn i0_245 rfl (by first | decide | simp), leB rfl, own_sz _ (leB rfl) (by decide)⟩
theorem own_5 (p : Int32) : (p &&& 2147483647) % 5 = 0 ∨ (p &&& 2147483647) % 5 = 1 ∨ (p &&& 2147483647) % 5 = 2 ∨ (p &&& 2147483647) % 5 = 3 ∨ (p &&& 2147483647) % 5 = 4 := by
  have h := c_mask p 2147483647 31 (by decide) (by decide)
  have q := (c_irem (p &&& 2147483647) 5 5 (by decide)).1 (by omega)
  generalize (p &&& 2147483647) % 5 = r at *
  have e0 : (0 : Int32).toInt = 0 := by decide
  have e1 : (1 : Int32).toInt = 1 := by decide
  have e2 : (2 : Int32).toInt = 2 := by decide
  have e3 : (3 : Int32).toInt = 3 := by decide
  have e4 : (4 : Int32).toInt = 4 := by decide
  simp only [← Int32.toInt_inj]
  omega
theorem own_rem (p n : Int32) (d : Int) (hd : n.toInt = d) (h : 0 < d) : 0 ≤ ((p &&& 2147483647) % n).toInt ∧ ((p &&& 2147483647) % n).toInt < d := by
  have m := c_mask p 2147483647 31 (by decide) (by decide)
  have q := (c_iremV (p &&& 2147483647) n).1 (by omega) (by omega)
  rw [← hd]
  exact ⟨q.1, q.2.1⟩
set_option maxHeartbeats 8000000 in
theorem law_runs {l : Launch} {Z : State} {a0 : Array Value} {n0 : Nat} (hw : HW Z a0) (p0 : Int32) (p1 : Int32) (p2 : Int32) (p3 : Int32) (p4 : Int32) (p5 : Int32) : RunsB K l Z n0 m0 0 [.val (.int p0), .val (.int p1), .val (.int p2), .val (.int p3), .val (.int p4), .val (.int p5), .unset, .unset, .unset, .unset, .unset, .unset, .unset, .unset] [] [] (some (.int 1)) 16 128 := by
  refine lift (fun _ kk => r_iloadN i0_0 rfl kk) ?_
  refine lift (fun _ kk => s0_1 hw kk) ?_
  refine lift (fun _ kk => r_iand i0_3 kk) ?_
  refine lift (fun _ kk => r_iconst i0_4 kk) ?_
  refine lift (fun _ kk => r_irem i0_5 (by decide) kk) ?_
  refine lift (fun _ kk => r_istore (ls' := [_, _, _, _, _, _, _, _, _, _, _, _, _, _]) i0_6 rfl rfl kk) ?_
  rcases own_5 p0 with h | h | h | h | h
  · rw [h]
    refine lift (fun _ kk => r_iload i0_8 rfl kk) ?_
    refine lift (fun _ kk => r_ifF i0_10 (XT.i0_ne_f (by decide)) kk) ?_
    refine lift (fun _ kk => r_iconst i0_13 kk) ?_
    refine lift (fun _ kk => r_goto i0_14 kk) ?_
    refine lift (fun _ kk => r_istore (ls' := [_, _, _, _, _, _, _, _, _, _, _, _, _, _]) i0_23 rfl rfl kk) ?_
    refine lift (fun _ kk => r_iload i0_25 rfl kk) ?_
    refine lift (fun _ kk => r_ifF i0_27 (XT.i0_ne_f (by decide)) kk) ?_
    refine lift (fun _ kk => r_iconst i0_30 kk) ?_
    refine lift (fun _ kk => r_goto i0_31 kk) ?_
    refine lift (fun _ kk => r_istore (ls' := [_, _, _, _, _, _, _, _, _, _, _, _, _, _]) i0_41 rfl rfl kk) ?_
    refine lift (fun _ kk => r_iload i0_43 rfl kk) ?_
    refine lift (fun _ kk => r_ifF i0_45 (XT.i0_ne_f (by decide)) kk) ?_
    refine lift (fun _ kk => r_iconst i0_48 kk) ?_
    refine lift (fun _ kk => r_goto i0_49 kk) ?_
    refine lift (fun _ kk => r_istore (ls' := [_, _, _, _, _, _, _, _, _, _, _, _, _, _]) i0_59 rfl rfl kk) ?_
    refine lift (fun _ kk => r_iload i0_61 rfl kk) ?_
    refine lift (fun _ kk => r_ifF i0_63 (XT.i0_ne_f (by decide)) kk) ?_
    refine lift (fun _ kk => r_iconst i0_66 kk) ?_
    refine lift (fun _ kk => r_goto i0_67 kk) ?_
    refine lift (fun _ kk => r_istore (ls' := [_, _, _, _, _, _, _, _, _, _, _, _, _, _]) i0_78 rfl rfl kk) ?_
    refine lift (fun _ kk => r_iload i0_80 rfl kk) ?_
    refine lift (fun _ kk => r_ifF i0_82 (XT.i0_ne_f (by decide)) kk) ?_
    refine lift (fun _ kk => r_iconst i0_85 kk) ?_
    refine lift (fun _ kk => r_goto i0_86 kk) ?_
    refine lift (fun _ kk => r_istore (ls' := [_, _, _, _, _, _, _, _, _, _, _, _, _, _]) i0_97 rfl rfl kk) ?_
    exact fin00 hw p0 p1 p2 p3 p4 p5 _ _ _ _
  · rw [h]
    refine lift (fun _ kk => r_iload i0_8 rfl kk) ?_
    refine lift (fun _ kk => r_ifT i0_10 (XT.i0_ne_t (by decide)) kk) ?_
    refine lift (fun _ kk => r_iloadN i0_17 rfl kk) ?_
    refine lift (fun _ kk => s0_18 hw kk) ?_
    refine lift (fun _ kk => r_iand i0_20 kk) ?_
    refine lift (fun _ kk => r_iconst i0_21 kk) ?_
    refine lift (fun _ kk => r_irem i0_22 (by decide) kk) ?_
    refine lift (fun _ kk => r_istore (ls' := [_, _, _, _, _, _, _, _, _, _, _, _, _, _]) i0_23 rfl rfl kk) ?_
    refine lift (fun _ kk => r_iload i0_25 rfl kk) ?_
    refine lift (fun _ kk => r_ifT i0_27 (XT.i0_ne_t (by decide)) kk) ?_
    refine lift (fun _ kk => r_iloadN i0_34 rfl kk) ?_
    refine lift (fun _ kk => s0_35 hw kk) ?_
    refine lift (fun _ kk => r_iand i0_37 kk) ?_
    refine lift (fun _ kk => r_iload i0_38 rfl kk) ?_
    refine lift (fun _ kk => r_irem i0_40 (by decide) kk) ?_
    refine lift (fun _ kk => r_istore (ls' := [_, _, _, _, _, _, _, _, _, _, _, _, _, _]) i0_41 rfl rfl kk) ?_
    refine lift (fun _ kk => r_iload i0_43 rfl kk) ?_
    refine lift (fun _ kk => r_ifT i0_45 (XT.i0_ne_t (by decide)) kk) ?_
    refine lift (fun _ kk => r_iloadN i0_52 rfl kk) ?_
    refine lift (fun _ kk => s0_53 hw kk) ?_
    refine lift (fun _ kk => r_iand i0_55 kk) ?_
    refine lift (fun _ kk => r_iload i0_56 rfl kk) ?_
    refine lift (fun _ kk => r_irem i0_58 (by decide) kk) ?_
    refine lift (fun _ kk => r_istore (ls' := [_, _, _, _, _, _, _, _, _, _, _, _, _, _]) i0_59 rfl rfl kk) ?_
    refine lift (fun _ kk => r_iload i0_61 rfl kk) ?_
    refine lift (fun _ kk => r_ifT i0_63 (XT.i0_ne_t (by decide)) kk) ?_
    refine lift (fun _ kk => r_iload i0_70 rfl kk) ?_
    refine lift (fun _ kk => s0_72 hw kk) ?_
    refine lift (fun _ kk => r_iand i0_74 kk) ?_
    refine lift (fun _ kk => r_iload i0_75 rfl kk) ?_
    refine lift (fun _ kk => r_irem i0_77 (by decide) kk) ?_
    refine lift (fun _ kk => r_istore (ls' := [_, _, _, _, _, _, _, _, _, _, _, _, _, _]) i0_78 rfl rfl kk) ?_
    refine lift (fun _ kk => r_iload i0_80 rfl kk) ?_
    refine lift (fun _ kk => r_ifT i0_82 (XT.i0_ne_t (by decide)) kk) ?_
    refine lift (fun _ kk => r_iload i0_89 rfl kk) ?_
    refine lift (fun _ kk => s0_91 hw kk) ?_
    refine lift (fun _ kk => r_iand i0_93 kk) ?_
    refine lift (fun _ kk => r_iload i0_94 rfl kk) ?_
    refine lift (fun _ kk => r_irem i0_96 (by decide) kk) ?_
    refine lift (fun _ kk => r_istore (ls' := [_, _, _, _, _, _, _, _, _, _, _, _, _, _]) i0_97 rfl rfl kk) ?_
    rcases own_5 p1 with g | g | g | g | g
    · rw [g]; exact fin10 hw p0 p1 p2 p3 p4 p5 _ _ _ _ 
    · rw [g]; exact fin11 hw p0 p1 p2 p3 p4 p5 _ _ _ _ (own_rem p2 1 1 (by decide) (by decide))
    · rw [g]; exact fin12 hw p0 p1 p2 p3 p4 p5 _ _ _ _ (own_rem p2 1 1 (by decide) (by decide)) (own_rem p3 1 1 (by decide) (by decide))
    · rw [g]; exact fin13 hw p0 p1 p2 p3 p4 p5 _ _ _ _ (own_rem p2 1 1 (by decide) (by decide)) (own_rem p3 1 1 (by decide) (by decide)) (own_rem p4 1 1 (by decide) (by decide))
    · rw [g]; exact fin14 hw p0 p1 p2 p3 p4 p5 _ _ _ _ (own_rem p2 1 1 (by decide) (by decide)) (own_rem p3 1 1 (by decide) (by decide)) (own_rem p4 1 1 (by decide) (by decide)) (own_rem p5 1 1 (by decide) (by decide))
  · rw [h]
    refine lift (fun _ kk => r_iload i0_8 rfl kk) ?_
    refine lift (fun _ kk => r_ifT i0_10 (XT.i0_ne_t (by decide)) kk) ?_
    refine lift (fun _ kk => r_iloadN i0_17 rfl kk) ?_
    refine lift (fun _ kk => s0_18 hw kk) ?_
    refine lift (fun _ kk => r_iand i0_20 kk) ?_
    refine lift (fun _ kk => r_iconst i0_21 kk) ?_
    refine lift (fun _ kk => r_irem i0_22 (by decide) kk) ?_
    refine lift (fun _ kk => r_istore (ls' := [_, _, _, _, _, _, _, _, _, _, _, _, _, _]) i0_23 rfl rfl kk) ?_
    refine lift (fun _ kk => r_iload i0_25 rfl kk) ?_
    refine lift (fun _ kk => r_ifT i0_27 (XT.i0_ne_t (by decide)) kk) ?_
    refine lift (fun _ kk => r_iloadN i0_34 rfl kk) ?_
    refine lift (fun _ kk => s0_35 hw kk) ?_
    refine lift (fun _ kk => r_iand i0_37 kk) ?_
    refine lift (fun _ kk => r_iload i0_38 rfl kk) ?_
    refine lift (fun _ kk => r_irem i0_40 (by decide) kk) ?_
    refine lift (fun _ kk => r_istore (ls' := [_, _, _, _, _, _, _, _, _, _, _, _, _, _]) i0_41 rfl rfl kk) ?_
    refine lift (fun _ kk => r_iload i0_43 rfl kk) ?_
    refine lift (fun _ kk => r_ifT i0_45 (XT.i0_ne_t (by decide)) kk) ?_
    refine lift (fun _ kk => r_iloadN i0_52 rfl kk) ?_
    refine lift (fun _ kk => s0_53 hw kk) ?_
    refine lift (fun _ kk => r_iand i0_55 kk) ?_
    refine lift (fun _ kk => r_iload i0_56 rfl kk) ?_
    refine lift (fun _ kk => r_irem i0_58 (by decide) kk) ?_
    refine lift (fun _ kk => r_istore (ls' := [_, _, _, _, _, _, _, _, _, _, _, _, _, _]) i0_59 rfl rfl kk) ?_
    refine lift (fun _ kk => r_iload i0_61 rfl kk) ?_
    refine lift (fun _ kk => r_ifT i0_63 (XT.i0_ne_t (by decide)) kk) ?_
    refine lift (fun _ kk => r_iload i0_70 rfl kk) ?_
    refine lift (fun _ kk => s0_72 hw kk) ?_
    refine lift (fun _ kk => r_iand i0_74 kk) ?_
    refine lift (fun _ kk => r_iload i0_75 rfl kk) ?_
    refine lift (fun _ kk => r_irem i0_77 (by decide) kk) ?_
    refine lift (fun _ kk => r_istore (ls' := [_, _, _, _, _, _, _, _, _, _, _, _, _, _]) i0_78 rfl rfl kk) ?_
    refine lift (fun _ kk => r_iload i0_80 rfl kk) ?_
    refine lift (fun _ kk => r_ifT i0_82 (XT.i0_ne_t (by decide)) kk) ?_
    refine lift (fun _ kk => r_iload i0_89 rfl kk) ?_
    refine lift (fun _ kk => s0_91 hw kk) ?_
    refine lift (fun _ kk => r_iand i0_93 kk) ?_
    refine lift (fun _ kk => r_iload i0_94 rfl kk) ?_
    refine lift (fun _ kk => r_irem i0_96 (by decide) kk) ?_
    refine lift (fun _ kk => r_istore (ls' := [_, _, _, _, _, _, _, _, _, _, _, _, _, _]) i0_97 rfl rfl kk) ?_
    rcases own_5 p1 with g | g | g | g | g
    · rw [g]; exact fin20 hw p0 p1 p2 p3 p4 p5 _ _ _ _ 
    · rw [g]; exact fin21 hw p0 p1 p2 p3 p4 p5 _ _ _ _ (own_rem p2 2 2 (by decide) (by decide))
    · rw [g]; exact fin22 hw p0 p1 p2 p3 p4 p5 _ _ _ _ (own_rem p2 2 2 (by decide) (by decide)) (own_rem p3 2 2 (by decide) (by decide))
    · rw [g]; exact fin23 hw p0 p1 p2 p3 p4 p5 _ _ _ _ (own_rem p2 2 2 (by decide) (by decide)) (own_rem p3 2 2 (by decide) (by decide)) (own_rem p4 2 2 (by decide) (by decide))
    · rw [g]; exact fin24 hw p0 p1 p2 p3 p4 p5 _ _ _ _ (own_rem p2 2 2 (by decide) (by decide)) (own_rem p3 2 2 (by decide) (by decide)) (own_rem p4 2 2 (by decide) (by decide)) (own_rem p5 2 2 (by decide) (by decide))
  · rw [h]
    refine lift (fun _ kk => r_iload i0_8 rfl kk) ?_
    refine lift (fun _ kk => r_ifT i0_10 (XT.i0_ne_t (by decide)) kk) ?_
    refine lift (fun _ kk => r_iloadN i0_17 rfl kk) ?_
    refine lift (fun _ kk => s0_18 hw kk) ?_
    refine lift (fun _ kk => r_iand i0_20 kk) ?_
    refine lift (fun _ kk => r_iconst i0_21 kk) ?_
    refine lift (fun _ kk => r_irem i0_22 (by decide) kk) ?_
    refine lift (fun _ kk => r_istore (ls' := [_, _, _, _, _, _, _, _, _, _, _, _, _, _]) i0_23 rfl rfl kk) ?_
    refine lift (fun _ kk => r_iload i0_25 rfl kk) ?_
    refine lift (fun _ kk => r_ifT i0_27 (XT.i0_ne_t (by decide)) kk) ?_
    refine lift (fun _ kk => r_iloadN i0_34 rfl kk) ?_
    refine lift (fun _ kk => s0_35 hw kk) ?_
    refine lift (fun _ kk => r_iand i0_37 kk) ?_
    refine lift (fun _ kk => r_iload i0_38 rfl kk) ?_
    refine lift (fun _ kk => r_irem i0_40 (by decide) kk) ?_
    refine lift (fun _ kk => r_istore (ls' := [_, _, _, _, _, _, _, _, _, _, _, _, _, _]) i0_41 rfl rfl kk) ?_
    refine lift (fun _ kk => r_iload i0_43 rfl kk) ?_
    refine lift (fun _ kk => r_ifT i0_45 (XT.i0_ne_t (by decide)) kk) ?_
    refine lift (fun _ kk => r_iloadN i0_52 rfl kk) ?_
    refine lift (fun _ kk => s0_53 hw kk) ?_
    refine lift (fun _ kk => r_iand i0_55 kk) ?_
    refine lift (fun _ kk => r_iload i0_56 rfl kk) ?_
    refine lift (fun _ kk => r_irem i0_58 (by decide) kk) ?_
    refine lift (fun _ kk => r_istore (ls' := [_, _, _, _, _, _, _, _, _, _, _, _, _, _]) i0_59 rfl rfl kk) ?_
    refine lift (fun _ kk => r_iload i0_61 rfl kk) ?_
    refine lift (fun _ kk => r_ifT i0_63 (XT.i0_ne_t (by decide)) kk) ?_
    refine lift (fun _ kk => r_iload i0_70 rfl kk) ?_
    refine lift (fun _ kk => s0_72 hw kk) ?_
    refine lift (fun _ kk => r_iand i0_74 kk) ?_
    refine lift (fun _ kk => r_iload i0_75 rfl kk) ?_
    refine lift (fun _ kk => r_irem i0_77 (by decide) kk) ?_
    refine lift (fun _ kk => r_istore (ls' := [_, _, _, _, _, _, _, _, _, _, _, _, _, _]) i0_78 rfl rfl kk) ?_
    refine lift (fun _ kk => r_iload i0_80 rfl kk) ?_
    refine lift (fun _ kk => r_ifT i0_82 (XT.i0_ne_t (by decide)) kk) ?_
    refine lift (fun _ kk => r_iload i0_89 rfl kk) ?_
    refine lift (fun _ kk => s0_91 hw kk) ?_
    refine lift (fun _ kk => r_iand i0_93 kk) ?_
    refine lift (fun _ kk => r_iload i0_94 rfl kk) ?_
    refine lift (fun _ kk => r_irem i0_96 (by decide) kk) ?_
    refine lift (fun _ kk => r_istore (ls' := [_, _, _, _, _, _, _, _, _, _, _, _, _, _]) i0_97 rfl rfl kk) ?_
    rcases own_5 p1 with g | g | g | g | g
    · rw [g]; exact fin30 hw p0 p1 p2 p3 p4 p5 _ _ _ _ 
    · rw [g]; exact fin31 hw p0 p1 p2 p3 p4 p5 _ _ _ _ (own_rem p2 3 3 (by decide) (by decide))
    · rw [g]; exact fin32 hw p0 p1 p2 p3 p4 p5 _ _ _ _ (own_rem p2 3 3 (by decide) (by decide)) (own_rem p3 3 3 (by decide) (by decide))
    · rw [g]; exact fin33 hw p0 p1 p2 p3 p4 p5 _ _ _ _ (own_rem p2 3 3 (by decide) (by decide)) (own_rem p3 3 3 (by decide) (by decide)) (own_rem p4 3 3 (by decide) (by decide))
    · rw [g]; exact fin34 hw p0 p1 p2 p3 p4 p5 _ _ _ _ (own_rem p2 3 3 (by decide) (by decide)) (own_rem p3 3 3 (by decide) (by decide)) (own_rem p4 3 3 (by decide) (by decide)) (own_rem p5 3 3 (by decide) (by decide))
  · rw [h]
    refine lift (fun _ kk => r_iload i0_8 rfl kk) ?_
    refine lift (fun _ kk => r_ifT i0_10 (XT.i0_ne_t (by decide)) kk) ?_
    refine lift (fun _ kk => r_iloadN i0_17 rfl kk) ?_
    refine lift (fun _ kk => s0_18 hw kk) ?_
    refine lift (fun _ kk => r_iand i0_20 kk) ?_
    refine lift (fun _ kk => r_iconst i0_21 kk) ?_
    refine lift (fun _ kk => r_irem i0_22 (by decide) kk) ?_
    refine lift (fun _ kk => r_istore (ls' := [_, _, _, _, _, _, _, _, _, _, _, _, _, _]) i0_23 rfl rfl kk) ?_
    refine lift (fun _ kk => r_iload i0_25 rfl kk) ?_
    refine lift (fun _ kk => r_ifT i0_27 (XT.i0_ne_t (by decide)) kk) ?_
    refine lift (fun _ kk => r_iloadN i0_34 rfl kk) ?_
    refine lift (fun _ kk => s0_35 hw kk) ?_
    refine lift (fun _ kk => r_iand i0_37 kk) ?_
    refine lift (fun _ kk => r_iload i0_38 rfl kk) ?_
    refine lift (fun _ kk => r_irem i0_40 (by decide) kk) ?_
    refine lift (fun _ kk => r_istore (ls' := [_, _, _, _, _, _, _, _, _, _, _, _, _, _]) i0_41 rfl rfl kk) ?_
    refine lift (fun _ kk => r_iload i0_43 rfl kk) ?_
    refine lift (fun _ kk => r_ifT i0_45 (XT.i0_ne_t (by decide)) kk) ?_
    refine lift (fun _ kk => r_iloadN i0_52 rfl kk) ?_
    refine lift (fun _ kk => s0_53 hw kk) ?_
    refine lift (fun _ kk => r_iand i0_55 kk) ?_
    refine lift (fun _ kk => r_iload i0_56 rfl kk) ?_
    refine lift (fun _ kk => r_irem i0_58 (by decide) kk) ?_
    refine lift (fun _ kk => r_istore (ls' := [_, _, _, _, _, _, _, _, _, _, _, _, _, _]) i0_59 rfl rfl kk) ?_
    refine lift (fun _ kk => r_iload i0_61 rfl kk) ?_
    refine lift (fun _ kk => r_ifT i0_63 (XT.i0_ne_t (by decide)) kk) ?_
    refine lift (fun _ kk => r_iload i0_70 rfl kk) ?_
    refine lift (fun _ kk => s0_72 hw kk) ?_
    refine lift (fun _ kk => r_iand i0_74 kk) ?_
    refine lift (fun _ kk => r_iload i0_75 rfl kk) ?_
    refine lift (fun _ kk => r_irem i0_77 (by decide) kk) ?_
    refine lift (fun _ kk => r_istore (ls' := [_, _, _, _, _, _, _, _, _, _, _, _, _, _]) i0_78 rfl rfl kk) ?_
    refine lift (fun _ kk => r_iload i0_80 rfl kk) ?_
    refine lift (fun _ kk => r_ifT i0_82 (XT.i0_ne_t (by decide)) kk) ?_
    refine lift (fun _ kk => r_iload i0_89 rfl kk) ?_
    refine lift (fun _ kk => s0_91 hw kk) ?_
    refine lift (fun _ kk => r_iand i0_93 kk) ?_
    refine lift (fun _ kk => r_iload i0_94 rfl kk) ?_
    refine lift (fun _ kk => r_irem i0_96 (by decide) kk) ?_
    refine lift (fun _ kk => r_istore (ls' := [_, _, _, _, _, _, _, _, _, _, _, _, _, _]) i0_97 rfl rfl kk) ?_
    rcases own_5 p1 with g | g | g | g | g
    · rw [g]; exact fin40 hw p0 p1 p2 p3 p4 p5 _ _ _ _ 
    · rw [g]; exact fin41 hw p0 p1 p2 p3 p4 p5 _ _ _ _ (own_rem p2 4 4 (by decide) (by decide))
    · rw [g]; exact fin42 hw p0 p1 p2 p3 p4 p5 _ _ _ _ (own_rem p2 4 4 (by decide) (by decide)) (own_rem p3 4 4 (by decide) (by decide))
    · rw [g]; exact fin43 hw p0 p1 p2 p3 p4 p5 _ _ _ _ (own_rem p2 4 4 (by decide) (by decide)) (own_rem p3 4 4 (by decide) (by decide)) (own_rem p4 4 4 (by decide) (by decide))
    · rw [g]; exact fin44 hw p0 p1 p2 p3 p4 p5 _ _ _ _ (own_rem p2 4 4 (by decide) (by decide)) (own_rem p3 4 4 (by decide) (by decide)) (own_rem p4 4 4 (by decide) (by decide)) (own_rem p5 4 4 (by decide) (by decide))
set_option maxRecDepth 65536 in
set_option maxHeartbeats 40000000 in
theorem comes_1 {Post : Tables → Env → Array Value → State → Outcome → State → Prop} (hpost : ∀ tb e args s v u, (limb_1_1.after args s (.returned v) u = true ∧ limb_1_2.after args s (.returned v) u = true ∧ True) → FrameEnd s (.returned v) u (Jvm.fieldLocs frame_1_writes args s ++ Jvm.arrayLocs frame_1_arrays args s ++ Jvm.staticLocs frame_1_statics s) 16 128 → Post tb e args s (.returned v) u) :
    ArmFor flags0 classFile x code maxLocals ret World_1 tables_1 room_1 Calls_1 rest_1 Pre_1 Post := by
  intro l hfl _ _ p e ha hc hk s m args below hf hA hF happ hP
  obtain ⟨hcalls, hrest, hpre⟩ := hP
  obtain ⟨-, -, -, hnamed, -, -, -, hat⟩ := (Spec.applies_iff hf).mp happ
  obtain ⟨hg, hn⟩ := and_e (Cond.before_iff.mp (show (Jvm.Cond.and given_1 narrow_1).before args s = true from hpre))
  obtain ⟨hcount, hk0⟩ := and_e hg
  obtain ⟨w0, w1, w2, w3, w4, w5, rfl⟩ : ∃ w0 w1 w2 w3 w4 w5 : Value, args = #[w0, w1, w2, w3, w4, w5] := by
    have hs : args.size = 6 := by simpa [Cond.value, given_1] using hcount
    obtain ⟨L⟩ := args
    match L, hs with
    | [w0, w1, w2, w3, w4, w5], _ => exact ⟨w0, w1, w2, w3, w4, w5, rfl⟩
  have hw : HW s _ := fun d (hd : d ∈ tables_1) => atoms_spec (ws := Jvm.Cond.code x code maxLocals ret :: tables_1) hat d (List.mem_cons_of_mem _ hd)
  replace hk0 := and_e hk0
  obtain ⟨p0, e0⟩ := is_v hk0.1
  obtain rfl : w0 = (.int p0) := Option.some.inj e0
  have hk1 := hk0.2
  replace hk1 := and_e hk1
  obtain ⟨p1, e1⟩ := is_v hk1.1
  obtain rfl : w1 = (.int p1) := Option.some.inj e1
  have hk2 := hk1.2
  replace hk2 := and_e hk2
  obtain ⟨p2, e2⟩ := is_v hk2.1
  obtain rfl : w2 = (.int p2) := Option.some.inj e2
  have hk3 := hk2.2
  replace hk3 := and_e hk3
  obtain ⟨p3, e3⟩ := is_v hk3.1
  obtain rfl : w3 = (.int p3) := Option.some.inj e3
  have hk4 := hk3.2
  replace hk4 := and_e hk4
  obtain ⟨p4, e4⟩ := is_v hk4.1
  obtain rfl : w4 = (.int p4) := Option.some.inj e4
  have hk5 := hk4.2
  obtain ⟨p5, e5⟩ := is_v hk5
  obtain rfl : w5 = (.int p5) := Option.some.inj e5
  obtain ⟨H', k, hcl, hsl⟩ := law_runs (l := l) (n0 := s.heap.size) hw p0 p1 p2 p3 p4 p5
  obtain ⟨n, o, h1, h2, h3, _, L, rfl, ⟨rfl, -, N⟩, hq⟩ := met_gen (mi := m0) (as := [.int p0, .int p1, .int p2, .int p3, .int p4, .int p5]) tables_1 room_1 pf0 rfl (fun h => nomatch h) k (by decide) (by decide) (by show H'.length ≤ 16 + 0; omega) (by show szs K H' ≤ 128 + 0; omega) (h := s.heap) ⟨rfl, fun k o h => by simp at h⟩ p e ha hc hk s m _ below hf ((Spec.applies_iff_loose hf).mp happ).1 ⟨rfl, State.Warmed39.refl s, rfl⟩ trivial
  refine ⟨n, _, h1, h2, h3, hpost _ _ _ _ _ _ ⟨Cond.after_iff.mpr rfl, Cond.after_iff.mpr (eq_i res_at (Term.int_eval (1)) rfl), trivial⟩ ⟨hq.1, hq.2.1, (hq.2.2.sift fun y hy => Or.inr (N y hy)).mono (by show H'.length - 0 ≤ _; omega) (by show szs K H' - 0 ≤ _; omega)⟩⟩
theorem main_1_1 : Claimed_1_1 := comes_1 fun _ _ _ _ _ _ h hF => ⟨h.1, hF⟩
theorem main_1_2 : Claimed_1_2 := comes_1 fun _ _ _ _ _ _ h hF => ⟨h.2.1, hF⟩
end Jvm.Pilot.@@N@@
namespace Jvm.Pilot.@@N@@
open Jvm Jvm.ClassFile Sem Op Lib Jvm.Free Jvm.Stand Jvm.Pilot.@@N@@.Jvm.D
/-! MADE BY PROGRAM (witnessworld.py) out of the Statement's table words and the real class files: 9 classes; the members and pool entries that the words name. The judged class is class 1, her method 1. -/
namespace start1
open Jvm.ClassFile
def u (s : String) : CpInfo := .utf8 (stringToUtf16 s)
/-- a pool by its gaps: so many unusable entries, then the entry; so many at the end -/
def gap : Nat → List CpInfo → List CpInfo
  | 0, r => r
  | n + 1, r => .unusable :: gap n r
def poolList (es : List (Nat × CpInfo)) (last : Nat) : List CpInfo := es.foldr (fun e r => gap e.1 (e.2 :: r)) (gap last [])
def pool (es : List (Nat × CpInfo)) (last : Nat) : Array CpInfo := ⟨poolList es last⟩
def fileOf (pool : Array CpInfo) (this : Nat) (attrs : Array Attribute := #[]) (ms : Array MethodInfo := #[]) (fl : Nat := 33) (sup : Nat := 0) (ifs : Array Nat := #[]) (fds : Array FieldInfo := #[]) : ClassFile where
  minorVersion := 0
  majorVersion := 65
  constantPool := pool
  accessFlags := fl
  thisClass := this
  superClass := sup
  interfaces := ifs
  fields := fds
  methods := ms
  attributes := attrs
def plain (name : String) (sup : Option ClassId) : Class where
  name := name
  kind := .ordinary
  loader := none
  accessFlags := 33
  super := sup
  interfaces := #[]
  cf := none
  fields := #[]
  methods := #[]
  instanceTypes := #[]
  staticTypes := #[]
  resolved := #[]
  callSites := []
  init := .initialized
  statics := none
  mirror := none

def pool0 : Array CpInfo := pool [(5, u "<init>"), (0, u "()V"), (1, .class_ 10), (1, u "java/lang/Object")] 113

def k0m0 : Method := { name := "<init>", desc := "()V", sig := { parameters := [], returnType := none }, accessFlags := 1, code := none }
/-- java/lang/Object -/
def k0 : Class := { plain "java/lang/Object" none with
  accessFlags := 33
  interfaces := #[]
  cf := some (fileOf pool0 8 #[] #[{ accessFlags := 1, nameIndex := 5, descriptorIndex := 6, attributes := #[] }] 33 0 #[] #[])
  fields := #[]
  methods := #[k0m0]
  instanceTypes := #[]
  staticTypes := #[]
  resolved := Array.replicate 124 none
  statics := none }

def pool1 : Array CpInfo := pool [(2, .class_ 4), (1, u "java/lang/Object"), (0, u "<init>"), (0, u "()V"), (0, .integer 2147483647), (0, .methodref 9 10), (0, .class_ 11), (0, .nameAndType 12 13), (0, u "com/example/acquaint/acquaint/GroupsStartsPinLaw"), (0, u "build"), (0, u "(IIIII)[I"), (0, .methodref 15 16), (0, .class_ 17), (0, .nameAndType 18 19), (0, u "com/example/acquaint/acquaint/Groups"), (0, u "starts"), (0, u "([II)[I"), (0, .methodref 9 21), (0, .nameAndType 22 23), (0, u "at"), (0, u "([IIIIIIII)Z"), (0, .methodref 9 25), (0, .nameAndType 26 27), (0, u "below"), (0, u "(IIIIII)I"), (2, u "law"), (0, u "(IIIIII)Z")] 5

def k1m0 : Method := { name := "<init>", desc := "()V", sig := { parameters := [], returnType := none }, accessFlags := 1, code := none }
def k1c1 : Code := { maxStack := 8, maxLocals := 14, code := code, exceptionTable := #[], attributes := #[] }
def k1m1 : Method := { name := "law", desc := "(IIIIII)Z", sig := { parameters := [.int, .int, .int, .int, .int, .int], returnType := some .boolean }, accessFlags := 9, code := some k1c1 }
def k1c2 : Code := { maxStack := 4, maxLocals := 5, code := method_3_code, exceptionTable := #[], attributes := #[] }
def k1m2 : Method := { name := "build", desc := "(IIIII)[I", sig := { parameters := [.int, .int, .int, .int, .int], returnType := some (.array .int) }, accessFlags := 10, code := some k1c2 }
def k1c3 : Code := { maxStack := 2, maxLocals := 7, code := method_4_code, exceptionTable := #[], attributes := #[] }
def k1m3 : Method := { name := "below", desc := "(IIIIII)I", sig := { parameters := [.int, .int, .int, .int, .int, .int], returnType := some .int }, accessFlags := 10, code := some k1c3 }
def k1c4 : Code := { maxStack := 7, maxLocals := 8, code := method_5_code, exceptionTable := #[], attributes := #[] }
def k1m4 : Method := { name := "at", desc := "([IIIIIIII)Z", sig := { parameters := [(.array .int), .int, .int, .int, .int, .int, .int, .int], returnType := some .boolean }, accessFlags := 10, code := some k1c4 }
/-- com/example/acquaint/acquaint/GroupsStartsPinLaw -/
def k1 : Class := { plain "com/example/acquaint/acquaint/GroupsStartsPinLaw" (some 0) with
  accessFlags := 49
  interfaces := #[]
  cf := some (fileOf pool1 9 #[] #[{ accessFlags := 1, nameIndex := 5, descriptorIndex := 6, attributes := #[] }, { accessFlags := 9, nameIndex := 30, descriptorIndex := 31, attributes := #[] }, { accessFlags := 10, nameIndex := 12, descriptorIndex := 13, attributes := #[] }, { accessFlags := 10, nameIndex := 26, descriptorIndex := 27, attributes := #[] }, { accessFlags := 10, nameIndex := 22, descriptorIndex := 23, attributes := #[] }] 49 2 #[] #[])
  fields := #[]
  methods := #[k1m0, k1m1, k1m2, k1m3, k1m4]
  instanceTypes := #[]
  staticTypes := #[]
  resolved := Array.replicate 37 none
  statics := none }

def pool2 : Array CpInfo := pool [(2, .class_ 4), (1, u "java/lang/Object"), (3, .class_ 10), (1, u "com/example/acquaint/acquaint/Groups"), (0, u "starts"), (0, u "[I"), (2, u "lanes"), (0, u "[[I"), (2, u "count"), (0, u "I"), (2, u "used"), (2, u "tight"), (2, u "values"), (2, u "ends"), (25, u "([II)[I"), (44, u "LEAST_ROOM")] 18

def k2c0 : Code := { maxStack := 5, maxLocals := 7, code := prog_33_method_2_code, exceptionTable := #[], attributes := #[] }
def k2m0 : Method := { name := "starts", desc := "([II)[I", sig := { parameters := [(.array .int), .int], returnType := some (.array .int) }, accessFlags := 8, code := some k2c0 }
/-- com/example/acquaint/acquaint/Groups -/
def k2 : Class := { plain "com/example/acquaint/acquaint/Groups" (some 0) with
  accessFlags := 48
  interfaces := #[]
  cf := some (fileOf pool2 8 #[] #[{ accessFlags := 8, nameIndex := 11, descriptorIndex := 58, attributes := #[] }] 48 2 #[] #[{ accessFlags := 26, nameIndex := 103, descriptorIndex := 20, attributes := #[] }, { accessFlags := 2, nameIndex := 11, descriptorIndex := 12, attributes := #[] }, { accessFlags := 2, nameIndex := 32, descriptorIndex := 12, attributes := #[] }, { accessFlags := 2, nameIndex := 19, descriptorIndex := 20, attributes := #[] }, { accessFlags := 18, nameIndex := 15, descriptorIndex := 16, attributes := #[] }, { accessFlags := 2, nameIndex := 23, descriptorIndex := 20, attributes := #[] }, { accessFlags := 2, nameIndex := 26, descriptorIndex := 20, attributes := #[] }, { accessFlags := 2, nameIndex := 29, descriptorIndex := 20, attributes := #[] }])
  fields := #[{ name := "LEAST_ROOM", type := .int, accessFlags := 26, slot := 0, constantValue := 0 }, { name := "starts", type := (.array .int), accessFlags := 2, slot := 0, constantValue := 0 }, { name := "ends", type := (.array .int), accessFlags := 2, slot := 1, constantValue := 0 }, { name := "count", type := .int, accessFlags := 2, slot := 2, constantValue := 0 }, { name := "lanes", type := (.array (.array .int)), accessFlags := 18, slot := 3, constantValue := 0 }, { name := "used", type := .int, accessFlags := 2, slot := 4, constantValue := 0 }, { name := "tight", type := .int, accessFlags := 2, slot := 5, constantValue := 0 }, { name := "values", type := .int, accessFlags := 2, slot := 6, constantValue := 0 }]
  methods := #[k2m0]
  instanceTypes := #[(.array .int), (.array .int), .int, (.array (.array .int)), .int, .int, .int]
  staticTypes := #[.int]
  resolved := Array.replicate 122 none
  statics := none }

def pool3 : Array CpInfo := pool [(1, u "java/lang/Cloneable"), (0, .class_ 1), (0, u "java/lang/Object"), (0, .class_ 3)] 3

/-- java/lang/Cloneable -/
def k3 : Class := { plain "java/lang/Cloneable" (some 0) with
  accessFlags := 1537
  interfaces := #[]
  cf := some (fileOf pool3 2 #[] #[] 1537 4 #[] #[])
  fields := #[]
  methods := #[]
  instanceTypes := #[]
  staticTypes := #[]
  resolved := Array.replicate 8 none
  statics := none }

def pool4 : Array CpInfo := pool [(1, u "java/io/Serializable"), (0, .class_ 1), (0, u "java/lang/Object"), (0, .class_ 3)] 3

/-- java/io/Serializable -/
def k4 : Class := { plain "java/io/Serializable" (some 0) with
  accessFlags := 1537
  interfaces := #[]
  cf := some (fileOf pool4 2 #[] #[] 1537 4 #[] #[])
  fields := #[]
  methods := #[]
  instanceTypes := #[]
  staticTypes := #[]
  resolved := Array.replicate 8 none
  statics := none }

/-- the primitive byte -/
def k5 : Class := { plain "byte" none with kind := .primitive 'B', accessFlags := 0x411 }
/-- [B -/
def k6 : Class := { plain "[B" (some 0) with kind := .array 5 .byte, interfaces := #[3, 4], accessFlags := 1041 }

/-- the primitive int -/
def k7 : Class := { plain "int" none with kind := .primitive 'I', accessFlags := 0x411 }
/-- [I -/
def k8 : Class := { plain "[I" (some 0) with kind := .array 7 .int, interfaces := #[3, 4], accessFlags := 1041 }

def heap : Heap := #[]
def classes : Array Class := #[k0, k1, k2, k3, k4, k5, k6, k7, k8]
def interned : List (Array UInt16 × Addr) := []
def slotsUsed : Nat := 0
def theMethod : MethodId := ⟨1, 1⟩
def args0 : Array Value := #[.int 5, .int 300, .int 7, .int 9, .int 11, .int 13]
def aboutOver (below : List Frame) : State where
  vm := { classes := classes, interned := interned.toArray }
  heap := heap
  slotsUsed := slotsUsed
  threads := #[{ frames := .invoking theMethod args0 :: below }]
def below0 : List Frame := [.native { method := ⟨0, 0⟩, args := #[] }]
def about1 : State := aboutOver below0
def p0 : Program := .bare "" "" ""
def e0 : Env := launch0.env 0 0 0
theorem w_frames : about1.frames = Frame.invoking theMethod args0 :: below0 := rfl
set_option maxRecDepth 65536 in
theorem w_args : argsFit about1.vm theMethod args0 = true := by decide +kernel
set_option maxRecDepth 65536 in
theorem w_heap : heapFits about1 = true := by decide +kernel
set_option maxRecDepth 65536 in
theorem w_runnable : about1.curStatus? = some .runnable := by decide +kernel
set_option maxRecDepth 65536 in
theorem w_alone : about1.alone = true := by decide +kernel
set_option maxRecDepth 65536 in
theorem w_named : about1.methodNamed? x = some theMethod := by decide +kernel
set_option maxRecDepth 65536 in
theorem w_hears : about1.hears theMethod below0 = true := by decide +kernel
set_option maxRecDepth 65536 in
theorem w_ripe : about1.ripe theMethod args0 below0 = true := by decide +kernel
theorem w_running : about1.status = .running := rfl
set_option maxRecDepth 65536 in
theorem w_room : about1.hasRoom e0.platform room_1 = true :=
  launch0.hasRoom_least _ room_1 (by decide +kernel) (by decide +kernel) (by decide +kernel) (by decide +kernel) (by decide +kernel) (by decide +kernel)
theorem allAtoms_all (ts : List Jvm.Cond) (a : Array Jvm.Value) (st : Jvm.State) : (allAtoms ts).before a st = ts.all (fun c => c.before a st) := by
  induction ts with
  | nil => rfl
  | cons c t ih =>
    show (Jvm.Cond.and c (allAtoms t)).before a st = _
    rw [Jvm.Cond.before_and, ih, List.all_cons]
def words1 : List Jvm.Cond := Jvm.Cond.code x code maxLocals ret :: tables_1
/-- a 'code' word, met by the world's own term for the bytes: nothing is compared byte by byte -/
theorem code_word {y : MethodName} {bytes : ByteArray} {mx : Nat} {rt : Option FieldType} {a : Array Value} {s : State} {m : MethodId} {meth : Method} {c : Code} (h1 : s.methodNamed? y = some m) (h2 : s.vm.method? m = some meth) (h3 : meth.code = some c) (h4 : c.code = bytes)
    (h5 : (c.maxLocals == mx && c.exceptionTable.isEmpty && decide (c.maxStack ≤ mostOperands) && decide (meth.sig.returnType = rt) && !meth.locks && decide (parseMethodDescriptor y.desc = some meth.sig)) = true) : (Jvm.Cond.code y bytes mx rt).before a s = true := by
  simp only [Bool.and_eq_true, beq_iff_eq, Bool.not_eq_true', decide_eq_true_eq] at h5
  obtain ⟨⟨⟨⟨⟨g1, g2⟩, g3⟩, g4⟩, g5⟩, g6⟩ := h5
  simp [Cond.before, Cond.holds, Cond.value, h1, h2, h3, h4, g1, g2, g3, g4, g5, g6]
def isCode : Jvm.Cond → Bool
  | .code _ _ _ _ => true
  | _ => false
theorem all_split {L : List Jvm.Cond} {P : Jvm.Cond → Bool} (h1 : L.all (fun c => isCode c || P c) = true) (h2 : ∀ c ∈ L.filter isCode, P c = true) : L.all P = true := by
  refine List.all_eq_true.mpr fun c hc => ?_
  have h := List.all_eq_true.mp h1 c hc
  rcases Bool.eq_false_or_eq_true (isCode c) with hi | hi
  · exact h2 c (List.mem_filter.mpr ⟨hc, hi⟩)
  · simpa [hi] using h
set_option maxRecDepth 65536 in
theorem w_c0 : (Jvm.Cond.code x code maxLocals ret).before args0 about1 = true := code_word (m := ⟨1, 1⟩) (meth := k1m1) (c := k1c1) (by decide +kernel) rfl rfl rfl (by decide +kernel)
set_option maxRecDepth 65536 in
theorem w_c1 : (Jvm.Cond.code ({ cls := "com/example/acquaint/acquaint/GroupsStartsPinLaw", name := "build", desc := "(IIIII)[I" } : Jvm.MethodName) method_3_code (5 : Nat) (Option.some (Jvm.ClassFile.FieldType.array Jvm.ClassFile.FieldType.int))).before args0 about1 = true := code_word (m := ⟨1, 2⟩) (meth := k1m2) (c := k1c2) (by decide +kernel) rfl rfl rfl (by decide +kernel)
set_option maxRecDepth 65536 in
theorem w_c2 : (Jvm.Cond.code ({ cls := "com/example/acquaint/acquaint/Groups", name := "starts", desc := "([II)[I" } : Jvm.MethodName) prog_33_method_2_code (7 : Nat) (Option.some (Jvm.ClassFile.FieldType.array Jvm.ClassFile.FieldType.int))).before args0 about1 = true := code_word (m := ⟨2, 0⟩) (meth := k2m0) (c := k2c0) (by decide +kernel) rfl rfl rfl (by decide +kernel)
set_option maxRecDepth 65536 in
theorem w_c3 : (Jvm.Cond.code ({ cls := "com/example/acquaint/acquaint/GroupsStartsPinLaw", name := "at", desc := "([IIIIIIII)Z" } : Jvm.MethodName) method_5_code (8 : Nat) (Option.some Jvm.ClassFile.FieldType.boolean)).before args0 about1 = true := code_word (m := ⟨1, 4⟩) (meth := k1m4) (c := k1c4) (by decide +kernel) rfl rfl rfl (by decide +kernel)
set_option maxRecDepth 65536 in
theorem w_c4 : (Jvm.Cond.code ({ cls := "com/example/acquaint/acquaint/GroupsStartsPinLaw", name := "below", desc := "(IIIIII)I" } : Jvm.MethodName) method_4_code (7 : Nat) (Option.some Jvm.ClassFile.FieldType.int)).before args0 about1 = true := code_word (m := ⟨1, 3⟩) (meth := k1m3) (c := k1c3) (by decide +kernel) rfl rfl rfl (by decide +kernel)
def codes1 : List Jvm.Cond := [Jvm.Cond.code x code maxLocals ret, Jvm.Cond.code ({ cls := "com/example/acquaint/acquaint/GroupsStartsPinLaw", name := "build", desc := "(IIIII)[I" } : Jvm.MethodName) method_3_code (5 : Nat) (Option.some (Jvm.ClassFile.FieldType.array Jvm.ClassFile.FieldType.int)), Jvm.Cond.code ({ cls := "com/example/acquaint/acquaint/Groups", name := "starts", desc := "([II)[I" } : Jvm.MethodName) prog_33_method_2_code (7 : Nat) (Option.some (Jvm.ClassFile.FieldType.array Jvm.ClassFile.FieldType.int)), Jvm.Cond.code ({ cls := "com/example/acquaint/acquaint/GroupsStartsPinLaw", name := "at", desc := "([IIIIIIII)Z" } : Jvm.MethodName) method_5_code (8 : Nat) (Option.some Jvm.ClassFile.FieldType.boolean), Jvm.Cond.code ({ cls := "com/example/acquaint/acquaint/GroupsStartsPinLaw", name := "below", desc := "(IIIIII)I" } : Jvm.MethodName) method_4_code (7 : Nat) (Option.some Jvm.ClassFile.FieldType.int)]
set_option maxRecDepth 65536 in
theorem codes_eq : words1.filter isCode = codes1 := rfl
theorem w_codes : ∀ c ∈ words1.filter isCode, c.before args0 about1 = true := by
  rw [codes_eq]
  intro c hc
  simp only [codes1, List.mem_cons, List.not_mem_nil, or_false] at hc
  rcases hc with rfl | rfl | rfl | rfl | rfl
  · exact w_c0
  · exact w_c1
  · exact w_c2
  · exact w_c3
  · exact w_c4
set_option maxRecDepth 65536 in
theorem w_t1 : words1.all (fun c => isCode c || c.before args0 about1) = true := by decide +kernel
theorem w_tables : (allAtoms (Jvm.Cond.code x code maxLocals ret :: tables_1)).before args0 about1 = true := by
  rw [allAtoms_all]
  show words1.all (fun c => c.before args0 about1) = true
  refine all_split ?_ w_codes
  rw [w_t1]
set_option maxRecDepth 65536 in
theorem w_case : (Jvm.Cond.and given_1 narrow_1).before args0 about1 = true := by decide +kernel
theorem w_applies : (headSpec (Jvm.Cond.code x code maxLocals ret :: tables_1) room_1).applies x e0.platform about1 = true :=
  (Spec.applies_iff w_frames).mpr ⟨w_running, w_runnable, w_alone, w_named, w_hears, w_ripe, w_room, w_tables⟩
theorem atStart : AtStart classFile x code maxLocals ret World_1 tables_1 room_1 Calls_1 rest_1 Pre_1 launch0 p0 e0 about1 theMethod args0 below0 :=
  ⟨lists_1, trivial, launch0.admits_env _ _ _, launch0.least_env, fairChoices_fair.cas, fairChoices_fair.clock, w_frames, w_args, w_heap, w_applies, trivial, trivial, w_case⟩
end start1
theorem witness_1 : WitnessClaimed_1 := ⟨start1.p0, start1.e0, start1.about1, start1.theMethod, start1.args0, start1.below0, start1.atStart⟩
end Jvm.Pilot.@@N@@
