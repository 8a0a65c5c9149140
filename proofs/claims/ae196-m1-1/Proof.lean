import JvmDerived
import JvmDerived.Pilot.@@N@@Statement
import JvmDerived.Pilot.@@N@@Code
set_option linter.unusedVariables false
set_option linter.unusedSimpArgs false
namespace Jvm.Pilot.@@N@@
open Jvm Jvm.ClassFile Sem Op Lib Jvm.Free Jvm.Stand Jvm.LawKit Jvm.RoadKit Bundle Jvm.Pilot.@@N@@.Jvm.D
/-! ## A small logic of runs over a virtual heap (own work, the same text in every proof of this seat)
References count from the first cell that the law makes (n0): `shV n0`. `Ob`: an object by its class (a place in K) and its laid fields, or an array by its component type and values.
`Runs K l Z n0 mi pc ls st H v H'`: whoever stands in the method mi at pc with locals ls, stack st and virtual heap H comes out returning v with heap H'. -/
def shV (n0 : Nat) : Value → Value
  | .ref a => .ref (n0 + a)
  | v => v
def shS (n0 : Nat) : Slot → Slot
  | .val v => .val (shV n0 v)
  | s => s
abbrev Ob : Type := (Nat × List Value) ⊕ (FieldType × List Value)
/-- a field: who declares it, its name, its descriptor, its type -/
abbrev FI : Type := String × String × String × FieldType
/-- a class: its name, the number of its slots, its fields -/
abbrev CI : Type := String × Nat × List FI
/-- a method: name, bytes, max_locals, return type; frames and words that its callees need -/
abbrev MI : Type := MethodName × ByteArray × Nat × Option FieldType × Nat × Nat
def osz (K : List CI) : Ob → Nat
  | .inl (c, _) => ((K[c]?).map (fun ci => ci.2.1)).getD 0
  | .inr (_, vs) => vs.length
def szs (K : List CI) (H : List Ob) : Nat := (H.map (osz K)).sum
def OOk (K : List CI) (Z : State) (n0 : Nat) (h : Heap) (a : Addr) : Ob → Prop
  | .inl (c, vs) => ∃ ci, K[c]? = some ci ∧ Exa Z h a ci.1 ∧ ∀ (i : Nat) (f : FI) (v : Value), ci.2.2[i]? = some f → vs[i]? = some v → Fld Z h a f.1 f.2.1 f.2.2.1 (shV n0 v)
  | .inr (ty, vs) => ∃ cl, Arr Z h a cl ty ∧ cl.slots.size = vs.length ∧ vs.length < 2 ^ 31 ∧ ∀ (i : Nat) (v : Value), vs[i]? = some v → cl.slots[i]? = some (shV n0 v) ∧ fits ty v = true
def Rel (K : List CI) (Z : State) (n0 : Nat) (H : List Ob) (h : Heap) : Prop := h.size = n0 + H.length ∧ ∀ (k : Nat) (o : Ob), H[k]? = some o → OOk K Z n0 h (n0 + k) o
def KOk (K : List CI) (Z : State) (a0 : Array Value) : Prop := ∀ (k : Nat) (ci : CI), K[k]? = some ci → (Jvm.Cond.instantiable ci.1 ci.2.1).before a0 Z = true ∧ (∀ f ∈ ci.2.2, Laid Z a0 ci.1 f.1 f.2.1 f.2.2.1 ∧ parseFieldDescriptor f.2.2.1 = some f.2.2.2) ∧ ci.2.2.Pairwise (fun f g => f.2.1 ≠ g.2.1)
theorem cat_sh (n0 : Nat) (v : Value) : (shV n0 v).category = v.category := by cases v <;> rfl
theorem cats_sh (n0 : Nat) (st : List Value) : ((st.map (shV n0)).map fun v => v.category).sum = (st.map fun v => v.category).sum := by
  rw [List.map_map]; congr 1; exact List.map_congr_left fun v _ => cat_sh n0 v
theorem laid_map (n0 : Nat) : ∀ as : List Value, Jvm.Sym.laidSlots (as.map (shV n0)) = (Jvm.Sym.laidSlots as).map (shS n0)
  | [] => rfl
  | v :: vs => by
    simp only [List.map_cons, Jvm.Sym.laidSlots, cat_sh, laid_map n0 vs]
    split <;> rfl
theorem entry_eq (n0 : Nat) (m : MethodId) (as : List Value) (n : Nat) {ls : List Slot} (h : Jvm.Sym.laidSlots as ++ List.replicate (n - (Jvm.Sym.laidSlots as).length) .unset = ls) :
    entryFrame m (as.map (shV n0)).toArray n = mkF m 0 (ls.map (shS n0)).toArray [] := by
  have e : argsToLocals (as.map (shV n0)).toArray n = (ls.map (shS n0)).toArray := Array.toList_inj.mp (by
    rw [Jvm.Sym.argsToLocals_toList]
    simp only [laid_map, List.length_map, ← h, List.map_append, List.map_replicate]
    rfl)
  show ({ method := m, pc := 0, locals := argsToLocals (as.map (shV n0)).toArray n, stack := [], locked := none } : JFrame) = _
  rw [e]
theorem loc_at {n0 : Nat} {ls : List Slot} {k : Nat} {s : Slot} (h : ls[k]? = some s) : ((ls.map (shS n0)).toArray)[k]? = some (shS n0 s) := by
  simp [h]
/-- the place k may take a value of one word -/
def P1 (ls : List Slot) (k : Nat) : Bool := match ls[k]? with | some .unset => true | some (.val w) => w.category == 1 | _ => false
/-- the places k and k + 1 may take a value of two words -/
def P2 (ls : List Slot) (k : Nat) : Bool := match ls[k]?, ls[k + 1]? with | some (.val w), some .second => w.category == 2 | _, _ => P1 ls k && P1 ls (k + 1)
theorem P1_slot {ls : List Slot} {k : Nat} (h : P1 ls k = true) : ∃ s, ls[k]? = some s ∧ (match s with | .second => False | .val old => old.category = 1 | .unset => True) := by
  unfold P1 at h
  split at h
  · rename_i e; exact ⟨_, e, trivial⟩
  · rename_i w e; exact ⟨_, e, by simpa using h⟩
  · cases h
theorem st1 {n0 : Nat} {ls ls' : List Slot} {k : Nat} {v : Value} (hp : P1 ls k = true) (hv : v.category = 1) (hs : ls.set k (.val v) = ls') : storeLocals (ls.map (shS n0)).toArray k (shV n0 v) = some (ls'.map (shS n0)).toArray := by
  obtain ⟨s, e, q⟩ := P1_slot hp
  rw [storeLocals_cat1 (loc_at (n0 := n0) e) (by rw [cat_sh]; exact hv) (by cases s <;> simp_all [shS, cat_sh]), ← hs]
  simp [List.map_set, shS]
theorem st2 {n0 : Nat} {ls ls' : List Slot} {k : Nat} {v : Value} (hp : P2 ls k = true) (hv : v.category = 2) (hs : (ls.set k (.val v)).set (k + 1) .second = ls') : storeLocals (ls.map (shS n0)).toArray k (shV n0 v) = some (ls'.map (shS n0)).toArray := by
  have key : ∃ x y, ls[k]? = some x ∧ ls[k + 1]? = some y ∧ ((Jvm.Free.Fl.Plain1 (shS n0 x) ∧ Jvm.Free.Fl.Plain1 (shS n0 y)) ∨ ((∃ old, shS n0 x = .val old ∧ old.category = 2) ∧ shS n0 y = .second)) := by
    unfold P2 at hp
    split at hp
    · rename_i w e1 e2
      exact ⟨_, _, e1, e2, Or.inr ⟨⟨_, rfl, by rw [cat_sh]; simpa using hp⟩, rfl⟩⟩
    · rw [Bool.and_eq_true] at hp
      obtain ⟨s, e, q⟩ := P1_slot hp.1
      obtain ⟨s', e', q'⟩ := P1_slot hp.2
      exact ⟨s, s', e, e', Or.inl ⟨by cases s <;> simp_all [shS, cat_sh, Jvm.Free.Fl.Plain1], by cases s' <;> simp_all [shS, cat_sh, Jvm.Free.Fl.Plain1]⟩⟩
  obtain ⟨x, y, e1, e2, q⟩ := key
  rw [Jvm.Free.Fl.storeLocals_cat2 (loc_at (n0 := n0) e1) (loc_at (n0 := n0) e2) (by rw [cat_sh]; exact hv) q, ← hs]
  simp [List.map_set, shS]
def Runs (K : List CI) (l : Launch) (Z : State) (n0 : Nat) (mi : MI) (pc : Nat) (ls : List Slot) (st : List Value) (H : List Ob) (v : Option Value) (H' : List Ob) : Prop :=
  H.length ≤ H'.length ∧ szs K H ≤ szs K H' ∧
  ∀ (p : Program) (e : Env) (R : Room) (s : State) (m : MethodId) (args : Array Value) (below : List Frame) (meth : Method) (c : Code) (T : State) (locs : List Loc) (cells slots : Nat),
    Stand p l e R s m args below meth c T locs cells slots → p.tables.exec = Jvm.exec → Z.Warmed39 s.vm → c.code = mi.2.1 → c.maxLocals = mi.2.2.1 → meth.sig.returnType = mi.2.2.2.1 → s.vm.findClass mi.1.cls = some m.cls → meth.name = mi.1.name →
    Rel K Z n0 H T.heap → Fr n0 locs → mi.2.2.2.2.1 ≤ R.frames → mi.2.2.2.2.2 ≤ R.locals → s.heap.size + cells = n0 + H.length → cells + H'.length ≤ R.cells + H.length → slots + szs K H' ≤ R.slots + szs K H →
    ∃ (T' : State) (locs' : List Loc) (cells' slots' : Nat), Stand p l e R s m args below meth c T' locs' cells' slots' ∧ Rel K Z n0 H' T'.heap ∧ Fr n0 locs' ∧ s.heap.size + cells' = n0 + H'.length ∧ slots' + szs K H ≤ slots + szs K H' ∧
      ∀ fs, (∀ (f : JFrame) (acts : List Action), f.method = m → f.locked = none → f.entered = [] → (doReturn e (T'.setTop f) acts (v.map (shV n0))).1 = T'.setFrames fs) →
        Steps p.tables e below (T.setTop (mkF m pc (ls.map (shS n0)).toArray (st.map (shV n0)))) (T'.setFrames fs)
def rmOf (K : List CI) (mi : MI) (H H' : List Ob) : Room := { frames := mi.2.2.2.2.1, cells := H'.length - H.length, slots := szs K H' - szs K H, locals := mi.2.2.2.2.2 }
def Meets (K : List CI) (l : Launch) (Z : State) (n0 : Nat) (mi : MI) (as : List Value) (H : List Ob) (v : Option Value) (H' : List Ob) : Prop :=
  H.length ≤ H'.length ∧ szs K H ≤ szs K H' ∧ ∀ h, Rel K Z n0 H h →
    MetFree l mi.1 (head1 [Jvm.Cond.code mi.1 mi.2.1 mi.2.2.1 mi.2.2.2.1] (rmOf K mi H H')) (fun a U => a = (as.map (shV n0)).toArray ∧ Z.Warmed39 U.vm ∧ U.heap = h) (fun _ _ _ _ _ => True)
      (fun _ U o U' => ∃ w L, o = .returned w ∧ (w = v.map (shV n0) ∧ Rel K Z n0 H' U'.heap ∧ Fr n0 L) ∧ FrameEnd U o U' L (rmOf K mi H H').cells (rmOf K mi H H').slots)
theorem leB {a b : Nat} (h : Nat.ble a b = true) : a ≤ b := Nat.le_of_ble_eq_true h
theorem ltB {a b : Nat} (h : Nat.ble (a + 1) b = true) : a < b := Nat.le_of_ble_eq_true h
section Logic
variable {K : List CI} {l : Launch} {Z : State} {a0 : Array Value} {n0 : Nat} {mi : MI} {pc np tp : Nat} {ls ls' : List Slot} {st rest : List Value} {H H' H1 : List Ob} {v : Option Value}
/-- from a run of the body to the method's contract, in any room that holds it -/
theorem met_gen {as : List Value} (ws : List Jvm.Cond) (R0 : Room) (hp : plainFor mi.1 = true) (hls : Jvm.Sym.laidSlots as ++ List.replicate (mi.2.2.1 - (Jvm.Sym.laidSlots as).length) .unset = ls) (hv : mi.2.2.2.1 = none → v = none)
    (k : Runs K l Z n0 mi 0 ls [] H v H') (hfr : mi.2.2.2.2.1 ≤ R0.frames) (hlo : mi.2.2.2.2.2 ≤ R0.locals) (hcl : H'.length ≤ R0.cells + H.length) (hsl : szs K H' ≤ R0.slots + szs K H) {h : Heap} (hrel : Rel K Z n0 H h) :
    MetFree l mi.1 (head1 (Jvm.Cond.code mi.1 mi.2.1 mi.2.2.1 mi.2.2.2.1 :: ws) R0) (fun a U => a = (as.map (shV n0)).toArray ∧ Z.Warmed39 U.vm ∧ U.heap = h) (fun _ _ _ _ _ => True)
      (fun _ U o U' => ∃ w L, o = .returned w ∧ (w = v.map (shV n0) ∧ Rel K Z n0 H' U'.heap ∧ Fr n0 L) ∧ FrameEnd U o U' L (H'.length - H.length) (szs K H' - szs K H)) := by
  refine MetFree.of_bodySF hp hisR ?_
  intro p e s m args below meth c s₁ Bd hml0 hP hK
  obtain ⟨rfl, hZ, hh⟩ := hP
  have hx := Bd.exec
  have hby := Bd.bytes
  have hown : s.vm.findClass mi.1.cls = some m.cls := findClass_of_methodNamed Bd.named
  have hnm := (name_of_methodNamed Bd.named Bd.method).1
  have X0 : Stand p l e R0 s m (as.map (shV n0)).toArray below meth c s₁ [] 0 0 := Stand.of_body Bd
  have e0 : s₁.heap = h := by rw [← hh, Bd.state]; rfl
  obtain ⟨T', locs', cells', slots', X', rel', fr', hc', hs', stp⟩ := k.2.2 p e R0 s m _ below meth c s₁ [] 0 0 X0 hx hZ hby hml0 Bd.returns hown hnm (e0 ▸ hrel) (Fr.nil n0) hfr hlo (by rw [hh, hrel.1]; rfl) (by omega) (by omega)
  have hsz : s.heap.size = n0 + H.length := by rw [hh, hrel.1]
  obtain ⟨fs, hr, hrun, hended, hW, hsame⟩ := X'.leave (v := v.map (shV n0)) (fun q => by rw [Bd.returns] at q; rw [hv q]; rfl)
  exact ⟨_, _, castTop (entry_eq n0 m as mi.2.2.1 hls) (stp fs hr), hrun, hended, _, _, rfl, ⟨rfl, rel', fr'⟩, ⟨_, rfl⟩, hW, hsame.mono (by omega) (by omega)⟩
theorem meets {as : List Value} (hp : plainFor mi.1 = true) (hls : Jvm.Sym.laidSlots as ++ List.replicate (mi.2.2.1 - (Jvm.Sym.laidSlots as).length) .unset = ls) (hv : mi.2.2.2.1 = none → v = none) (k : Runs K l Z n0 mi 0 ls [] H v H') : Meets K l Z n0 mi as H v H' :=
  ⟨k.1, k.2.1, fun h hrel => met_gen [] (rmOf K mi H H') hp hls hv k (Nat.le_refl _) (Nat.le_refl _) (by have := k.1; show _ ≤ (H'.length - H.length) + _; omega) (by have := k.2.1; show _ ≤ (szs K H' - szs K H) + _; omega) hrel⟩
/-- a run that ends in some heap of at most c cells and n slots -/
def RunsB (K : List CI) (l : Launch) (Z : State) (n0 : Nat) (mi : MI) (pc : Nat) (ls : List Slot) (st : List Value) (H : List Ob) (v : Option Value) (c n : Nat) : Prop := ∃ H' : List Ob, Runs K l Z n0 mi pc ls st H v H' ∧ H'.length ≤ c ∧ szs K H' ≤ n
theorem lift {st2 : List Value} {c n : Nat} (f : ∀ H' : List Ob, Runs K l Z n0 mi np ls' st2 H1 v H' → Runs K l Z n0 mi pc ls st H v H') (k : RunsB K l Z n0 mi np ls' st2 H1 v c n) : RunsB K l Z n0 mi pc ls st H v c n := by
  obtain ⟨H', k1, k2⟩ := k
  exact ⟨H', f H' k1, k2⟩
/-- a step that reads no heap -/
theorem Runs.pure {st2 : List Value} (hstep : ∀ (p : Program) (e : Env) (R : Room) (s : State) (m : MethodId) (args : Array Value) (below : List Frame) (meth : Method) (c : Code) (T : State) (locs : List Loc) (cells slots : Nat),
      Stand p l e R s m args below meth c T locs cells slots → p.tables.exec = Jvm.exec → Z.Warmed39 s.vm → c.code = mi.2.1 → s.vm.findClass mi.1.cls = some m.cls → ∀ target,
      Steps p.tables e below (T.setTop (mkF m np (ls'.map (shS n0)).toArray (st2.map (shV n0)))) target → Steps p.tables e below (T.setTop (mkF m pc (ls.map (shS n0)).toArray (st.map (shV n0)))) target)
    (k : Runs K l Z n0 mi np ls' st2 H v H') : Runs K l Z n0 mi pc ls st H v H' := by
  refine ⟨k.1, k.2.1, fun p e R s m args below meth c T locs cells slots X hx hZ hc hml hret hown hnm hrel hfr hf hlo hsz hcl hsl => ?_⟩
  obtain ⟨T', locs', cells', slots', X', rel', fr', hc', hs', stp⟩ := k.2.2 p e R s m args below meth c T locs cells slots X hx hZ hc hml hret hown hnm hrel hfr hf hlo hsz hcl hsl
  exact ⟨T', locs', cells', slots', X', rel', fr', hc', hs', fun fs hr => hstep p e R s m args below meth c T locs cells slots X hx hZ hc hown _ (stp fs hr)⟩
theorem isRef_sh {n0 : Nat} {x : Value} (h : x.isRef = true) : (shV n0 x).isRef = true := by cases x <;> first | rfl | cases h
theorem P1_int {ls : List Slot} {k : Nat} {x : Int32} (h : ls[k]? = some (.val (.int x))) : P1 ls k = true := by unfold P1; rw [h]; rfl
theorem r_iloadN {k : Fin 4} {x : Int32} (hd : decode mi.2.1 pc = .ok (.iload_n k, 1) ∧ pc + 1 = np) (hl : ls[k.val]? = some (.val (.int x))) (kk : Runs K l Z n0 mi np ls (.int x :: st) H v H') : Runs K l Z n0 mi pc ls st H v H' := by
  obtain ⟨hd, rfl⟩ := hd
  exact Runs.pure (fun _ _ _ _ _ _ _ _ _ _ _ _ _ X hx hZ hc hown t h => XS.iloadN X.here hx rfl (hb hc hd) (loc_at hl) h) kk
theorem r_iload {k : Nat} {x : Int32} (hd : decode mi.2.1 pc = .ok (.iload k, 2) ∧ pc + 2 = np) (hl : ls[k]? = some (.val (.int x))) (kk : Runs K l Z n0 mi np ls (.int x :: st) H v H') : Runs K l Z n0 mi pc ls st H v H' := by
  obtain ⟨hd, rfl⟩ := hd
  exact Runs.pure (fun _ _ _ _ _ _ _ _ _ _ _ _ _ X hx hZ hc hown t h => XS.iload X.here hx rfl (hb hc hd) (loc_at hl) h) kk
theorem r_lloadN {k : Fin 4} {x : Int64} (hd : decode mi.2.1 pc = .ok (.lload_n k, 1) ∧ pc + 1 = np) (hl : ls[k.val]? = some (.val (.long x))) (kk : Runs K l Z n0 mi np ls (.long x :: st) H v H') : Runs K l Z n0 mi pc ls st H v H' := by
  obtain ⟨hd, rfl⟩ := hd
  exact Runs.pure (fun _ _ _ _ _ _ _ _ _ _ _ _ _ X hx hZ hc hown t h => XT.lloadN X.here hx rfl (hb hc hd) (loc_at hl) h) kk
theorem r_lload {k : Nat} {x : Int64} (hd : decode mi.2.1 pc = .ok (.lload k, 2) ∧ pc + 2 = np) (hl : ls[k]? = some (.val (.long x))) (kk : Runs K l Z n0 mi np ls (.long x :: st) H v H') : Runs K l Z n0 mi pc ls st H v H' := by
  obtain ⟨hd, rfl⟩ := hd
  exact Runs.pure (fun _ _ _ _ _ _ _ _ _ _ _ _ _ X hx hZ hc hown t h => XT.lload X.here hx rfl (hb hc hd) (loc_at hl) h) kk
theorem r_aloadN {k : Fin 4} {x : Value} (hd : decode mi.2.1 pc = .ok (.aload_n k, 1) ∧ pc + 1 = np) (hl : ls[k.val]? = some (.val x)) (hv : x.isRef = true) (kk : Runs K l Z n0 mi np ls (x :: st) H v H') : Runs K l Z n0 mi pc ls st H v H' := by
  obtain ⟨hd, rfl⟩ := hd
  exact Runs.pure (fun _ _ _ _ _ _ _ _ _ _ _ _ _ X hx hZ hc hown t h => XS.aloadN X.here hx rfl (hb hc hd) (loc_at hl) (isRef_sh hv) h) kk
theorem r_aload {k : Nat} {x : Value} (hd : decode mi.2.1 pc = .ok (.aload k, 2) ∧ pc + 2 = np) (hl : ls[k]? = some (.val x)) (hv : x.isRef = true) (kk : Runs K l Z n0 mi np ls (x :: st) H v H') : Runs K l Z n0 mi pc ls st H v H' := by
  obtain ⟨hd, rfl⟩ := hd
  exact Runs.pure (fun _ _ _ _ _ _ _ _ _ _ _ _ _ X hx hZ hc hown t h => XS.aload X.here hx rfl (hb hc hd) (loc_at hl) (isRef_sh hv) h) kk
theorem r_istoreN {k : Fin 4} {x : Int32} (hd : decode mi.2.1 pc = .ok (.istore_n k, 1) ∧ pc + 1 = np) (hp : P1 ls k.val = true) (hs : ls.set k.val (.val (.int x)) = ls') (kk : Runs K l Z n0 mi np ls' st H v H') : Runs K l Z n0 mi pc ls (.int x :: st) H v H' := by
  obtain ⟨hd, rfl⟩ := hd
  exact Runs.pure (fun _ _ _ _ _ _ _ _ _ _ _ _ _ X hx hZ hc hown t h => XS.istoreN X.here hx rfl (hb hc hd) rfl (st1 hp rfl hs) h) kk
theorem r_istore {k : Nat} {x : Int32} (hd : decode mi.2.1 pc = .ok (.istore k, 2) ∧ pc + 2 = np) (hp : P1 ls k = true) (hs : ls.set k (.val (.int x)) = ls') (kk : Runs K l Z n0 mi np ls' st H v H') : Runs K l Z n0 mi pc ls (.int x :: st) H v H' := by
  obtain ⟨hd, rfl⟩ := hd
  exact Runs.pure (fun _ _ _ _ _ _ _ _ _ _ _ _ _ X hx hZ hc hown t h => XS.istore X.here hx rfl (hb hc hd) rfl (st1 hp rfl hs) h) kk
theorem r_lstoreN {k : Fin 4} {x : Int64} (hd : decode mi.2.1 pc = .ok (.lstore_n k, 1) ∧ pc + 1 = np) (hp : P2 ls k.val = true) (hs : (ls.set k.val (.val (.long x))).set (k.val + 1) .second = ls') (kk : Runs K l Z n0 mi np ls' st H v H') : Runs K l Z n0 mi pc ls (.long x :: st) H v H' := by
  obtain ⟨hd, rfl⟩ := hd
  exact Runs.pure (fun _ _ _ _ _ _ _ _ _ _ _ _ _ X hx hZ hc hown t h => XT.lstoreN X.here hx rfl (hb hc hd) rfl (st2 hp rfl hs) h) kk
theorem r_lstore {k : Nat} {x : Int64} (hd : decode mi.2.1 pc = .ok (.lstore k, 2) ∧ pc + 2 = np) (hp : P2 ls k = true) (hs : (ls.set k (.val (.long x))).set (k + 1) .second = ls') (kk : Runs K l Z n0 mi np ls' st H v H') : Runs K l Z n0 mi pc ls (.long x :: st) H v H' := by
  obtain ⟨hd, rfl⟩ := hd
  exact Runs.pure (fun _ _ _ _ _ _ _ _ _ _ _ _ _ X hx hZ hc hown t h => XT.lstore X.here hx rfl (hb hc hd) rfl (st2 hp rfl hs) h) kk
theorem r_astoreN {k : Fin 4} {x : Value} (hd : decode mi.2.1 pc = .ok (.astore_n k, 1) ∧ pc + 1 = np) (hp : P1 ls k.val = true) (hv : x.isRef = true) (hs : ls.set k.val (.val x) = ls') (kk : Runs K l Z n0 mi np ls' st H v H') : Runs K l Z n0 mi pc ls (x :: st) H v H' := by
  obtain ⟨hd, rfl⟩ := hd
  exact Runs.pure (fun _ _ _ _ _ _ _ _ _ _ _ _ _ X hx hZ hc hown t h => XS.astoreN X.here hx rfl (hb hc hd) rfl (isRef_sh hv) (st1 hp (XT.cat1 hv) hs) h) kk
theorem r_astore {k : Nat} {x : Value} (hd : decode mi.2.1 pc = .ok (.astore k, 2) ∧ pc + 2 = np) (hp : P1 ls k = true) (hv : x.isRef = true) (hs : ls.set k (.val x) = ls') (kk : Runs K l Z n0 mi np ls' st H v H') : Runs K l Z n0 mi pc ls (x :: st) H v H' := by
  obtain ⟨hd, rfl⟩ := hd
  exact Runs.pure (fun _ _ _ _ _ _ _ _ _ _ _ _ _ X hx hZ hc hown t h => XS.astore X.here hx rfl (hb hc hd) rfl (isRef_sh hv) (st1 hp (XT.cat1 hv) hs) h) kk
theorem r_iadd {x y : Int32} (hd : decode mi.2.1 pc = .ok (.iadd, 1) ∧ pc + 1 = np) (kk : Runs K l Z n0 mi np ls (.int (x + y) :: st) H v H') : Runs K l Z n0 mi pc ls (.int y :: .int x :: st) H v H' := by
  obtain ⟨hd, rfl⟩ := hd
  exact Runs.pure (fun _ _ _ _ _ _ _ _ _ _ _ _ _ X hx hZ hc hown t h => XS.iadd X.here hx rfl (hb hc hd) rfl h) kk
theorem r_isub {x y : Int32} (hd : decode mi.2.1 pc = .ok (.isub, 1) ∧ pc + 1 = np) (kk : Runs K l Z n0 mi np ls (.int (x - y) :: st) H v H') : Runs K l Z n0 mi pc ls (.int y :: .int x :: st) H v H' := by
  obtain ⟨hd, rfl⟩ := hd
  exact Runs.pure (fun _ _ _ _ _ _ _ _ _ _ _ _ _ X hx hZ hc hown t h => XS.isub X.here hx rfl (hb hc hd) rfl h) kk
theorem r_imul {x y : Int32} (hd : decode mi.2.1 pc = .ok (.imul, 1) ∧ pc + 1 = np) (kk : Runs K l Z n0 mi np ls (.int (x * y) :: st) H v H') : Runs K l Z n0 mi pc ls (.int y :: .int x :: st) H v H' := by
  obtain ⟨hd, rfl⟩ := hd
  exact Runs.pure (fun _ _ _ _ _ _ _ _ _ _ _ _ _ X hx hZ hc hown t h => XS.imul X.here hx rfl (hb hc hd) rfl h) kk
theorem r_iand {x y : Int32} (hd : decode mi.2.1 pc = .ok (.iand, 1) ∧ pc + 1 = np) (kk : Runs K l Z n0 mi np ls (.int (x &&& y) :: st) H v H') : Runs K l Z n0 mi pc ls (.int y :: .int x :: st) H v H' := by
  obtain ⟨hd, rfl⟩ := hd
  exact Runs.pure (fun _ _ _ _ _ _ _ _ _ _ _ _ _ X hx hZ hc hown t h => XS.iand X.here hx rfl (hb hc hd) rfl h) kk
theorem r_ior {x y : Int32} (hd : decode mi.2.1 pc = .ok (.ior, 1) ∧ pc + 1 = np) (kk : Runs K l Z n0 mi np ls (.int (x ||| y) :: st) H v H') : Runs K l Z n0 mi pc ls (.int y :: .int x :: st) H v H' := by
  obtain ⟨hd, rfl⟩ := hd
  exact Runs.pure (fun _ _ _ _ _ _ _ _ _ _ _ _ _ X hx hZ hc hown t h => XT.ior X.here hx rfl (hb hc hd) rfl h) kk
theorem r_ixor {x y : Int32} (hd : decode mi.2.1 pc = .ok (.ixor, 1) ∧ pc + 1 = np) (kk : Runs K l Z n0 mi np ls (.int (x ^^^ y) :: st) H v H') : Runs K l Z n0 mi pc ls (.int y :: .int x :: st) H v H' := by
  obtain ⟨hd, rfl⟩ := hd
  exact Runs.pure (fun _ _ _ _ _ _ _ _ _ _ _ _ _ X hx hZ hc hown t h => XT.ixor X.here hx rfl (hb hc hd) rfl h) kk
theorem r_ishl {x y : Int32} (hd : decode mi.2.1 pc = .ok (.ishl, 1) ∧ pc + 1 = np) (kk : Runs K l Z n0 mi np ls (.int (x <<< (y &&& 31)) :: st) H v H') : Runs K l Z n0 mi pc ls (.int y :: .int x :: st) H v H' := by
  obtain ⟨hd, rfl⟩ := hd
  exact Runs.pure (fun _ _ _ _ _ _ _ _ _ _ _ _ _ X hx hZ hc hown t h => XT.ishl X.here hx rfl (hb hc hd) rfl h) kk
theorem r_ishr {x y : Int32} (hd : decode mi.2.1 pc = .ok (.ishr, 1) ∧ pc + 1 = np) (kk : Runs K l Z n0 mi np ls (.int (x >>> (y &&& 31)) :: st) H v H') : Runs K l Z n0 mi pc ls (.int y :: .int x :: st) H v H' := by
  obtain ⟨hd, rfl⟩ := hd
  exact Runs.pure (fun _ _ _ _ _ _ _ _ _ _ _ _ _ X hx hZ hc hown t h => XT.ishr X.here hx rfl (hb hc hd) rfl h) kk
theorem r_iushr {x y : Int32} (hd : decode mi.2.1 pc = .ok (.iushr, 1) ∧ pc + 1 = np) (kk : Runs K l Z n0 mi np ls (.int (XT.ushr x y) :: st) H v H') : Runs K l Z n0 mi pc ls (.int y :: .int x :: st) H v H' := by
  obtain ⟨hd, rfl⟩ := hd
  exact Runs.pure (fun _ _ _ _ _ _ _ _ _ _ _ _ _ X hx hZ hc hown t h => XT.iushr X.here hx rfl (hb hc hd) rfl h) kk
theorem r_idiv {x y : Int32} (hd : decode mi.2.1 pc = .ok (.idiv, 1) ∧ pc + 1 = np) (hy : y ≠ 0) (kk : Runs K l Z n0 mi np ls (.int (x / y) :: st) H v H') : Runs K l Z n0 mi pc ls (.int y :: .int x :: st) H v H' := by
  obtain ⟨hd, rfl⟩ := hd
  exact Runs.pure (fun _ _ _ _ _ _ _ _ _ _ _ _ _ X hx hZ hc hown t h => XS.idiv X.here hx rfl (hb hc hd) rfl hy h) kk
theorem r_irem {x y : Int32} (hd : decode mi.2.1 pc = .ok (.irem, 1) ∧ pc + 1 = np) (hy : y ≠ 0) (kk : Runs K l Z n0 mi np ls (.int (x % y) :: st) H v H') : Runs K l Z n0 mi pc ls (.int y :: .int x :: st) H v H' := by
  obtain ⟨hd, rfl⟩ := hd
  exact Runs.pure (fun _ _ _ _ _ _ _ _ _ _ _ _ _ X hx hZ hc hown t h => iremM X hx rfl (hb hc hd) rfl hy h) kk
theorem r_ladd {x y : Int64} (hd : decode mi.2.1 pc = .ok (.ladd, 1) ∧ pc + 1 = np) (kk : Runs K l Z n0 mi np ls (.long (x + y) :: st) H v H') : Runs K l Z n0 mi pc ls (.long y :: .long x :: st) H v H' := by
  obtain ⟨hd, rfl⟩ := hd
  exact Runs.pure (fun _ _ _ _ _ _ _ _ _ _ _ _ _ X hx hZ hc hown t h => XT.ladd X.here hx rfl (hb hc hd) rfl h) kk
theorem r_lsub {x y : Int64} (hd : decode mi.2.1 pc = .ok (.lsub, 1) ∧ pc + 1 = np) (kk : Runs K l Z n0 mi np ls (.long (x - y) :: st) H v H') : Runs K l Z n0 mi pc ls (.long y :: .long x :: st) H v H' := by
  obtain ⟨hd, rfl⟩ := hd
  exact Runs.pure (fun _ _ _ _ _ _ _ _ _ _ _ _ _ X hx hZ hc hown t h => XT.lsub X.here hx rfl (hb hc hd) rfl h) kk
theorem r_lmul {x y : Int64} (hd : decode mi.2.1 pc = .ok (.lmul, 1) ∧ pc + 1 = np) (kk : Runs K l Z n0 mi np ls (.long (x * y) :: st) H v H') : Runs K l Z n0 mi pc ls (.long y :: .long x :: st) H v H' := by
  obtain ⟨hd, rfl⟩ := hd
  exact Runs.pure (fun _ _ _ _ _ _ _ _ _ _ _ _ _ X hx hZ hc hown t h => XT.lmul X.here hx rfl (hb hc hd) rfl h) kk
theorem r_land {x y : Int64} (hd : decode mi.2.1 pc = .ok (.land, 1) ∧ pc + 1 = np) (kk : Runs K l Z n0 mi np ls (.long (x &&& y) :: st) H v H') : Runs K l Z n0 mi pc ls (.long y :: .long x :: st) H v H' := by
  obtain ⟨hd, rfl⟩ := hd
  exact Runs.pure (fun _ _ _ _ _ _ _ _ _ _ _ _ _ X hx hZ hc hown t h => XT.land X.here hx rfl (hb hc hd) rfl h) kk
theorem r_lor {x y : Int64} (hd : decode mi.2.1 pc = .ok (.lor, 1) ∧ pc + 1 = np) (kk : Runs K l Z n0 mi np ls (.long (x ||| y) :: st) H v H') : Runs K l Z n0 mi pc ls (.long y :: .long x :: st) H v H' := by
  obtain ⟨hd, rfl⟩ := hd
  exact Runs.pure (fun _ _ _ _ _ _ _ _ _ _ _ _ _ X hx hZ hc hown t h => XT.lor X.here hx rfl (hb hc hd) rfl h) kk
theorem r_lxor {x y : Int64} (hd : decode mi.2.1 pc = .ok (.lxor, 1) ∧ pc + 1 = np) (kk : Runs K l Z n0 mi np ls (.long (x ^^^ y) :: st) H v H') : Runs K l Z n0 mi pc ls (.long y :: .long x :: st) H v H' := by
  obtain ⟨hd, rfl⟩ := hd
  exact Runs.pure (fun _ _ _ _ _ _ _ _ _ _ _ _ _ X hx hZ hc hown t h => XT.lxor X.here hx rfl (hb hc hd) rfl h) kk
theorem r_lshl {x : Int64} {y : Int32} (hd : decode mi.2.1 pc = .ok (.lshl, 1) ∧ pc + 1 = np) (kk : Runs K l Z n0 mi np ls (.long (x <<< (y.toInt64 &&& 63)) :: st) H v H') : Runs K l Z n0 mi pc ls (.int y :: .long x :: st) H v H' := by
  obtain ⟨hd, rfl⟩ := hd
  exact Runs.pure (fun _ _ _ _ _ _ _ _ _ _ _ _ _ X hx hZ hc hown t h => XT.lshl X.here hx rfl (hb hc hd) rfl h) kk
theorem r_lshr {x : Int64} {y : Int32} (hd : decode mi.2.1 pc = .ok (.lshr, 1) ∧ pc + 1 = np) (kk : Runs K l Z n0 mi np ls (.long (x >>> (y.toInt64 &&& 63)) :: st) H v H') : Runs K l Z n0 mi pc ls (.int y :: .long x :: st) H v H' := by
  obtain ⟨hd, rfl⟩ := hd
  exact Runs.pure (fun _ _ _ _ _ _ _ _ _ _ _ _ _ X hx hZ hc hown t h => XT.lshr X.here hx rfl (hb hc hd) rfl h) kk
theorem r_lushr {x : Int64} {y : Int32} (hd : decode mi.2.1 pc = .ok (.lushr, 1) ∧ pc + 1 = np) (kk : Runs K l Z n0 mi np ls (.long (XT.ushrL x y) :: st) H v H') : Runs K l Z n0 mi pc ls (.int y :: .long x :: st) H v H' := by
  obtain ⟨hd, rfl⟩ := hd
  exact Runs.pure (fun _ _ _ _ _ _ _ _ _ _ _ _ _ X hx hZ hc hown t h => XT.lushr X.here hx rfl (hb hc hd) rfl h) kk
theorem r_ldiv {x y : Int64} (hd : decode mi.2.1 pc = .ok (.ldiv, 1) ∧ pc + 1 = np) (hy : y ≠ 0) (kk : Runs K l Z n0 mi np ls (.long (x / y) :: st) H v H') : Runs K l Z n0 mi pc ls (.long y :: .long x :: st) H v H' := by
  obtain ⟨hd, rfl⟩ := hd
  exact Runs.pure (fun _ _ _ _ _ _ _ _ _ _ _ _ _ X hx hZ hc hown t h => XT.ldiv X.here hx rfl (hb hc hd) rfl hy h) kk
theorem r_lrem {x y : Int64} (hd : decode mi.2.1 pc = .ok (.lrem, 1) ∧ pc + 1 = np) (hy : y ≠ 0) (kk : Runs K l Z n0 mi np ls (.long (x % y) :: st) H v H') : Runs K l Z n0 mi pc ls (.long y :: .long x :: st) H v H' := by
  obtain ⟨hd, rfl⟩ := hd
  exact Runs.pure (fun _ _ _ _ _ _ _ _ _ _ _ _ _ X hx hZ hc hown t h => XT.lrem X.here hx rfl (hb hc hd) rfl hy (by rw [lrem_mod]; exact h)) kk
theorem r_lcmp {x y : Int64} (hd : decode mi.2.1 pc = .ok (.lcmp, 1) ∧ pc + 1 = np) (kk : Runs K l Z n0 mi np ls (.int (XT.cmpL x y) :: st) H v H') : Runs K l Z n0 mi pc ls (.long y :: .long x :: st) H v H' := by
  obtain ⟨hd, rfl⟩ := hd
  exact Runs.pure (fun _ _ _ _ _ _ _ _ _ _ _ _ _ X hx hZ hc hown t h => XT.lcmp X.here hx rfl (hb hc hd) rfl h) kk
theorem r_ineg {x : Int32} (hd : decode mi.2.1 pc = .ok (.ineg, 1) ∧ pc + 1 = np) (kk : Runs K l Z n0 mi np ls (.int (-x) :: st) H v H') : Runs K l Z n0 mi pc ls (.int x :: st) H v H' := by
  obtain ⟨hd, rfl⟩ := hd
  exact Runs.pure (fun _ _ _ _ _ _ _ _ _ _ _ _ _ X hx hZ hc hown t h => XS.ineg X.here hx rfl (hb hc hd) rfl h) kk
theorem r_lneg {x : Int64} (hd : decode mi.2.1 pc = .ok (.lneg, 1) ∧ pc + 1 = np) (kk : Runs K l Z n0 mi np ls (.long (-x) :: st) H v H') : Runs K l Z n0 mi pc ls (.long x :: st) H v H' := by
  obtain ⟨hd, rfl⟩ := hd
  exact Runs.pure (fun _ _ _ _ _ _ _ _ _ _ _ _ _ X hx hZ hc hown t h => XT.lneg X.here hx rfl (hb hc hd) rfl h) kk
theorem r_i2l {x : Int32} (hd : decode mi.2.1 pc = .ok (.i2l, 1) ∧ pc + 1 = np) (kk : Runs K l Z n0 mi np ls (.long x.toInt64 :: st) H v H') : Runs K l Z n0 mi pc ls (.int x :: st) H v H' := by
  obtain ⟨hd, rfl⟩ := hd
  exact Runs.pure (fun _ _ _ _ _ _ _ _ _ _ _ _ _ X hx hZ hc hown t h => XT.i2l X.here hx rfl (hb hc hd) rfl h) kk
theorem r_l2i {x : Int64} (hd : decode mi.2.1 pc = .ok (.l2i, 1) ∧ pc + 1 = np) (kk : Runs K l Z n0 mi np ls (.int x.toInt32 :: st) H v H') : Runs K l Z n0 mi pc ls (.long x :: st) H v H' := by
  obtain ⟨hd, rfl⟩ := hd
  exact Runs.pure (fun _ _ _ _ _ _ _ _ _ _ _ _ _ X hx hZ hc hown t h => XT.l2i X.here hx rfl (hb hc hd) rfl h) kk
theorem r_i2b {x : Int32} (hd : decode mi.2.1 pc = .ok (.i2b, 1) ∧ pc + 1 = np) (kk : Runs K l Z n0 mi np ls (.int x.toInt8.toInt32 :: st) H v H') : Runs K l Z n0 mi pc ls (.int x :: st) H v H' := by
  obtain ⟨hd, rfl⟩ := hd
  exact Runs.pure (fun _ _ _ _ _ _ _ _ _ _ _ _ _ X hx hZ hc hown t h => XT.i2b X.here hx rfl (hb hc hd) rfl h) kk
theorem r_i2s {x : Int32} (hd : decode mi.2.1 pc = .ok (.i2s, 1) ∧ pc + 1 = np) (kk : Runs K l Z n0 mi np ls (.int x.toInt16.toInt32 :: st) H v H') : Runs K l Z n0 mi pc ls (.int x :: st) H v H' := by
  obtain ⟨hd, rfl⟩ := hd
  exact Runs.pure (fun _ _ _ _ _ _ _ _ _ _ _ _ _ X hx hZ hc hown t h => XT.i2s X.here hx rfl (hb hc hd) rfl h) kk
theorem r_i2c {x : Int32} (hd : decode mi.2.1 pc = .ok (.i2c, 1) ∧ pc + 1 = np) (kk : Runs K l Z n0 mi np ls (.int x.toUInt32.toUInt16.toUInt32.toInt32 :: st) H v H') : Runs K l Z n0 mi pc ls (.int x :: st) H v H' := by
  obtain ⟨hd, rfl⟩ := hd
  exact Runs.pure (fun _ _ _ _ _ _ _ _ _ _ _ _ _ X hx hZ hc hown t h => XT.i2c X.here hx rfl (hb hc hd) rfl h) kk
theorem r_dup {x : Value} (hd : decode mi.2.1 pc = .ok (.dup, 1) ∧ pc + 1 = np) (hx1 : x.category = 1) (kk : Runs K l Z n0 mi np ls (x :: x :: st) H v H') : Runs K l Z n0 mi pc ls (x :: st) H v H' := by
  obtain ⟨hd, rfl⟩ := hd
  exact Runs.pure (fun _ _ _ _ _ _ _ _ _ _ _ _ _ X hx hZ hc hown t h => XS.dup X.here hx rfl (hb hc hd) rfl ((cat_sh _ _).trans hx1) h) kk
theorem r_pop {x : Value} (hd : decode mi.2.1 pc = .ok (.pop, 1) ∧ pc + 1 = np) (hx1 : x.category = 1) (kk : Runs K l Z n0 mi np ls st H v H') : Runs K l Z n0 mi pc ls (x :: st) H v H' := by
  obtain ⟨hd, rfl⟩ := hd
  exact Runs.pure (fun _ _ _ _ _ _ _ _ _ _ _ _ _ X hx hZ hc hown t h => XT.pop X.here hx rfl (hb hc hd) rfl ((cat_sh _ _).trans hx1) h) kk
theorem r_dupX1 {x y : Value} (hd : decode mi.2.1 pc = .ok (.dup_x1, 1) ∧ pc + 1 = np) (hx1 : x.category = 1) (hy1 : y.category = 1) (kk : Runs K l Z n0 mi np ls (x :: y :: x :: st) H v H') : Runs K l Z n0 mi pc ls (x :: y :: st) H v H' := by
  obtain ⟨hd, rfl⟩ := hd
  exact Runs.pure (fun _ _ _ _ _ _ _ _ _ _ _ _ _ X hx hZ hc hown t h => XT.dupX1 X.here hx rfl (hb hc hd) rfl ((cat_sh _ _).trans hx1) ((cat_sh _ _).trans hy1) h) kk
theorem r_dup2 {x y : Value} (hd : decode mi.2.1 pc = .ok (.dup2, 1) ∧ pc + 1 = np) (hx1 : x.category = 1) (hy1 : y.category = 1) (kk : Runs K l Z n0 mi np ls (x :: y :: x :: y :: st) H v H') : Runs K l Z n0 mi pc ls (x :: y :: st) H v H' := by
  obtain ⟨hd, rfl⟩ := hd
  exact Runs.pure (fun _ _ _ _ _ _ _ _ _ _ _ _ _ X hx hZ hc hown t h => XT.dup2 X.here hx rfl (hb hc hd) rfl ((cat_sh _ _).trans hx1) ((cat_sh _ _).trans hy1) h) kk
theorem r_dup2L {x : Int64} (hd : decode mi.2.1 pc = .ok (.dup2, 1) ∧ pc + 1 = np) (kk : Runs K l Z n0 mi np ls (.long x :: .long x :: st) H v H') : Runs K l Z n0 mi pc ls (.long x :: st) H v H' := by
  obtain ⟨hd, rfl⟩ := hd
  exact Runs.pure (fun _ _ _ _ _ _ _ _ _ _ _ _ _ X hx hZ hc hown t h => XT.dup2L X.here hx rfl (hb hc hd) rfl h) kk
theorem r_aconstNull  (hd : decode mi.2.1 pc = .ok (.aconst_null, 1) ∧ pc + 1 = np) (kk : Runs K l Z n0 mi np ls (.null :: st) H v H') : Runs K l Z n0 mi pc ls st H v H' := by
  obtain ⟨hd, rfl⟩ := hd
  exact Runs.pure (fun _ _ _ _ _ _ _ _ _ _ _ _ _ X hx hZ hc hown t h => XS.aconstNull X.here hx rfl (hb hc hd) h) kk
theorem r_iconst {i : Int} {x : Int32} (hd : decode mi.2.1 pc = .ok (.iconst i, 1) ∧ pc + 1 = np ∧ Int32.ofInt i = x) (kk : Runs K l Z n0 mi np ls (.int x :: st) H v H') : Runs K l Z n0 mi pc ls st H v H' := by
  obtain ⟨hd, rfl, hx0⟩ := hd
  exact Runs.pure (fun _ _ _ _ _ _ _ _ _ _ _ _ _ X hx hZ hc hown t h => XT.iconstV X.here hx rfl x (hb hc hd) hx0 h) kk
theorem r_bipush {i : Int} {x : Int32} (hd : decode mi.2.1 pc = .ok (.bipush i, 2) ∧ pc + 2 = np ∧ (Int8.ofInt i).toInt32 = x) (kk : Runs K l Z n0 mi np ls (.int x :: st) H v H') : Runs K l Z n0 mi pc ls st H v H' := by
  obtain ⟨hd, rfl, hx0⟩ := hd
  exact Runs.pure (fun _ _ _ _ _ _ _ _ _ _ _ _ _ X hx hZ hc hown t h => XT.bipushV X.here hx rfl x (hb hc hd) hx0 h) kk
theorem r_sipush {i : Int} {x : Int32} (hd : decode mi.2.1 pc = .ok (.sipush i, 3) ∧ pc + 3 = np ∧ (Int16.ofInt i).toInt32 = x) (kk : Runs K l Z n0 mi np ls (.int x :: st) H v H') : Runs K l Z n0 mi pc ls st H v H' := by
  obtain ⟨hd, rfl, hx0⟩ := hd
  exact Runs.pure (fun _ _ _ _ _ _ _ _ _ _ _ _ _ X hx hZ hc hown t h => XT.sipushV X.here hx rfl x (hb hc hd) hx0 h) kk
theorem r_lconst {i : Fin 2} {x : Int64} (hd : decode mi.2.1 pc = .ok (.lconst i, 1) ∧ pc + 1 = np ∧ Int64.ofNat i = x) (kk : Runs K l Z n0 mi np ls (.long x :: st) H v H') : Runs K l Z n0 mi pc ls st H v H' := by
  obtain ⟨hd, rfl, hx0⟩ := hd
  exact Runs.pure (fun _ _ _ _ _ _ _ _ _ _ _ _ _ X hx hZ hc hown t h => XT.lconstV X.here hx rfl x (hb hc hd) hx0 h) kk
theorem r_ldc {i : Nat} {x : Int32} (hd : decode mi.2.1 pc = .ok (.ldc i, 2) ∧ pc + 2 = np) (w : (Jvm.Cond.constant mi.1.cls i x).before a0 Z = true) (kk : Runs K l Z n0 mi np ls (.int x :: st) H v H') : Runs K l Z n0 mi pc ls st H v H' := by
  obtain ⟨hd, rfl⟩ := hd
  exact Runs.pure (fun _ _ _ _ _ _ _ _ _ _ _ _ _ X hx hZ hc hown t h => X.ldcI hx hown (mv hZ w) rfl (hb hc hd) h) kk
theorem r_ldcW {i : Nat} {x : Int32} (hd : decode mi.2.1 pc = .ok (.ldc_w i, 3) ∧ pc + 3 = np) (w : (Jvm.Cond.constant mi.1.cls i x).before a0 Z = true) (kk : Runs K l Z n0 mi np ls (.int x :: st) H v H') : Runs K l Z n0 mi pc ls st H v H' := by
  obtain ⟨hd, rfl⟩ := hd
  exact Runs.pure (fun _ _ _ _ _ _ _ _ _ _ _ _ _ X hx hZ hc hown t h => X.ldcWI hx hown (mv hZ w) rfl (hb hc hd) h) kk
theorem r_ldc2 {i : Nat} {x : Int64} (hd : decode mi.2.1 pc = .ok (.ldc2_w i, 3) ∧ pc + 3 = np) (w : (Jvm.Cond.constantLong mi.1.cls i x).before a0 Z = true) (kk : Runs K l Z n0 mi np ls (.long x :: st) H v H') : Runs K l Z n0 mi pc ls st H v H' := by
  obtain ⟨hd, rfl⟩ := hd
  exact Runs.pure (fun _ _ _ _ _ _ _ _ _ _ _ _ _ X hx hZ hc hown t h => X.ldc2J hx hown (mv hZ w) rfl (hb hc hd) h) kk
theorem r_iinc {k : Nat} {i : Int} {x y : Int32} (hd : decode mi.2.1 pc = .ok (.iinc k i, 3) ∧ pc + 3 = np ∧ Int32.ofInt i = y) (hl : ls[k]? = some (.val (.int x))) (hs : ls.set k (.val (.int (x + y))) = ls') (kk : Runs K l Z n0 mi np ls' st H v H') : Runs K l Z n0 mi pc ls st H v H' := by
  obtain ⟨hd, rfl, hx0⟩ := hd
  exact Runs.pure (fun _ _ _ _ _ _ _ _ _ _ _ _ _ X hx hZ hc hown t h => XT.iincV X.here hx rfl y (hb hc hd) hx0 (loc_at hl) (st1 (P1_int hl) rfl hs) h) kk
theorem r_goto  {o : Int} (hd : decode mi.2.1 pc = .ok (.goto o, 3) ∧ pc + 3 = np ∧ 0 ≤ (pc : Int) + o ∧ ((pc : Int) + o).toNat = tp) (kk : Runs K l Z n0 mi tp ls st H v H') : Runs K l Z n0 mi pc ls st H v H' := by
  obtain ⟨hd, hn, h1, h2⟩ := hd
  exact Runs.pure (fun _ _ _ _ _ _ _ _ _ _ _ _ _ X hx hZ hc hown t h => XS.goto X.here hx rfl rfl (hb hc hd) h1 h2 h) kk
theorem r_ifT {cd : ClassFile.Cond} {x : Int32} {o : Int} (hd : decode mi.2.1 pc = .ok (.ifCond cd o, 3) ∧ pc + 3 = np ∧ 0 ≤ (pc : Int) + o ∧ ((pc : Int) + o).toNat = tp) (hq : ifCond.holds cd x = true) (kk : Runs K l Z n0 mi tp ls st H v H') : Runs K l Z n0 mi pc ls (.int x :: st) H v H' := by
  obtain ⟨hd, hn, h1, h2⟩ := hd
  exact Runs.pure (fun _ _ _ _ _ _ _ _ _ _ _ _ _ X hx hZ hc hown t h => XS.ifYes X.here hx rfl rfl (hb hc hd) rfl hq h1 h2 h) kk
theorem r_ifF {cd : ClassFile.Cond} {x : Int32} {o : Int} (hd : decode mi.2.1 pc = .ok (.ifCond cd o, 3) ∧ pc + 3 = np ∧ 0 ≤ (pc : Int) + o ∧ ((pc : Int) + o).toNat = tp) (hq : ifCond.holds cd x = false) (kk : Runs K l Z n0 mi np ls st H v H') : Runs K l Z n0 mi pc ls (.int x :: st) H v H' := by
  obtain ⟨hd, rfl, h1, h2⟩ := hd
  exact Runs.pure (fun _ _ _ _ _ _ _ _ _ _ _ _ _ X hx hZ hc hown t h => XS.ifNo X.here hx rfl (hb hc hd) rfl hq h) kk
theorem r_icT {cd : ClassFile.Cond} {x y : Int32} {o : Int} (hd : decode mi.2.1 pc = .ok (.if_icmp cd o, 3) ∧ pc + 3 = np ∧ 0 ≤ (pc : Int) + o ∧ ((pc : Int) + o).toNat = tp) (hq : if_icmp.holds cd x y = true) (kk : Runs K l Z n0 mi tp ls st H v H') : Runs K l Z n0 mi pc ls (.int y :: .int x :: st) H v H' := by
  obtain ⟨hd, hn, h1, h2⟩ := hd
  exact Runs.pure (fun _ _ _ _ _ _ _ _ _ _ _ _ _ X hx hZ hc hown t h => XS.icmpYes X.here hx rfl rfl (hb hc hd) rfl hq h1 h2 h) kk
theorem r_icF {cd : ClassFile.Cond} {x y : Int32} {o : Int} (hd : decode mi.2.1 pc = .ok (.if_icmp cd o, 3) ∧ pc + 3 = np ∧ 0 ≤ (pc : Int) + o ∧ ((pc : Int) + o).toNat = tp) (hq : if_icmp.holds cd x y = false) (kk : Runs K l Z n0 mi np ls st H v H') : Runs K l Z n0 mi pc ls (.int y :: .int x :: st) H v H' := by
  obtain ⟨hd, rfl, h1, h2⟩ := hd
  exact Runs.pure (fun _ _ _ _ _ _ _ _ _ _ _ _ _ X hx hZ hc hown t h => XS.icmpNo X.here hx rfl (hb hc hd) rfl hq h) kk
theorem r_nullT  {o : Int} (hd : decode mi.2.1 pc = .ok (.ifnull o, 3) ∧ pc + 3 = np ∧ 0 ≤ (pc : Int) + o ∧ ((pc : Int) + o).toNat = tp) (kk : Runs K l Z n0 mi tp ls st H v H') : Runs K l Z n0 mi pc ls (.null :: st) H v H' := by
  obtain ⟨hd, hn, h1, h2⟩ := hd
  exact Runs.pure (fun _ _ _ _ _ _ _ _ _ _ _ _ _ X hx hZ hc hown t h => XS.ifnullYes X.here hx rfl rfl (hb hc hd) rfl h1 h2 h) kk
theorem r_nullF {a : Addr} {o : Int} (hd : decode mi.2.1 pc = .ok (.ifnull o, 3) ∧ pc + 3 = np ∧ 0 ≤ (pc : Int) + o ∧ ((pc : Int) + o).toNat = tp) (kk : Runs K l Z n0 mi np ls st H v H') : Runs K l Z n0 mi pc ls (.ref a :: st) H v H' := by
  obtain ⟨hd, rfl, h1, h2⟩ := hd
  exact Runs.pure (fun _ _ _ _ _ _ _ _ _ _ _ _ _ X hx hZ hc hown t h => XS.ifnullNo X.here hx rfl (hb hc hd) rfl h) kk
theorem r_nonnullT {a : Addr} {o : Int} (hd : decode mi.2.1 pc = .ok (.ifnonnull o, 3) ∧ pc + 3 = np ∧ 0 ≤ (pc : Int) + o ∧ ((pc : Int) + o).toNat = tp) (kk : Runs K l Z n0 mi tp ls st H v H') : Runs K l Z n0 mi pc ls (.ref a :: st) H v H' := by
  obtain ⟨hd, hn, h1, h2⟩ := hd
  exact Runs.pure (fun _ _ _ _ _ _ _ _ _ _ _ _ _ X hx hZ hc hown t h => XT.ifnonnullYes X.here hx rfl rfl (hb hc hd) rfl h1 h2 h) kk
theorem r_nonnullF  {o : Int} (hd : decode mi.2.1 pc = .ok (.ifnonnull o, 3) ∧ pc + 3 = np ∧ 0 ≤ (pc : Int) + o ∧ ((pc : Int) + o).toNat = tp) (kk : Runs K l Z n0 mi np ls st H v H') : Runs K l Z n0 mi pc ls (.null :: st) H v H' := by
  obtain ⟨hd, rfl, h1, h2⟩ := hd
  exact Runs.pure (fun _ _ _ _ _ _ _ _ _ _ _ _ _ X hx hZ hc hown t h => XT.ifnonnullNo X.here hx rfl (hb hc hd) rfl h) kk
/-- a step that may turn the heap -/
theorem Runs.heap {st2 : List Value} (m1 : H.length ≤ H1.length) (m2 : szs K H ≤ szs K H1) (hstep : ∀ (p : Program) (e : Env) (R : Room) (s : State) (m : MethodId) (args : Array Value) (below : List Frame) (meth : Method) (c : Code) (T : State) (locs : List Loc) (cells slots : Nat),
      Stand p l e R s m args below meth c T locs cells slots → p.tables.exec = Jvm.exec → Z.Warmed39 s.vm → c.code = mi.2.1 → c.maxLocals = mi.2.2.1 → s.vm.findClass mi.1.cls = some m.cls → meth.name = mi.1.name → Rel K Z n0 H T.heap → Fr n0 locs → mi.2.2.2.2.1 ≤ R.frames → mi.2.2.2.2.2 ≤ R.locals →
      s.heap.size + cells = n0 + H.length → cells + H1.length ≤ R.cells + H.length → slots + szs K H1 ≤ R.slots + szs K H →
      ∃ (T1 : State) (locs1 : List Loc) (cells1 slots1 : Nat), Stand p l e R s m args below meth c T1 locs1 cells1 slots1 ∧ Rel K Z n0 H1 T1.heap ∧ Fr n0 locs1 ∧ s.heap.size + cells1 = n0 + H1.length ∧ slots1 + szs K H ≤ slots + szs K H1 ∧
        ∀ target, Steps p.tables e below (T1.setTop (mkF m np (ls'.map (shS n0)).toArray (st2.map (shV n0)))) target → Steps p.tables e below (T.setTop (mkF m pc (ls.map (shS n0)).toArray (st.map (shV n0)))) target)
    (k : Runs K l Z n0 mi np ls' st2 H1 v H') : Runs K l Z n0 mi pc ls st H v H' := by
  have k1 := k.1
  have k2 := k.2.1
  refine ⟨Nat.le_trans m1 k1, Nat.le_trans m2 k2, fun p e R s m args below meth c T locs cells slots X hx hZ hc hml hret hown hnm hrel hfr hf hlo hsz hcl hsl => ?_⟩
  obtain ⟨T1, locs1, cells1, slots1, X1, rel1, fr1, hc1, hs1, st1⟩ := hstep p e R s m args below meth c T locs cells slots X hx hZ hc hml hown hnm hrel hfr hf hlo hsz (by omega) (by omega)
  obtain ⟨T', locs', cells', slots', X', rel', fr', hc', hs', stp⟩ := k.2.2 p e R s m args below meth c T1 locs1 cells1 slots1 X1 hx hZ hc hml hret hown hnm rel1 fr1 hf hlo hc1 (by omega) (by omega)
  exact ⟨T', locs', cells', slots', X', rel', fr', hc', by omega, fun fs hr => st1 _ (stp fs hr)⟩
theorem r_ret {x : Value} {t : FieldType} {i : Instr} (hd : decode mi.2.1 pc = .ok (i, 1)) (hret : mi.2.2.2.1 = some t) (hn : narrow t x = x)
    (hi : (i = .ireturn ∧ (t = .int ∨ t = .boolean ∨ t = .byte ∨ t = .char ∨ t = .short) ∧ ∃ z, x = .int z) ∨ (i = .lreturn ∧ t = .long ∧ ∃ z, x = .long z) ∨ (i = .areturn ∧ t.isReference = true ∧ x.isRef = true)) : Runs K l Z n0 mi pc ls (x :: st) H (some x) H := by
  refine ⟨Nat.le_refl _, Nat.le_refl _, fun p e R s m args below meth c T locs cells slots X hx hZ hc hml hret' hown hnm hrel hfr hf hlo hsz hcl hsl => ⟨T, locs, cells, slots, X, hrel, hfr, hsz, Nat.le_refl _, fun fs hr => ?_⟩⟩
  have hn' : narrow t (shV n0 x) = shV n0 x := by
    rcases hi with ⟨-, -, z, rfl⟩ | ⟨-, -, z, rfl⟩ | ⟨-, -, q⟩
    · exact hn
    · exact hn
    · cases x <;> first | (cases q; done) | (cases t <;> rfl)
  refine retOut X hx (hret'.trans hret) hn' ?_ (hb hc hd) hr
  rcases hi with ⟨h1, h2, z, rfl⟩ | ⟨h1, h2, z, rfl⟩ | ⟨h1, h2, q⟩
  · exact Or.inl ⟨h1, h2, z, rfl⟩
  · exact Or.inr (Or.inl ⟨h1, h2, z, rfl⟩)
  · exact Or.inr (Or.inr (Or.inr (Or.inr ⟨h1, h2, isRef_sh q⟩)))
theorem r_ireturn {z : Int32} (hd : decode mi.2.1 pc = .ok (.ireturn, 1)) (hret : mi.2.2.2.1 = some .int) : Runs K l Z n0 mi pc ls (.int z :: st) H (some (.int z)) H := r_ret hd hret rfl (Or.inl ⟨rfl, Or.inl rfl, z, rfl⟩)
theorem r_ireturnE {z z' : Int32} (hd : decode mi.2.1 pc = .ok (.ireturn, 1)) (hret : mi.2.2.2.1 = some .int) (h : z = z') : Runs K l Z n0 mi pc ls (.int z :: st) H (some (.int z')) H := h ▸ r_ireturn hd hret
theorem r_zreturn {z : Int32} (hd : decode mi.2.1 pc = .ok (.ireturn, 1)) (hret : mi.2.2.2.1 = some .boolean) (hz : z = 0 ∨ z = 1) : Runs K l Z n0 mi pc ls (.int z :: st) H (some (.int z)) H := r_ret hd hret (by rcases hz with rfl | rfl <;> rfl) (Or.inl ⟨rfl, Or.inr (Or.inl rfl), z, rfl⟩)
theorem r_lreturn {z : Int64} (hd : decode mi.2.1 pc = .ok (.lreturn, 1)) (hret : mi.2.2.2.1 = some .long) : Runs K l Z n0 mi pc ls (.long z :: st) H (some (.long z)) H := r_ret hd hret rfl (Or.inr (Or.inl ⟨rfl, rfl, z, rfl⟩))
theorem r_areturn {x : Value} {t : FieldType} (hd : decode mi.2.1 pc = .ok (.areturn, 1)) (hret : mi.2.2.2.1 = some t) (ht : t.isReference = true) (hx : x.isRef = true) : Runs K l Z n0 mi pc ls (x :: st) H (some x) H := r_ret hd hret (by cases x <;> first | (cases hx; done) | (cases t <;> rfl)) (Or.inr (Or.inr ⟨rfl, ht, hx⟩))
theorem r_return (hd : decode mi.2.1 pc = .ok (.return_, 1)) (hret : mi.2.2.2.1 = none) : Runs K l Z n0 mi pc ls [] H none H := by
  refine ⟨Nat.le_refl _, Nat.le_refl _, fun p e R s m args below meth c T locs cells slots X hx hZ hc hml hret' hown hnm hrel hfr hf hlo hsz hcl hsl => ⟨T, locs, cells, slots, X, hrel, hfr, hsz, Nat.le_refl _, fun fs hr => ?_⟩⟩
  exact X.returnOut hx (hret'.trans hret) (hb hc hd) hr
theorem r_tswIn {dflt low high o : Int} {offs : Array Int} {len : Nat} {i : Int32} (hd : decode mi.2.1 pc = .ok (.tableswitch dflt low high offs, len)) (hin : ¬ (i.toInt < low ∨ i.toInt > high)) (hoff : offs[(i.toInt - low).toNat]? = some o) (ho : 0 ≤ (pc : Int) + o) (hp : ((pc : Int) + o).toNat = tp)
    (kk : Runs K l Z n0 mi tp ls st H v H') : Runs K l Z n0 mi pc ls (.int i :: st) H v H' :=
  Runs.pure (fun _ _ _ _ _ _ _ _ _ _ _ _ _ X hx hZ hc hown t h => XS.tswIn X.here hx rfl rfl (hb hc hd) rfl hin hoff ho hp h) kk
theorem r_tswOut {dflt low high : Int} {offs : Array Int} {len : Nat} {i : Int32} (hd : decode mi.2.1 pc = .ok (.tableswitch dflt low high offs, len)) (hout : i.toInt < low ∨ i.toInt > high) (ho : 0 ≤ (pc : Int) + dflt) (hp : ((pc : Int) + dflt).toNat = tp)
    (kk : Runs K l Z n0 mi tp ls st H v H') : Runs K l Z n0 mi pc ls (.int i :: st) H v H' :=
  Runs.pure (fun _ _ _ _ _ _ _ _ _ _ _ _ _ X hx hZ hc hown t h => XS.tswOut X.here hx rfl rfl (hb hc hd) rfl hout ho hp h) kk
/-! ### the heap -/
theorem OOk.ext {h h' : Heap} {a : Addr} {o : Ob} (E : Ext h h') (q : OOk K Z n0 h a o) : OOk K Z n0 h' a o := by
  cases o with
  | inl o => obtain ⟨ci, h1, h2, h3⟩ := q; exact ⟨ci, h1, h2.ext E, fun i f v a b => (h3 i f v a b).ext E⟩
  | inr o => obtain ⟨cl, h1, h2⟩ := q; exact ⟨cl, h1.ext E, h2⟩
theorem OOk.other {h h' : Heap} {a b : Addr} {sl : Nat} {x : Value} {o : Ob} (W : Wr h h' b sl x) (ne : a ≠ b) (q : OOk K Z n0 h a o) : OOk K Z n0 h' a o := by
  cases o with
  | inl o => obtain ⟨ci, h1, h2, h3⟩ := q; exact ⟨ci, h1, h2.wr W, fun i f v a b => (h3 i f v a b).other W (Or.inl ne)⟩
  | inr o => obtain ⟨cl, h1, h2⟩ := q; exact ⟨cl, h1.other W ne, h2⟩
theorem Rel.push {h h' : Heap} {o : Ob} (r : Rel K Z n0 H h) (E : Ext h h') (hs : h'.size = h.size + 1) (ho : OOk K Z n0 h' h.size o) : Rel K Z n0 (H ++ [o]) h' := by
  refine ⟨by rw [hs, r.1, List.length_append]; rfl, fun k q hk => ?_⟩
  by_cases hl : k < H.length
  · rw [List.getElem?_append_left hl] at hk; exact (r.2 k q hk).ext E
  · rw [List.getElem?_append_right (Nat.le_of_not_lt hl)] at hk
    have e : k - H.length = 0 := by
      cases hq : k - H.length with
      | zero => rfl
      | succ j => rw [hq] at hk; simp at hk
    rw [e] at hk
    simp at hk
    subst hk
    have : k = H.length := by omega
    subst this
    rw [← r.1]; exact ho
theorem Rel.put {h h' : Heap} {o : Ob} {a sl : Nat} {x : Value} (r : Rel K Z n0 H h) (W : Wr h h' (n0 + a) sl x) (ha : a < H.length) (ho : OOk K Z n0 h' (n0 + a) o) : Rel K Z n0 (H.set a o) h' := by
  refine ⟨by rw [W.size, r.1, List.length_set], fun k q hk => ?_⟩
  by_cases e : a = k
  · subst e
    rw [List.getElem?_set_self ha] at hk
    cases hk; exact ho
  · rw [List.getElem?_set_ne e] at hk
    exact (r.2 k q hk).other W (fun z => e (Nat.add_left_cancel z).symm)
theorem map_set_same {α β : Type} (f : α → β) : ∀ (H : List α) (a : Nat) (o o' : α), H[a]? = some o' → f o = f o' → (H.set a o).map f = H.map f
  | [], _, _, _, h, _ => by simp at h
  | x :: r, 0, o, o', h, e => by simp at h; subst h; simp [e]
  | x :: r, a + 1, o, o', h, e => by simp at h; simp [map_set_same f r a o o' h e]
theorem szs_set {a : Nat} {o o' : Ob} (h : H[a]? = some o') (e : osz K o = osz K o') : szs K (H.set a o) = szs K H := by unfold szs; rw [map_set_same (osz K) H a o o' h e]
theorem szs_push {o : Ob} : szs K (H ++ [o]) = szs K H + osz K o := by simp [szs]
theorem lt_of_at {α : Type} {L : List α} {a : Nat} {o : α} (h : L[a]? = some o) : a < L.length := (List.getElem?_eq_some_iff.mp h).1
theorem nar_sh {t : FieldType} {x : Value} (h : narrow t x = x) : narrow t (shV n0 x) = shV n0 x := by cases x <;> first | exact h | (cases t <;> rfl)
theorem fits_sh {t : FieldType} {x : Value} (h : fits t x = true) : fits t (shV n0 x) = true := by cases x <;> first | exact h | (cases t <;> first | rfl | cases h)
theorem sh_dflt (ty : FieldType) : shV n0 (defaultValue ty) = defaultValue ty := by cases ty <;> rfl
theorem r_getF {a cid i idx : Nat} {vs : List Value} {ci : CI} {f : FI} {x : Value} {R0 : String} (hd : decode mi.2.1 pc = .ok (.getfield idx, 3) ∧ pc + 3 = np) (w : (Jvm.Cond.fieldLink mi.1.cls idx R0 f.2.1 f.2.2.1).before a0 Z = true) (via : Via Z R0 f.1 f.2.1 f.2.2.1) (hci : K[cid]? = some ci) (hf : ci.2.2[i]? = some f)
    (ho : H[a]? = some (.inl (cid, vs))) (hv : vs[i]? = some x) (kk : Runs K l Z n0 mi np ls (x :: st) H v H') : Runs K l Z n0 mi pc ls (.ref a :: st) H v H' := by
  obtain ⟨hd, rfl⟩ := hd
  refine Runs.heap (Nat.le_refl _) (Nat.le_refl _) (fun p e R s m args below meth c T locs cells slots X hx hZ hc hml hown hnm hrel hfr hf' hlo hsz hcl hsl => ?_) kk
  obtain ⟨ci', q1, E, F⟩ := hrel.2 a _ ho
  cases hci.symm.trans q1
  obtain ⟨T1, X1, e1, st1⟩ := getF X hx hZ hown (host := "") (Or.inl w) via rfl (F i f x hf hv) (g := mkF m pc (ls.map (shS n0)).toArray (.ref (n0 + a) :: st.map (shV n0))) rfl rfl (hb hc hd)
  exact ⟨T1, _, _, _, X1, by rw [e1]; exact hrel, hfr, hsz, Nat.le_refl _, st1⟩
theorem r_putF {a cid i idx : Nat} {vs vs' : List Value} {ci : CI} {f : FI} {x : Value} {R0 : String} (hK : KOk K Z a0) (hd : decode mi.2.1 pc = .ok (.putfield idx, 3) ∧ pc + 3 = np) (w : (Jvm.Cond.fieldLink mi.1.cls idx R0 f.2.1 f.2.2.1).before a0 Z = true) (via : Via Z R0 f.1 f.2.1 f.2.2.1) (hci : K[cid]? = some ci) (hf : ci.2.2[i]? = some f)
    (L : (Jvm.Cond.lays ci.1 f.1 f.2.1 f.2.2.1).before a0 Z = true ∨ ((Jvm.Cond.laysFinal ci.1 f.1 f.2.1 f.2.2.1).before a0 Z = true ∧ mi.1.cls = f.1 ∧ mi.1.name = "<init>"))
    (ho : H[a]? = some (.inl (cid, vs))) (hi : i < vs.length) (hn : narrow f.2.2.2 x = x) (hft : fits f.2.2.2 x = true) (hvs : vs.set i x = vs') (hH : H.set a (.inl (cid, vs')) = H1) (kk : Runs K l Z n0 mi np ls st H1 v H') : Runs K l Z n0 mi pc ls (x :: .ref a :: st) H v H' := by
  obtain ⟨hd, rfl⟩ := hd
  subst hvs hH
  have ha := lt_of_at ho
  have es : szs K (H.set a (.inl (cid, vs.set i x))) = szs K H := szs_set ho rfl
  refine Runs.heap (by rw [List.length_set]; exact Nat.le_refl _) (by rw [es]; exact Nat.le_refl _) (fun p e R s m args below meth c T locs cells slots X hx hZ hc hml hown hnm hrel hfr hf' hlo hsz hcl hsl => ?_) kk
  obtain ⟨ci', q1, E, F⟩ := hrel.2 a _ ho
  cases hci.symm.trans q1
  obtain ⟨kk1, kk2, kk3⟩ := hK cid ci hci
  have hfm : f ∈ ci.2.2 := List.mem_of_getElem? hf
  obtain ⟨T1, h1, X1, e1, W1, st1⟩ := putF X hx hZ hown (host := "") (Or.inl w) via rfl (F i f _ hf (List.getElem?_eq_getElem hi)) E (L.imp id fun q => ⟨q.1, q.2.1, hnm.trans q.2.2⟩) kk1 (kk2 f hfm).2 (nar_sh hn) (fits_sh hft)
    (g := mkF m pc (ls.map (shS n0)).toArray (shV n0 x :: .ref (n0 + a) :: st.map (shV n0))) rfl rfl (hb hc hd)
  refine ⟨T1, _, _, _, X1, ?_, Fr.snoc X1 hfr (Nat.le_add_right _ _), by rw [List.length_set]; exact hsz, by rw [es]; exact Nat.le_refl _, st1⟩
  rw [e1]
  refine hrel.put W1 ha ⟨ci, hci, E.wr W1, fun j g y hg hy => ?_⟩
  by_cases ji : i = j
  · subst ji
    cases hf.symm.trans hg
    rw [List.getElem?_set_self hi] at hy
    cases hy
    exact (F i f _ hf (List.getElem?_eq_getElem hi)).same W1
  · rw [List.getElem?_set_ne ji] at hy
    have hgm : g ∈ ci.2.2 := List.mem_of_getElem? hg
    refine (F j g y hg hy).other W1 (Or.inr (slot_ne (kk2 g hgm).1 (kk2 f hfm).1 ?_ (kk2 g hgm).2 (kk2 f hfm).2))
    obtain ⟨li, ei⟩ := List.getElem?_eq_some_iff.mp hf
    obtain ⟨lj, ej⟩ := List.getElem?_eq_some_iff.mp hg
    have pw := List.pairwise_iff_getElem.mp kk3
    rcases Nat.lt_or_gt_of_ne ji with q | q
    · have := pw i j li lj q; rw [ei, ej] at this; exact fun z => this z.symm
    · have := pw j i lj li q; rw [ei, ej] at this; exact this
theorem r_new {a cid idx : Nat} {ci : CI} {o : List Value} (hK : KOk K Z a0) (hd : decode mi.2.1 pc = .ok (.new idx, 3) ∧ pc + 3 = np) (w : (Jvm.Cond.classLink mi.1.cls idx ci.1).before a0 Z = true) (wz : (Jvm.Cond.initialized ci.1).before a0 Z = true) (hci : K[cid]? = some ci)
    (ho : ci.2.2.map (fun f => defaultValue f.2.2.2) = o) (ha : H.length = a) (hH : H ++ [.inl (cid, o)] = H1) (kk : Runs K l Z n0 mi np ls (.ref a :: st) H1 v H') : Runs K l Z n0 mi pc ls st H v H' := by
  obtain ⟨hd, rfl⟩ := hd
  subst ho ha hH
  obtain ⟨kk1, kk2, kk3⟩ := hK cid ci hci
  have es : osz K (.inl (cid, ci.2.2.map (fun f => defaultValue f.2.2.2))) = ci.2.1 := by show ((K[cid]?).map (fun ci => ci.2.1)).getD 0 = _; rw [hci]; rfl
  refine Runs.heap (by simp) (by rw [szs_push]; exact Nat.le_add_right _ _) (fun p e R s m args below meth c T locs cells slots X hx hZ hc hml hown hnm hrel hfr hf' hlo hsz hcl hsl => ?_) kk
  rw [szs_push, es] at hsl
  simp only [List.length_append, List.length_cons, List.length_nil] at hcl
  obtain ⟨T1, h1, X1, e1, E1, A1, D1, -, st1⟩ := newO X hx hZ hown w kk1 wz rfl (g := mkF m pc (ls.map (shS n0)).toArray (st.map (shV n0))) rfl (hb hc hd) (by omega) (by omega)
  have hs1 := X1.heapSize
  have hlt : T.heap.size < h1.size := A1.lt
  have hh := hrel.1
  rw [e1] at hs1
  refine ⟨T1, _, _, _, X1, ?_, hfr, by simp only [List.length_append, List.length_cons, List.length_nil]; omega, by rw [szs_push, es]; omega, fun t q => st1 t ?_⟩
  · rw [e1]
    refine hrel.push E1 (by omega) ⟨ci, hci, A1, fun i f x hf hx => ?_⟩
    have hfm : f ∈ ci.2.2 := List.mem_of_getElem? hf
    rw [List.getElem?_map, hf] at hx
    cases hx
    show Fld Z h1 T.heap.size f.1 f.2.1 f.2.2.1 (shV n0 (defaultValue f.2.2.2))
    rw [sh_dflt]
    exact D1 (kk2 f hfm).1 (kk2 f hfm).2
  · show Steps _ _ _ (T1.setTop (mkF m (pc + 3) _ (.ref T.heap.size :: _))) t
    rw [hh]; exact q
theorem toNat_of {n : Int32} (h : ¬ n < 0) : n.toNatClampNeg < 2 ^ 31 := (back32 h).2
theorem r_newA {a : Nat} {n : Int32} {aty : ArrayType} {o : List Value} (hd : decode mi.2.1 pc = .ok (.newarray aty, 2) ∧ pc + 2 = np) (w : (Jvm.Cond.arrayClass (newarray.typeOf aty)).before a0 Z = true) (hn : ¬ n < 0) (hb8 : n.toNatClampNeg * 8 ≤ 536870912)
    (ho : List.replicate n.toNatClampNeg (defaultValue (newarray.typeOf aty)) = o) (ha : H.length = a) (hH : H ++ [.inr (newarray.typeOf aty, o)] = H1) (kk : Runs K l Z n0 mi np ls (.ref a :: st) H1 v H') : Runs K l Z n0 mi pc ls (.int n :: st) H v H' := by
  obtain ⟨hd, rfl⟩ := hd
  subst ho ha hH
  have es : osz K (.inr (newarray.typeOf aty, List.replicate n.toNatClampNeg (defaultValue (newarray.typeOf aty)))) = n.toNatClampNeg := by show (List.replicate _ _).length = _; simp
  refine Runs.heap (by simp) (by rw [szs_push]; exact Nat.le_add_right _ _) (fun p e R s m args below meth c T locs cells slots X hx hZ hc hml hown hnm hrel hfr hf' hlo hsz hcl hsl => ?_) kk
  rw [szs_push, es] at hsl
  simp only [List.length_append, List.length_cons, List.length_nil] at hcl
  obtain ⟨T1, h1, cA, X1, e1, E1, A1, st1⟩ := newP X hx hZ w rfl (g := mkF m pc (ls.map (shS n0)).toArray (.int n :: st.map (shV n0))) rfl (hb hc hd) rfl hn (cap := n.toNatClampNeg) (Nat.le_refl _) hb8 (by omega) (by omega)
  have hs1 := X1.heapSize
  have hlt : T.heap.size < h1.size := A1.lt
  have hh := hrel.1
  rw [e1] at hs1
  refine ⟨T1, _, _, _, X1, ?_, hfr, by simp only [List.length_append, List.length_cons, List.length_nil]; omega, by rw [szs_push, es]; omega, fun t q => st1 t ?_⟩
  · rw [e1]
    refine hrel.push E1 (by omega) ⟨_, A1, by rw [sz_new]; simp, by simpa using toNat_of hn, fun i x hx => ?_⟩
    rw [List.getElem?_replicate] at hx
    split at hx
    · rename_i hi
      cases hx
      have q1 : (newA cA (newarray.typeOf aty) n).slots[i]? = some (defaultValue (newarray.typeOf aty)) := by simp [newA, hi]
      exact ⟨by rw [q1]; cases newarray.typeOf aty <;> rfl, by cases newarray.typeOf aty <;> rfl⟩
    · cases hx
  · show Steps _ _ _ (T1.setTop (mkF m (pc + 2) _ (.ref T.heap.size :: _))) t
    rw [hh]; exact q
theorem fits_byte (x : Int32) : fits .byte (.int x.toInt8.toInt32) = true := by
  have h1 : (x.toInt8.toInt32).toInt = x.toInt8.toInt := Int8.toInt_toInt32 _
  have h2 := x.toInt8.toInt_lt
  have h3 := x.toInt8.le_toInt
  have e1 : (-128 : Int32).toInt = -128 := by decide
  have e2 : (127 : Int32).toInt = 127 := by decide
  simp only [fits, Bool.and_eq_true, decide_eq_true_eq]
  rw [Int32.le_iff_toInt_le, Int32.le_iff_toInt_le, h1, e1, e2]
  omega
/-- the int j names the place i -/
def Ix (j : Int32) (i : Nat) : Prop := ¬ j < 0 ∧ j.toNatClampNeg = i
theorem r_len {a : Nat} {ty : FieldType} {vs : List Value} {n : Int32} (hd : decode mi.2.1 pc = .ok (.arraylength, 1) ∧ pc + 1 = np) (ho : H[a]? = some (.inr (ty, vs))) (hn : vs.length.toInt32 = n) (kk : Runs K l Z n0 mi np ls (.int n :: st) H v H') : Runs K l Z n0 mi pc ls (.ref a :: st) H v H' := by
  obtain ⟨hd, rfl⟩ := hd
  subst hn
  refine Runs.heap (Nat.le_refl _) (Nat.le_refl _) (fun p e R s m args below meth c T locs cells slots X hx hZ hc hml hown hnm hrel hfr hf' hlo hsz hcl hsl => ?_) kk
  obtain ⟨cl, A, hs, hl, hv⟩ := hrel.2 a _ ho
  refine ⟨T, _, _, _, X, hrel, hfr, hsz, Nat.le_refl _, fun t q => ?_⟩
  refine X.arraylength hx A.1 (State.isArrayOf_alike hZ.alike A.2.1) (g := mkF m pc (ls.map (shS n0)).toArray (.ref (n0 + a) :: st.map (shV n0))) rfl rfl (hb hc hd) _ ?_
  rw [hs]; exact q
theorem r_iaload {a i : Nat} {vs : List Value} {j : Int32} {x : Value} (hd : decode mi.2.1 pc = .ok (.iaload, 1) ∧ pc + 1 = np) (ho : H[a]? = some (.inr (.int, vs))) (hj : Ix j i) (hv : vs[i]? = some x) (kk : Runs K l Z n0 mi np ls (x :: st) H v H') : Runs K l Z n0 mi pc ls (.int j :: .ref a :: st) H v H' := by
  obtain ⟨hd, rfl⟩ := hd
  obtain ⟨hj0, rfl⟩ := hj
  refine Runs.heap (Nat.le_refl _) (Nat.le_refl _) (fun p e R s m args below meth c T locs cells slots X hx hZ hc hml hown hnm hrel hfr hf' hlo hsz hcl hsl => ?_) kk
  obtain ⟨cl, A, hs, hl, hvs⟩ := hrel.2 a _ ho
  have hi := lt_of_at hv
  refine ⟨T, _, _, _, X, hrel, hfr, hsz, Nat.le_refl _, fun t q => ?_⟩
  exact X.iaload hx (j := j) (v := shV n0 x) A.1 (State.isArrayOf_alike hZ.alike A.2.1) A.2.2 (fun z => z.elim hj0 (fun q => by rw [hs] at q; omega)) (hvs _ _ hv).1 (g := mkF m pc (ls.map (shS n0)).toArray (.int j :: .ref (n0 + a) :: st.map (shV n0))) rfl rfl (hb hc hd) _ q
theorem r_laload {a i : Nat} {vs : List Value} {j : Int32} {x : Value} (hd : decode mi.2.1 pc = .ok (.laload, 1) ∧ pc + 1 = np) (ho : H[a]? = some (.inr (.long, vs))) (hj : Ix j i) (hv : vs[i]? = some x) (kk : Runs K l Z n0 mi np ls (x :: st) H v H') : Runs K l Z n0 mi pc ls (.int j :: .ref a :: st) H v H' := by
  obtain ⟨hd, rfl⟩ := hd
  obtain ⟨hj0, rfl⟩ := hj
  refine Runs.heap (Nat.le_refl _) (Nat.le_refl _) (fun p e R s m args below meth c T locs cells slots X hx hZ hc hml hown hnm hrel hfr hf' hlo hsz hcl hsl => ?_) kk
  obtain ⟨cl, A, hs, hl, hvs⟩ := hrel.2 a _ ho
  have hi := lt_of_at hv
  refine ⟨T, _, _, _, X, hrel, hfr, hsz, Nat.le_refl _, fun t q => ?_⟩
  exact X.laload hx (j := j) (v := shV n0 x) A.1 (State.isArrayOf_alike hZ.alike A.2.1) A.2.2 (fun z => z.elim hj0 (fun q => by rw [hs] at q; omega)) (hvs _ _ hv).1 (g := mkF m pc (ls.map (shS n0)).toArray (.int j :: .ref (n0 + a) :: st.map (shV n0))) rfl rfl (hb hc hd) _ q
theorem r_baload {a i : Nat} {vs : List Value} {j : Int32} {x : Value} (hd : decode mi.2.1 pc = .ok (.baload, 1) ∧ pc + 1 = np) (ho : H[a]? = some (.inr (.byte, vs))) (hj : Ix j i) (hv : vs[i]? = some x) (kk : Runs K l Z n0 mi np ls (x :: st) H v H') : Runs K l Z n0 mi pc ls (.int j :: .ref a :: st) H v H' := by
  obtain ⟨hd, rfl⟩ := hd
  obtain ⟨hj0, rfl⟩ := hj
  refine Runs.heap (Nat.le_refl _) (Nat.le_refl _) (fun p e R s m args below meth c T locs cells slots X hx hZ hc hml hown hnm hrel hfr hf' hlo hsz hcl hsl => ?_) kk
  obtain ⟨cl, A, hs, hl, hvs⟩ := hrel.2 a _ ho
  have hi := lt_of_at hv
  refine ⟨T, _, _, _, X, hrel, hfr, hsz, Nat.le_refl _, fun t q => ?_⟩
  exact X.baloadBytes hx (j := j) (v := shV n0 x) A.1 (State.isArrayOf_alike hZ.alike A.2.1) A.2.2 (fun z => z.elim hj0 (fun q => by rw [hs] at q; omega)) (hvs _ _ hv).1 (g := mkF m pc (ls.map (shS n0)).toArray (.int j :: .ref (n0 + a) :: st.map (shV n0))) rfl rfl (hb hc hd) _ q
theorem r_caload {a i : Nat} {vs : List Value} {j : Int32} {x : Value} (hd : decode mi.2.1 pc = .ok (.caload, 1) ∧ pc + 1 = np) (ho : H[a]? = some (.inr (.char, vs))) (hj : Ix j i) (hv : vs[i]? = some x) (kk : Runs K l Z n0 mi np ls (x :: st) H v H') : Runs K l Z n0 mi pc ls (.int j :: .ref a :: st) H v H' := by
  obtain ⟨hd, rfl⟩ := hd
  obtain ⟨hj0, rfl⟩ := hj
  refine Runs.heap (Nat.le_refl _) (Nat.le_refl _) (fun p e R s m args below meth c T locs cells slots X hx hZ hc hml hown hnm hrel hfr hf' hlo hsz hcl hsl => ?_) kk
  obtain ⟨cl, A, hs, hl, hvs⟩ := hrel.2 a _ ho
  have hi := lt_of_at hv
  refine ⟨T, _, _, _, X, hrel, hfr, hsz, Nat.le_refl _, fun t q => ?_⟩
  exact X.caload hx (j := j) (v := shV n0 x) A.1 (State.isArrayOf_alike hZ.alike A.2.1) A.2.2 (fun z => z.elim hj0 (fun q => by rw [hs] at q; omega)) (hvs _ _ hv).1 (g := mkF m pc (ls.map (shS n0)).toArray (.int j :: .ref (n0 + a) :: st.map (shV n0))) rfl rfl (hb hc hd) _ q
theorem r_iastore {a i : Nat} {vs vs' : List Value} {j : Int32} {x : Int32} (hd : decode mi.2.1 pc = .ok (.iastore, 1) ∧ pc + 1 = np) (ho : H[a]? = some (.inr (.int, vs))) (hj : Ix j i) (hi : i < vs.length) (hvs : vs.set i (.int x) = vs') (hH : H.set a (.inr (.int, vs')) = H1) (kk : Runs K l Z n0 mi np ls st H1 v H') : Runs K l Z n0 mi pc ls (.int x :: .int j :: .ref a :: st) H v H' := by
  obtain ⟨hd, rfl⟩ := hd
  obtain ⟨hj0, rfl⟩ := hj
  subst hvs hH
  have ha := lt_of_at ho
  have es : szs K (H.set a (.inr (.int, vs.set j.toNatClampNeg (.int x)))) = szs K H := szs_set ho (by show (List.set _ _ _).length = _; simp [osz])
  refine Runs.heap (by rw [List.length_set]; exact Nat.le_refl _) (by rw [es]; exact Nat.le_refl _) (fun p e R s m args below meth c T locs cells slots X hx hZ hc hml hown hnm hrel hfr hf' hlo hsz hcl hsl => ?_) kk
  obtain ⟨cl, A, hs, hl, hvs⟩ := hrel.2 a _ ho
  have hin : ¬ (j < 0 ∨ cl.slots.size ≤ j.toNatClampNeg) := fun z => z.elim hj0 (fun q => by rw [hs] at q; omega)
  obtain ⟨T1, h1, X1, e1, W1, st1⟩ := stI X hx hZ rfl A hin (g := mkF m pc (ls.map (shS n0)).toArray (.int x :: .int j :: .ref (n0 + a) :: st.map (shV n0))) rfl rfl (hb hc hd)
  refine ⟨T1, _, _, _, X1, ?_, Fr.snoc X1 hfr (Nat.le_add_right _ _), by rw [List.length_set]; exact hsz, by rw [es]; exact Nat.le_refl _, st1⟩
  rw [e1]
  refine hrel.put W1 ha ⟨_, A.same W1, by rw [sz_set, hs, List.length_set], by rw [List.length_set]; exact hl, fun k y hy => ?_⟩
  by_cases e : j.toNatClampNeg = k
  · subst e
    rw [List.getElem?_set_self hi] at hy
    cases hy
    exact ⟨by simp [Cell.setSlot, hs, hi, shV, nar], rfl⟩
  · rw [List.getElem?_set_ne e] at hy
    refine ⟨?_, (hvs k y hy).2⟩
    exact (Array.getElem?_setIfInBounds_ne e).trans (hvs k y hy).1
theorem r_lastore {a i : Nat} {vs vs' : List Value} {j : Int32} {x : Int64} (hd : decode mi.2.1 pc = .ok (.lastore, 1) ∧ pc + 1 = np) (ho : H[a]? = some (.inr (.long, vs))) (hj : Ix j i) (hi : i < vs.length) (hvs : vs.set i (.long x) = vs') (hH : H.set a (.inr (.long, vs')) = H1) (kk : Runs K l Z n0 mi np ls st H1 v H') : Runs K l Z n0 mi pc ls (.long x :: .int j :: .ref a :: st) H v H' := by
  obtain ⟨hd, rfl⟩ := hd
  obtain ⟨hj0, rfl⟩ := hj
  subst hvs hH
  have ha := lt_of_at ho
  have es : szs K (H.set a (.inr (.long, vs.set j.toNatClampNeg (.long x)))) = szs K H := szs_set ho (by show (List.set _ _ _).length = _; simp [osz])
  refine Runs.heap (by rw [List.length_set]; exact Nat.le_refl _) (by rw [es]; exact Nat.le_refl _) (fun p e R s m args below meth c T locs cells slots X hx hZ hc hml hown hnm hrel hfr hf' hlo hsz hcl hsl => ?_) kk
  obtain ⟨cl, A, hs, hl, hvs⟩ := hrel.2 a _ ho
  have hin : ¬ (j < 0 ∨ cl.slots.size ≤ j.toNatClampNeg) := fun z => z.elim hj0 (fun q => by rw [hs] at q; omega)
  obtain ⟨T1, h1, X1, e1, W1, st1⟩ := stJ X hx hZ rfl A hin (g := mkF m pc (ls.map (shS n0)).toArray (.long x :: .int j :: .ref (n0 + a) :: st.map (shV n0))) rfl rfl (hb hc hd)
  refine ⟨T1, _, _, _, X1, ?_, Fr.snoc X1 hfr (Nat.le_add_right _ _), by rw [List.length_set]; exact hsz, by rw [es]; exact Nat.le_refl _, st1⟩
  rw [e1]
  refine hrel.put W1 ha ⟨_, A.same W1, by rw [sz_set, hs, List.length_set], by rw [List.length_set]; exact hl, fun k y hy => ?_⟩
  by_cases e : j.toNatClampNeg = k
  · subst e
    rw [List.getElem?_set_self hi] at hy
    cases hy
    exact ⟨by simp [Cell.setSlot, hs, hi, shV, nar], rfl⟩
  · rw [List.getElem?_set_ne e] at hy
    refine ⟨?_, (hvs k y hy).2⟩
    exact (Array.getElem?_setIfInBounds_ne e).trans (hvs k y hy).1
theorem r_bastore {a i : Nat} {vs vs' : List Value} {j : Int32} {x : Int32} (hd : decode mi.2.1 pc = .ok (.bastore, 1) ∧ pc + 1 = np) (ho : H[a]? = some (.inr (.byte, vs))) (hj : Ix j i) (hi : i < vs.length) (hvs : vs.set i (.int x.toInt8.toInt32) = vs') (hH : H.set a (.inr (.byte, vs')) = H1) (kk : Runs K l Z n0 mi np ls st H1 v H') : Runs K l Z n0 mi pc ls (.int x :: .int j :: .ref a :: st) H v H' := by
  obtain ⟨hd, rfl⟩ := hd
  obtain ⟨hj0, rfl⟩ := hj
  subst hvs hH
  have ha := lt_of_at ho
  have es : szs K (H.set a (.inr (.byte, vs.set j.toNatClampNeg (.int x.toInt8.toInt32)))) = szs K H := szs_set ho (by show (List.set _ _ _).length = _; simp [osz])
  refine Runs.heap (by rw [List.length_set]; exact Nat.le_refl _) (by rw [es]; exact Nat.le_refl _) (fun p e R s m args below meth c T locs cells slots X hx hZ hc hml hown hnm hrel hfr hf' hlo hsz hcl hsl => ?_) kk
  obtain ⟨cl, A, hs, hl, hvs⟩ := hrel.2 a _ ho
  have hin : ¬ (j < 0 ∨ cl.slots.size ≤ j.toNatClampNeg) := fun z => z.elim hj0 (fun q => by rw [hs] at q; omega)
  obtain ⟨T1, h1, X1, e1, W1, st1⟩ := stB X hx hZ rfl A hin (g := mkF m pc (ls.map (shS n0)).toArray (.int x :: .int j :: .ref (n0 + a) :: st.map (shV n0))) rfl rfl (hb hc hd)
  refine ⟨T1, _, _, _, X1, ?_, Fr.snoc X1 hfr (Nat.le_add_right _ _), by rw [List.length_set]; exact hsz, by rw [es]; exact Nat.le_refl _, st1⟩
  rw [e1]
  refine hrel.put W1 ha ⟨_, A.same W1, by rw [sz_set, hs, List.length_set], by rw [List.length_set]; exact hl, fun k y hy => ?_⟩
  by_cases e : j.toNatClampNeg = k
  · subst e
    rw [List.getElem?_set_self hi] at hy
    cases hy
    exact ⟨by simp [Cell.setSlot, hs, hi, shV, nar], fits_byte x⟩
  · rw [List.getElem?_set_ne e] at hy
    refine ⟨?_, (hvs k y hy).2⟩
    exact (Array.getElem?_setIfInBounds_ne e).trans (hvs k y hy).1
/-! ### calls -/
theorem map_toList (w : Option Value) (rest : List Value) : ((w.toList ++ rest).map (shV n0)) = (w.map (shV n0)).toList ++ rest.map (shV n0) := by cases w <;> simp
theorem r_initO {a idx : Nat} (hd : decode mi.2.1 pc = .ok (.invokespecial idx, 3) ∧ pc + 3 = np) (w1 : (Jvm.Cond.methodLink mi.1.cls idx Lib.objectInit).before a0 Z = true) (w2 : (Jvm.Cond.instanceMethod Lib.objectInit).before a0 Z = true) (w3 : (Jvm.Cond.code Lib.objectInit ⟨#[0xb1]⟩ 1 none).before a0 Z = true)
    (hls : ls.length = mi.2.2.1) (hf : 1 ≤ mi.2.2.2.2.1) (hlo : (st.map fun v => v.category).sum + 12 ≤ mi.2.2.2.2.2) (kk : Runs K l Z n0 mi np ls st H v H') : Runs K l Z n0 mi pc ls (.ref a :: st) H v H' := by
  obtain ⟨hd, rfl⟩ := hd
  refine Runs.heap (Nat.le_refl _) (Nat.le_refl _) (fun p e R s m args below meth c T locs cells slots X hx hZ hc hml hown hnm hrel hfr hf' hlo' hsz hcl hsl => ?_) kk
  obtain ⟨T1, X1, e1, st1⟩ := initO X hx hZ hown w1 w2 w3 rfl (g := mkF m pc (ls.map (shS n0)).toArray (.ref (n0 + a) :: st.map (shV n0))) rfl (by rw [hml, ← hls]; simp) rfl (hb hc hd) (by omega) (W := (st.map fun v => v.category).sum) (by rw [cats_sh]; show 2 * 0 + _ ≤ _; omega) (by omega)
  exact ⟨T1, _, _, _, X1, by rw [e1]; exact hrel, hfr, hsz, Nat.le_refl _, st1⟩
theorem backM {mj : MI} {as : List Value} {w : Option Value} {h : Heap} {p : Program} {e : Env} {R : Room} {s : State} {args : Array Value} {below : List Frame} {len W : Nat} (M : Meets K l Z n0 mj as H w H1) (hrel : Rel K Z n0 H h) (hZ : Z.Warmed39 s.vm) (w4 : (Jvm.Cond.code mj.1 mj.2.1 mj.2.2.1 mj.2.2.2.1).before a0 Z = true) (w3 : (Jvm.Cond.initialized mj.1.cls).before a0 Z = true)
    (hf : mj.2.2.2.2.1 + 1 ≤ R.frames) (hl : W + (mj.2.2.1 + 11) + mj.2.2.2.2.2 ≤ R.locals) :
    Back l R p e below s args mj.1 len W (fun A a => a = (as.map (shV n0)).toArray ∧ A.U.heap = h ∧ A.cells + (H1.length - H.length) ≤ R.cells ∧ A.slots + (szs K H1 - szs K H) ≤ R.slots)
      (fun A _ v B => ∃ L, (v = w.map (shV n0) ∧ Rel K Z n0 H1 B.U.heap ∧ Fr n0 L) ∧ B.locs = A.locs ++ L ∧ B.cells = A.cells + (H1.length - H.length) ∧ B.slots = A.slots + (szs K H1 - szs K H)) :=
  backOf (rm := rmOf K mj H H1) (Q := fun v h L => v = w.map (shV n0) ∧ Rel K Z n0 H1 h ∧ Fr n0 L) (M.2.2 h hrel) hZ w4 w3 hf hl
theorem r_static {mj : MI} {as : List Value} {w : Option Value} {idx : Nat} (hd : decode mi.2.1 pc = .ok (.invokestatic idx, 3) ∧ pc + 3 = np) (w1 : (Jvm.Cond.methodLink mi.1.cls idx mj.1).before a0 Z = true) (w2 : (Jvm.Cond.static mj.1).before a0 Z = true) (w3 : (Jvm.Cond.initialized mj.1.cls).before a0 Z = true) (w4 : (Jvm.Cond.code mj.1 mj.2.1 mj.2.2.1 mj.2.2.2.1).before a0 Z = true)
    (hy : mj.1.cls ≠ "java/lang/invoke/MethodHandle" ∧ mj.1.cls ≠ "java/lang/invoke/VarHandle") (hlen : ∀ sig, parseMethodDescriptor mj.1.desc = some sig → as.length = sig.parameters.length) (hfr : mj.2.2.2.2.1 + 1 ≤ mi.2.2.2.2.1)
    (hst : as.reverse ++ rest = st) (hls : ls.length = mi.2.2.1) (hlo : (rest.map fun v => v.category).sum + (mj.2.2.1 + 11) + mj.2.2.2.2.2 ≤ mi.2.2.2.2.2)
    (M : Meets K l Z n0 mj as H w H1) (kk : Runs K l Z n0 mi np ls (w.toList ++ rest) H1 v H') : Runs K l Z n0 mi pc ls st H v H' := by
  obtain ⟨hd, rfl⟩ := hd
  subst hst
  have m1 := M.1
  have m2 := M.2.1
  refine Runs.heap m1 m2 (fun p e R s m args below meth c T locs cells slots X hx hZ hc hml hown hnm hrel hfr' hf' hlo' hsz hcl hsl => ?_) kk
  obtain ⟨_, _, ⟨T1, L1, k1, n1⟩, -, X1, ⟨Lc, hQ, l1, y1, z1⟩, st1⟩ := Jvm.LawKit.callS X hx (y := mj.1) hown (mvT hZ w1) (mvT hZ w2) (mvT hZ w3) (mvT hZ w4) hy
    (backM (W := (rest.map fun v => v.category).sum) M hrel hZ w4 w3 (by omega) (by omega))
    (g := mkF m pc (ls.map (shS n0)).toArray ((as.reverse ++ rest).map (shV n0))) rfl (by rw [hml, ← hls]; simp) (argsL := as.map (shV n0)) (rest := rest.map (shV n0)) (fun sig q => by rw [List.length_map]; exact hlen sig q) (by simp) (by rw [cats_sh]; show 2 * 0 + _ ≤ _; omega) (hb hc hd)
    (fun _ _ => ⟨rfl, rfl, (by show cells + (H1.length - H.length) ≤ _; omega), (by show slots + (szs K H1 - szs K H) ≤ _; omega)⟩)
  dsimp only [Pt.U, Pt.locs, Pt.cells, Pt.slots] at X1 l1 y1 z1 st1 hQ
  subst l1 y1 z1
  obtain ⟨rfl, R1, F1⟩ := hQ
  refine ⟨T1, _, _, _, X1, R1, Fr.app hfr' F1, by show s.heap.size + (cells + (H1.length - H.length)) = _; omega, by show slots + (szs K H1 - szs K H) + _ ≤ _; omega, fun t q => st1 t ?_⟩
  rw [map_toList] at q; exact q
theorem r_special {mj : MI} {as : List Value} {a idx : Nat} (hd : decode mi.2.1 pc = .ok (.invokespecial idx, 3) ∧ pc + 3 = np) (hy1 : mj.1.name = "<init>") (hr : mj.2.2.2.1 = none) (w1 : (Jvm.Cond.methodLink mi.1.cls idx mj.1).before a0 Z = true) (w2 : (Jvm.Cond.instanceMethod mj.1).before a0 Z = true) (w3 : (Jvm.Cond.initialized mj.1.cls).before a0 Z = true) (w4 : (Jvm.Cond.code mj.1 mj.2.1 mj.2.2.1 mj.2.2.2.1).before a0 Z = true)
    (hy : mj.1.cls ≠ "java/lang/invoke/MethodHandle" ∧ mj.1.cls ≠ "java/lang/invoke/VarHandle") (hlen : ∀ sig, parseMethodDescriptor mj.1.desc = some sig → as.length = sig.parameters.length) (hfr : mj.2.2.2.2.1 + 1 ≤ mi.2.2.2.2.1)
    (hst : as.reverse ++ .ref a :: rest = st) (hls : ls.length = mi.2.2.1) (hlo : (rest.map fun v => v.category).sum + (mj.2.2.1 + 11) + mj.2.2.2.2.2 ≤ mi.2.2.2.2.2)
    (M : Meets K l Z n0 mj (.ref a :: as) H none H1) (kk : Runs K l Z n0 mi np ls rest H1 v H') : Runs K l Z n0 mi pc ls st H v H' := by
  obtain ⟨hd, rfl⟩ := hd
  subst hst
  have m1 := M.1
  have m2 := M.2.1
  refine Runs.heap m1 m2 (fun p e R s m args below meth c T locs cells slots X hx hZ hc hml hown hnm hrel hfr' hf' hlo' hsz hcl hsl => ?_) kk
  have w4' := w4
  rw [hr] at w4'
  obtain ⟨_, _, ⟨T1, L1, k1, n1⟩, -, X1, ⟨Lc, hQ, l1, y1, z1⟩, st1⟩ := X.specialBack hx (y := mj.1) hy1 hown (mvT hZ w1) (mvT hZ w2) (mvT hZ w4') hy
    (backM (W := (rest.map fun v => v.category).sum) M hrel hZ w4 w3 (by omega) (by omega))
    (g := mkF m pc (ls.map (shS n0)).toArray ((as.reverse ++ .ref a :: rest).map (shV n0))) rfl (by rw [hml, ← hls]; simp) (Steps.refl _) (a := n0 + a) (argsL := as.map (shV n0)) (rest := rest.map (shV n0)) (fun sig q => by rw [List.length_map]; exact hlen sig q) (by simp [shV]) (by rw [cats_sh]; show 2 * 0 + _ ≤ _; omega) (hb hc hd)
    (fun _ _ => ⟨rfl, rfl, (by show cells + (H1.length - H.length) ≤ _; omega), (by show slots + (szs K H1 - szs K H) ≤ _; omega)⟩)
  dsimp only [Pt.U, Pt.locs, Pt.cells, Pt.slots] at X1 l1 y1 z1 st1 hQ
  subst l1 y1 z1
  obtain ⟨rfl, R1, F1⟩ := hQ
  exact ⟨T1, _, _, _, X1, R1, Fr.app hfr' F1, by show s.heap.size + (cells + (H1.length - H.length)) = _; omega, by show slots + (szs K H1 - szs K H) + _ ≤ _; omega, fun t q => st1.trans q⟩
theorem r_virtual {mj : MI} {as : List Value} {w : Option Value} {a cid idx : Nat} {ci : CI} {vs : List Value} (hd : decode mi.2.1 pc = .ok (.invokevirtual idx, 3) ∧ pc + 3 = np) (w1 : (Jvm.Cond.methodLink mi.1.cls idx mj.1).before a0 Z = true) (w2 : (Jvm.Cond.declares mj.1).before a0 Z = true) (w5 : (Jvm.Cond.selects ci.1 mj.1 mj.1).before a0 Z = true) (w6 : (Jvm.Cond.instanceMethod mj.1).before a0 Z = true) (w3 : (Jvm.Cond.initialized mj.1.cls).before a0 Z = true) (w4 : (Jvm.Cond.code mj.1 mj.2.1 mj.2.2.1 mj.2.2.2.1).before a0 Z = true)
    (hy : mj.1.cls ≠ "java/lang/invoke/MethodHandle" ∧ mj.1.cls ≠ "java/lang/invoke/VarHandle") (hlen : ∀ sig, parseMethodDescriptor mj.1.desc = some sig → as.length = sig.parameters.length) (hfr : mj.2.2.2.2.1 + 1 ≤ mi.2.2.2.2.1) (hci : K[cid]? = some ci)
    (hst : as.reverse ++ .ref a :: rest = st) (ho : H[a]? = some (.inl (cid, vs))) (hls : ls.length = mi.2.2.1) (hlo : (rest.map fun v => v.category).sum + (mj.2.2.1 + 11) + mj.2.2.2.2.2 ≤ mi.2.2.2.2.2)
    (M : Meets K l Z n0 mj (.ref a :: as) H w H1) (kk : Runs K l Z n0 mi np ls (w.toList ++ rest) H1 v H') : Runs K l Z n0 mi pc ls st H v H' := by
  obtain ⟨hd, rfl⟩ := hd
  subst hst
  have m1 := M.1
  have m2 := M.2.1
  refine Runs.heap m1 m2 (fun p e R s m args below meth c T locs cells slots X hx hZ hc hml hown hnm hrel hfr' hf' hlo' hsz hcl hsl => ?_) kk
  obtain ⟨ci', q1, E, F⟩ := hrel.2 a _ ho
  cases hci.symm.trans q1
  obtain ⟨cq, kq, qa, qb, qc⟩ := isOf hZ rfl E
  obtain ⟨_, _, ⟨T1, L1, k1, n1⟩, -, X1, ⟨Lc, hQ, l1, y1, z1⟩, st1⟩ := X.virtualBack hx (y := mj.1) (z := mj.1) hown (mvT hZ w1) (mvT hZ w2) (notFace_of_selects (args := #[]) (mvT hZ w5)) (mvT hZ w5) (mvT hZ w6) hy
    (backM (W := (rest.map fun v => v.category).sum) M hrel hZ w4 w3 (by omega) (by omega)) qa qc
    (g := mkF m pc (ls.map (shS n0)).toArray ((as.reverse ++ .ref a :: rest).map (shV n0))) rfl (by rw [hml, ← hls]; simp) (Steps.refl _) (argsL := as.map (shV n0)) (rest := rest.map (shV n0)) (fun sig q => by rw [List.length_map]; exact hlen sig q) (by simp [shV]) (by rw [cats_sh]; show 2 * 0 + _ ≤ _; omega) (hb hc hd)
    (fun _ _ => ⟨rfl, rfl, (by show cells + (H1.length - H.length) ≤ _; omega), (by show slots + (szs K H1 - szs K H) ≤ _; omega)⟩)
  dsimp only [Pt.U, Pt.locs, Pt.cells, Pt.slots] at X1 l1 y1 z1 st1 hQ
  subst l1 y1 z1
  obtain ⟨rfl, R1, F1⟩ := hQ
  refine ⟨T1, _, _, _, X1, R1, Fr.app hfr' F1, by show s.heap.size + (cells + (H1.length - H.length)) = _; omega, by show slots + (szs K H1 - szs K H) + _ ≤ _; omega, fun t q => st1.trans ?_⟩
  rw [map_toList] at q; exact q
theorem r_private {mj : MI} {as : List Value} {w : Option Value} {a cid idx : Nat} {ci : CI} {vs : List Value} (hd : decode mi.2.1 pc = .ok (.invokevirtual idx, 3) ∧ pc + 3 = np) (w1 : (Jvm.Cond.methodLink mi.1.cls idx mj.1).before a0 Z = true) (w5 : (Jvm.Cond.selects mj.1.cls mj.1 mj.1).before a0 Z = true) (w7 : (Jvm.Cond.privateMethod mj.1).before a0 Z = true) (w6 : (Jvm.Cond.instanceMethod mj.1).before a0 Z = true) (w3 : (Jvm.Cond.initialized mj.1.cls).before a0 Z = true) (w4 : (Jvm.Cond.code mj.1 mj.2.1 mj.2.2.1 mj.2.2.2.1).before a0 Z = true)
    (hy : mj.1.cls ≠ "java/lang/invoke/MethodHandle" ∧ mj.1.cls ≠ "java/lang/invoke/VarHandle") (hlen : ∀ sig, parseMethodDescriptor mj.1.desc = some sig → as.length = sig.parameters.length) (hfr : mj.2.2.2.2.1 + 1 ≤ mi.2.2.2.2.1) (hci : K[cid]? = some ci)
    (hst : as.reverse ++ .ref a :: rest = st) (ho : H[a]? = some (.inl (cid, vs))) (hls : ls.length = mi.2.2.1) (hlo : (rest.map fun v => v.category).sum + (mj.2.2.1 + 11) + mj.2.2.2.2.2 ≤ mi.2.2.2.2.2)
    (M : Meets K l Z n0 mj (.ref a :: as) H w H1) (kk : Runs K l Z n0 mi np ls (w.toList ++ rest) H1 v H') : Runs K l Z n0 mi pc ls st H v H' := by
  obtain ⟨hd, rfl⟩ := hd
  subst hst
  have m1 := M.1
  have m2 := M.2.1
  refine Runs.heap m1 m2 (fun p e R s m args below meth c T locs cells slots X hx hZ hc hml hown hnm hrel hfr' hf' hlo' hsz hcl hsl => ?_) kk
  obtain ⟨ci', q1, E, F⟩ := hrel.2 a _ ho
  cases hci.symm.trans q1
  obtain ⟨cq, qa, qc⟩ := E.cell
  obtain ⟨_, _, ⟨T1, L1, k1, n1⟩, -, X1, ⟨Lc, hQ, l1, y1, z1⟩, st1⟩ := X.privateBack hx (y := mj.1) hown (mvT hZ w1) (mvT hZ w6) (mvT hZ w5) (Cond.privateMethod_at (mvP hZ w7 (args := #[]))) (mvT hZ w4) hy
    (backM (W := (rest.map fun v => v.category).sum) M hrel hZ w4 w3 (by omega) (by omega))
    (g := mkF m pc (ls.map (shS n0)).toArray ((as.reverse ++ .ref a :: rest).map (shV n0))) rfl (by rw [hml, ← hls]; simp) (Steps.refl _) (a := n0 + a) qa qc (argsL := as.map (shV n0)) (rest := rest.map (shV n0)) (fun sig q => by rw [List.length_map]; exact hlen sig q) (by simp [shV]) (by rw [cats_sh]; show 2 * 0 + _ ≤ _; omega) (hb hc hd)
    (fun _ _ => ⟨rfl, rfl, (by show cells + (H1.length - H.length) ≤ _; omega), (by show slots + (szs K H1 - szs K H) ≤ _; omega)⟩)
  dsimp only [Pt.U, Pt.locs, Pt.cells, Pt.slots] at X1 l1 y1 z1 st1 hQ
  subst l1 y1 z1
  obtain ⟨rfl, R1, F1⟩ := hQ
  refine ⟨T1, _, _, _, X1, R1, Fr.app hfr' F1, by show s.heap.size + (cells + (H1.length - H.length)) = _; omega, by show slots + (szs K H1 - szs K H) + _ ≤ _; omega, fun t q => st1.trans ?_⟩
  rw [map_toList] at q; exact q
end Logic
abbrev HW (Z : State) (a0 : Array Value) : Prop := ∀ d ∈ tables_1, d.before a0 Z = true
def K : List CI := [("com/example/tendril/tendril/storage/CheckpointPolicy", 7, [("com/example/tendril/tendril/storage/CheckpointPolicy", "floorBytes", "J", .long), ("com/example/tendril/tendril/storage/CheckpointPolicy", "tryFrom", "J", .long), ("com/example/tendril/tendril/storage/CheckpointPolicy", "checkpointBytes", "J", .long), ("com/example/tendril/tendril/storage/CheckpointPolicy", "earlierJournalBytes", "J", .long), ("com/example/tendril/tendril/storage/CheckpointPolicy", "graphElements", "J", .long), ("com/example/tendril/tendril/storage/CheckpointPolicy", "elementsToReplay", "J", .long)])]
theorem allL0 {α : Type} {P : α → Prop} : ∀ x ∈ ([] : List α), P x := fun _ q => nomatch q
theorem allLS {α : Type} {P : α → Prop} {y : α} {L : List α} (q : P y) (r : ∀ x ∈ L, P x) : ∀ x ∈ y :: L, P x := fun x z => (List.mem_cons.mp z).elim (fun u => u ▸ q) (r x)
theorem kok {Z : State} {a0 : Array Value} (hw : HW Z a0) : KOk K Z a0 := by
  intro k ci h
  match k, h with
  | 0, h => cases h; exact ⟨(hw _ (List.mem_of_getElem? (i := 3) rfl)), (allLS ⟨Or.inr (hw _ (List.mem_of_getElem? (i := 12) rfl)), by decide⟩ (allLS ⟨Or.inl (hw _ (List.mem_of_getElem? (i := 14) rfl)), by decide⟩ (allLS ⟨Or.inl (hw _ (List.mem_of_getElem? (i := 21) rfl)), by decide⟩ (allLS ⟨Or.inl (hw _ (List.mem_of_getElem? (i := 23) rfl)), by decide⟩ (allLS ⟨Or.inl (hw _ (List.mem_of_getElem? (i := 25) rfl)), by decide⟩ (allLS ⟨Or.inl (hw _ (List.mem_of_getElem? (i := 32) rfl)), by decide⟩ (allL0))))))), by decide⟩
  | (k + 1), h => simp [K] at h
def m0 : MI := (x, code, 33, some .boolean, 2, 27)
def m1 : MI := (⟨"com/example/tendril/tendril/storage/CheckpointPolicy", "<init>", "(J)V"⟩, prog_137_method_1_code, 3, none, 1, 12)
def m3 : MI := (⟨"com/example/tendril/tendril/storage/CheckpointPolicy", "opened", "(JJJ)V"⟩, prog_137_method_3_code, 7, none, 0, 0)
def m4 : MI := (⟨"com/example/tendril/tendril/storage/CheckpointPolicy", "replayed", "(I)V"⟩, prog_137_method_2_code, 2, none, 0, 0)
def m5 : MI := (⟨"com/example/tendril/tendril/storage/CheckpointPolicy", "isDue", "(J)Z"⟩, prog_137_method_8_code, 5, some .boolean, 0, 0)
def m6 : MI := (⟨"com/example/tendril/tendril/storage/CheckpointPolicy", "failed", "(J)V"⟩, prog_137_method_7_code, 3, none, 0, 0)
theorem pd0 : parseMethodDescriptor "(JJJJJJ)Z" = some ⟨[.long, .long, .long, .long, .long, .long], some .boolean⟩ := by decide +kernel
theorem pf0 : plainFor m0.1 = true := by first | exact plainFor_of_name (by first | (simp [m0, x, plainName, overriddenIn]; done) | decide +kernel) | decide +kernel
theorem pd1 : parseMethodDescriptor "(J)V" = some ⟨[.long], none⟩ := by decide +kernel
theorem pf1 : plainFor m1.1 = true := by first | exact plainFor_of_name (by first | (simp [m1, x, plainName, overriddenIn]; done) | decide +kernel) | decide +kernel
theorem pd3 : parseMethodDescriptor "(JJJ)V" = some ⟨[.long, .long, .long], none⟩ := by decide +kernel
theorem pf3 : plainFor m3.1 = true := by first | exact plainFor_of_name (by first | (simp [m3, x, plainName, overriddenIn]; done) | decide +kernel) | decide +kernel
theorem pd4 : parseMethodDescriptor "(I)V" = some ⟨[.int], none⟩ := by decide +kernel
theorem pf4 : plainFor m4.1 = true := by first | exact plainFor_of_name (by first | (simp [m4, x, plainName, overriddenIn]; done) | decide +kernel) | decide +kernel
theorem pd5 : parseMethodDescriptor "(J)Z" = some ⟨[.long], some .boolean⟩ := by decide +kernel
theorem pf5 : plainFor m5.1 = true := by first | exact plainFor_of_name (by first | (simp [m5, x, plainName, overriddenIn]; done) | decide +kernel) | decide +kernel
theorem pd6 : parseMethodDescriptor "(J)V" = some ⟨[.long], none⟩ := by decide +kernel
theorem pf6 : plainFor m6.1 = true := by first | exact plainFor_of_name (by first | (simp [m6, x, plainName, overriddenIn]; done) | decide +kernel) | decide +kernel
theorem i0_0 : decode m0.2.1 0 = .ok (.ldc2_w 7, 3) ∧ 0 + 3 = 3 := ⟨by decide +kernel, rfl⟩
theorem i0_3 : decode m0.2.1 3 = .ok (.lstore 12, 2) ∧ 3 + 2 = 5 := ⟨by decide +kernel, rfl⟩
theorem i0_5 : decode m0.2.1 5 = .ok (.lload_n 0, 1) ∧ 5 + 1 = 6 := ⟨by decide +kernel, rfl⟩
theorem i0_6 : decode m0.2.1 6 = .ok (.lload 12, 2) ∧ 6 + 2 = 8 := ⟨by decide +kernel, rfl⟩
theorem i0_8 : decode m0.2.1 8 = .ok (.land, 1) ∧ 8 + 1 = 9 := ⟨by decide +kernel, rfl⟩
theorem i0_9 : decode m0.2.1 9 = .ok (.lstore 14, 2) ∧ 9 + 2 = 11 := ⟨by decide +kernel, rfl⟩
theorem i0_11 : decode m0.2.1 11 = .ok (.lload_n 2, 1) ∧ 11 + 1 = 12 := ⟨by decide +kernel, rfl⟩
theorem i0_12 : decode m0.2.1 12 = .ok (.lload 12, 2) ∧ 12 + 2 = 14 := ⟨by decide +kernel, rfl⟩
theorem i0_14 : decode m0.2.1 14 = .ok (.land, 1) ∧ 14 + 1 = 15 := ⟨by decide +kernel, rfl⟩
theorem i0_15 : decode m0.2.1 15 = .ok (.lstore 16, 2) ∧ 15 + 2 = 17 := ⟨by decide +kernel, rfl⟩
theorem i0_17 : decode m0.2.1 17 = .ok (.lload 4, 2) ∧ 17 + 2 = 19 := ⟨by decide +kernel, rfl⟩
theorem i0_19 : decode m0.2.1 19 = .ok (.lload 12, 2) ∧ 19 + 2 = 21 := ⟨by decide +kernel, rfl⟩
theorem i0_21 : decode m0.2.1 21 = .ok (.land, 1) ∧ 21 + 1 = 22 := ⟨by decide +kernel, rfl⟩
theorem i0_22 : decode m0.2.1 22 = .ok (.lstore 18, 2) ∧ 22 + 2 = 24 := ⟨by decide +kernel, rfl⟩
theorem i0_24 : decode m0.2.1 24 = .ok (.lload 6, 2) ∧ 24 + 2 = 26 := ⟨by decide +kernel, rfl⟩
theorem i0_26 : decode m0.2.1 26 = .ok (.lload 12, 2) ∧ 26 + 2 = 28 := ⟨by decide +kernel, rfl⟩
theorem i0_28 : decode m0.2.1 28 = .ok (.land, 1) ∧ 28 + 1 = 29 := ⟨by decide +kernel, rfl⟩
theorem i0_29 : decode m0.2.1 29 = .ok (.lstore 20, 2) ∧ 29 + 2 = 31 := ⟨by decide +kernel, rfl⟩
theorem i0_31 : decode m0.2.1 31 = .ok (.lload 8, 2) ∧ 31 + 2 = 33 := ⟨by decide +kernel, rfl⟩
theorem i0_33 : decode m0.2.1 33 = .ok (.lload 12, 2) ∧ 33 + 2 = 35 := ⟨by decide +kernel, rfl⟩
theorem i0_35 : decode m0.2.1 35 = .ok (.land, 1) ∧ 35 + 1 = 36 := ⟨by decide +kernel, rfl⟩
theorem i0_36 : decode m0.2.1 36 = .ok (.lstore 22, 2) ∧ 36 + 2 = 38 := ⟨by decide +kernel, rfl⟩
theorem i0_38 : decode m0.2.1 38 = .ok (.lload 10, 2) ∧ 38 + 2 = 40 := ⟨by decide +kernel, rfl⟩
theorem i0_40 : decode m0.2.1 40 = .ok (.ldc2_w 9, 3) ∧ 40 + 3 = 43 := ⟨by decide +kernel, rfl⟩
theorem i0_43 : decode m0.2.1 43 = .ok (.land, 1) ∧ 43 + 1 = 44 := ⟨by decide +kernel, rfl⟩
theorem i0_44 : decode m0.2.1 44 = .ok (.l2i, 1) ∧ 44 + 1 = 45 := ⟨by decide +kernel, rfl⟩
theorem i0_45 : decode m0.2.1 45 = .ok (.istore 24, 2) ∧ 45 + 2 = 47 := ⟨by decide +kernel, rfl⟩
theorem i0_47 : decode m0.2.1 47 = .ok (.lload 10, 2) ∧ 47 + 2 = 49 := ⟨by decide +kernel, rfl⟩
theorem i0_49 : decode m0.2.1 49 = .ok (.bipush 31, 2) ∧ 49 + 2 = 51 ∧ (Int8.ofInt 31).toInt32 = 31 := ⟨by decide +kernel, rfl, by decide⟩
theorem i0_51 : decode m0.2.1 51 = .ok (.lushr, 1) ∧ 51 + 1 = 52 := ⟨by decide +kernel, rfl⟩
theorem i0_52 : decode m0.2.1 52 = .ok (.lconst 1, 1) ∧ 52 + 1 = 53 ∧ Int64.ofNat ((1 : Fin 2) : Nat) = 1 := ⟨by decide +kernel, rfl, by decide⟩
theorem i0_53 : decode m0.2.1 53 = .ok (.land, 1) ∧ 53 + 1 = 54 := ⟨by decide +kernel, rfl⟩
theorem i0_54 : decode m0.2.1 54 = .ok (.lconst 0, 1) ∧ 54 + 1 = 55 ∧ Int64.ofNat ((0 : Fin 2) : Nat) = 0 := ⟨by decide +kernel, rfl, by decide⟩
theorem i0_55 : decode m0.2.1 55 = .ok (.lcmp, 1) ∧ 55 + 1 = 56 := ⟨by decide +kernel, rfl⟩
theorem i0_56 : decode m0.2.1 56 = .ok (.ifCond .eq 7, 3) ∧ 56 + 3 = 59 ∧ 0 ≤ ((56 : Nat) : Int) + 7 ∧ (((56 : Nat) : Int) + 7).toNat = 63 := ⟨by decide +kernel, rfl, by decide, by decide⟩
theorem i0_59 : decode m0.2.1 59 = .ok (.iconst 1, 1) ∧ 59 + 1 = 60 ∧ Int32.ofInt 1 = 1 := ⟨by decide +kernel, rfl, by decide⟩
theorem i0_60 : decode m0.2.1 60 = .ok (.goto 4, 3) ∧ 60 + 3 = 63 ∧ 0 ≤ ((60 : Nat) : Int) + 4 ∧ (((60 : Nat) : Int) + 4).toNat = 64 := ⟨by decide +kernel, rfl, by decide, by decide⟩
theorem i0_63 : decode m0.2.1 63 = .ok (.iconst 0, 1) ∧ 63 + 1 = 64 ∧ Int32.ofInt 0 = 0 := ⟨by decide +kernel, rfl, by decide⟩
theorem i0_64 : decode m0.2.1 64 = .ok (.istore 25, 2) ∧ 64 + 2 = 66 := ⟨by decide +kernel, rfl⟩
theorem i0_66 : decode m0.2.1 66 = .ok (.lload 10, 2) ∧ 66 + 2 = 68 := ⟨by decide +kernel, rfl⟩
theorem i0_68 : decode m0.2.1 68 = .ok (.bipush 32, 2) ∧ 68 + 2 = 70 ∧ (Int8.ofInt 32).toInt32 = 32 := ⟨by decide +kernel, rfl, by decide⟩
theorem i0_70 : decode m0.2.1 70 = .ok (.lushr, 1) ∧ 70 + 1 = 71 := ⟨by decide +kernel, rfl⟩
theorem i0_71 : decode m0.2.1 71 = .ok (.lstore 26, 2) ∧ 71 + 2 = 73 := ⟨by decide +kernel, rfl⟩
theorem i0_73 : decode m0.2.1 73 = .ok (.new 11, 3) ∧ 73 + 3 = 76 := ⟨by decide +kernel, rfl⟩
theorem i0_76 : decode m0.2.1 76 = .ok (.dup, 1) ∧ 76 + 1 = 77 := ⟨by decide +kernel, rfl⟩
theorem i0_77 : decode m0.2.1 77 = .ok (.lload 14, 2) ∧ 77 + 2 = 79 := ⟨by decide +kernel, rfl⟩
theorem i0_79 : decode m0.2.1 79 = .ok (.invokespecial 13, 3) ∧ 79 + 3 = 82 := ⟨by decide +kernel, rfl⟩
theorem i0_82 : decode m0.2.1 82 = .ok (.astore 28, 2) ∧ 82 + 2 = 84 := ⟨by decide +kernel, rfl⟩
theorem i0_84 : decode m0.2.1 84 = .ok (.aload 28, 2) ∧ 84 + 2 = 86 := ⟨by decide +kernel, rfl⟩
theorem i0_86 : decode m0.2.1 86 = .ok (.lload 16, 2) ∧ 86 + 2 = 88 := ⟨by decide +kernel, rfl⟩
theorem i0_88 : decode m0.2.1 88 = .ok (.lload 18, 2) ∧ 88 + 2 = 90 := ⟨by decide +kernel, rfl⟩
theorem i0_90 : decode m0.2.1 90 = .ok (.lload 22, 2) ∧ 90 + 2 = 92 := ⟨by decide +kernel, rfl⟩
theorem i0_92 : decode m0.2.1 92 = .ok (.invokevirtual 16, 3) ∧ 92 + 3 = 95 := ⟨by decide +kernel, rfl⟩
theorem i0_95 : decode m0.2.1 95 = .ok (.aload 28, 2) ∧ 95 + 2 = 97 := ⟨by decide +kernel, rfl⟩
theorem i0_97 : decode m0.2.1 97 = .ok (.iload 24, 2) ∧ 97 + 2 = 99 := ⟨by decide +kernel, rfl⟩
theorem i0_99 : decode m0.2.1 99 = .ok (.invokevirtual 20, 3) ∧ 99 + 3 = 102 := ⟨by decide +kernel, rfl⟩
theorem i0_102 : decode m0.2.1 102 = .ok (.iload 25, 2) ∧ 102 + 2 = 104 := ⟨by decide +kernel, rfl⟩
theorem i0_104 : decode m0.2.1 104 = .ok (.ifCond .eq 10, 3) ∧ 104 + 3 = 107 ∧ 0 ≤ ((104 : Nat) : Int) + 10 ∧ (((104 : Nat) : Int) + 10).toNat = 114 := ⟨by decide +kernel, rfl, by decide, by decide⟩
theorem i0_107 : decode m0.2.1 107 = .ok (.aload 28, 2) ∧ 107 + 2 = 109 := ⟨by decide +kernel, rfl⟩
theorem i0_109 : decode m0.2.1 109 = .ok (.lload 26, 2) ∧ 109 + 2 = 111 := ⟨by decide +kernel, rfl⟩
theorem i0_111 : decode m0.2.1 111 = .ok (.invokevirtual 24, 3) ∧ 111 + 3 = 114 := ⟨by decide +kernel, rfl⟩
theorem i0_114 : decode m0.2.1 114 = .ok (.aload 28, 2) ∧ 114 + 2 = 116 := ⟨by decide +kernel, rfl⟩
theorem i0_116 : decode m0.2.1 116 = .ok (.lload 20, 2) ∧ 116 + 2 = 118 := ⟨by decide +kernel, rfl⟩
theorem i0_118 : decode m0.2.1 118 = .ok (.invokevirtual 27, 3) ∧ 118 + 3 = 121 := ⟨by decide +kernel, rfl⟩
theorem i0_121 : decode m0.2.1 121 = .ok (.istore 29, 2) ∧ 121 + 2 = 123 := ⟨by decide +kernel, rfl⟩
theorem i0_123 : decode m0.2.1 123 = .ok (.iload 25, 2) ∧ 123 + 2 = 125 := ⟨by decide +kernel, rfl⟩
theorem i0_125 : decode m0.2.1 125 = .ok (.ifCond .eq 24, 3) ∧ 125 + 3 = 128 ∧ 0 ≤ ((125 : Nat) : Int) + 24 ∧ (((125 : Nat) : Int) + 24).toNat = 149 := ⟨by decide +kernel, rfl, by decide, by decide⟩
theorem i0_128 : decode m0.2.1 128 = .ok (.lload 20, 2) ∧ 128 + 2 = 130 := ⟨by decide +kernel, rfl⟩
theorem i0_130 : decode m0.2.1 130 = .ok (.lload 26, 2) ∧ 130 + 2 = 132 := ⟨by decide +kernel, rfl⟩
theorem i0_132 : decode m0.2.1 132 = .ok (.lload 14, 2) ∧ 132 + 2 = 134 := ⟨by decide +kernel, rfl⟩
theorem i0_134 : decode m0.2.1 134 = .ok (.ladd, 1) ∧ 134 + 1 = 135 := ⟨by decide +kernel, rfl⟩
theorem i0_135 : decode m0.2.1 135 = .ok (.lcmp, 1) ∧ 135 + 1 = 136 := ⟨by decide +kernel, rfl⟩
theorem i0_136 : decode m0.2.1 136 = .ok (.ifCond .lt 7, 3) ∧ 136 + 3 = 139 ∧ 0 ≤ ((136 : Nat) : Int) + 7 ∧ (((136 : Nat) : Int) + 7).toNat = 143 := ⟨by decide +kernel, rfl, by decide, by decide⟩
theorem i0_139 : decode m0.2.1 139 = .ok (.iconst 1, 1) ∧ 139 + 1 = 140 ∧ Int32.ofInt 1 = 1 := ⟨by decide +kernel, rfl, by decide⟩
theorem i0_140 : decode m0.2.1 140 = .ok (.goto 4, 3) ∧ 140 + 3 = 143 ∧ 0 ≤ ((140 : Nat) : Int) + 4 ∧ (((140 : Nat) : Int) + 4).toNat = 144 := ⟨by decide +kernel, rfl, by decide, by decide⟩
theorem i0_143 : decode m0.2.1 143 = .ok (.iconst 0, 1) ∧ 143 + 1 = 144 ∧ Int32.ofInt 0 = 0 := ⟨by decide +kernel, rfl, by decide⟩
theorem i0_144 : decode m0.2.1 144 = .ok (.istore 30, 2) ∧ 144 + 2 = 146 := ⟨by decide +kernel, rfl⟩
theorem i0_146 : decode m0.2.1 146 = .ok (.goto 21, 3) ∧ 146 + 3 = 149 ∧ 0 ≤ ((146 : Nat) : Int) + 21 ∧ (((146 : Nat) : Int) + 21).toNat = 167 := ⟨by decide +kernel, rfl, by decide, by decide⟩
theorem i0_149 : decode m0.2.1 149 = .ok (.lload 18, 2) ∧ 149 + 2 = 151 := ⟨by decide +kernel, rfl⟩
theorem i0_151 : decode m0.2.1 151 = .ok (.lload 20, 2) ∧ 151 + 2 = 153 := ⟨by decide +kernel, rfl⟩
theorem i0_153 : decode m0.2.1 153 = .ok (.ladd, 1) ∧ 153 + 1 = 154 := ⟨by decide +kernel, rfl⟩
theorem i0_154 : decode m0.2.1 154 = .ok (.lload 14, 2) ∧ 154 + 2 = 156 := ⟨by decide +kernel, rfl⟩
theorem i0_156 : decode m0.2.1 156 = .ok (.lcmp, 1) ∧ 156 + 1 = 157 := ⟨by decide +kernel, rfl⟩
theorem i0_157 : decode m0.2.1 157 = .ok (.ifCond .lt 7, 3) ∧ 157 + 3 = 160 ∧ 0 ≤ ((157 : Nat) : Int) + 7 ∧ (((157 : Nat) : Int) + 7).toNat = 164 := ⟨by decide +kernel, rfl, by decide, by decide⟩
theorem i0_160 : decode m0.2.1 160 = .ok (.iconst 1, 1) ∧ 160 + 1 = 161 ∧ Int32.ofInt 1 = 1 := ⟨by decide +kernel, rfl, by decide⟩
theorem i0_161 : decode m0.2.1 161 = .ok (.goto 4, 3) ∧ 161 + 3 = 164 ∧ 0 ≤ ((161 : Nat) : Int) + 4 ∧ (((161 : Nat) : Int) + 4).toNat = 165 := ⟨by decide +kernel, rfl, by decide, by decide⟩
theorem i0_164 : decode m0.2.1 164 = .ok (.iconst 0, 1) ∧ 164 + 1 = 165 ∧ Int32.ofInt 0 = 0 := ⟨by decide +kernel, rfl, by decide⟩
theorem i0_165 : decode m0.2.1 165 = .ok (.istore 30, 2) ∧ 165 + 2 = 167 := ⟨by decide +kernel, rfl⟩
theorem i0_167 : decode m0.2.1 167 = .ok (.lload 20, 2) ∧ 167 + 2 = 169 := ⟨by decide +kernel, rfl⟩
theorem i0_169 : decode m0.2.1 169 = .ok (.lload 16, 2) ∧ 169 + 2 = 171 := ⟨by decide +kernel, rfl⟩
theorem i0_171 : decode m0.2.1 171 = .ok (.lload 18, 2) ∧ 171 + 2 = 173 := ⟨by decide +kernel, rfl⟩
theorem i0_173 : decode m0.2.1 173 = .ok (.lsub, 1) ∧ 173 + 1 = 174 := ⟨by decide +kernel, rfl⟩
theorem i0_174 : decode m0.2.1 174 = .ok (.lcmp, 1) ∧ 174 + 1 = 175 := ⟨by decide +kernel, rfl⟩
theorem i0_175 : decode m0.2.1 175 = .ok (.ifCond .le 7, 3) ∧ 175 + 3 = 178 ∧ 0 ≤ ((175 : Nat) : Int) + 7 ∧ (((175 : Nat) : Int) + 7).toNat = 182 := ⟨by decide +kernel, rfl, by decide, by decide⟩
theorem i0_178 : decode m0.2.1 178 = .ok (.iconst 1, 1) ∧ 178 + 1 = 179 ∧ Int32.ofInt 1 = 1 := ⟨by decide +kernel, rfl, by decide⟩
theorem i0_179 : decode m0.2.1 179 = .ok (.goto 4, 3) ∧ 179 + 3 = 182 ∧ 0 ≤ ((179 : Nat) : Int) + 4 ∧ (((179 : Nat) : Int) + 4).toNat = 183 := ⟨by decide +kernel, rfl, by decide, by decide⟩
theorem i0_182 : decode m0.2.1 182 = .ok (.iconst 0, 1) ∧ 182 + 1 = 183 ∧ Int32.ofInt 0 = 0 := ⟨by decide +kernel, rfl, by decide⟩
theorem i0_183 : decode m0.2.1 183 = .ok (.istore 31, 2) ∧ 183 + 2 = 185 := ⟨by decide +kernel, rfl⟩
theorem i0_185 : decode m0.2.1 185 = .ok (.iload 24, 2) ∧ 185 + 2 = 187 := ⟨by decide +kernel, rfl⟩
theorem i0_187 : decode m0.2.1 187 = .ok (.i2l, 1) ∧ 187 + 1 = 188 := ⟨by decide +kernel, rfl⟩
theorem i0_188 : decode m0.2.1 188 = .ok (.lload 22, 2) ∧ 188 + 2 = 190 := ⟨by decide +kernel, rfl⟩
theorem i0_190 : decode m0.2.1 190 = .ok (.lsub, 1) ∧ 190 + 1 = 191 := ⟨by decide +kernel, rfl⟩
theorem i0_191 : decode m0.2.1 191 = .ok (.lload 22, 2) ∧ 191 + 2 = 193 := ⟨by decide +kernel, rfl⟩
theorem i0_193 : decode m0.2.1 193 = .ok (.lcmp, 1) ∧ 193 + 1 = 194 := ⟨by decide +kernel, rfl⟩
theorem i0_194 : decode m0.2.1 194 = .ok (.ifCond .le 7, 3) ∧ 194 + 3 = 197 ∧ 0 ≤ ((194 : Nat) : Int) + 7 ∧ (((194 : Nat) : Int) + 7).toNat = 201 := ⟨by decide +kernel, rfl, by decide, by decide⟩
theorem i0_197 : decode m0.2.1 197 = .ok (.iconst 1, 1) ∧ 197 + 1 = 198 ∧ Int32.ofInt 1 = 1 := ⟨by decide +kernel, rfl, by decide⟩
theorem i0_198 : decode m0.2.1 198 = .ok (.goto 4, 3) ∧ 198 + 3 = 201 ∧ 0 ≤ ((198 : Nat) : Int) + 4 ∧ (((198 : Nat) : Int) + 4).toNat = 202 := ⟨by decide +kernel, rfl, by decide, by decide⟩
theorem i0_201 : decode m0.2.1 201 = .ok (.iconst 0, 1) ∧ 201 + 1 = 202 ∧ Int32.ofInt 0 = 0 := ⟨by decide +kernel, rfl, by decide⟩
theorem i0_202 : decode m0.2.1 202 = .ok (.istore 32, 2) ∧ 202 + 2 = 204 := ⟨by decide +kernel, rfl⟩
theorem i0_204 : decode m0.2.1 204 = .ok (.iload 29, 2) ∧ 204 + 2 = 206 := ⟨by decide +kernel, rfl⟩
theorem i0_206 : decode m0.2.1 206 = .ok (.iload 30, 2) ∧ 206 + 2 = 208 := ⟨by decide +kernel, rfl⟩
theorem i0_208 : decode m0.2.1 208 = .ok (.ifCond .eq 17, 3) ∧ 208 + 3 = 211 ∧ 0 ≤ ((208 : Nat) : Int) + 17 ∧ (((208 : Nat) : Int) + 17).toNat = 225 := ⟨by decide +kernel, rfl, by decide, by decide⟩
theorem i0_211 : decode m0.2.1 211 = .ok (.iload 31, 2) ∧ 211 + 2 = 213 := ⟨by decide +kernel, rfl⟩
theorem i0_213 : decode m0.2.1 213 = .ok (.ifCond .eq 12, 3) ∧ 213 + 3 = 216 ∧ 0 ≤ ((213 : Nat) : Int) + 12 ∧ (((213 : Nat) : Int) + 12).toNat = 225 := ⟨by decide +kernel, rfl, by decide, by decide⟩
theorem i0_216 : decode m0.2.1 216 = .ok (.iload 32, 2) ∧ 216 + 2 = 218 := ⟨by decide +kernel, rfl⟩
theorem i0_218 : decode m0.2.1 218 = .ok (.ifCond .eq 7, 3) ∧ 218 + 3 = 221 ∧ 0 ≤ ((218 : Nat) : Int) + 7 ∧ (((218 : Nat) : Int) + 7).toNat = 225 := ⟨by decide +kernel, rfl, by decide, by decide⟩
theorem i0_221 : decode m0.2.1 221 = .ok (.iconst 1, 1) ∧ 221 + 1 = 222 ∧ Int32.ofInt 1 = 1 := ⟨by decide +kernel, rfl, by decide⟩
theorem i0_222 : decode m0.2.1 222 = .ok (.goto 4, 3) ∧ 222 + 3 = 225 ∧ 0 ≤ ((222 : Nat) : Int) + 4 ∧ (((222 : Nat) : Int) + 4).toNat = 226 := ⟨by decide +kernel, rfl, by decide, by decide⟩
theorem i0_225 : decode m0.2.1 225 = .ok (.iconst 0, 1) ∧ 225 + 1 = 226 ∧ Int32.ofInt 0 = 0 := ⟨by decide +kernel, rfl, by decide⟩
theorem i0_226 : decode m0.2.1 226 = .ok (.if_icmp .ne 7, 3) ∧ 226 + 3 = 229 ∧ 0 ≤ ((226 : Nat) : Int) + 7 ∧ (((226 : Nat) : Int) + 7).toNat = 233 := ⟨by decide +kernel, rfl, by decide, by decide⟩
theorem i0_229 : decode m0.2.1 229 = .ok (.iconst 1, 1) ∧ 229 + 1 = 230 ∧ Int32.ofInt 1 = 1 := ⟨by decide +kernel, rfl, by decide⟩
theorem i0_230 : decode m0.2.1 230 = .ok (.goto 4, 3) ∧ 230 + 3 = 233 ∧ 0 ≤ ((230 : Nat) : Int) + 4 ∧ (((230 : Nat) : Int) + 4).toNat = 234 := ⟨by decide +kernel, rfl, by decide, by decide⟩
theorem i0_233 : decode m0.2.1 233 = .ok (.iconst 0, 1) ∧ 233 + 1 = 234 ∧ Int32.ofInt 0 = 0 := ⟨by decide +kernel, rfl, by decide⟩
theorem i0_234 : decode m0.2.1 234 = .ok (.ireturn, 1) := by decide +kernel
theorem i1_0 : decode m1.2.1 0 = .ok (.aload_n 0, 1) ∧ 0 + 1 = 1 := ⟨by decide +kernel, rfl⟩
theorem i1_1 : decode m1.2.1 1 = .ok (.invokespecial 1, 3) ∧ 1 + 3 = 4 := ⟨by decide +kernel, rfl⟩
theorem i1_4 : decode m1.2.1 4 = .ok (.aload_n 0, 1) ∧ 4 + 1 = 5 := ⟨by decide +kernel, rfl⟩
theorem i1_5 : decode m1.2.1 5 = .ok (.lload_n 1, 1) ∧ 5 + 1 = 6 := ⟨by decide +kernel, rfl⟩
theorem i1_6 : decode m1.2.1 6 = .ok (.putfield 7, 3) ∧ 6 + 3 = 9 := ⟨by decide +kernel, rfl⟩
theorem i1_9 : decode m1.2.1 9 = .ok (.aload_n 0, 1) ∧ 9 + 1 = 10 := ⟨by decide +kernel, rfl⟩
theorem i1_10 : decode m1.2.1 10 = .ok (.lload_n 1, 1) ∧ 10 + 1 = 11 := ⟨by decide +kernel, rfl⟩
theorem i1_11 : decode m1.2.1 11 = .ok (.putfield 13, 3) ∧ 11 + 3 = 14 := ⟨by decide +kernel, rfl⟩
theorem i1_14 : decode m1.2.1 14 = .ok (.return_, 1) := by decide +kernel
theorem i3_0 : decode m3.2.1 0 = .ok (.aload_n 0, 1) ∧ 0 + 1 = 1 := ⟨by decide +kernel, rfl⟩
theorem i3_1 : decode m3.2.1 1 = .ok (.lload_n 1, 1) ∧ 1 + 1 = 2 := ⟨by decide +kernel, rfl⟩
theorem i3_2 : decode m3.2.1 2 = .ok (.putfield 19, 3) ∧ 2 + 3 = 5 := ⟨by decide +kernel, rfl⟩
theorem i3_5 : decode m3.2.1 5 = .ok (.aload_n 0, 1) ∧ 5 + 1 = 6 := ⟨by decide +kernel, rfl⟩
theorem i3_6 : decode m3.2.1 6 = .ok (.lload_n 3, 1) ∧ 6 + 1 = 7 := ⟨by decide +kernel, rfl⟩
theorem i3_7 : decode m3.2.1 7 = .ok (.putfield 22, 3) ∧ 7 + 3 = 10 := ⟨by decide +kernel, rfl⟩
theorem i3_10 : decode m3.2.1 10 = .ok (.aload_n 0, 1) ∧ 10 + 1 = 11 := ⟨by decide +kernel, rfl⟩
theorem i3_11 : decode m3.2.1 11 = .ok (.lload 5, 2) ∧ 11 + 2 = 13 := ⟨by decide +kernel, rfl⟩
theorem i3_13 : decode m3.2.1 13 = .ok (.putfield 25, 3) ∧ 13 + 3 = 16 := ⟨by decide +kernel, rfl⟩
theorem i3_16 : decode m3.2.1 16 = .ok (.return_, 1) := by decide +kernel
theorem i4_0 : decode m4.2.1 0 = .ok (.aload_n 0, 1) ∧ 0 + 1 = 1 := ⟨by decide +kernel, rfl⟩
theorem i4_1 : decode m4.2.1 1 = .ok (.dup, 1) ∧ 1 + 1 = 2 := ⟨by decide +kernel, rfl⟩
theorem i4_2 : decode m4.2.1 2 = .ok (.getfield 16, 3) ∧ 2 + 3 = 5 := ⟨by decide +kernel, rfl⟩
theorem i4_5 : decode m4.2.1 5 = .ok (.iload_n 1, 1) ∧ 5 + 1 = 6 := ⟨by decide +kernel, rfl⟩
theorem i4_6 : decode m4.2.1 6 = .ok (.i2l, 1) ∧ 6 + 1 = 7 := ⟨by decide +kernel, rfl⟩
theorem i4_7 : decode m4.2.1 7 = .ok (.ladd, 1) ∧ 7 + 1 = 8 := ⟨by decide +kernel, rfl⟩
theorem i4_8 : decode m4.2.1 8 = .ok (.putfield 16, 3) ∧ 8 + 3 = 11 := ⟨by decide +kernel, rfl⟩
theorem i4_11 : decode m4.2.1 11 = .ok (.return_, 1) := by decide +kernel
theorem i5_0 : decode m5.2.1 0 = .ok (.aload_n 0, 1) ∧ 0 + 1 = 1 := ⟨by decide +kernel, rfl⟩
theorem i5_1 : decode m5.2.1 1 = .ok (.getfield 22, 3) ∧ 1 + 3 = 4 := ⟨by decide +kernel, rfl⟩
theorem i5_4 : decode m5.2.1 4 = .ok (.lload_n 1, 1) ∧ 4 + 1 = 5 := ⟨by decide +kernel, rfl⟩
theorem i5_5 : decode m5.2.1 5 = .ok (.ladd, 1) ∧ 5 + 1 = 6 := ⟨by decide +kernel, rfl⟩
theorem i5_6 : decode m5.2.1 6 = .ok (.lstore_n 3, 1) ∧ 6 + 1 = 7 := ⟨by decide +kernel, rfl⟩
theorem i5_7 : decode m5.2.1 7 = .ok (.lload_n 3, 1) ∧ 7 + 1 = 8 := ⟨by decide +kernel, rfl⟩
theorem i5_8 : decode m5.2.1 8 = .ok (.aload_n 0, 1) ∧ 8 + 1 = 9 := ⟨by decide +kernel, rfl⟩
theorem i5_9 : decode m5.2.1 9 = .ok (.getfield 13, 3) ∧ 9 + 3 = 12 := ⟨by decide +kernel, rfl⟩
theorem i5_12 : decode m5.2.1 12 = .ok (.lcmp, 1) ∧ 12 + 1 = 13 := ⟨by decide +kernel, rfl⟩
theorem i5_13 : decode m5.2.1 13 = .ok (.ifCond .lt 32, 3) ∧ 13 + 3 = 16 ∧ 0 ≤ ((13 : Nat) : Int) + 32 ∧ (((13 : Nat) : Int) + 32).toNat = 45 := ⟨by decide +kernel, rfl, by decide, by decide⟩
theorem i5_16 : decode m5.2.1 16 = .ok (.lload_n 3, 1) ∧ 16 + 1 = 17 := ⟨by decide +kernel, rfl⟩
theorem i5_17 : decode m5.2.1 17 = .ok (.aload_n 0, 1) ∧ 17 + 1 = 18 := ⟨by decide +kernel, rfl⟩
theorem i5_18 : decode m5.2.1 18 = .ok (.getfield 19, 3) ∧ 18 + 3 = 21 := ⟨by decide +kernel, rfl⟩
theorem i5_21 : decode m5.2.1 21 = .ok (.lcmp, 1) ∧ 21 + 1 = 22 := ⟨by decide +kernel, rfl⟩
theorem i5_22 : decode m5.2.1 22 = .ok (.ifCond .le 23, 3) ∧ 22 + 3 = 25 ∧ 0 ≤ ((22 : Nat) : Int) + 23 ∧ (((22 : Nat) : Int) + 23).toNat = 45 := ⟨by decide +kernel, rfl, by decide, by decide⟩
theorem i5_25 : decode m5.2.1 25 = .ok (.aload_n 0, 1) ∧ 25 + 1 = 26 := ⟨by decide +kernel, rfl⟩
theorem i5_26 : decode m5.2.1 26 = .ok (.getfield 16, 3) ∧ 26 + 3 = 29 := ⟨by decide +kernel, rfl⟩
theorem i5_29 : decode m5.2.1 29 = .ok (.ldc2_w 52, 3) ∧ 29 + 3 = 32 := ⟨by decide +kernel, rfl⟩
theorem i5_32 : decode m5.2.1 32 = .ok (.aload_n 0, 1) ∧ 32 + 1 = 33 := ⟨by decide +kernel, rfl⟩
theorem i5_33 : decode m5.2.1 33 = .ok (.getfield 25, 3) ∧ 33 + 3 = 36 := ⟨by decide +kernel, rfl⟩
theorem i5_36 : decode m5.2.1 36 = .ok (.lmul, 1) ∧ 36 + 1 = 37 := ⟨by decide +kernel, rfl⟩
theorem i5_37 : decode m5.2.1 37 = .ok (.lcmp, 1) ∧ 37 + 1 = 38 := ⟨by decide +kernel, rfl⟩
theorem i5_38 : decode m5.2.1 38 = .ok (.ifCond .le 7, 3) ∧ 38 + 3 = 41 ∧ 0 ≤ ((38 : Nat) : Int) + 7 ∧ (((38 : Nat) : Int) + 7).toNat = 45 := ⟨by decide +kernel, rfl, by decide, by decide⟩
theorem i5_41 : decode m5.2.1 41 = .ok (.iconst 1, 1) ∧ 41 + 1 = 42 ∧ Int32.ofInt 1 = 1 := ⟨by decide +kernel, rfl, by decide⟩
theorem i5_42 : decode m5.2.1 42 = .ok (.goto 4, 3) ∧ 42 + 3 = 45 ∧ 0 ≤ ((42 : Nat) : Int) + 4 ∧ (((42 : Nat) : Int) + 4).toNat = 46 := ⟨by decide +kernel, rfl, by decide, by decide⟩
theorem i5_45 : decode m5.2.1 45 = .ok (.iconst 0, 1) ∧ 45 + 1 = 46 ∧ Int32.ofInt 0 = 0 := ⟨by decide +kernel, rfl, by decide⟩
theorem i5_46 : decode m5.2.1 46 = .ok (.ireturn, 1) := by decide +kernel
theorem i6_0 : decode m6.2.1 0 = .ok (.aload_n 0, 1) ∧ 0 + 1 = 1 := ⟨by decide +kernel, rfl⟩
theorem i6_1 : decode m6.2.1 1 = .ok (.aload_n 0, 1) ∧ 1 + 1 = 2 := ⟨by decide +kernel, rfl⟩
theorem i6_2 : decode m6.2.1 2 = .ok (.getfield 22, 3) ∧ 2 + 3 = 5 := ⟨by decide +kernel, rfl⟩
theorem i6_5 : decode m6.2.1 5 = .ok (.lload_n 1, 1) ∧ 5 + 1 = 6 := ⟨by decide +kernel, rfl⟩
theorem i6_6 : decode m6.2.1 6 = .ok (.ladd, 1) ∧ 6 + 1 = 7 := ⟨by decide +kernel, rfl⟩
theorem i6_7 : decode m6.2.1 7 = .ok (.aload_n 0, 1) ∧ 7 + 1 = 8 := ⟨by decide +kernel, rfl⟩
theorem i6_8 : decode m6.2.1 8 = .ok (.getfield 7, 3) ∧ 8 + 3 = 11 := ⟨by decide +kernel, rfl⟩
theorem i6_11 : decode m6.2.1 11 = .ok (.ladd, 1) ∧ 11 + 1 = 12 := ⟨by decide +kernel, rfl⟩
theorem i6_12 : decode m6.2.1 12 = .ok (.putfield 13, 3) ∧ 12 + 3 = 15 := ⟨by decide +kernel, rfl⟩
theorem i6_15 : decode m6.2.1 15 = .ok (.return_, 1) := by decide +kernel
theorem s0_0 {l : Launch} {Z : State} {a0 : Array Value} {n0 : Nat} {ls : List Slot} {st : List Value} {H H' : List Ob} {v : Option Value} (hw : HW Z a0) (kk : Runs K l Z n0 m0 3 ls (.long 1152921504606846975 :: st) H v H') : Runs K l Z n0 m0 0 ls st H v H' := r_ldc2 i0_0 (hw _ (List.mem_of_getElem? (i := 0) rfl)) kk
theorem s0_40 {l : Launch} {Z : State} {a0 : Array Value} {n0 : Nat} {ls : List Slot} {st : List Value} {H H' : List Ob} {v : Option Value} (hw : HW Z a0) (kk : Runs K l Z n0 m0 43 ls (.long 2147483647 :: st) H v H') : Runs K l Z n0 m0 40 ls st H v H' := r_ldc2 i0_40 (hw _ (List.mem_of_getElem? (i := 1) rfl)) kk
theorem s0_73 {l : Launch} {Z : State} {a0 : Array Value} {n0 : Nat} {ls : List Slot} {st : List Value} {H H' H1 : List Ob} {v : Option Value} (hw : HW Z a0) {a : Nat} (ha : H.length = a) (hH : H ++ [.inl (0, [.long 0, .long 0, .long 0, .long 0, .long 0, .long 0])] = H1) (kk : Runs K l Z n0 m0 76 ls (.ref a :: st) H1 v H') : Runs K l Z n0 m0 73 ls st H v H' := r_new (cid := 0) (kok hw) i0_73 (hw _ (List.mem_of_getElem? (i := 2) rfl)) (hw _ (List.mem_of_getElem? (i := 4) rfl)) rfl rfl ha hH kk
theorem s0_79 {l : Launch} {Z : State} {a0 : Array Value} {n0 : Nat} {ls : List Slot} {st : List Value} {H H' H1 : List Ob} {v : Option Value} (hw : HW Z a0) {a : Nat} {x0 : Value} (M : Meets K l Z n0 m1 [.ref a, x0] H none H1) (hls : ls.length = 33) (hlo : (st.map fun v => v.category).sum ≤ 1) (kk : Runs K l Z n0 m0 82 ls st H1 v H') : Runs K l Z n0 m0 79 ls (x0 :: .ref a :: st) H v H' := r_special (mj := m1) (as := [x0]) (rest := st) i0_79 rfl rfl (hw _ (List.mem_of_getElem? (i := 5) rfl)) (hw _ (List.mem_of_getElem? (i := 6) rfl)) (hw _ (List.mem_of_getElem? (i := 4) rfl)) (hw _ (List.mem_of_getElem? (i := 7) rfl)) (by decide) (lenOf pd1 rfl) (by decide) rfl hls (by show _ + (3 + 11) + 12 ≤ 27; omega) M kk
theorem s0_92 {l : Launch} {Z : State} {a0 : Array Value} {n0 : Nat} {ls : List Slot} {st : List Value} {H H' H1 : List Ob} {v : Option Value} (hw : HW Z a0) {a : Nat} {vs : List Value} {x0 x1 x2 : Value} (ho : H[a]? = some (.inl (0, vs))) (M : Meets K l Z n0 m3 [.ref a, x0, x1, x2] H none H1) (hls : ls.length = 33) (hlo : (st.map fun v => v.category).sum ≤ 9) (kk : Runs K l Z n0 m0 95 ls st H1 v H') : Runs K l Z n0 m0 92 ls (x2 :: x1 :: x0 :: .ref a :: st) H v H' := r_virtual (mj := m3) (cid := 0) (as := [x0, x1, x2]) (rest := st) i0_92 (hw _ (List.mem_of_getElem? (i := 15) rfl)) (hw _ (List.mem_of_getElem? (i := 16) rfl)) (hw _ (List.mem_of_getElem? (i := 18) rfl)) (hw _ (List.mem_of_getElem? (i := 17) rfl)) (hw _ (List.mem_of_getElem? (i := 4) rfl)) (hw _ (List.mem_of_getElem? (i := 19) rfl)) (by decide) (lenOf pd3 rfl) (by decide) rfl rfl ho hls (by show _ + (7 + 11) + 0 ≤ 27; omega) M kk
theorem s0_99 {l : Launch} {Z : State} {a0 : Array Value} {n0 : Nat} {ls : List Slot} {st : List Value} {H H' H1 : List Ob} {v : Option Value} (hw : HW Z a0) {a : Nat} {vs : List Value} {x0 : Value} (ho : H[a]? = some (.inl (0, vs))) (M : Meets K l Z n0 m4 [.ref a, x0] H none H1) (hls : ls.length = 33) (hlo : (st.map fun v => v.category).sum ≤ 14) (kk : Runs K l Z n0 m0 102 ls st H1 v H') : Runs K l Z n0 m0 99 ls (x0 :: .ref a :: st) H v H' := r_virtual (mj := m4) (cid := 0) (as := [x0]) (rest := st) i0_99 (hw _ (List.mem_of_getElem? (i := 26) rfl)) (hw _ (List.mem_of_getElem? (i := 27) rfl)) (hw _ (List.mem_of_getElem? (i := 29) rfl)) (hw _ (List.mem_of_getElem? (i := 28) rfl)) (hw _ (List.mem_of_getElem? (i := 4) rfl)) (hw _ (List.mem_of_getElem? (i := 30) rfl)) (by decide) (lenOf pd4 rfl) (by decide) rfl rfl ho hls (by show _ + (2 + 11) + 0 ≤ 27; omega) M kk
theorem s0_111 {l : Launch} {Z : State} {a0 : Array Value} {n0 : Nat} {ls : List Slot} {st : List Value} {H H' H1 : List Ob} {v : Option Value} (hw : HW Z a0) {a : Nat} {vs : List Value} {x0 : Value} (ho : H[a]? = some (.inl (0, vs))) (M : Meets K l Z n0 m6 [.ref a, x0] H none H1) (hls : ls.length = 33) (hlo : (st.map fun v => v.category).sum ≤ 13) (kk : Runs K l Z n0 m0 114 ls st H1 v H') : Runs K l Z n0 m0 111 ls (x0 :: .ref a :: st) H v H' := r_virtual (mj := m6) (cid := 0) (as := [x0]) (rest := st) i0_111 (hw _ (List.mem_of_getElem? (i := 39) rfl)) (hw _ (List.mem_of_getElem? (i := 40) rfl)) (hw _ (List.mem_of_getElem? (i := 42) rfl)) (hw _ (List.mem_of_getElem? (i := 41) rfl)) (hw _ (List.mem_of_getElem? (i := 4) rfl)) (hw _ (List.mem_of_getElem? (i := 43) rfl)) (by decide) (lenOf pd6 rfl) (by decide) rfl rfl ho hls (by show _ + (3 + 11) + 0 ≤ 27; omega) M kk
theorem s0_118 {l : Launch} {Z : State} {a0 : Array Value} {n0 : Nat} {ls : List Slot} {st : List Value} {H H' H1 : List Ob} {v : Option Value} (hw : HW Z a0) {a : Nat} {vs : List Value} {x0 : Value} {w : Value} (ho : H[a]? = some (.inl (0, vs))) (M : Meets K l Z n0 m5 [.ref a, x0] H (some w) H1) (hls : ls.length = 33) (hlo : (st.map fun v => v.category).sum ≤ 11) (kk : Runs K l Z n0 m0 121 ls (w :: st) H1 v H') : Runs K l Z n0 m0 118 ls (x0 :: .ref a :: st) H v H' := r_virtual (mj := m5) (cid := 0) (as := [x0]) (rest := st) i0_118 (hw _ (List.mem_of_getElem? (i := 33) rfl)) (hw _ (List.mem_of_getElem? (i := 34) rfl)) (hw _ (List.mem_of_getElem? (i := 36) rfl)) (hw _ (List.mem_of_getElem? (i := 35) rfl)) (hw _ (List.mem_of_getElem? (i := 4) rfl)) (hw _ (List.mem_of_getElem? (i := 37) rfl)) (by decide) (lenOf pd5 rfl) (by decide) rfl rfl ho hls (by show _ + (5 + 11) + 0 ≤ 27; omega) M kk
theorem s1_1 {l : Launch} {Z : State} {a0 : Array Value} {n0 : Nat} {ls : List Slot} {st : List Value} {H H' : List Ob} {v : Option Value} (hw : HW Z a0) {a : Nat} (hls : ls.length = 3) (hlo : (st.map fun v => v.category).sum ≤ 0) (kk : Runs K l Z n0 m1 4 ls st H v H') : Runs K l Z n0 m1 1 ls (.ref a :: st) H v H' := r_initO i1_1 (hw _ (List.mem_of_getElem? (i := 8) rfl)) (hw _ (List.mem_of_getElem? (i := 9) rfl)) (hw _ (List.mem_of_getElem? (i := 10) rfl)) hls (by decide) (Nat.add_le_add_right hlo 12) kk
theorem s1_6 {l : Launch} {Z : State} {a0 : Array Value} {n0 : Nat} {ls : List Slot} {st : List Value} {H H' H1 : List Ob} {v : Option Value} (hw : HW Z a0) {a : Nat} {f0 f1 f2 f3 f4 f5 x : Value} (ho : H[a]? = some (.inl (0, [f0, f1, f2, f3, f4, f5]))) (hn : narrow .long x = x) (hf : fits .long x = true) (hH : H.set a (.inl (0, [x, f1, f2, f3, f4, f5])) = H1) (kk : Runs K l Z n0 m1 9 ls st H1 v H') : Runs K l Z n0 m1 6 ls (x :: .ref a :: st) H v H' := r_putF (cid := 0) (i := 0) (kok hw) i1_6 (hw _ (List.mem_of_getElem? (i := 11) rfl)) Via.refl rfl rfl (Or.inr ⟨(hw _ (List.mem_of_getElem? (i := 12) rfl)), rfl, rfl⟩) ho (ltB rfl) hn hf rfl hH kk
theorem s1_11 {l : Launch} {Z : State} {a0 : Array Value} {n0 : Nat} {ls : List Slot} {st : List Value} {H H' H1 : List Ob} {v : Option Value} (hw : HW Z a0) {a : Nat} {f0 f1 f2 f3 f4 f5 x : Value} (ho : H[a]? = some (.inl (0, [f0, f1, f2, f3, f4, f5]))) (hn : narrow .long x = x) (hf : fits .long x = true) (hH : H.set a (.inl (0, [f0, x, f2, f3, f4, f5])) = H1) (kk : Runs K l Z n0 m1 14 ls st H1 v H') : Runs K l Z n0 m1 11 ls (x :: .ref a :: st) H v H' := r_putF (cid := 0) (i := 1) (kok hw) i1_11 (hw _ (List.mem_of_getElem? (i := 13) rfl)) Via.refl rfl rfl (Or.inl (hw _ (List.mem_of_getElem? (i := 14) rfl))) ho (ltB rfl) hn hf rfl hH kk
theorem s3_2 {l : Launch} {Z : State} {a0 : Array Value} {n0 : Nat} {ls : List Slot} {st : List Value} {H H' H1 : List Ob} {v : Option Value} (hw : HW Z a0) {a : Nat} {f0 f1 f2 f3 f4 f5 x : Value} (ho : H[a]? = some (.inl (0, [f0, f1, f2, f3, f4, f5]))) (hn : narrow .long x = x) (hf : fits .long x = true) (hH : H.set a (.inl (0, [f0, f1, x, f3, f4, f5])) = H1) (kk : Runs K l Z n0 m3 5 ls st H1 v H') : Runs K l Z n0 m3 2 ls (x :: .ref a :: st) H v H' := r_putF (cid := 0) (i := 2) (kok hw) i3_2 (hw _ (List.mem_of_getElem? (i := 20) rfl)) Via.refl rfl rfl (Or.inl (hw _ (List.mem_of_getElem? (i := 21) rfl))) ho (ltB rfl) hn hf rfl hH kk
theorem s3_7 {l : Launch} {Z : State} {a0 : Array Value} {n0 : Nat} {ls : List Slot} {st : List Value} {H H' H1 : List Ob} {v : Option Value} (hw : HW Z a0) {a : Nat} {f0 f1 f2 f3 f4 f5 x : Value} (ho : H[a]? = some (.inl (0, [f0, f1, f2, f3, f4, f5]))) (hn : narrow .long x = x) (hf : fits .long x = true) (hH : H.set a (.inl (0, [f0, f1, f2, x, f4, f5])) = H1) (kk : Runs K l Z n0 m3 10 ls st H1 v H') : Runs K l Z n0 m3 7 ls (x :: .ref a :: st) H v H' := r_putF (cid := 0) (i := 3) (kok hw) i3_7 (hw _ (List.mem_of_getElem? (i := 22) rfl)) Via.refl rfl rfl (Or.inl (hw _ (List.mem_of_getElem? (i := 23) rfl))) ho (ltB rfl) hn hf rfl hH kk
theorem s3_13 {l : Launch} {Z : State} {a0 : Array Value} {n0 : Nat} {ls : List Slot} {st : List Value} {H H' H1 : List Ob} {v : Option Value} (hw : HW Z a0) {a : Nat} {f0 f1 f2 f3 f4 f5 x : Value} (ho : H[a]? = some (.inl (0, [f0, f1, f2, f3, f4, f5]))) (hn : narrow .long x = x) (hf : fits .long x = true) (hH : H.set a (.inl (0, [f0, f1, f2, f3, x, f5])) = H1) (kk : Runs K l Z n0 m3 16 ls st H1 v H') : Runs K l Z n0 m3 13 ls (x :: .ref a :: st) H v H' := r_putF (cid := 0) (i := 4) (kok hw) i3_13 (hw _ (List.mem_of_getElem? (i := 24) rfl)) Via.refl rfl rfl (Or.inl (hw _ (List.mem_of_getElem? (i := 25) rfl))) ho (ltB rfl) hn hf rfl hH kk
theorem s4_2 {l : Launch} {Z : State} {a0 : Array Value} {n0 : Nat} {ls : List Slot} {st : List Value} {H H' : List Ob} {v : Option Value} (hw : HW Z a0) {a : Nat} {f0 f1 f2 f3 f4 f5 : Value} (ho : H[a]? = some (.inl (0, [f0, f1, f2, f3, f4, f5]))) (kk : Runs K l Z n0 m4 5 ls (f5 :: st) H v H') : Runs K l Z n0 m4 2 ls (.ref a :: st) H v H' := r_getF (cid := 0) (i := 5) i4_2 (hw _ (List.mem_of_getElem? (i := 31) rfl)) Via.refl rfl rfl ho rfl kk
theorem s4_8 {l : Launch} {Z : State} {a0 : Array Value} {n0 : Nat} {ls : List Slot} {st : List Value} {H H' H1 : List Ob} {v : Option Value} (hw : HW Z a0) {a : Nat} {f0 f1 f2 f3 f4 f5 x : Value} (ho : H[a]? = some (.inl (0, [f0, f1, f2, f3, f4, f5]))) (hn : narrow .long x = x) (hf : fits .long x = true) (hH : H.set a (.inl (0, [f0, f1, f2, f3, f4, x])) = H1) (kk : Runs K l Z n0 m4 11 ls st H1 v H') : Runs K l Z n0 m4 8 ls (x :: .ref a :: st) H v H' := r_putF (cid := 0) (i := 5) (kok hw) i4_8 (hw _ (List.mem_of_getElem? (i := 31) rfl)) Via.refl rfl rfl (Or.inl (hw _ (List.mem_of_getElem? (i := 32) rfl))) ho (ltB rfl) hn hf rfl hH kk
theorem s5_1 {l : Launch} {Z : State} {a0 : Array Value} {n0 : Nat} {ls : List Slot} {st : List Value} {H H' : List Ob} {v : Option Value} (hw : HW Z a0) {a : Nat} {f0 f1 f2 f3 f4 f5 : Value} (ho : H[a]? = some (.inl (0, [f0, f1, f2, f3, f4, f5]))) (kk : Runs K l Z n0 m5 4 ls (f3 :: st) H v H') : Runs K l Z n0 m5 1 ls (.ref a :: st) H v H' := r_getF (cid := 0) (i := 3) i5_1 (hw _ (List.mem_of_getElem? (i := 22) rfl)) Via.refl rfl rfl ho rfl kk
theorem s5_9 {l : Launch} {Z : State} {a0 : Array Value} {n0 : Nat} {ls : List Slot} {st : List Value} {H H' : List Ob} {v : Option Value} (hw : HW Z a0) {a : Nat} {f0 f1 f2 f3 f4 f5 : Value} (ho : H[a]? = some (.inl (0, [f0, f1, f2, f3, f4, f5]))) (kk : Runs K l Z n0 m5 12 ls (f1 :: st) H v H') : Runs K l Z n0 m5 9 ls (.ref a :: st) H v H' := r_getF (cid := 0) (i := 1) i5_9 (hw _ (List.mem_of_getElem? (i := 13) rfl)) Via.refl rfl rfl ho rfl kk
theorem s5_18 {l : Launch} {Z : State} {a0 : Array Value} {n0 : Nat} {ls : List Slot} {st : List Value} {H H' : List Ob} {v : Option Value} (hw : HW Z a0) {a : Nat} {f0 f1 f2 f3 f4 f5 : Value} (ho : H[a]? = some (.inl (0, [f0, f1, f2, f3, f4, f5]))) (kk : Runs K l Z n0 m5 21 ls (f2 :: st) H v H') : Runs K l Z n0 m5 18 ls (.ref a :: st) H v H' := r_getF (cid := 0) (i := 2) i5_18 (hw _ (List.mem_of_getElem? (i := 20) rfl)) Via.refl rfl rfl ho rfl kk
theorem s5_26 {l : Launch} {Z : State} {a0 : Array Value} {n0 : Nat} {ls : List Slot} {st : List Value} {H H' : List Ob} {v : Option Value} (hw : HW Z a0) {a : Nat} {f0 f1 f2 f3 f4 f5 : Value} (ho : H[a]? = some (.inl (0, [f0, f1, f2, f3, f4, f5]))) (kk : Runs K l Z n0 m5 29 ls (f5 :: st) H v H') : Runs K l Z n0 m5 26 ls (.ref a :: st) H v H' := r_getF (cid := 0) (i := 5) i5_26 (hw _ (List.mem_of_getElem? (i := 31) rfl)) Via.refl rfl rfl ho rfl kk
theorem s5_29 {l : Launch} {Z : State} {a0 : Array Value} {n0 : Nat} {ls : List Slot} {st : List Value} {H H' : List Ob} {v : Option Value} (hw : HW Z a0) (kk : Runs K l Z n0 m5 32 ls (.long 2 :: st) H v H') : Runs K l Z n0 m5 29 ls st H v H' := r_ldc2 i5_29 (hw _ (List.mem_of_getElem? (i := 38) rfl)) kk
theorem s5_33 {l : Launch} {Z : State} {a0 : Array Value} {n0 : Nat} {ls : List Slot} {st : List Value} {H H' : List Ob} {v : Option Value} (hw : HW Z a0) {a : Nat} {f0 f1 f2 f3 f4 f5 : Value} (ho : H[a]? = some (.inl (0, [f0, f1, f2, f3, f4, f5]))) (kk : Runs K l Z n0 m5 36 ls (f4 :: st) H v H') : Runs K l Z n0 m5 33 ls (.ref a :: st) H v H' := r_getF (cid := 0) (i := 4) i5_33 (hw _ (List.mem_of_getElem? (i := 24) rfl)) Via.refl rfl rfl ho rfl kk
theorem s6_2 {l : Launch} {Z : State} {a0 : Array Value} {n0 : Nat} {ls : List Slot} {st : List Value} {H H' : List Ob} {v : Option Value} (hw : HW Z a0) {a : Nat} {f0 f1 f2 f3 f4 f5 : Value} (ho : H[a]? = some (.inl (0, [f0, f1, f2, f3, f4, f5]))) (kk : Runs K l Z n0 m6 5 ls (f3 :: st) H v H') : Runs K l Z n0 m6 2 ls (.ref a :: st) H v H' := r_getF (cid := 0) (i := 3) i6_2 (hw _ (List.mem_of_getElem? (i := 22) rfl)) Via.refl rfl rfl ho rfl kk
theorem s6_8 {l : Launch} {Z : State} {a0 : Array Value} {n0 : Nat} {ls : List Slot} {st : List Value} {H H' : List Ob} {v : Option Value} (hw : HW Z a0) {a : Nat} {f0 f1 f2 f3 f4 f5 : Value} (ho : H[a]? = some (.inl (0, [f0, f1, f2, f3, f4, f5]))) (kk : Runs K l Z n0 m6 11 ls (f0 :: st) H v H') : Runs K l Z n0 m6 8 ls (.ref a :: st) H v H' := r_getF (cid := 0) (i := 0) i6_8 (hw _ (List.mem_of_getElem? (i := 11) rfl)) Via.refl rfl rfl ho rfl kk
theorem s6_12 {l : Launch} {Z : State} {a0 : Array Value} {n0 : Nat} {ls : List Slot} {st : List Value} {H H' H1 : List Ob} {v : Option Value} (hw : HW Z a0) {a : Nat} {f0 f1 f2 f3 f4 f5 x : Value} (ho : H[a]? = some (.inl (0, [f0, f1, f2, f3, f4, f5]))) (hn : narrow .long x = x) (hf : fits .long x = true) (hH : H.set a (.inl (0, [f0, x, f2, f3, f4, f5])) = H1) (kk : Runs K l Z n0 m6 15 ls st H1 v H') : Runs K l Z n0 m6 12 ls (x :: .ref a :: st) H v H' := r_putF (cid := 0) (i := 1) (kok hw) i6_12 (hw _ (List.mem_of_getElem? (i := 13) rfl)) Via.refl rfl rfl (Or.inl (hw _ (List.mem_of_getElem? (i := 14) rfl))) ho (ltB rfl) hn hf rfl hH kk
theorem init_m {l : Launch} {Z : State} {a0 : Array Value} {n0 : Nat} (hw : HW Z a0) {f0 f1 f2 f3 f4 f5 : Int64} {x : Int64} : Meets K l Z n0 m1 [.ref 0, .long x] [.inl (0, [.long f0, .long f1, .long f2, .long f3, .long f4, .long f5])] none [.inl (0, [.long x, .long x, .long f2, .long f3, .long f4, .long f5])] := by
  refine meets (ls := [_, _, _]) pf1 rfl (fun _ => rfl) ?_
  refine r_aloadN i1_0 rfl rfl ?_
  refine s1_1 hw rfl (leB rfl) ?_
  refine r_aloadN i1_4 rfl rfl ?_
  refine r_lloadN i1_5 rfl ?_
  refine s1_6 hw (H1 := [_]) rfl rfl rfl rfl ?_
  refine r_aloadN i1_9 rfl rfl ?_
  refine r_lloadN i1_10 rfl ?_
  refine s1_11 hw (H1 := [_]) rfl rfl rfl rfl ?_
  exact r_return i1_14 rfl
theorem opened_m {l : Launch} {Z : State} {a0 : Array Value} {n0 : Nat} (hw : HW Z a0) {f0 f1 f2 f3 f4 f5 : Int64} {x y z : Int64} : Meets K l Z n0 m3 [.ref 0, .long x, .long y, .long z] [.inl (0, [.long f0, .long f1, .long f2, .long f3, .long f4, .long f5])] none [.inl (0, [.long f0, .long f1, .long x, .long y, .long z, .long f5])] := by
  refine meets (ls := [_, _, _, _, _, _, _]) pf3 rfl (fun _ => rfl) ?_
  refine r_aloadN i3_0 rfl rfl ?_
  refine r_lloadN i3_1 rfl ?_
  refine s3_2 hw (H1 := [_]) rfl rfl rfl rfl ?_
  refine r_aloadN i3_5 rfl rfl ?_
  refine r_lloadN i3_6 rfl ?_
  refine s3_7 hw (H1 := [_]) rfl rfl rfl rfl ?_
  refine r_aloadN i3_10 rfl rfl ?_
  refine r_lload i3_11 rfl ?_
  refine s3_13 hw (H1 := [_]) rfl rfl rfl rfl ?_
  exact r_return i3_16 rfl
theorem replayed_m {l : Launch} {Z : State} {a0 : Array Value} {n0 : Nat} (hw : HW Z a0) {f0 f1 f2 f3 f4 f5 : Int64} {x : Int32} : Meets K l Z n0 m4 [.ref 0, .int x] [.inl (0, [.long f0, .long f1, .long f2, .long f3, .long f4, .long f5])] none [.inl (0, [.long f0, .long f1, .long f2, .long f3, .long f4, .long (f5 + x.toInt64)])] := by
  refine meets (ls := [_, _]) pf4 rfl (fun _ => rfl) ?_
  refine r_aloadN i4_0 rfl rfl ?_
  refine r_dup i4_1 rfl ?_
  refine s4_2 hw rfl ?_
  refine r_iloadN i4_5 rfl ?_
  refine r_i2l i4_6 ?_
  refine r_ladd i4_7 ?_
  refine s4_8 hw (H1 := [_]) rfl rfl rfl rfl ?_
  exact r_return i4_11 rfl
theorem failed_m {l : Launch} {Z : State} {a0 : Array Value} {n0 : Nat} (hw : HW Z a0) {f0 f1 f2 f3 f4 f5 : Int64} {x : Int64} : Meets K l Z n0 m6 [.ref 0, .long x] [.inl (0, [.long f0, .long f1, .long f2, .long f3, .long f4, .long f5])] none [.inl (0, [.long f0, .long (f3 + x + f0), .long f2, .long f3, .long f4, .long f5])] := by
  refine meets (ls := [_, _, _]) pf6 rfl (fun _ => rfl) ?_
  refine r_aloadN i6_0 rfl rfl ?_
  refine r_aloadN i6_1 rfl rfl ?_
  refine s6_2 hw rfl ?_
  refine r_lloadN i6_5 rfl ?_
  refine r_ladd i6_6 ?_
  refine r_aloadN i6_7 rfl rfl ?_
  refine s6_8 hw rfl ?_
  refine r_ladd i6_11 ?_
  refine s6_12 hw (H1 := [_]) rfl rfl rfl rfl ?_
  exact r_return i6_15 rfl
theorem due_m {l : Launch} {Z : State} {a0 : Array Value} {n0 : Nat} (hw : HW Z a0) {f0 f1 f2 f3 f4 f5 x : Int64} : Meets K l Z n0 m5 [.ref 0, .long x] [.inl (0, [.long f0, .long f1, .long f2, .long f3, .long f4, .long f5])] (some (.int (if ¬ f3 + x < f1 ∧ f2 < f3 + x ∧ 2 * f4 < f5 then 1 else 0))) [.inl (0, [.long f0, .long f1, .long f2, .long f3, .long f4, .long f5])] := by
  refine meets (ls := [_, _, _, _, _]) pf5 rfl (fun h => nomatch h) ?_
  by_cases h1 : f3 + x < f1
  · rw [if_neg (fun q => q.1 h1)]
    refine r_aloadN i5_0 rfl rfl ?_
    refine s5_1 hw rfl ?_
    refine r_lloadN i5_4 rfl ?_
    refine r_ladd i5_5 ?_
    refine r_lstoreN (ls' := [_, _, _, _, _]) i5_6 rfl rfl ?_
    refine r_lloadN i5_7 rfl ?_
    refine r_aloadN i5_8 rfl rfl ?_
    refine s5_9 hw rfl ?_
    refine r_lcmp i5_12 ?_
    refine r_ifT i5_13 (XT.ll_lt_t h1) ?_
    refine r_iconst i5_45 ?_
    exact r_zreturn i5_46 rfl (by first | decide | simp)
  by_cases h2 : f2 < f3 + x
  rotate_left
  · rw [if_neg (fun q => h2 q.2.1)]
    refine r_aloadN i5_0 rfl rfl ?_
    refine s5_1 hw rfl ?_
    refine r_lloadN i5_4 rfl ?_
    refine r_ladd i5_5 ?_
    refine r_lstoreN (ls' := [_, _, _, _, _]) i5_6 rfl rfl ?_
    refine r_lloadN i5_7 rfl ?_
    refine r_aloadN i5_8 rfl rfl ?_
    refine s5_9 hw rfl ?_
    refine r_lcmp i5_12 ?_
    refine r_ifF i5_13 (XT.ll_lt_f h1) ?_
    refine r_lloadN i5_16 rfl ?_
    refine r_aloadN i5_17 rfl rfl ?_
    refine s5_18 hw rfl ?_
    refine r_lcmp i5_21 ?_
    refine r_ifT i5_22 (XT.ll_le_t h2) ?_
    refine r_iconst i5_45 ?_
    exact r_zreturn i5_46 rfl (by first | decide | simp)
  by_cases h3 : 2 * f4 < f5
  rotate_left
  · rw [if_neg (fun q => h3 q.2.2)]
    refine r_aloadN i5_0 rfl rfl ?_
    refine s5_1 hw rfl ?_
    refine r_lloadN i5_4 rfl ?_
    refine r_ladd i5_5 ?_
    refine r_lstoreN (ls' := [_, _, _, _, _]) i5_6 rfl rfl ?_
    refine r_lloadN i5_7 rfl ?_
    refine r_aloadN i5_8 rfl rfl ?_
    refine s5_9 hw rfl ?_
    refine r_lcmp i5_12 ?_
    refine r_ifF i5_13 (XT.ll_lt_f h1) ?_
    refine r_lloadN i5_16 rfl ?_
    refine r_aloadN i5_17 rfl rfl ?_
    refine s5_18 hw rfl ?_
    refine r_lcmp i5_21 ?_
    refine r_ifF i5_22 (XT.ll_le_f h2) ?_
    refine r_aloadN i5_25 rfl rfl ?_
    refine s5_26 hw rfl ?_
    refine s5_29 hw ?_
    refine r_aloadN i5_32 rfl rfl ?_
    refine s5_33 hw rfl ?_
    refine r_lmul i5_36 ?_
    refine r_lcmp i5_37 ?_
    refine r_ifT i5_38 (XT.ll_le_t h3) ?_
    refine r_iconst i5_45 ?_
    exact r_zreturn i5_46 rfl (by first | decide | simp)
  · rw [if_pos ⟨h1, h2, h3⟩]
    refine r_aloadN i5_0 rfl rfl ?_
    refine s5_1 hw rfl ?_
    refine r_lloadN i5_4 rfl ?_
    refine r_ladd i5_5 ?_
    refine r_lstoreN (ls' := [_, _, _, _, _]) i5_6 rfl rfl ?_
    refine r_lloadN i5_7 rfl ?_
    refine r_aloadN i5_8 rfl rfl ?_
    refine s5_9 hw rfl ?_
    refine r_lcmp i5_12 ?_
    refine r_ifF i5_13 (XT.ll_lt_f h1) ?_
    refine r_lloadN i5_16 rfl ?_
    refine r_aloadN i5_17 rfl rfl ?_
    refine s5_18 hw rfl ?_
    refine r_lcmp i5_21 ?_
    refine r_ifF i5_22 (XT.ll_le_f h2) ?_
    refine r_aloadN i5_25 rfl rfl ?_
    refine s5_26 hw rfl ?_
    refine s5_29 hw ?_
    refine r_aloadN i5_32 rfl rfl ?_
    refine s5_33 hw rfl ?_
    refine r_lmul i5_36 ?_
    refine r_lcmp i5_37 ?_
    refine r_ifF i5_38 (XT.ll_le_f h3) ?_
    refine r_iconst i5_41 ?_
    refine r_goto i5_42 ?_
    exact r_zreturn i5_46 rfl (by first | decide | simp)
theorem own_add {x y : Int64} (h : -2 ^ 63 ≤ x.toInt + y.toInt ∧ x.toInt + y.toInt < 2 ^ 63) : (x + y).toInt = x.toInt + y.toInt := XT.add64 h
theorem own_sub {x y : Int64} (h : -2 ^ 63 ≤ x.toInt - y.toInt ∧ x.toInt - y.toInt < 2 ^ 63) : (x - y).toInt = x.toInt - y.toInt := XT.sub64 h
theorem own_mul2 {x : Int64} (h : -2 ^ 63 ≤ 2 * x.toInt ∧ 2 * x.toInt < 2 ^ 63) : (2 * x).toInt = 2 * x.toInt := by
  have e : (2 : Int64).toInt = 2 := by decide
  have := XT.mul64 (x := 2) (y := x) (by rw [e]; exact h)
  rw [this, e]
theorem own_A1 {e j fj fl : Int64} (he : 0 ≤ e.toInt ∧ e.toInt < 2 ^ 60) (hj : 0 ≤ j.toInt ∧ j.toInt < 2 ^ 60) (hf : 0 ≤ fj.toInt ∧ fj.toInt < 2 ^ 32) (hl : 0 ≤ fl.toInt ∧ fl.toInt < 2 ^ 60) : e + j < e + fj + fl ↔ j < fj + fl := by
  rw [Int64.lt_iff_toInt_lt, Int64.lt_iff_toInt_lt]
  have a1 : (e + j).toInt = e.toInt + j.toInt := own_add (by omega)
  have a2 : (e + fj).toInt = e.toInt + fj.toInt := own_add (by omega)
  have a3 : (e + fj + fl).toInt = e.toInt + fj.toInt + fl.toInt := by rw [own_add (by omega), a2]
  have a4 : (fj + fl).toInt = fj.toInt + fl.toInt := own_add (by omega)
  omega
theorem own_B {e j c : Int64} (he : 0 ≤ e.toInt ∧ e.toInt < 2 ^ 60) (hj : 0 ≤ j.toInt ∧ j.toInt < 2 ^ 60) (hc : 0 ≤ c.toInt ∧ c.toInt < 2 ^ 60) : c < e + j ↔ c - e < j := by
  rw [Int64.lt_iff_toInt_lt, Int64.lt_iff_toInt_lt]
  have a1 : (e + j).toInt = e.toInt + j.toInt := own_add (by omega)
  have a2 : (c - e).toInt = c.toInt - e.toInt := own_sub (by omega)
  omega
theorem own_C {g : Int64} {r : Int32} (hg : 0 ≤ g.toInt ∧ g.toInt < 2 ^ 60) : 2 * g < 0 + r.toInt64 ↔ g < r.toInt64 - g := by
  rw [Int64.zero_add, Int64.lt_iff_toInt_lt, Int64.lt_iff_toInt_lt]
  have b1 := Int32.le_toInt r
  have b2 := Int32.toInt_lt r
  have a0 : r.toInt64.toInt = r.toInt := Int32.toInt_toInt64 r
  have a1 : (2 * g).toInt = 2 * g.toInt := own_mul2 (by omega)
  have a2 : (r.toInt64 - g).toInt = r.toInt64.toInt - g.toInt := own_sub (by omega)
  omega
theorem own_m (p : Int64) : 0 ≤ (p &&& 1152921504606846975).toInt ∧ (p &&& 1152921504606846975).toInt < 2 ^ 60 := by
  have h := c_maskL p 1152921504606846975 60 (by decide) (by decide)
  omega
theorem own_u (p : Int64) : 0 ≤ (XT.ushrL p 32).toInt ∧ (XT.ushrL p 32).toInt < 2 ^ 32 := by
  have h : (XT.ushrL p 32) = ((p.toUInt64 >>> ((32 : Int32) &&& 0x3f).toInt64.toUInt64).toInt64) := rfl
  have q := c_lushr p 32 32 (by decide) (by decide)
  rw [h, q]
  omega
set_option maxHeartbeats 4000000 in
theorem core1 {l : Launch} {Z : State} {a0 : Array Value} {n0 : Nat} (hw : HW Z a0) (p0 p1 p2 p3 p4 p5 q fl ck ea jo gr fj : Int64) (el : Int32) (hl : 0 ≤ fl.toInt ∧ fl.toInt < 2 ^ 60) (hc : 0 ≤ ck.toInt ∧ ck.toInt < 2 ^ 60) (he : 0 ≤ ea.toInt ∧ ea.toInt < 2 ^ 60) (hj : 0 ≤ jo.toInt ∧ jo.toInt < 2 ^ 60) (hg : 0 ≤ gr.toInt ∧ gr.toInt < 2 ^ 60) (hf : 0 ≤ fj.toInt ∧ fj.toInt < 2 ^ 32) : RunsB K l Z n0 m0 73 [.val (.long p0), .second, .val (.long p1), .second, .val (.long p2), .second, .val (.long p3), .second, .val (.long p4), .second, .val (.long p5), .second, .val (.long q), .second, .val (.long fl), .second, .val (.long ck), .second, .val (.long ea), .second, .val (.long jo), .second, .val (.long gr), .second, .val (.int el), .val (.int 1), .val (.long fj), .second, .unset, .unset, .unset, .unset, .unset] [] [] (some (.int 1)) 16 128 := by
  have qB := own_B he hj hc
  have qC := own_C (r := el) hg
  have qA := own_A1 he hj hf hl
  refine lift (fun _ kk => s0_73 hw (a := 0) (H1 := [_]) rfl rfl kk) ?_
  refine lift (fun _ kk => r_dup i0_76 rfl kk) ?_
  refine lift (fun _ kk => r_lload i0_77 rfl kk) ?_
  refine lift (fun _ kk => s0_79 hw (H1 := [_]) (init_m hw) rfl (leB rfl) kk) ?_
  refine lift (fun _ kk => r_astore (ls' := [_, _, _, _, _, _, _, _, _, _, _, _, _, _, _, _, _, _, _, _, _, _, _, _, _, _, _, _, _, _, _, _, _]) i0_82 rfl rfl rfl kk) ?_
  refine lift (fun _ kk => r_aload i0_84 rfl rfl kk) ?_
  refine lift (fun _ kk => r_lload i0_86 rfl kk) ?_
  refine lift (fun _ kk => r_lload i0_88 rfl kk) ?_
  refine lift (fun _ kk => r_lload i0_90 rfl kk) ?_
  refine lift (fun _ kk => s0_92 hw (H1 := [_]) rfl (opened_m hw) rfl (leB rfl) kk) ?_
  refine lift (fun _ kk => r_aload i0_95 rfl rfl kk) ?_
  refine lift (fun _ kk => r_iload i0_97 rfl kk) ?_
  refine lift (fun _ kk => s0_99 hw (H1 := [_]) rfl (replayed_m hw) rfl (leB rfl) kk) ?_
  refine lift (fun _ kk => r_iload i0_102 rfl kk) ?_
  refine lift (fun _ kk => r_ifF i0_104 (XT.i0_eq_f (by decide)) kk) ?_
  refine lift (fun _ kk => r_aload i0_107 rfl rfl kk) ?_
  refine lift (fun _ kk => r_lload i0_109 rfl kk) ?_
  refine lift (fun _ kk => s0_111 hw (H1 := [_]) rfl (failed_m hw) rfl (leB rfl) kk) ?_
  refine lift (fun _ kk => r_aload i0_114 rfl rfl kk) ?_
  refine lift (fun _ kk => r_lload i0_116 rfl kk) ?_
  refine lift (fun _ kk => s0_118 hw (H1 := [_]) rfl (due_m hw) rfl (leB rfl) kk) ?_
  refine lift (fun _ kk => r_istore (ls' := [_, _, _, _, _, _, _, _, _, _, _, _, _, _, _, _, _, _, _, _, _, _, _, _, _, _, _, _, _, _, _, _, _]) i0_121 rfl rfl kk) ?_
  refine lift (fun _ kk => r_iload i0_123 rfl kk) ?_
  refine lift (fun _ kk => r_ifF i0_125 (XT.i0_eq_f (by decide)) kk) ?_
  by_cases hA : jo < fj + fl
  rotate_left
  · by_cases hB : ck - ea < jo
    · by_cases hC : gr < el.toInt64 - gr
      · skip
        refine lift (fun _ kk => r_lload i0_128 rfl kk) ?_
        refine lift (fun _ kk => r_lload i0_130 rfl kk) ?_
        refine lift (fun _ kk => r_lload i0_132 rfl kk) ?_
        refine lift (fun _ kk => r_ladd i0_134 kk) ?_
        refine lift (fun _ kk => r_lcmp i0_135 kk) ?_
        refine lift (fun _ kk => r_ifF i0_136 (XT.ll_lt_f hA) kk) ?_
        refine lift (fun _ kk => r_iconst i0_139 kk) ?_
        refine lift (fun _ kk => r_goto i0_140 kk) ?_
        refine lift (fun _ kk => r_istore (ls' := [_, _, _, _, _, _, _, _, _, _, _, _, _, _, _, _, _, _, _, _, _, _, _, _, _, _, _, _, _, _, _, _, _]) i0_144 rfl rfl kk) ?_
        refine lift (fun _ kk => r_goto i0_146 kk) ?_
        refine lift (fun _ kk => r_lload i0_167 rfl kk) ?_
        refine lift (fun _ kk => r_lload i0_169 rfl kk) ?_
        refine lift (fun _ kk => r_lload i0_171 rfl kk) ?_
        refine lift (fun _ kk => r_lsub i0_173 kk) ?_
        refine lift (fun _ kk => r_lcmp i0_174 kk) ?_
        refine lift (fun _ kk => r_ifF i0_175 (XT.ll_le_f hB) kk) ?_
        refine lift (fun _ kk => r_iconst i0_178 kk) ?_
        refine lift (fun _ kk => r_goto i0_179 kk) ?_
        refine lift (fun _ kk => r_istore (ls' := [_, _, _, _, _, _, _, _, _, _, _, _, _, _, _, _, _, _, _, _, _, _, _, _, _, _, _, _, _, _, _, _, _]) i0_183 rfl rfl kk) ?_
        refine lift (fun _ kk => r_iload i0_185 rfl kk) ?_
        refine lift (fun _ kk => r_i2l i0_187 kk) ?_
        refine lift (fun _ kk => r_lload i0_188 rfl kk) ?_
        refine lift (fun _ kk => r_lsub i0_190 kk) ?_
        refine lift (fun _ kk => r_lload i0_191 rfl kk) ?_
        refine lift (fun _ kk => r_lcmp i0_193 kk) ?_
        refine lift (fun _ kk => r_ifF i0_194 (XT.ll_le_f hC) kk) ?_
        refine lift (fun _ kk => r_iconst i0_197 kk) ?_
        refine lift (fun _ kk => r_goto i0_198 kk) ?_
        refine lift (fun _ kk => r_istore (ls' := [_, _, _, _, _, _, _, _, _, _, _, _, _, _, _, _, _, _, _, _, _, _, _, _, _, _, _, _, _, _, _, _, _]) i0_202 rfl rfl kk) ?_
        refine lift (fun _ kk => r_iload i0_204 rfl kk) ?_
        refine lift (fun _ kk => r_iload i0_206 rfl kk) ?_
        refine lift (fun _ kk => r_ifF i0_208 (XT.i0_eq_f (by decide)) kk) ?_
        refine lift (fun _ kk => r_iload i0_211 rfl kk) ?_
        refine lift (fun _ kk => r_ifF i0_213 (XT.i0_eq_f (by decide)) kk) ?_
        refine lift (fun _ kk => r_iload i0_216 rfl kk) ?_
        refine lift (fun _ kk => r_ifF i0_218 (XT.i0_eq_f (by decide)) kk) ?_
        refine lift (fun _ kk => r_iconst i0_221 kk) ?_
        refine lift (fun _ kk => r_goto i0_222 kk) ?_
        refine lift (fun _ kk => r_icF i0_226 (XT.ii_ne_f (if_pos ⟨fun z => hA (qA.mp z), qB.mpr hB, qC.mpr hC⟩)) kk) ?_
        refine lift (fun _ kk => r_iconst i0_229 kk) ?_
        refine lift (fun _ kk => r_goto i0_230 kk) ?_
        exact ⟨_, r_zreturn i0_234 rfl (by first | decide | simp), leB rfl, leB rfl⟩
      · skip
        refine lift (fun _ kk => r_lload i0_128 rfl kk) ?_
        refine lift (fun _ kk => r_lload i0_130 rfl kk) ?_
        refine lift (fun _ kk => r_lload i0_132 rfl kk) ?_
        refine lift (fun _ kk => r_ladd i0_134 kk) ?_
        refine lift (fun _ kk => r_lcmp i0_135 kk) ?_
        refine lift (fun _ kk => r_ifF i0_136 (XT.ll_lt_f hA) kk) ?_
        refine lift (fun _ kk => r_iconst i0_139 kk) ?_
        refine lift (fun _ kk => r_goto i0_140 kk) ?_
        refine lift (fun _ kk => r_istore (ls' := [_, _, _, _, _, _, _, _, _, _, _, _, _, _, _, _, _, _, _, _, _, _, _, _, _, _, _, _, _, _, _, _, _]) i0_144 rfl rfl kk) ?_
        refine lift (fun _ kk => r_goto i0_146 kk) ?_
        refine lift (fun _ kk => r_lload i0_167 rfl kk) ?_
        refine lift (fun _ kk => r_lload i0_169 rfl kk) ?_
        refine lift (fun _ kk => r_lload i0_171 rfl kk) ?_
        refine lift (fun _ kk => r_lsub i0_173 kk) ?_
        refine lift (fun _ kk => r_lcmp i0_174 kk) ?_
        refine lift (fun _ kk => r_ifF i0_175 (XT.ll_le_f hB) kk) ?_
        refine lift (fun _ kk => r_iconst i0_178 kk) ?_
        refine lift (fun _ kk => r_goto i0_179 kk) ?_
        refine lift (fun _ kk => r_istore (ls' := [_, _, _, _, _, _, _, _, _, _, _, _, _, _, _, _, _, _, _, _, _, _, _, _, _, _, _, _, _, _, _, _, _]) i0_183 rfl rfl kk) ?_
        refine lift (fun _ kk => r_iload i0_185 rfl kk) ?_
        refine lift (fun _ kk => r_i2l i0_187 kk) ?_
        refine lift (fun _ kk => r_lload i0_188 rfl kk) ?_
        refine lift (fun _ kk => r_lsub i0_190 kk) ?_
        refine lift (fun _ kk => r_lload i0_191 rfl kk) ?_
        refine lift (fun _ kk => r_lcmp i0_193 kk) ?_
        refine lift (fun _ kk => r_ifT i0_194 (XT.ll_le_t hC) kk) ?_
        refine lift (fun _ kk => r_iconst i0_201 kk) ?_
        refine lift (fun _ kk => r_istore (ls' := [_, _, _, _, _, _, _, _, _, _, _, _, _, _, _, _, _, _, _, _, _, _, _, _, _, _, _, _, _, _, _, _, _]) i0_202 rfl rfl kk) ?_
        refine lift (fun _ kk => r_iload i0_204 rfl kk) ?_
        refine lift (fun _ kk => r_iload i0_206 rfl kk) ?_
        refine lift (fun _ kk => r_ifF i0_208 (XT.i0_eq_f (by decide)) kk) ?_
        refine lift (fun _ kk => r_iload i0_211 rfl kk) ?_
        refine lift (fun _ kk => r_ifF i0_213 (XT.i0_eq_f (by decide)) kk) ?_
        refine lift (fun _ kk => r_iload i0_216 rfl kk) ?_
        refine lift (fun _ kk => r_ifT i0_218 (XT.i0_eq_t rfl) kk) ?_
        refine lift (fun _ kk => r_iconst i0_225 kk) ?_
        refine lift (fun _ kk => r_icF i0_226 (XT.ii_ne_f (if_neg fun z => hC (qC.mp z.2.2))) kk) ?_
        refine lift (fun _ kk => r_iconst i0_229 kk) ?_
        refine lift (fun _ kk => r_goto i0_230 kk) ?_
        exact ⟨_, r_zreturn i0_234 rfl (by first | decide | simp), leB rfl, leB rfl⟩
    · by_cases hC : gr < el.toInt64 - gr
      · skip
        refine lift (fun _ kk => r_lload i0_128 rfl kk) ?_
        refine lift (fun _ kk => r_lload i0_130 rfl kk) ?_
        refine lift (fun _ kk => r_lload i0_132 rfl kk) ?_
        refine lift (fun _ kk => r_ladd i0_134 kk) ?_
        refine lift (fun _ kk => r_lcmp i0_135 kk) ?_
        refine lift (fun _ kk => r_ifF i0_136 (XT.ll_lt_f hA) kk) ?_
        refine lift (fun _ kk => r_iconst i0_139 kk) ?_
        refine lift (fun _ kk => r_goto i0_140 kk) ?_
        refine lift (fun _ kk => r_istore (ls' := [_, _, _, _, _, _, _, _, _, _, _, _, _, _, _, _, _, _, _, _, _, _, _, _, _, _, _, _, _, _, _, _, _]) i0_144 rfl rfl kk) ?_
        refine lift (fun _ kk => r_goto i0_146 kk) ?_
        refine lift (fun _ kk => r_lload i0_167 rfl kk) ?_
        refine lift (fun _ kk => r_lload i0_169 rfl kk) ?_
        refine lift (fun _ kk => r_lload i0_171 rfl kk) ?_
        refine lift (fun _ kk => r_lsub i0_173 kk) ?_
        refine lift (fun _ kk => r_lcmp i0_174 kk) ?_
        refine lift (fun _ kk => r_ifT i0_175 (XT.ll_le_t hB) kk) ?_
        refine lift (fun _ kk => r_iconst i0_182 kk) ?_
        refine lift (fun _ kk => r_istore (ls' := [_, _, _, _, _, _, _, _, _, _, _, _, _, _, _, _, _, _, _, _, _, _, _, _, _, _, _, _, _, _, _, _, _]) i0_183 rfl rfl kk) ?_
        refine lift (fun _ kk => r_iload i0_185 rfl kk) ?_
        refine lift (fun _ kk => r_i2l i0_187 kk) ?_
        refine lift (fun _ kk => r_lload i0_188 rfl kk) ?_
        refine lift (fun _ kk => r_lsub i0_190 kk) ?_
        refine lift (fun _ kk => r_lload i0_191 rfl kk) ?_
        refine lift (fun _ kk => r_lcmp i0_193 kk) ?_
        refine lift (fun _ kk => r_ifF i0_194 (XT.ll_le_f hC) kk) ?_
        refine lift (fun _ kk => r_iconst i0_197 kk) ?_
        refine lift (fun _ kk => r_goto i0_198 kk) ?_
        refine lift (fun _ kk => r_istore (ls' := [_, _, _, _, _, _, _, _, _, _, _, _, _, _, _, _, _, _, _, _, _, _, _, _, _, _, _, _, _, _, _, _, _]) i0_202 rfl rfl kk) ?_
        refine lift (fun _ kk => r_iload i0_204 rfl kk) ?_
        refine lift (fun _ kk => r_iload i0_206 rfl kk) ?_
        refine lift (fun _ kk => r_ifF i0_208 (XT.i0_eq_f (by decide)) kk) ?_
        refine lift (fun _ kk => r_iload i0_211 rfl kk) ?_
        refine lift (fun _ kk => r_ifT i0_213 (XT.i0_eq_t rfl) kk) ?_
        refine lift (fun _ kk => r_iconst i0_225 kk) ?_
        refine lift (fun _ kk => r_icF i0_226 (XT.ii_ne_f (if_neg fun z => hB (qB.mp z.2.1))) kk) ?_
        refine lift (fun _ kk => r_iconst i0_229 kk) ?_
        refine lift (fun _ kk => r_goto i0_230 kk) ?_
        exact ⟨_, r_zreturn i0_234 rfl (by first | decide | simp), leB rfl, leB rfl⟩
      · skip
        refine lift (fun _ kk => r_lload i0_128 rfl kk) ?_
        refine lift (fun _ kk => r_lload i0_130 rfl kk) ?_
        refine lift (fun _ kk => r_lload i0_132 rfl kk) ?_
        refine lift (fun _ kk => r_ladd i0_134 kk) ?_
        refine lift (fun _ kk => r_lcmp i0_135 kk) ?_
        refine lift (fun _ kk => r_ifF i0_136 (XT.ll_lt_f hA) kk) ?_
        refine lift (fun _ kk => r_iconst i0_139 kk) ?_
        refine lift (fun _ kk => r_goto i0_140 kk) ?_
        refine lift (fun _ kk => r_istore (ls' := [_, _, _, _, _, _, _, _, _, _, _, _, _, _, _, _, _, _, _, _, _, _, _, _, _, _, _, _, _, _, _, _, _]) i0_144 rfl rfl kk) ?_
        refine lift (fun _ kk => r_goto i0_146 kk) ?_
        refine lift (fun _ kk => r_lload i0_167 rfl kk) ?_
        refine lift (fun _ kk => r_lload i0_169 rfl kk) ?_
        refine lift (fun _ kk => r_lload i0_171 rfl kk) ?_
        refine lift (fun _ kk => r_lsub i0_173 kk) ?_
        refine lift (fun _ kk => r_lcmp i0_174 kk) ?_
        refine lift (fun _ kk => r_ifT i0_175 (XT.ll_le_t hB) kk) ?_
        refine lift (fun _ kk => r_iconst i0_182 kk) ?_
        refine lift (fun _ kk => r_istore (ls' := [_, _, _, _, _, _, _, _, _, _, _, _, _, _, _, _, _, _, _, _, _, _, _, _, _, _, _, _, _, _, _, _, _]) i0_183 rfl rfl kk) ?_
        refine lift (fun _ kk => r_iload i0_185 rfl kk) ?_
        refine lift (fun _ kk => r_i2l i0_187 kk) ?_
        refine lift (fun _ kk => r_lload i0_188 rfl kk) ?_
        refine lift (fun _ kk => r_lsub i0_190 kk) ?_
        refine lift (fun _ kk => r_lload i0_191 rfl kk) ?_
        refine lift (fun _ kk => r_lcmp i0_193 kk) ?_
        refine lift (fun _ kk => r_ifT i0_194 (XT.ll_le_t hC) kk) ?_
        refine lift (fun _ kk => r_iconst i0_201 kk) ?_
        refine lift (fun _ kk => r_istore (ls' := [_, _, _, _, _, _, _, _, _, _, _, _, _, _, _, _, _, _, _, _, _, _, _, _, _, _, _, _, _, _, _, _, _]) i0_202 rfl rfl kk) ?_
        refine lift (fun _ kk => r_iload i0_204 rfl kk) ?_
        refine lift (fun _ kk => r_iload i0_206 rfl kk) ?_
        refine lift (fun _ kk => r_ifF i0_208 (XT.i0_eq_f (by decide)) kk) ?_
        refine lift (fun _ kk => r_iload i0_211 rfl kk) ?_
        refine lift (fun _ kk => r_ifT i0_213 (XT.i0_eq_t rfl) kk) ?_
        refine lift (fun _ kk => r_iconst i0_225 kk) ?_
        refine lift (fun _ kk => r_icF i0_226 (XT.ii_ne_f (if_neg fun z => hB (qB.mp z.2.1))) kk) ?_
        refine lift (fun _ kk => r_iconst i0_229 kk) ?_
        refine lift (fun _ kk => r_goto i0_230 kk) ?_
        exact ⟨_, r_zreturn i0_234 rfl (by first | decide | simp), leB rfl, leB rfl⟩
  · by_cases hB : ck - ea < jo
    · by_cases hC : gr < el.toInt64 - gr
      · skip
        refine lift (fun _ kk => r_lload i0_128 rfl kk) ?_
        refine lift (fun _ kk => r_lload i0_130 rfl kk) ?_
        refine lift (fun _ kk => r_lload i0_132 rfl kk) ?_
        refine lift (fun _ kk => r_ladd i0_134 kk) ?_
        refine lift (fun _ kk => r_lcmp i0_135 kk) ?_
        refine lift (fun _ kk => r_ifT i0_136 (XT.ll_lt_t hA) kk) ?_
        refine lift (fun _ kk => r_iconst i0_143 kk) ?_
        refine lift (fun _ kk => r_istore (ls' := [_, _, _, _, _, _, _, _, _, _, _, _, _, _, _, _, _, _, _, _, _, _, _, _, _, _, _, _, _, _, _, _, _]) i0_144 rfl rfl kk) ?_
        refine lift (fun _ kk => r_goto i0_146 kk) ?_
        refine lift (fun _ kk => r_lload i0_167 rfl kk) ?_
        refine lift (fun _ kk => r_lload i0_169 rfl kk) ?_
        refine lift (fun _ kk => r_lload i0_171 rfl kk) ?_
        refine lift (fun _ kk => r_lsub i0_173 kk) ?_
        refine lift (fun _ kk => r_lcmp i0_174 kk) ?_
        refine lift (fun _ kk => r_ifF i0_175 (XT.ll_le_f hB) kk) ?_
        refine lift (fun _ kk => r_iconst i0_178 kk) ?_
        refine lift (fun _ kk => r_goto i0_179 kk) ?_
        refine lift (fun _ kk => r_istore (ls' := [_, _, _, _, _, _, _, _, _, _, _, _, _, _, _, _, _, _, _, _, _, _, _, _, _, _, _, _, _, _, _, _, _]) i0_183 rfl rfl kk) ?_
        refine lift (fun _ kk => r_iload i0_185 rfl kk) ?_
        refine lift (fun _ kk => r_i2l i0_187 kk) ?_
        refine lift (fun _ kk => r_lload i0_188 rfl kk) ?_
        refine lift (fun _ kk => r_lsub i0_190 kk) ?_
        refine lift (fun _ kk => r_lload i0_191 rfl kk) ?_
        refine lift (fun _ kk => r_lcmp i0_193 kk) ?_
        refine lift (fun _ kk => r_ifF i0_194 (XT.ll_le_f hC) kk) ?_
        refine lift (fun _ kk => r_iconst i0_197 kk) ?_
        refine lift (fun _ kk => r_goto i0_198 kk) ?_
        refine lift (fun _ kk => r_istore (ls' := [_, _, _, _, _, _, _, _, _, _, _, _, _, _, _, _, _, _, _, _, _, _, _, _, _, _, _, _, _, _, _, _, _]) i0_202 rfl rfl kk) ?_
        refine lift (fun _ kk => r_iload i0_204 rfl kk) ?_
        refine lift (fun _ kk => r_iload i0_206 rfl kk) ?_
        refine lift (fun _ kk => r_ifT i0_208 (XT.i0_eq_t rfl) kk) ?_
        refine lift (fun _ kk => r_iconst i0_225 kk) ?_
        refine lift (fun _ kk => r_icF i0_226 (XT.ii_ne_f (if_neg fun z => z.1 (qA.mpr hA))) kk) ?_
        refine lift (fun _ kk => r_iconst i0_229 kk) ?_
        refine lift (fun _ kk => r_goto i0_230 kk) ?_
        exact ⟨_, r_zreturn i0_234 rfl (by first | decide | simp), leB rfl, leB rfl⟩
      · skip
        refine lift (fun _ kk => r_lload i0_128 rfl kk) ?_
        refine lift (fun _ kk => r_lload i0_130 rfl kk) ?_
        refine lift (fun _ kk => r_lload i0_132 rfl kk) ?_
        refine lift (fun _ kk => r_ladd i0_134 kk) ?_
        refine lift (fun _ kk => r_lcmp i0_135 kk) ?_
        refine lift (fun _ kk => r_ifT i0_136 (XT.ll_lt_t hA) kk) ?_
        refine lift (fun _ kk => r_iconst i0_143 kk) ?_
        refine lift (fun _ kk => r_istore (ls' := [_, _, _, _, _, _, _, _, _, _, _, _, _, _, _, _, _, _, _, _, _, _, _, _, _, _, _, _, _, _, _, _, _]) i0_144 rfl rfl kk) ?_
        refine lift (fun _ kk => r_goto i0_146 kk) ?_
        refine lift (fun _ kk => r_lload i0_167 rfl kk) ?_
        refine lift (fun _ kk => r_lload i0_169 rfl kk) ?_
        refine lift (fun _ kk => r_lload i0_171 rfl kk) ?_
        refine lift (fun _ kk => r_lsub i0_173 kk) ?_
        refine lift (fun _ kk => r_lcmp i0_174 kk) ?_
        refine lift (fun _ kk => r_ifF i0_175 (XT.ll_le_f hB) kk) ?_
        refine lift (fun _ kk => r_iconst i0_178 kk) ?_
        refine lift (fun _ kk => r_goto i0_179 kk) ?_
        refine lift (fun _ kk => r_istore (ls' := [_, _, _, _, _, _, _, _, _, _, _, _, _, _, _, _, _, _, _, _, _, _, _, _, _, _, _, _, _, _, _, _, _]) i0_183 rfl rfl kk) ?_
        refine lift (fun _ kk => r_iload i0_185 rfl kk) ?_
        refine lift (fun _ kk => r_i2l i0_187 kk) ?_
        refine lift (fun _ kk => r_lload i0_188 rfl kk) ?_
        refine lift (fun _ kk => r_lsub i0_190 kk) ?_
        refine lift (fun _ kk => r_lload i0_191 rfl kk) ?_
        refine lift (fun _ kk => r_lcmp i0_193 kk) ?_
        refine lift (fun _ kk => r_ifT i0_194 (XT.ll_le_t hC) kk) ?_
        refine lift (fun _ kk => r_iconst i0_201 kk) ?_
        refine lift (fun _ kk => r_istore (ls' := [_, _, _, _, _, _, _, _, _, _, _, _, _, _, _, _, _, _, _, _, _, _, _, _, _, _, _, _, _, _, _, _, _]) i0_202 rfl rfl kk) ?_
        refine lift (fun _ kk => r_iload i0_204 rfl kk) ?_
        refine lift (fun _ kk => r_iload i0_206 rfl kk) ?_
        refine lift (fun _ kk => r_ifT i0_208 (XT.i0_eq_t rfl) kk) ?_
        refine lift (fun _ kk => r_iconst i0_225 kk) ?_
        refine lift (fun _ kk => r_icF i0_226 (XT.ii_ne_f (if_neg fun z => z.1 (qA.mpr hA))) kk) ?_
        refine lift (fun _ kk => r_iconst i0_229 kk) ?_
        refine lift (fun _ kk => r_goto i0_230 kk) ?_
        exact ⟨_, r_zreturn i0_234 rfl (by first | decide | simp), leB rfl, leB rfl⟩
    · by_cases hC : gr < el.toInt64 - gr
      · skip
        refine lift (fun _ kk => r_lload i0_128 rfl kk) ?_
        refine lift (fun _ kk => r_lload i0_130 rfl kk) ?_
        refine lift (fun _ kk => r_lload i0_132 rfl kk) ?_
        refine lift (fun _ kk => r_ladd i0_134 kk) ?_
        refine lift (fun _ kk => r_lcmp i0_135 kk) ?_
        refine lift (fun _ kk => r_ifT i0_136 (XT.ll_lt_t hA) kk) ?_
        refine lift (fun _ kk => r_iconst i0_143 kk) ?_
        refine lift (fun _ kk => r_istore (ls' := [_, _, _, _, _, _, _, _, _, _, _, _, _, _, _, _, _, _, _, _, _, _, _, _, _, _, _, _, _, _, _, _, _]) i0_144 rfl rfl kk) ?_
        refine lift (fun _ kk => r_goto i0_146 kk) ?_
        refine lift (fun _ kk => r_lload i0_167 rfl kk) ?_
        refine lift (fun _ kk => r_lload i0_169 rfl kk) ?_
        refine lift (fun _ kk => r_lload i0_171 rfl kk) ?_
        refine lift (fun _ kk => r_lsub i0_173 kk) ?_
        refine lift (fun _ kk => r_lcmp i0_174 kk) ?_
        refine lift (fun _ kk => r_ifT i0_175 (XT.ll_le_t hB) kk) ?_
        refine lift (fun _ kk => r_iconst i0_182 kk) ?_
        refine lift (fun _ kk => r_istore (ls' := [_, _, _, _, _, _, _, _, _, _, _, _, _, _, _, _, _, _, _, _, _, _, _, _, _, _, _, _, _, _, _, _, _]) i0_183 rfl rfl kk) ?_
        refine lift (fun _ kk => r_iload i0_185 rfl kk) ?_
        refine lift (fun _ kk => r_i2l i0_187 kk) ?_
        refine lift (fun _ kk => r_lload i0_188 rfl kk) ?_
        refine lift (fun _ kk => r_lsub i0_190 kk) ?_
        refine lift (fun _ kk => r_lload i0_191 rfl kk) ?_
        refine lift (fun _ kk => r_lcmp i0_193 kk) ?_
        refine lift (fun _ kk => r_ifF i0_194 (XT.ll_le_f hC) kk) ?_
        refine lift (fun _ kk => r_iconst i0_197 kk) ?_
        refine lift (fun _ kk => r_goto i0_198 kk) ?_
        refine lift (fun _ kk => r_istore (ls' := [_, _, _, _, _, _, _, _, _, _, _, _, _, _, _, _, _, _, _, _, _, _, _, _, _, _, _, _, _, _, _, _, _]) i0_202 rfl rfl kk) ?_
        refine lift (fun _ kk => r_iload i0_204 rfl kk) ?_
        refine lift (fun _ kk => r_iload i0_206 rfl kk) ?_
        refine lift (fun _ kk => r_ifT i0_208 (XT.i0_eq_t rfl) kk) ?_
        refine lift (fun _ kk => r_iconst i0_225 kk) ?_
        refine lift (fun _ kk => r_icF i0_226 (XT.ii_ne_f (if_neg fun z => z.1 (qA.mpr hA))) kk) ?_
        refine lift (fun _ kk => r_iconst i0_229 kk) ?_
        refine lift (fun _ kk => r_goto i0_230 kk) ?_
        exact ⟨_, r_zreturn i0_234 rfl (by first | decide | simp), leB rfl, leB rfl⟩
      · skip
        refine lift (fun _ kk => r_lload i0_128 rfl kk) ?_
        refine lift (fun _ kk => r_lload i0_130 rfl kk) ?_
        refine lift (fun _ kk => r_lload i0_132 rfl kk) ?_
        refine lift (fun _ kk => r_ladd i0_134 kk) ?_
        refine lift (fun _ kk => r_lcmp i0_135 kk) ?_
        refine lift (fun _ kk => r_ifT i0_136 (XT.ll_lt_t hA) kk) ?_
        refine lift (fun _ kk => r_iconst i0_143 kk) ?_
        refine lift (fun _ kk => r_istore (ls' := [_, _, _, _, _, _, _, _, _, _, _, _, _, _, _, _, _, _, _, _, _, _, _, _, _, _, _, _, _, _, _, _, _]) i0_144 rfl rfl kk) ?_
        refine lift (fun _ kk => r_goto i0_146 kk) ?_
        refine lift (fun _ kk => r_lload i0_167 rfl kk) ?_
        refine lift (fun _ kk => r_lload i0_169 rfl kk) ?_
        refine lift (fun _ kk => r_lload i0_171 rfl kk) ?_
        refine lift (fun _ kk => r_lsub i0_173 kk) ?_
        refine lift (fun _ kk => r_lcmp i0_174 kk) ?_
        refine lift (fun _ kk => r_ifT i0_175 (XT.ll_le_t hB) kk) ?_
        refine lift (fun _ kk => r_iconst i0_182 kk) ?_
        refine lift (fun _ kk => r_istore (ls' := [_, _, _, _, _, _, _, _, _, _, _, _, _, _, _, _, _, _, _, _, _, _, _, _, _, _, _, _, _, _, _, _, _]) i0_183 rfl rfl kk) ?_
        refine lift (fun _ kk => r_iload i0_185 rfl kk) ?_
        refine lift (fun _ kk => r_i2l i0_187 kk) ?_
        refine lift (fun _ kk => r_lload i0_188 rfl kk) ?_
        refine lift (fun _ kk => r_lsub i0_190 kk) ?_
        refine lift (fun _ kk => r_lload i0_191 rfl kk) ?_
        refine lift (fun _ kk => r_lcmp i0_193 kk) ?_
        refine lift (fun _ kk => r_ifT i0_194 (XT.ll_le_t hC) kk) ?_
        refine lift (fun _ kk => r_iconst i0_201 kk) ?_
        refine lift (fun _ kk => r_istore (ls' := [_, _, _, _, _, _, _, _, _, _, _, _, _, _, _, _, _, _, _, _, _, _, _, _, _, _, _, _, _, _, _, _, _]) i0_202 rfl rfl kk) ?_
        refine lift (fun _ kk => r_iload i0_204 rfl kk) ?_
        refine lift (fun _ kk => r_iload i0_206 rfl kk) ?_
        refine lift (fun _ kk => r_ifT i0_208 (XT.i0_eq_t rfl) kk) ?_
        refine lift (fun _ kk => r_iconst i0_225 kk) ?_
        refine lift (fun _ kk => r_icF i0_226 (XT.ii_ne_f (if_neg fun z => z.1 (qA.mpr hA))) kk) ?_
        refine lift (fun _ kk => r_iconst i0_229 kk) ?_
        refine lift (fun _ kk => r_goto i0_230 kk) ?_
        exact ⟨_, r_zreturn i0_234 rfl (by first | decide | simp), leB rfl, leB rfl⟩
set_option maxHeartbeats 4000000 in
theorem core0 {l : Launch} {Z : State} {a0 : Array Value} {n0 : Nat} (hw : HW Z a0) (p0 p1 p2 p3 p4 p5 q fl ck ea jo gr fj : Int64) (el : Int32) (hl : 0 ≤ fl.toInt ∧ fl.toInt < 2 ^ 60) (hc : 0 ≤ ck.toInt ∧ ck.toInt < 2 ^ 60) (he : 0 ≤ ea.toInt ∧ ea.toInt < 2 ^ 60) (hj : 0 ≤ jo.toInt ∧ jo.toInt < 2 ^ 60) (hg : 0 ≤ gr.toInt ∧ gr.toInt < 2 ^ 60) (hf : 0 ≤ fj.toInt ∧ fj.toInt < 2 ^ 32) : RunsB K l Z n0 m0 73 [.val (.long p0), .second, .val (.long p1), .second, .val (.long p2), .second, .val (.long p3), .second, .val (.long p4), .second, .val (.long p5), .second, .val (.long q), .second, .val (.long fl), .second, .val (.long ck), .second, .val (.long ea), .second, .val (.long jo), .second, .val (.long gr), .second, .val (.int el), .val (.int 0), .val (.long fj), .second, .unset, .unset, .unset, .unset, .unset] [] [] (some (.int 1)) 16 128 := by
  have qB := own_B he hj hc
  have qC := own_C (r := el) hg
  refine lift (fun _ kk => s0_73 hw (a := 0) (H1 := [_]) rfl rfl kk) ?_
  refine lift (fun _ kk => r_dup i0_76 rfl kk) ?_
  refine lift (fun _ kk => r_lload i0_77 rfl kk) ?_
  refine lift (fun _ kk => s0_79 hw (H1 := [_]) (init_m hw) rfl (leB rfl) kk) ?_
  refine lift (fun _ kk => r_astore (ls' := [_, _, _, _, _, _, _, _, _, _, _, _, _, _, _, _, _, _, _, _, _, _, _, _, _, _, _, _, _, _, _, _, _]) i0_82 rfl rfl rfl kk) ?_
  refine lift (fun _ kk => r_aload i0_84 rfl rfl kk) ?_
  refine lift (fun _ kk => r_lload i0_86 rfl kk) ?_
  refine lift (fun _ kk => r_lload i0_88 rfl kk) ?_
  refine lift (fun _ kk => r_lload i0_90 rfl kk) ?_
  refine lift (fun _ kk => s0_92 hw (H1 := [_]) rfl (opened_m hw) rfl (leB rfl) kk) ?_
  refine lift (fun _ kk => r_aload i0_95 rfl rfl kk) ?_
  refine lift (fun _ kk => r_iload i0_97 rfl kk) ?_
  refine lift (fun _ kk => s0_99 hw (H1 := [_]) rfl (replayed_m hw) rfl (leB rfl) kk) ?_
  refine lift (fun _ kk => r_iload i0_102 rfl kk) ?_
  refine lift (fun _ kk => r_ifT i0_104 (XT.i0_eq_t rfl) kk) ?_
  refine lift (fun _ kk => r_aload i0_114 rfl rfl kk) ?_
  refine lift (fun _ kk => r_lload i0_116 rfl kk) ?_
  refine lift (fun _ kk => s0_118 hw (H1 := [_]) rfl (due_m hw) rfl (leB rfl) kk) ?_
  refine lift (fun _ kk => r_istore (ls' := [_, _, _, _, _, _, _, _, _, _, _, _, _, _, _, _, _, _, _, _, _, _, _, _, _, _, _, _, _, _, _, _, _]) i0_121 rfl rfl kk) ?_
  refine lift (fun _ kk => r_iload i0_123 rfl kk) ?_
  refine lift (fun _ kk => r_ifT i0_125 (XT.i0_eq_t rfl) kk) ?_
  by_cases hA : ea + jo < fl
  rotate_left
  · by_cases hB : ck - ea < jo
    · by_cases hC : gr < el.toInt64 - gr
      · skip
        refine lift (fun _ kk => r_lload i0_149 rfl kk) ?_
        refine lift (fun _ kk => r_lload i0_151 rfl kk) ?_
        refine lift (fun _ kk => r_ladd i0_153 kk) ?_
        refine lift (fun _ kk => r_lload i0_154 rfl kk) ?_
        refine lift (fun _ kk => r_lcmp i0_156 kk) ?_
        refine lift (fun _ kk => r_ifF i0_157 (XT.ll_lt_f hA) kk) ?_
        refine lift (fun _ kk => r_iconst i0_160 kk) ?_
        refine lift (fun _ kk => r_goto i0_161 kk) ?_
        refine lift (fun _ kk => r_istore (ls' := [_, _, _, _, _, _, _, _, _, _, _, _, _, _, _, _, _, _, _, _, _, _, _, _, _, _, _, _, _, _, _, _, _]) i0_165 rfl rfl kk) ?_
        refine lift (fun _ kk => r_lload i0_167 rfl kk) ?_
        refine lift (fun _ kk => r_lload i0_169 rfl kk) ?_
        refine lift (fun _ kk => r_lload i0_171 rfl kk) ?_
        refine lift (fun _ kk => r_lsub i0_173 kk) ?_
        refine lift (fun _ kk => r_lcmp i0_174 kk) ?_
        refine lift (fun _ kk => r_ifF i0_175 (XT.ll_le_f hB) kk) ?_
        refine lift (fun _ kk => r_iconst i0_178 kk) ?_
        refine lift (fun _ kk => r_goto i0_179 kk) ?_
        refine lift (fun _ kk => r_istore (ls' := [_, _, _, _, _, _, _, _, _, _, _, _, _, _, _, _, _, _, _, _, _, _, _, _, _, _, _, _, _, _, _, _, _]) i0_183 rfl rfl kk) ?_
        refine lift (fun _ kk => r_iload i0_185 rfl kk) ?_
        refine lift (fun _ kk => r_i2l i0_187 kk) ?_
        refine lift (fun _ kk => r_lload i0_188 rfl kk) ?_
        refine lift (fun _ kk => r_lsub i0_190 kk) ?_
        refine lift (fun _ kk => r_lload i0_191 rfl kk) ?_
        refine lift (fun _ kk => r_lcmp i0_193 kk) ?_
        refine lift (fun _ kk => r_ifF i0_194 (XT.ll_le_f hC) kk) ?_
        refine lift (fun _ kk => r_iconst i0_197 kk) ?_
        refine lift (fun _ kk => r_goto i0_198 kk) ?_
        refine lift (fun _ kk => r_istore (ls' := [_, _, _, _, _, _, _, _, _, _, _, _, _, _, _, _, _, _, _, _, _, _, _, _, _, _, _, _, _, _, _, _, _]) i0_202 rfl rfl kk) ?_
        refine lift (fun _ kk => r_iload i0_204 rfl kk) ?_
        refine lift (fun _ kk => r_iload i0_206 rfl kk) ?_
        refine lift (fun _ kk => r_ifF i0_208 (XT.i0_eq_f (by decide)) kk) ?_
        refine lift (fun _ kk => r_iload i0_211 rfl kk) ?_
        refine lift (fun _ kk => r_ifF i0_213 (XT.i0_eq_f (by decide)) kk) ?_
        refine lift (fun _ kk => r_iload i0_216 rfl kk) ?_
        refine lift (fun _ kk => r_ifF i0_218 (XT.i0_eq_f (by decide)) kk) ?_
        refine lift (fun _ kk => r_iconst i0_221 kk) ?_
        refine lift (fun _ kk => r_goto i0_222 kk) ?_
        refine lift (fun _ kk => r_icF i0_226 (XT.ii_ne_f (if_pos ⟨hA, qB.mpr hB, qC.mpr hC⟩)) kk) ?_
        refine lift (fun _ kk => r_iconst i0_229 kk) ?_
        refine lift (fun _ kk => r_goto i0_230 kk) ?_
        exact ⟨_, r_zreturn i0_234 rfl (by first | decide | simp), leB rfl, leB rfl⟩
      · skip
        refine lift (fun _ kk => r_lload i0_149 rfl kk) ?_
        refine lift (fun _ kk => r_lload i0_151 rfl kk) ?_
        refine lift (fun _ kk => r_ladd i0_153 kk) ?_
        refine lift (fun _ kk => r_lload i0_154 rfl kk) ?_
        refine lift (fun _ kk => r_lcmp i0_156 kk) ?_
        refine lift (fun _ kk => r_ifF i0_157 (XT.ll_lt_f hA) kk) ?_
        refine lift (fun _ kk => r_iconst i0_160 kk) ?_
        refine lift (fun _ kk => r_goto i0_161 kk) ?_
        refine lift (fun _ kk => r_istore (ls' := [_, _, _, _, _, _, _, _, _, _, _, _, _, _, _, _, _, _, _, _, _, _, _, _, _, _, _, _, _, _, _, _, _]) i0_165 rfl rfl kk) ?_
        refine lift (fun _ kk => r_lload i0_167 rfl kk) ?_
        refine lift (fun _ kk => r_lload i0_169 rfl kk) ?_
        refine lift (fun _ kk => r_lload i0_171 rfl kk) ?_
        refine lift (fun _ kk => r_lsub i0_173 kk) ?_
        refine lift (fun _ kk => r_lcmp i0_174 kk) ?_
        refine lift (fun _ kk => r_ifF i0_175 (XT.ll_le_f hB) kk) ?_
        refine lift (fun _ kk => r_iconst i0_178 kk) ?_
        refine lift (fun _ kk => r_goto i0_179 kk) ?_
        refine lift (fun _ kk => r_istore (ls' := [_, _, _, _, _, _, _, _, _, _, _, _, _, _, _, _, _, _, _, _, _, _, _, _, _, _, _, _, _, _, _, _, _]) i0_183 rfl rfl kk) ?_
        refine lift (fun _ kk => r_iload i0_185 rfl kk) ?_
        refine lift (fun _ kk => r_i2l i0_187 kk) ?_
        refine lift (fun _ kk => r_lload i0_188 rfl kk) ?_
        refine lift (fun _ kk => r_lsub i0_190 kk) ?_
        refine lift (fun _ kk => r_lload i0_191 rfl kk) ?_
        refine lift (fun _ kk => r_lcmp i0_193 kk) ?_
        refine lift (fun _ kk => r_ifT i0_194 (XT.ll_le_t hC) kk) ?_
        refine lift (fun _ kk => r_iconst i0_201 kk) ?_
        refine lift (fun _ kk => r_istore (ls' := [_, _, _, _, _, _, _, _, _, _, _, _, _, _, _, _, _, _, _, _, _, _, _, _, _, _, _, _, _, _, _, _, _]) i0_202 rfl rfl kk) ?_
        refine lift (fun _ kk => r_iload i0_204 rfl kk) ?_
        refine lift (fun _ kk => r_iload i0_206 rfl kk) ?_
        refine lift (fun _ kk => r_ifF i0_208 (XT.i0_eq_f (by decide)) kk) ?_
        refine lift (fun _ kk => r_iload i0_211 rfl kk) ?_
        refine lift (fun _ kk => r_ifF i0_213 (XT.i0_eq_f (by decide)) kk) ?_
        refine lift (fun _ kk => r_iload i0_216 rfl kk) ?_
        refine lift (fun _ kk => r_ifT i0_218 (XT.i0_eq_t rfl) kk) ?_
        refine lift (fun _ kk => r_iconst i0_225 kk) ?_
        refine lift (fun _ kk => r_icF i0_226 (XT.ii_ne_f (if_neg fun z => hC (qC.mp z.2.2))) kk) ?_
        refine lift (fun _ kk => r_iconst i0_229 kk) ?_
        refine lift (fun _ kk => r_goto i0_230 kk) ?_
        exact ⟨_, r_zreturn i0_234 rfl (by first | decide | simp), leB rfl, leB rfl⟩
    · by_cases hC : gr < el.toInt64 - gr
      · skip
        refine lift (fun _ kk => r_lload i0_149 rfl kk) ?_
        refine lift (fun _ kk => r_lload i0_151 rfl kk) ?_
        refine lift (fun _ kk => r_ladd i0_153 kk) ?_
        refine lift (fun _ kk => r_lload i0_154 rfl kk) ?_
        refine lift (fun _ kk => r_lcmp i0_156 kk) ?_
        refine lift (fun _ kk => r_ifF i0_157 (XT.ll_lt_f hA) kk) ?_
        refine lift (fun _ kk => r_iconst i0_160 kk) ?_
        refine lift (fun _ kk => r_goto i0_161 kk) ?_
        refine lift (fun _ kk => r_istore (ls' := [_, _, _, _, _, _, _, _, _, _, _, _, _, _, _, _, _, _, _, _, _, _, _, _, _, _, _, _, _, _, _, _, _]) i0_165 rfl rfl kk) ?_
        refine lift (fun _ kk => r_lload i0_167 rfl kk) ?_
        refine lift (fun _ kk => r_lload i0_169 rfl kk) ?_
        refine lift (fun _ kk => r_lload i0_171 rfl kk) ?_
        refine lift (fun _ kk => r_lsub i0_173 kk) ?_
        refine lift (fun _ kk => r_lcmp i0_174 kk) ?_
        refine lift (fun _ kk => r_ifT i0_175 (XT.ll_le_t hB) kk) ?_
        refine lift (fun _ kk => r_iconst i0_182 kk) ?_
        refine lift (fun _ kk => r_istore (ls' := [_, _, _, _, _, _, _, _, _, _, _, _, _, _, _, _, _, _, _, _, _, _, _, _, _, _, _, _, _, _, _, _, _]) i0_183 rfl rfl kk) ?_
        refine lift (fun _ kk => r_iload i0_185 rfl kk) ?_
        refine lift (fun _ kk => r_i2l i0_187 kk) ?_
        refine lift (fun _ kk => r_lload i0_188 rfl kk) ?_
        refine lift (fun _ kk => r_lsub i0_190 kk) ?_
        refine lift (fun _ kk => r_lload i0_191 rfl kk) ?_
        refine lift (fun _ kk => r_lcmp i0_193 kk) ?_
        refine lift (fun _ kk => r_ifF i0_194 (XT.ll_le_f hC) kk) ?_
        refine lift (fun _ kk => r_iconst i0_197 kk) ?_
        refine lift (fun _ kk => r_goto i0_198 kk) ?_
        refine lift (fun _ kk => r_istore (ls' := [_, _, _, _, _, _, _, _, _, _, _, _, _, _, _, _, _, _, _, _, _, _, _, _, _, _, _, _, _, _, _, _, _]) i0_202 rfl rfl kk) ?_
        refine lift (fun _ kk => r_iload i0_204 rfl kk) ?_
        refine lift (fun _ kk => r_iload i0_206 rfl kk) ?_
        refine lift (fun _ kk => r_ifF i0_208 (XT.i0_eq_f (by decide)) kk) ?_
        refine lift (fun _ kk => r_iload i0_211 rfl kk) ?_
        refine lift (fun _ kk => r_ifT i0_213 (XT.i0_eq_t rfl) kk) ?_
        refine lift (fun _ kk => r_iconst i0_225 kk) ?_
        refine lift (fun _ kk => r_icF i0_226 (XT.ii_ne_f (if_neg fun z => hB (qB.mp z.2.1))) kk) ?_
        refine lift (fun _ kk => r_iconst i0_229 kk) ?_
        refine lift (fun _ kk => r_goto i0_230 kk) ?_
        exact ⟨_, r_zreturn i0_234 rfl (by first | decide | simp), leB rfl, leB rfl⟩
      · skip
        refine lift (fun _ kk => r_lload i0_149 rfl kk) ?_
        refine lift (fun _ kk => r_lload i0_151 rfl kk) ?_
        refine lift (fun _ kk => r_ladd i0_153 kk) ?_
        refine lift (fun _ kk => r_lload i0_154 rfl kk) ?_
        refine lift (fun _ kk => r_lcmp i0_156 kk) ?_
        refine lift (fun _ kk => r_ifF i0_157 (XT.ll_lt_f hA) kk) ?_
        refine lift (fun _ kk => r_iconst i0_160 kk) ?_
        refine lift (fun _ kk => r_goto i0_161 kk) ?_
        refine lift (fun _ kk => r_istore (ls' := [_, _, _, _, _, _, _, _, _, _, _, _, _, _, _, _, _, _, _, _, _, _, _, _, _, _, _, _, _, _, _, _, _]) i0_165 rfl rfl kk) ?_
        refine lift (fun _ kk => r_lload i0_167 rfl kk) ?_
        refine lift (fun _ kk => r_lload i0_169 rfl kk) ?_
        refine lift (fun _ kk => r_lload i0_171 rfl kk) ?_
        refine lift (fun _ kk => r_lsub i0_173 kk) ?_
        refine lift (fun _ kk => r_lcmp i0_174 kk) ?_
        refine lift (fun _ kk => r_ifT i0_175 (XT.ll_le_t hB) kk) ?_
        refine lift (fun _ kk => r_iconst i0_182 kk) ?_
        refine lift (fun _ kk => r_istore (ls' := [_, _, _, _, _, _, _, _, _, _, _, _, _, _, _, _, _, _, _, _, _, _, _, _, _, _, _, _, _, _, _, _, _]) i0_183 rfl rfl kk) ?_
        refine lift (fun _ kk => r_iload i0_185 rfl kk) ?_
        refine lift (fun _ kk => r_i2l i0_187 kk) ?_
        refine lift (fun _ kk => r_lload i0_188 rfl kk) ?_
        refine lift (fun _ kk => r_lsub i0_190 kk) ?_
        refine lift (fun _ kk => r_lload i0_191 rfl kk) ?_
        refine lift (fun _ kk => r_lcmp i0_193 kk) ?_
        refine lift (fun _ kk => r_ifT i0_194 (XT.ll_le_t hC) kk) ?_
        refine lift (fun _ kk => r_iconst i0_201 kk) ?_
        refine lift (fun _ kk => r_istore (ls' := [_, _, _, _, _, _, _, _, _, _, _, _, _, _, _, _, _, _, _, _, _, _, _, _, _, _, _, _, _, _, _, _, _]) i0_202 rfl rfl kk) ?_
        refine lift (fun _ kk => r_iload i0_204 rfl kk) ?_
        refine lift (fun _ kk => r_iload i0_206 rfl kk) ?_
        refine lift (fun _ kk => r_ifF i0_208 (XT.i0_eq_f (by decide)) kk) ?_
        refine lift (fun _ kk => r_iload i0_211 rfl kk) ?_
        refine lift (fun _ kk => r_ifT i0_213 (XT.i0_eq_t rfl) kk) ?_
        refine lift (fun _ kk => r_iconst i0_225 kk) ?_
        refine lift (fun _ kk => r_icF i0_226 (XT.ii_ne_f (if_neg fun z => hB (qB.mp z.2.1))) kk) ?_
        refine lift (fun _ kk => r_iconst i0_229 kk) ?_
        refine lift (fun _ kk => r_goto i0_230 kk) ?_
        exact ⟨_, r_zreturn i0_234 rfl (by first | decide | simp), leB rfl, leB rfl⟩
  · by_cases hB : ck - ea < jo
    · by_cases hC : gr < el.toInt64 - gr
      · skip
        refine lift (fun _ kk => r_lload i0_149 rfl kk) ?_
        refine lift (fun _ kk => r_lload i0_151 rfl kk) ?_
        refine lift (fun _ kk => r_ladd i0_153 kk) ?_
        refine lift (fun _ kk => r_lload i0_154 rfl kk) ?_
        refine lift (fun _ kk => r_lcmp i0_156 kk) ?_
        refine lift (fun _ kk => r_ifT i0_157 (XT.ll_lt_t hA) kk) ?_
        refine lift (fun _ kk => r_iconst i0_164 kk) ?_
        refine lift (fun _ kk => r_istore (ls' := [_, _, _, _, _, _, _, _, _, _, _, _, _, _, _, _, _, _, _, _, _, _, _, _, _, _, _, _, _, _, _, _, _]) i0_165 rfl rfl kk) ?_
        refine lift (fun _ kk => r_lload i0_167 rfl kk) ?_
        refine lift (fun _ kk => r_lload i0_169 rfl kk) ?_
        refine lift (fun _ kk => r_lload i0_171 rfl kk) ?_
        refine lift (fun _ kk => r_lsub i0_173 kk) ?_
        refine lift (fun _ kk => r_lcmp i0_174 kk) ?_
        refine lift (fun _ kk => r_ifF i0_175 (XT.ll_le_f hB) kk) ?_
        refine lift (fun _ kk => r_iconst i0_178 kk) ?_
        refine lift (fun _ kk => r_goto i0_179 kk) ?_
        refine lift (fun _ kk => r_istore (ls' := [_, _, _, _, _, _, _, _, _, _, _, _, _, _, _, _, _, _, _, _, _, _, _, _, _, _, _, _, _, _, _, _, _]) i0_183 rfl rfl kk) ?_
        refine lift (fun _ kk => r_iload i0_185 rfl kk) ?_
        refine lift (fun _ kk => r_i2l i0_187 kk) ?_
        refine lift (fun _ kk => r_lload i0_188 rfl kk) ?_
        refine lift (fun _ kk => r_lsub i0_190 kk) ?_
        refine lift (fun _ kk => r_lload i0_191 rfl kk) ?_
        refine lift (fun _ kk => r_lcmp i0_193 kk) ?_
        refine lift (fun _ kk => r_ifF i0_194 (XT.ll_le_f hC) kk) ?_
        refine lift (fun _ kk => r_iconst i0_197 kk) ?_
        refine lift (fun _ kk => r_goto i0_198 kk) ?_
        refine lift (fun _ kk => r_istore (ls' := [_, _, _, _, _, _, _, _, _, _, _, _, _, _, _, _, _, _, _, _, _, _, _, _, _, _, _, _, _, _, _, _, _]) i0_202 rfl rfl kk) ?_
        refine lift (fun _ kk => r_iload i0_204 rfl kk) ?_
        refine lift (fun _ kk => r_iload i0_206 rfl kk) ?_
        refine lift (fun _ kk => r_ifT i0_208 (XT.i0_eq_t rfl) kk) ?_
        refine lift (fun _ kk => r_iconst i0_225 kk) ?_
        refine lift (fun _ kk => r_icF i0_226 (XT.ii_ne_f (if_neg fun z => z.1 (hA))) kk) ?_
        refine lift (fun _ kk => r_iconst i0_229 kk) ?_
        refine lift (fun _ kk => r_goto i0_230 kk) ?_
        exact ⟨_, r_zreturn i0_234 rfl (by first | decide | simp), leB rfl, leB rfl⟩
      · skip
        refine lift (fun _ kk => r_lload i0_149 rfl kk) ?_
        refine lift (fun _ kk => r_lload i0_151 rfl kk) ?_
        refine lift (fun _ kk => r_ladd i0_153 kk) ?_
        refine lift (fun _ kk => r_lload i0_154 rfl kk) ?_
        refine lift (fun _ kk => r_lcmp i0_156 kk) ?_
        refine lift (fun _ kk => r_ifT i0_157 (XT.ll_lt_t hA) kk) ?_
        refine lift (fun _ kk => r_iconst i0_164 kk) ?_
        refine lift (fun _ kk => r_istore (ls' := [_, _, _, _, _, _, _, _, _, _, _, _, _, _, _, _, _, _, _, _, _, _, _, _, _, _, _, _, _, _, _, _, _]) i0_165 rfl rfl kk) ?_
        refine lift (fun _ kk => r_lload i0_167 rfl kk) ?_
        refine lift (fun _ kk => r_lload i0_169 rfl kk) ?_
        refine lift (fun _ kk => r_lload i0_171 rfl kk) ?_
        refine lift (fun _ kk => r_lsub i0_173 kk) ?_
        refine lift (fun _ kk => r_lcmp i0_174 kk) ?_
        refine lift (fun _ kk => r_ifF i0_175 (XT.ll_le_f hB) kk) ?_
        refine lift (fun _ kk => r_iconst i0_178 kk) ?_
        refine lift (fun _ kk => r_goto i0_179 kk) ?_
        refine lift (fun _ kk => r_istore (ls' := [_, _, _, _, _, _, _, _, _, _, _, _, _, _, _, _, _, _, _, _, _, _, _, _, _, _, _, _, _, _, _, _, _]) i0_183 rfl rfl kk) ?_
        refine lift (fun _ kk => r_iload i0_185 rfl kk) ?_
        refine lift (fun _ kk => r_i2l i0_187 kk) ?_
        refine lift (fun _ kk => r_lload i0_188 rfl kk) ?_
        refine lift (fun _ kk => r_lsub i0_190 kk) ?_
        refine lift (fun _ kk => r_lload i0_191 rfl kk) ?_
        refine lift (fun _ kk => r_lcmp i0_193 kk) ?_
        refine lift (fun _ kk => r_ifT i0_194 (XT.ll_le_t hC) kk) ?_
        refine lift (fun _ kk => r_iconst i0_201 kk) ?_
        refine lift (fun _ kk => r_istore (ls' := [_, _, _, _, _, _, _, _, _, _, _, _, _, _, _, _, _, _, _, _, _, _, _, _, _, _, _, _, _, _, _, _, _]) i0_202 rfl rfl kk) ?_
        refine lift (fun _ kk => r_iload i0_204 rfl kk) ?_
        refine lift (fun _ kk => r_iload i0_206 rfl kk) ?_
        refine lift (fun _ kk => r_ifT i0_208 (XT.i0_eq_t rfl) kk) ?_
        refine lift (fun _ kk => r_iconst i0_225 kk) ?_
        refine lift (fun _ kk => r_icF i0_226 (XT.ii_ne_f (if_neg fun z => z.1 (hA))) kk) ?_
        refine lift (fun _ kk => r_iconst i0_229 kk) ?_
        refine lift (fun _ kk => r_goto i0_230 kk) ?_
        exact ⟨_, r_zreturn i0_234 rfl (by first | decide | simp), leB rfl, leB rfl⟩
    · by_cases hC : gr < el.toInt64 - gr
      · skip
        refine lift (fun _ kk => r_lload i0_149 rfl kk) ?_
        refine lift (fun _ kk => r_lload i0_151 rfl kk) ?_
        refine lift (fun _ kk => r_ladd i0_153 kk) ?_
        refine lift (fun _ kk => r_lload i0_154 rfl kk) ?_
        refine lift (fun _ kk => r_lcmp i0_156 kk) ?_
        refine lift (fun _ kk => r_ifT i0_157 (XT.ll_lt_t hA) kk) ?_
        refine lift (fun _ kk => r_iconst i0_164 kk) ?_
        refine lift (fun _ kk => r_istore (ls' := [_, _, _, _, _, _, _, _, _, _, _, _, _, _, _, _, _, _, _, _, _, _, _, _, _, _, _, _, _, _, _, _, _]) i0_165 rfl rfl kk) ?_
        refine lift (fun _ kk => r_lload i0_167 rfl kk) ?_
        refine lift (fun _ kk => r_lload i0_169 rfl kk) ?_
        refine lift (fun _ kk => r_lload i0_171 rfl kk) ?_
        refine lift (fun _ kk => r_lsub i0_173 kk) ?_
        refine lift (fun _ kk => r_lcmp i0_174 kk) ?_
        refine lift (fun _ kk => r_ifT i0_175 (XT.ll_le_t hB) kk) ?_
        refine lift (fun _ kk => r_iconst i0_182 kk) ?_
        refine lift (fun _ kk => r_istore (ls' := [_, _, _, _, _, _, _, _, _, _, _, _, _, _, _, _, _, _, _, _, _, _, _, _, _, _, _, _, _, _, _, _, _]) i0_183 rfl rfl kk) ?_
        refine lift (fun _ kk => r_iload i0_185 rfl kk) ?_
        refine lift (fun _ kk => r_i2l i0_187 kk) ?_
        refine lift (fun _ kk => r_lload i0_188 rfl kk) ?_
        refine lift (fun _ kk => r_lsub i0_190 kk) ?_
        refine lift (fun _ kk => r_lload i0_191 rfl kk) ?_
        refine lift (fun _ kk => r_lcmp i0_193 kk) ?_
        refine lift (fun _ kk => r_ifF i0_194 (XT.ll_le_f hC) kk) ?_
        refine lift (fun _ kk => r_iconst i0_197 kk) ?_
        refine lift (fun _ kk => r_goto i0_198 kk) ?_
        refine lift (fun _ kk => r_istore (ls' := [_, _, _, _, _, _, _, _, _, _, _, _, _, _, _, _, _, _, _, _, _, _, _, _, _, _, _, _, _, _, _, _, _]) i0_202 rfl rfl kk) ?_
        refine lift (fun _ kk => r_iload i0_204 rfl kk) ?_
        refine lift (fun _ kk => r_iload i0_206 rfl kk) ?_
        refine lift (fun _ kk => r_ifT i0_208 (XT.i0_eq_t rfl) kk) ?_
        refine lift (fun _ kk => r_iconst i0_225 kk) ?_
        refine lift (fun _ kk => r_icF i0_226 (XT.ii_ne_f (if_neg fun z => z.1 (hA))) kk) ?_
        refine lift (fun _ kk => r_iconst i0_229 kk) ?_
        refine lift (fun _ kk => r_goto i0_230 kk) ?_
        exact ⟨_, r_zreturn i0_234 rfl (by first | decide | simp), leB rfl, leB rfl⟩
      · skip
        refine lift (fun _ kk => r_lload i0_149 rfl kk) ?_
        refine lift (fun _ kk => r_lload i0_151 rfl kk) ?_
        refine lift (fun _ kk => r_ladd i0_153 kk) ?_
        refine lift (fun _ kk => r_lload i0_154 rfl kk) ?_
        refine lift (fun _ kk => r_lcmp i0_156 kk) ?_
        refine lift (fun _ kk => r_ifT i0_157 (XT.ll_lt_t hA) kk) ?_
        refine lift (fun _ kk => r_iconst i0_164 kk) ?_
        refine lift (fun _ kk => r_istore (ls' := [_, _, _, _, _, _, _, _, _, _, _, _, _, _, _, _, _, _, _, _, _, _, _, _, _, _, _, _, _, _, _, _, _]) i0_165 rfl rfl kk) ?_
        refine lift (fun _ kk => r_lload i0_167 rfl kk) ?_
        refine lift (fun _ kk => r_lload i0_169 rfl kk) ?_
        refine lift (fun _ kk => r_lload i0_171 rfl kk) ?_
        refine lift (fun _ kk => r_lsub i0_173 kk) ?_
        refine lift (fun _ kk => r_lcmp i0_174 kk) ?_
        refine lift (fun _ kk => r_ifT i0_175 (XT.ll_le_t hB) kk) ?_
        refine lift (fun _ kk => r_iconst i0_182 kk) ?_
        refine lift (fun _ kk => r_istore (ls' := [_, _, _, _, _, _, _, _, _, _, _, _, _, _, _, _, _, _, _, _, _, _, _, _, _, _, _, _, _, _, _, _, _]) i0_183 rfl rfl kk) ?_
        refine lift (fun _ kk => r_iload i0_185 rfl kk) ?_
        refine lift (fun _ kk => r_i2l i0_187 kk) ?_
        refine lift (fun _ kk => r_lload i0_188 rfl kk) ?_
        refine lift (fun _ kk => r_lsub i0_190 kk) ?_
        refine lift (fun _ kk => r_lload i0_191 rfl kk) ?_
        refine lift (fun _ kk => r_lcmp i0_193 kk) ?_
        refine lift (fun _ kk => r_ifT i0_194 (XT.ll_le_t hC) kk) ?_
        refine lift (fun _ kk => r_iconst i0_201 kk) ?_
        refine lift (fun _ kk => r_istore (ls' := [_, _, _, _, _, _, _, _, _, _, _, _, _, _, _, _, _, _, _, _, _, _, _, _, _, _, _, _, _, _, _, _, _]) i0_202 rfl rfl kk) ?_
        refine lift (fun _ kk => r_iload i0_204 rfl kk) ?_
        refine lift (fun _ kk => r_iload i0_206 rfl kk) ?_
        refine lift (fun _ kk => r_ifT i0_208 (XT.i0_eq_t rfl) kk) ?_
        refine lift (fun _ kk => r_iconst i0_225 kk) ?_
        refine lift (fun _ kk => r_icF i0_226 (XT.ii_ne_f (if_neg fun z => z.1 (hA))) kk) ?_
        refine lift (fun _ kk => r_iconst i0_229 kk) ?_
        refine lift (fun _ kk => r_goto i0_230 kk) ?_
        exact ⟨_, r_zreturn i0_234 rfl (by first | decide | simp), leB rfl, leB rfl⟩
theorem law_runs {l : Launch} {Z : State} {a0 : Array Value} {n0 : Nat} (hw : HW Z a0) (p0 : Int64) (p1 : Int64) (p2 : Int64) (p3 : Int64) (p4 : Int64) (p5 : Int64) : RunsB K l Z n0 m0 0 [.val (.long p0), .second, .val (.long p1), .second, .val (.long p2), .second, .val (.long p3), .second, .val (.long p4), .second, .val (.long p5), .second, .unset, .unset, .unset, .unset, .unset, .unset, .unset, .unset, .unset, .unset, .unset, .unset, .unset, .unset, .unset, .unset, .unset, .unset, .unset, .unset, .unset] [] [] (some (.int 1)) 16 128 := by
  by_cases h : XT.ushrL p5 31 &&& 1 = 0
  · skip
    refine lift (fun _ kk => s0_0 hw kk) ?_
    refine lift (fun _ kk => r_lstore (ls' := [_, _, _, _, _, _, _, _, _, _, _, _, _, _, _, _, _, _, _, _, _, _, _, _, _, _, _, _, _, _, _, _, _]) i0_3 rfl rfl kk) ?_
    refine lift (fun _ kk => r_lloadN i0_5 rfl kk) ?_
    refine lift (fun _ kk => r_lload i0_6 rfl kk) ?_
    refine lift (fun _ kk => r_land i0_8 kk) ?_
    refine lift (fun _ kk => r_lstore (ls' := [_, _, _, _, _, _, _, _, _, _, _, _, _, _, _, _, _, _, _, _, _, _, _, _, _, _, _, _, _, _, _, _, _]) i0_9 rfl rfl kk) ?_
    refine lift (fun _ kk => r_lloadN i0_11 rfl kk) ?_
    refine lift (fun _ kk => r_lload i0_12 rfl kk) ?_
    refine lift (fun _ kk => r_land i0_14 kk) ?_
    refine lift (fun _ kk => r_lstore (ls' := [_, _, _, _, _, _, _, _, _, _, _, _, _, _, _, _, _, _, _, _, _, _, _, _, _, _, _, _, _, _, _, _, _]) i0_15 rfl rfl kk) ?_
    refine lift (fun _ kk => r_lload i0_17 rfl kk) ?_
    refine lift (fun _ kk => r_lload i0_19 rfl kk) ?_
    refine lift (fun _ kk => r_land i0_21 kk) ?_
    refine lift (fun _ kk => r_lstore (ls' := [_, _, _, _, _, _, _, _, _, _, _, _, _, _, _, _, _, _, _, _, _, _, _, _, _, _, _, _, _, _, _, _, _]) i0_22 rfl rfl kk) ?_
    refine lift (fun _ kk => r_lload i0_24 rfl kk) ?_
    refine lift (fun _ kk => r_lload i0_26 rfl kk) ?_
    refine lift (fun _ kk => r_land i0_28 kk) ?_
    refine lift (fun _ kk => r_lstore (ls' := [_, _, _, _, _, _, _, _, _, _, _, _, _, _, _, _, _, _, _, _, _, _, _, _, _, _, _, _, _, _, _, _, _]) i0_29 rfl rfl kk) ?_
    refine lift (fun _ kk => r_lload i0_31 rfl kk) ?_
    refine lift (fun _ kk => r_lload i0_33 rfl kk) ?_
    refine lift (fun _ kk => r_land i0_35 kk) ?_
    refine lift (fun _ kk => r_lstore (ls' := [_, _, _, _, _, _, _, _, _, _, _, _, _, _, _, _, _, _, _, _, _, _, _, _, _, _, _, _, _, _, _, _, _]) i0_36 rfl rfl kk) ?_
    refine lift (fun _ kk => r_lload i0_38 rfl kk) ?_
    refine lift (fun _ kk => s0_40 hw kk) ?_
    refine lift (fun _ kk => r_land i0_43 kk) ?_
    refine lift (fun _ kk => r_l2i i0_44 kk) ?_
    refine lift (fun _ kk => r_istore (ls' := [_, _, _, _, _, _, _, _, _, _, _, _, _, _, _, _, _, _, _, _, _, _, _, _, _, _, _, _, _, _, _, _, _]) i0_45 rfl rfl kk) ?_
    refine lift (fun _ kk => r_lload i0_47 rfl kk) ?_
    refine lift (fun _ kk => r_bipush i0_49 kk) ?_
    refine lift (fun _ kk => r_lushr i0_51 kk) ?_
    refine lift (fun _ kk => r_lconst i0_52 kk) ?_
    refine lift (fun _ kk => r_land i0_53 kk) ?_
    refine lift (fun _ kk => r_lconst i0_54 kk) ?_
    refine lift (fun _ kk => r_lcmp i0_55 kk) ?_
    refine lift (fun _ kk => r_ifT i0_56 (XT.ll_eq_t h) kk) ?_
    refine lift (fun _ kk => r_iconst i0_63 kk) ?_
    refine lift (fun _ kk => r_istore (ls' := [_, _, _, _, _, _, _, _, _, _, _, _, _, _, _, _, _, _, _, _, _, _, _, _, _, _, _, _, _, _, _, _, _]) i0_64 rfl rfl kk) ?_
    refine lift (fun _ kk => r_lload i0_66 rfl kk) ?_
    refine lift (fun _ kk => r_bipush i0_68 kk) ?_
    refine lift (fun _ kk => r_lushr i0_70 kk) ?_
    refine lift (fun _ kk => r_lstore (ls' := [_, _, _, _, _, _, _, _, _, _, _, _, _, _, _, _, _, _, _, _, _, _, _, _, _, _, _, _, _, _, _, _, _]) i0_71 rfl rfl kk) ?_
    exact core0 hw p0 p1 p2 p3 p4 p5 _ _ _ _ _ _ _ _ (own_m p0) (own_m p1) (own_m p2) (own_m p3) (own_m p4) (own_u p5)
  · skip
    refine lift (fun _ kk => s0_0 hw kk) ?_
    refine lift (fun _ kk => r_lstore (ls' := [_, _, _, _, _, _, _, _, _, _, _, _, _, _, _, _, _, _, _, _, _, _, _, _, _, _, _, _, _, _, _, _, _]) i0_3 rfl rfl kk) ?_
    refine lift (fun _ kk => r_lloadN i0_5 rfl kk) ?_
    refine lift (fun _ kk => r_lload i0_6 rfl kk) ?_
    refine lift (fun _ kk => r_land i0_8 kk) ?_
    refine lift (fun _ kk => r_lstore (ls' := [_, _, _, _, _, _, _, _, _, _, _, _, _, _, _, _, _, _, _, _, _, _, _, _, _, _, _, _, _, _, _, _, _]) i0_9 rfl rfl kk) ?_
    refine lift (fun _ kk => r_lloadN i0_11 rfl kk) ?_
    refine lift (fun _ kk => r_lload i0_12 rfl kk) ?_
    refine lift (fun _ kk => r_land i0_14 kk) ?_
    refine lift (fun _ kk => r_lstore (ls' := [_, _, _, _, _, _, _, _, _, _, _, _, _, _, _, _, _, _, _, _, _, _, _, _, _, _, _, _, _, _, _, _, _]) i0_15 rfl rfl kk) ?_
    refine lift (fun _ kk => r_lload i0_17 rfl kk) ?_
    refine lift (fun _ kk => r_lload i0_19 rfl kk) ?_
    refine lift (fun _ kk => r_land i0_21 kk) ?_
    refine lift (fun _ kk => r_lstore (ls' := [_, _, _, _, _, _, _, _, _, _, _, _, _, _, _, _, _, _, _, _, _, _, _, _, _, _, _, _, _, _, _, _, _]) i0_22 rfl rfl kk) ?_
    refine lift (fun _ kk => r_lload i0_24 rfl kk) ?_
    refine lift (fun _ kk => r_lload i0_26 rfl kk) ?_
    refine lift (fun _ kk => r_land i0_28 kk) ?_
    refine lift (fun _ kk => r_lstore (ls' := [_, _, _, _, _, _, _, _, _, _, _, _, _, _, _, _, _, _, _, _, _, _, _, _, _, _, _, _, _, _, _, _, _]) i0_29 rfl rfl kk) ?_
    refine lift (fun _ kk => r_lload i0_31 rfl kk) ?_
    refine lift (fun _ kk => r_lload i0_33 rfl kk) ?_
    refine lift (fun _ kk => r_land i0_35 kk) ?_
    refine lift (fun _ kk => r_lstore (ls' := [_, _, _, _, _, _, _, _, _, _, _, _, _, _, _, _, _, _, _, _, _, _, _, _, _, _, _, _, _, _, _, _, _]) i0_36 rfl rfl kk) ?_
    refine lift (fun _ kk => r_lload i0_38 rfl kk) ?_
    refine lift (fun _ kk => s0_40 hw kk) ?_
    refine lift (fun _ kk => r_land i0_43 kk) ?_
    refine lift (fun _ kk => r_l2i i0_44 kk) ?_
    refine lift (fun _ kk => r_istore (ls' := [_, _, _, _, _, _, _, _, _, _, _, _, _, _, _, _, _, _, _, _, _, _, _, _, _, _, _, _, _, _, _, _, _]) i0_45 rfl rfl kk) ?_
    refine lift (fun _ kk => r_lload i0_47 rfl kk) ?_
    refine lift (fun _ kk => r_bipush i0_49 kk) ?_
    refine lift (fun _ kk => r_lushr i0_51 kk) ?_
    refine lift (fun _ kk => r_lconst i0_52 kk) ?_
    refine lift (fun _ kk => r_land i0_53 kk) ?_
    refine lift (fun _ kk => r_lconst i0_54 kk) ?_
    refine lift (fun _ kk => r_lcmp i0_55 kk) ?_
    refine lift (fun _ kk => r_ifF i0_56 (XT.ll_eq_f h) kk) ?_
    refine lift (fun _ kk => r_iconst i0_59 kk) ?_
    refine lift (fun _ kk => r_goto i0_60 kk) ?_
    refine lift (fun _ kk => r_istore (ls' := [_, _, _, _, _, _, _, _, _, _, _, _, _, _, _, _, _, _, _, _, _, _, _, _, _, _, _, _, _, _, _, _, _]) i0_64 rfl rfl kk) ?_
    refine lift (fun _ kk => r_lload i0_66 rfl kk) ?_
    refine lift (fun _ kk => r_bipush i0_68 kk) ?_
    refine lift (fun _ kk => r_lushr i0_70 kk) ?_
    refine lift (fun _ kk => r_lstore (ls' := [_, _, _, _, _, _, _, _, _, _, _, _, _, _, _, _, _, _, _, _, _, _, _, _, _, _, _, _, _, _, _, _, _]) i0_71 rfl rfl kk) ?_
    exact core1 hw p0 p1 p2 p3 p4 p5 _ _ _ _ _ _ _ _ (own_m p0) (own_m p1) (own_m p2) (own_m p3) (own_m p4) (own_u p5)
set_option maxRecDepth 65536 in
set_option maxHeartbeats 40000000 in
theorem comes_1 {Post : Tables → Env → Array Value → State → Outcome → State → Prop} (hpost : ∀ tb e args s v u, (limb_1_1.after args s (.returned v) u = true ∧ limb_1_2.after args s (.returned v) u = true ∧ True) → FrameEnd s (.returned v) u (Jvm.fieldLocs frame_1_writes args s ++ Jvm.arrayLocs frame_1_arrays args s ++ Jvm.staticLocs frame_1_statics s) 16 128 → Post tb e args s (.returned v) u) :
    ArmFor flags0 classFile x code maxLocals ret World_1 tables_1 room_1 Calls_1 rest_1 Pre_1 Post := by
  intro l hfl _ _ p e ha hc hk s m args below hf hA hF happ hP
  obtain ⟨hcalls, hrest, hpre⟩ := hP
  obtain ⟨-, -, -, hnamed, -, -, -, hat⟩ := (Spec.applies_iff hf).mp happ
  obtain ⟨hg, hn⟩ := and_e (Cond.before_iff.mp (show (Jvm.Cond.and given_1 narrow_1).before args s = true from hpre))
  obtain ⟨hcount, hk0⟩ := and_e hg
  obtain ⟨w0, w1, w2, w3, w4, w5, rfl⟩ : ∃ w0 w1 w2 w3 w4 w5 : Value, args = #[w0, w1, w2, w3, w4, w5] := by
    have hs : args.size = 6 := by simpa [Cond.value, given_1] using hcount
    obtain ⟨L⟩ := args
    match L, hs with
    | [w0, w1, w2, w3, w4, w5], _ => exact ⟨w0, w1, w2, w3, w4, w5, rfl⟩
  have hw : HW s _ := fun d (hd : d ∈ tables_1) => atoms_spec (ws := Jvm.Cond.code x code maxLocals ret :: tables_1) hat d (List.mem_cons_of_mem _ hd)
  replace hk0 := and_e hk0
  obtain ⟨p0, e0⟩ := isL_v hk0.1
  obtain rfl : w0 = (.long p0) := Option.some.inj e0
  have hk1 := hk0.2
  replace hk1 := and_e hk1
  obtain ⟨p1, e1⟩ := isL_v hk1.1
  obtain rfl : w1 = (.long p1) := Option.some.inj e1
  have hk2 := hk1.2
  replace hk2 := and_e hk2
  obtain ⟨p2, e2⟩ := isL_v hk2.1
  obtain rfl : w2 = (.long p2) := Option.some.inj e2
  have hk3 := hk2.2
  replace hk3 := and_e hk3
  obtain ⟨p3, e3⟩ := isL_v hk3.1
  obtain rfl : w3 = (.long p3) := Option.some.inj e3
  have hk4 := hk3.2
  replace hk4 := and_e hk4
  obtain ⟨p4, e4⟩ := isL_v hk4.1
  obtain rfl : w4 = (.long p4) := Option.some.inj e4
  have hk5 := hk4.2
  obtain ⟨p5, e5⟩ := isL_v hk5
  obtain rfl : w5 = (.long p5) := Option.some.inj e5
  obtain ⟨H', k, hcl, hsl⟩ := law_runs (l := l) (n0 := s.heap.size) hw p0 p1 p2 p3 p4 p5
  obtain ⟨n, o, h1, h2, h3, _, L, rfl, ⟨rfl, -, N⟩, hq⟩ := met_gen (mi := m0) (as := [.long p0, .long p1, .long p2, .long p3, .long p4, .long p5]) tables_1 room_1 pf0 rfl (fun h => nomatch h) k (by decide) (by decide) (by show H'.length ≤ 16 + 0; omega) (by show szs K H' ≤ 128 + 0; omega) (h := s.heap) ⟨rfl, fun k o h => by simp at h⟩ p e ha hc hk s m _ below hf ((Spec.applies_iff_loose hf).mp happ).1 ⟨rfl, State.Warmed39.refl s, rfl⟩ trivial
  refine ⟨n, _, h1, h2, h3, hpost _ _ _ _ _ _ ⟨Cond.after_iff.mpr rfl, Cond.after_iff.mpr (eq_i res_at (Term.int_eval (1)) rfl), trivial⟩ ⟨hq.1, hq.2.1, (hq.2.2.sift fun y hy => Or.inr (N y hy)).mono (by show H'.length - 0 ≤ _; omega) (by show szs K H' - 0 ≤ _; omega)⟩⟩
theorem main_1_1 : Claimed_1_1 := comes_1 fun _ _ _ _ _ _ h hF => ⟨h.1, hF⟩
theorem main_1_2 : Claimed_1_2 := comes_1 fun _ _ _ _ _ _ h hF => ⟨h.2.1, hF⟩
end Jvm.Pilot.@@N@@
namespace Jvm.Pilot.@@N@@
open Jvm Jvm.ClassFile Sem Op Lib Jvm.Free Jvm.Stand Jvm.Pilot.@@N@@.Jvm.D
/-! MADE BY PROGRAM (witnessworld.py) out of the Statement's table words and the real class files: 9 classes; the members and pool entries that the words name. The judged class is class 1, her method 1. -/
namespace start1
open Jvm.ClassFile
def u (s : String) : CpInfo := .utf8 (stringToUtf16 s)
/-- a pool by its gaps: so many unusable entries, then the entry; so many at the end -/
def gap : Nat → List CpInfo → List CpInfo
  | 0, r => r
  | n + 1, r => .unusable :: gap n r
def poolList (es : List (Nat × CpInfo)) (last : Nat) : List CpInfo := es.foldr (fun e r => gap e.1 (e.2 :: r)) (gap last [])
def pool (es : List (Nat × CpInfo)) (last : Nat) : Array CpInfo := ⟨poolList es last⟩
def fileOf (pool : Array CpInfo) (this : Nat) (attrs : Array Attribute := #[]) (ms : Array MethodInfo := #[]) (fl : Nat := 33) (sup : Nat := 0) (ifs : Array Nat := #[]) (fds : Array FieldInfo := #[]) : ClassFile where
  minorVersion := 0
  majorVersion := 65
  constantPool := pool
  accessFlags := fl
  thisClass := this
  superClass := sup
  interfaces := ifs
  fields := fds
  methods := ms
  attributes := attrs
def plain (name : String) (sup : Option ClassId) : Class where
  name := name
  kind := .ordinary
  loader := none
  accessFlags := 33
  super := sup
  interfaces := #[]
  cf := none
  fields := #[]
  methods := #[]
  instanceTypes := #[]
  staticTypes := #[]
  resolved := #[]
  callSites := []
  init := .initialized
  statics := none
  mirror := none

def pool0 : Array CpInfo := pool [(5, u "<init>"), (0, u "()V"), (1, .class_ 10), (1, u "java/lang/Object")] 113

def k0c0 : Code := { maxStack := 0, maxLocals := 1, code := object_method_1_code, exceptionTable := #[], attributes := #[] }
def k0m0 : Method := { name := "<init>", desc := "()V", sig := { parameters := [], returnType := none }, accessFlags := 1, code := some k0c0 }
/-- java/lang/Object -/
def k0 : Class := { plain "java/lang/Object" none with
  accessFlags := 33
  interfaces := #[]
  cf := some (fileOf pool0 8 #[] #[{ accessFlags := 1, nameIndex := 5, descriptorIndex := 6, attributes := #[] }] 33 0 #[] #[])
  fields := #[]
  methods := #[k0m0]
  instanceTypes := #[]
  staticTypes := #[]
  resolved := Array.replicate 124 none
  statics := none }

def pool1 : Array CpInfo := pool [(2, .class_ 4), (1, u "java/lang/Object"), (0, u "<init>"), (0, u "()V"), (0, .long 1152921504606846975), (1, .long 2147483647), (1, .class_ 12), (0, u "com/example/tendril/tendril/storage/CheckpointPolicy"), (0, .methodref 11 14), (0, .nameAndType 5 15), (0, u "(J)V"), (0, .methodref 11 17), (0, .nameAndType 18 19), (0, u "opened"), (0, u "(JJJ)V"), (0, .methodref 11 21), (0, .nameAndType 22 23), (0, u "replayed"), (0, u "(I)V"), (0, .methodref 11 25), (0, .nameAndType 26 15), (0, u "failed"), (0, .methodref 11 28), (0, .nameAndType 29 30), (0, u "isDue"), (0, u "(J)Z"), (0, .class_ 32), (0, u "com/example/tendril/tendril/storage/CheckpointPolicyIsDuePinLaw"), (2, u "law"), (0, u "(JJJJJJ)Z")] 3

def k1m0 : Method := { name := "<init>", desc := "()V", sig := { parameters := [], returnType := none }, accessFlags := 1, code := none }
def k1c1 : Code := { maxStack := 7, maxLocals := 33, code := code, exceptionTable := #[], attributes := #[] }
def k1m1 : Method := { name := "law", desc := "(JJJJJJ)Z", sig := { parameters := [.long, .long, .long, .long, .long, .long], returnType := some .boolean }, accessFlags := 9, code := some k1c1 }
/-- com/example/tendril/tendril/storage/CheckpointPolicyIsDuePinLaw -/
def k1 : Class := { plain "com/example/tendril/tendril/storage/CheckpointPolicyIsDuePinLaw" (some 0) with
  accessFlags := 49
  interfaces := #[]
  cf := some (fileOf pool1 31 #[] #[{ accessFlags := 1, nameIndex := 5, descriptorIndex := 6, attributes := #[] }, { accessFlags := 9, nameIndex := 35, descriptorIndex := 36, attributes := #[] }] 49 2 #[] #[])
  fields := #[]
  methods := #[k1m0, k1m1]
  instanceTypes := #[]
  staticTypes := #[]
  resolved := Array.replicate 40 none
  statics := none }

def pool2 : Array CpInfo := pool [(1, .methodref 2 3), (0, .class_ 4), (0, .nameAndType 5 6), (0, u "java/lang/Object"), (0, u "<init>"), (0, u "()V"), (0, .fieldref 8 9), (0, .class_ 10), (0, .nameAndType 11 12), (0, u "com/example/tendril/tendril/storage/CheckpointPolicy"), (0, u "floorBytes"), (0, u "J"), (0, .fieldref 8 14), (0, .nameAndType 15 12), (0, u "tryFrom"), (0, .fieldref 8 17), (0, .nameAndType 18 12), (0, u "elementsToReplay"), (0, .fieldref 8 20), (0, .nameAndType 21 12), (0, u "checkpointBytes"), (0, .fieldref 8 23), (0, .nameAndType 24 12), (0, u "earlierJournalBytes"), (0, .fieldref 8 26), (0, .nameAndType 27 12), (0, u "graphElements"), (23, u "elementsAtSwitch"), (0, .long 2), (1, u "FLOOR"), (3, u "MULTIPLE"), (0, u "I"), (1, u "(J)V"), (2, u "replayed"), (0, u "(I)V"), (0, u "opened"), (0, u "(JJJ)V"), (5, u "failed"), (0, u "isDue"), (0, u "(J)Z")] 3

def k2c0 : Code := { maxStack := 3, maxLocals := 3, code := prog_137_method_1_code, exceptionTable := #[], attributes := #[] }
def k2m0 : Method := { name := "<init>", desc := "(J)V", sig := { parameters := [.long], returnType := none }, accessFlags := 0, code := some k2c0 }
def k2c1 : Code := { maxStack := 5, maxLocals := 2, code := prog_137_method_2_code, exceptionTable := #[], attributes := #[] }
def k2m1 : Method := { name := "replayed", desc := "(I)V", sig := { parameters := [.int], returnType := none }, accessFlags := 0, code := some k2c1 }
def k2c2 : Code := { maxStack := 3, maxLocals := 7, code := prog_137_method_3_code, exceptionTable := #[], attributes := #[] }
def k2m2 : Method := { name := "opened", desc := "(JJJ)V", sig := { parameters := [.long, .long, .long], returnType := none }, accessFlags := 0, code := some k2c2 }
def k2c3 : Code := { maxStack := 5, maxLocals := 3, code := prog_137_method_7_code, exceptionTable := #[], attributes := #[] }
def k2m3 : Method := { name := "failed", desc := "(J)V", sig := { parameters := [.long], returnType := none }, accessFlags := 0, code := some k2c3 }
def k2c4 : Code := { maxStack := 6, maxLocals := 5, code := prog_137_method_8_code, exceptionTable := #[], attributes := #[] }
def k2m4 : Method := { name := "isDue", desc := "(J)Z", sig := { parameters := [.long], returnType := some .boolean }, accessFlags := 0, code := some k2c4 }
/-- com/example/tendril/tendril/storage/CheckpointPolicy -/
def k2 : Class := { plain "com/example/tendril/tendril/storage/CheckpointPolicy" (some 0) with
  accessFlags := 48
  interfaces := #[]
  cf := some (fileOf pool2 8 #[] #[{ accessFlags := 0, nameIndex := 5, descriptorIndex := 61, attributes := #[] }, { accessFlags := 0, nameIndex := 64, descriptorIndex := 65, attributes := #[] }, { accessFlags := 0, nameIndex := 66, descriptorIndex := 67, attributes := #[] }, { accessFlags := 0, nameIndex := 73, descriptorIndex := 61, attributes := #[] }, { accessFlags := 0, nameIndex := 74, descriptorIndex := 75, attributes := #[] }] 48 2 #[] #[{ accessFlags := 24, nameIndex := 54, descriptorIndex := 12, attributes := #[] }, { accessFlags := 26, nameIndex := 58, descriptorIndex := 59, attributes := #[] }, { accessFlags := 18, nameIndex := 11, descriptorIndex := 12, attributes := #[] }, { accessFlags := 2, nameIndex := 21, descriptorIndex := 12, attributes := #[] }, { accessFlags := 2, nameIndex := 24, descriptorIndex := 12, attributes := #[] }, { accessFlags := 2, nameIndex := 18, descriptorIndex := 12, attributes := #[] }, { accessFlags := 2, nameIndex := 51, descriptorIndex := 12, attributes := #[] }, { accessFlags := 2, nameIndex := 27, descriptorIndex := 12, attributes := #[] }, { accessFlags := 2, nameIndex := 15, descriptorIndex := 12, attributes := #[] }])
  fields := #[{ name := "FLOOR", type := .long, accessFlags := 24, slot := 0, constantValue := 0 }, { name := "MULTIPLE", type := .int, accessFlags := 26, slot := 1, constantValue := 0 }, { name := "floorBytes", type := .long, accessFlags := 18, slot := 0, constantValue := 0 }, { name := "checkpointBytes", type := .long, accessFlags := 2, slot := 1, constantValue := 0 }, { name := "earlierJournalBytes", type := .long, accessFlags := 2, slot := 2, constantValue := 0 }, { name := "elementsToReplay", type := .long, accessFlags := 2, slot := 3, constantValue := 0 }, { name := "elementsAtSwitch", type := .long, accessFlags := 2, slot := 4, constantValue := 0 }, { name := "graphElements", type := .long, accessFlags := 2, slot := 5, constantValue := 0 }, { name := "tryFrom", type := .long, accessFlags := 2, slot := 6, constantValue := 0 }]
  methods := #[k2m0, k2m1, k2m2, k2m3, k2m4]
  instanceTypes := #[.long, .long, .long, .long, .long, .long, .long]
  staticTypes := #[.long, .int]
  resolved := Array.replicate 79 none
  statics := none }

def pool3 : Array CpInfo := pool [(1, u "java/lang/Cloneable"), (0, .class_ 1), (0, u "java/lang/Object"), (0, .class_ 3)] 3

/-- java/lang/Cloneable -/
def k3 : Class := { plain "java/lang/Cloneable" (some 0) with
  accessFlags := 1537
  interfaces := #[]
  cf := some (fileOf pool3 2 #[] #[] 1537 4 #[] #[])
  fields := #[]
  methods := #[]
  instanceTypes := #[]
  staticTypes := #[]
  resolved := Array.replicate 8 none
  statics := none }

def pool4 : Array CpInfo := pool [(1, u "java/io/Serializable"), (0, .class_ 1), (0, u "java/lang/Object"), (0, .class_ 3)] 3

/-- java/io/Serializable -/
def k4 : Class := { plain "java/io/Serializable" (some 0) with
  accessFlags := 1537
  interfaces := #[]
  cf := some (fileOf pool4 2 #[] #[] 1537 4 #[] #[])
  fields := #[]
  methods := #[]
  instanceTypes := #[]
  staticTypes := #[]
  resolved := Array.replicate 8 none
  statics := none }

/-- the primitive byte -/
def k5 : Class := { plain "byte" none with kind := .primitive 'B', accessFlags := 0x411 }
/-- [B -/
def k6 : Class := { plain "[B" (some 0) with kind := .array 5 .byte, interfaces := #[3, 4], accessFlags := 1041 }

/-- the primitive int -/
def k7 : Class := { plain "int" none with kind := .primitive 'I', accessFlags := 0x411 }
/-- [I -/
def k8 : Class := { plain "[I" (some 0) with kind := .array 7 .int, interfaces := #[3, 4], accessFlags := 1041 }

def heap : Heap := #[]
def classes : Array Class := #[k0, k1, k2, k3, k4, k5, k6, k7, k8]
def interned : List (Array UInt16 × Addr) := []
def slotsUsed : Nat := 0
def theMethod : MethodId := ⟨1, 1⟩
def args0 : Array Value := #[.long 5, .long 300, .long 7, .long 11, .long 900, .long 65537]
def aboutOver (below : List Frame) : State where
  vm := { classes := classes, interned := interned.toArray }
  heap := heap
  slotsUsed := slotsUsed
  threads := #[{ frames := .invoking theMethod args0 :: below }]
def below0 : List Frame := [.native { method := ⟨0, 0⟩, args := #[] }]
def about1 : State := aboutOver below0
def p0 : Program := .bare "" "" ""
def e0 : Env := launch0.env 0 0 0
theorem w_frames : about1.frames = Frame.invoking theMethod args0 :: below0 := rfl
set_option maxRecDepth 65536 in
theorem w_args : argsFit about1.vm theMethod args0 = true := by decide +kernel
set_option maxRecDepth 65536 in
theorem w_heap : heapFits about1 = true := by decide +kernel
set_option maxRecDepth 65536 in
theorem w_runnable : about1.curStatus? = some .runnable := by decide +kernel
set_option maxRecDepth 65536 in
theorem w_alone : about1.alone = true := by decide +kernel
set_option maxRecDepth 65536 in
theorem w_named : about1.methodNamed? x = some theMethod := by decide +kernel
set_option maxRecDepth 65536 in
theorem w_hears : about1.hears theMethod below0 = true := by decide +kernel
set_option maxRecDepth 65536 in
theorem w_ripe : about1.ripe theMethod args0 below0 = true := by decide +kernel
theorem w_running : about1.status = .running := rfl
set_option maxRecDepth 65536 in
theorem w_room : about1.hasRoom e0.platform room_1 = true :=
  launch0.hasRoom_least _ room_1 (by decide +kernel) (by decide +kernel) (by decide +kernel) (by decide +kernel) (by decide +kernel) (by decide +kernel)
theorem allAtoms_all (ts : List Jvm.Cond) (a : Array Jvm.Value) (st : Jvm.State) : (allAtoms ts).before a st = ts.all (fun c => c.before a st) := by
  induction ts with
  | nil => rfl
  | cons c t ih =>
    show (Jvm.Cond.and c (allAtoms t)).before a st = _
    rw [Jvm.Cond.before_and, ih, List.all_cons]
def words1 : List Jvm.Cond := Jvm.Cond.code x code maxLocals ret :: tables_1
/-- a 'code' word, met by the world's own term for the bytes: nothing is compared byte by byte -/
theorem code_word {y : MethodName} {bytes : ByteArray} {mx : Nat} {rt : Option FieldType} {a : Array Value} {s : State} {m : MethodId} {meth : Method} {c : Code} (h1 : s.methodNamed? y = some m) (h2 : s.vm.method? m = some meth) (h3 : meth.code = some c) (h4 : c.code = bytes)
    (h5 : (c.maxLocals == mx && c.exceptionTable.isEmpty && decide (c.maxStack ≤ mostOperands) && decide (meth.sig.returnType = rt) && !meth.locks && decide (parseMethodDescriptor y.desc = some meth.sig)) = true) : (Jvm.Cond.code y bytes mx rt).before a s = true := by
  simp only [Bool.and_eq_true, beq_iff_eq, Bool.not_eq_true', decide_eq_true_eq] at h5
  obtain ⟨⟨⟨⟨⟨g1, g2⟩, g3⟩, g4⟩, g5⟩, g6⟩ := h5
  simp [Cond.before, Cond.holds, Cond.value, h1, h2, h3, h4, g1, g2, g3, g4, g5, g6]
def isCode : Jvm.Cond → Bool
  | .code _ _ _ _ => true
  | _ => false
theorem all_split {L : List Jvm.Cond} {P : Jvm.Cond → Bool} (h1 : L.all (fun c => isCode c || P c) = true) (h2 : ∀ c ∈ L.filter isCode, P c = true) : L.all P = true := by
  refine List.all_eq_true.mpr fun c hc => ?_
  have h := List.all_eq_true.mp h1 c hc
  rcases Bool.eq_false_or_eq_true (isCode c) with hi | hi
  · exact h2 c (List.mem_filter.mpr ⟨hc, hi⟩)
  · simpa [hi] using h
set_option maxRecDepth 65536 in
theorem w_c0 : (Jvm.Cond.code x code maxLocals ret).before args0 about1 = true := code_word (m := ⟨1, 1⟩) (meth := k1m1) (c := k1c1) (by decide +kernel) rfl rfl rfl (by decide +kernel)
set_option maxRecDepth 65536 in
theorem w_c1 : (Jvm.Cond.code ({ cls := "com/example/tendril/tendril/storage/CheckpointPolicy", name := "<init>", desc := "(J)V" } : Jvm.MethodName) prog_137_method_1_code (3 : Nat) (Option.none : Option Jvm.ClassFile.FieldType)).before args0 about1 = true := code_word (m := ⟨2, 0⟩) (meth := k2m0) (c := k2c0) (by decide +kernel) rfl rfl rfl (by decide +kernel)
set_option maxRecDepth 65536 in
theorem w_c2 : (Jvm.Cond.code ({ cls := "java/lang/Object", name := "<init>", desc := "()V" } : Jvm.MethodName) object_method_1_code (1 : Nat) (Option.none : Option Jvm.ClassFile.FieldType)).before args0 about1 = true := code_word (m := ⟨0, 0⟩) (meth := k0m0) (c := k0c0) (by decide +kernel) rfl rfl rfl (by decide +kernel)
set_option maxRecDepth 65536 in
theorem w_c3 : (Jvm.Cond.code ({ cls := "com/example/tendril/tendril/storage/CheckpointPolicy", name := "opened", desc := "(JJJ)V" } : Jvm.MethodName) prog_137_method_3_code (7 : Nat) (Option.none : Option Jvm.ClassFile.FieldType)).before args0 about1 = true := code_word (m := ⟨2, 2⟩) (meth := k2m2) (c := k2c2) (by decide +kernel) rfl rfl rfl (by decide +kernel)
set_option maxRecDepth 65536 in
theorem w_c4 : (Jvm.Cond.code ({ cls := "com/example/tendril/tendril/storage/CheckpointPolicy", name := "replayed", desc := "(I)V" } : Jvm.MethodName) prog_137_method_2_code (2 : Nat) (Option.none : Option Jvm.ClassFile.FieldType)).before args0 about1 = true := code_word (m := ⟨2, 1⟩) (meth := k2m1) (c := k2c1) (by decide +kernel) rfl rfl rfl (by decide +kernel)
set_option maxRecDepth 65536 in
theorem w_c5 : (Jvm.Cond.code ({ cls := "com/example/tendril/tendril/storage/CheckpointPolicy", name := "isDue", desc := "(J)Z" } : Jvm.MethodName) prog_137_method_8_code (5 : Nat) (Option.some Jvm.ClassFile.FieldType.boolean)).before args0 about1 = true := code_word (m := ⟨2, 4⟩) (meth := k2m4) (c := k2c4) (by decide +kernel) rfl rfl rfl (by decide +kernel)
set_option maxRecDepth 65536 in
theorem w_c6 : (Jvm.Cond.code ({ cls := "com/example/tendril/tendril/storage/CheckpointPolicy", name := "failed", desc := "(J)V" } : Jvm.MethodName) prog_137_method_7_code (3 : Nat) (Option.none : Option Jvm.ClassFile.FieldType)).before args0 about1 = true := code_word (m := ⟨2, 3⟩) (meth := k2m3) (c := k2c3) (by decide +kernel) rfl rfl rfl (by decide +kernel)
def codes1 : List Jvm.Cond := [Jvm.Cond.code x code maxLocals ret, Jvm.Cond.code ({ cls := "com/example/tendril/tendril/storage/CheckpointPolicy", name := "<init>", desc := "(J)V" } : Jvm.MethodName) prog_137_method_1_code (3 : Nat) (Option.none : Option Jvm.ClassFile.FieldType), Jvm.Cond.code ({ cls := "java/lang/Object", name := "<init>", desc := "()V" } : Jvm.MethodName) object_method_1_code (1 : Nat) (Option.none : Option Jvm.ClassFile.FieldType), Jvm.Cond.code ({ cls := "com/example/tendril/tendril/storage/CheckpointPolicy", name := "opened", desc := "(JJJ)V" } : Jvm.MethodName) prog_137_method_3_code (7 : Nat) (Option.none : Option Jvm.ClassFile.FieldType), Jvm.Cond.code ({ cls := "com/example/tendril/tendril/storage/CheckpointPolicy", name := "replayed", desc := "(I)V" } : Jvm.MethodName) prog_137_method_2_code (2 : Nat) (Option.none : Option Jvm.ClassFile.FieldType), Jvm.Cond.code ({ cls := "com/example/tendril/tendril/storage/CheckpointPolicy", name := "isDue", desc := "(J)Z" } : Jvm.MethodName) prog_137_method_8_code (5 : Nat) (Option.some Jvm.ClassFile.FieldType.boolean), Jvm.Cond.code ({ cls := "com/example/tendril/tendril/storage/CheckpointPolicy", name := "failed", desc := "(J)V" } : Jvm.MethodName) prog_137_method_7_code (3 : Nat) (Option.none : Option Jvm.ClassFile.FieldType)]
set_option maxRecDepth 65536 in
theorem codes_eq : words1.filter isCode = codes1 := rfl
theorem w_codes : ∀ c ∈ words1.filter isCode, c.before args0 about1 = true := by
  rw [codes_eq]
  intro c hc
  simp only [codes1, List.mem_cons, List.not_mem_nil, or_false] at hc
  rcases hc with rfl | rfl | rfl | rfl | rfl | rfl | rfl
  · exact w_c0
  · exact w_c1
  · exact w_c2
  · exact w_c3
  · exact w_c4
  · exact w_c5
  · exact w_c6
set_option maxRecDepth 65536 in
theorem w_t1 : (words1.take 24).all (fun c => isCode c || c.before args0 about1) = true := by decide +kernel
set_option maxRecDepth 65536 in
theorem w_t2 : (words1.drop 24).all (fun c => isCode c || c.before args0 about1) = true := by decide +kernel
theorem w_tables : (allAtoms (Jvm.Cond.code x code maxLocals ret :: tables_1)).before args0 about1 = true := by
  rw [allAtoms_all]
  show words1.all (fun c => c.before args0 about1) = true
  refine all_split ?_ w_codes
  rw [← List.take_append_drop 24 words1, List.all_append, w_t1, w_t2]
  rfl
set_option maxRecDepth 65536 in
theorem w_case : (Jvm.Cond.and given_1 narrow_1).before args0 about1 = true := by decide +kernel
theorem w_applies : (headSpec (Jvm.Cond.code x code maxLocals ret :: tables_1) room_1).applies x e0.platform about1 = true :=
  (Spec.applies_iff w_frames).mpr ⟨w_running, w_runnable, w_alone, w_named, w_hears, w_ripe, w_room, w_tables⟩
theorem atStart : AtStart classFile x code maxLocals ret World_1 tables_1 room_1 Calls_1 rest_1 Pre_1 launch0 p0 e0 about1 theMethod args0 below0 :=
  ⟨lists_1, trivial, launch0.admits_env _ _ _, launch0.least_env, fairChoices_fair.cas, fairChoices_fair.clock, w_frames, w_args, w_heap, w_applies, trivial, trivial, w_case⟩
end start1
theorem witness_1 : WitnessClaimed_1 := ⟨start1.p0, start1.e0, start1.about1, start1.theMethod, start1.args0, start1.below0, start1.atStart⟩
end Jvm.Pilot.@@N@@
