import JvmDerived
import JvmDerived.Pilot.@@N@@Statement
import JvmDerived.Pilot.@@N@@Code
set_option linter.unusedVariables false
set_option linter.unusedSimpArgs false
namespace Jvm.Pilot.@@N@@
open Jvm Jvm.ClassFile Sem Op Lib Jvm.Free Jvm.Stand Jvm.LawKit Jvm.RoadKit Bundle Jvm.Pilot.@@N@@.Jvm.D
/-! ## A small logic of runs over a virtual heap (own work, the same text in every proof of this seat)
References count from the first cell that the law makes (n0): `shV n0`. `Ob`: an object by its class (a place in K) and its laid fields, or an array by its component type and values.
`Runs K l Z n0 mi pc ls st H v H'`: whoever stands in the method mi at pc with locals ls, stack st and virtual heap H comes out returning v with heap H'. -/
def shV (n0 : Nat) : Value → Value
  | .ref a => .ref (n0 + a)
  | v => v
def shS (n0 : Nat) : Slot → Slot
  | .val v => .val (shV n0 v)
  | s => s
abbrev Ob : Type := (Nat × List Value) ⊕ (FieldType × List Value)
/-- a field: who declares it, its name, its descriptor, its type -/
abbrev FI : Type := String × String × String × FieldType
/-- a class: its name, the number of its slots, its fields -/
abbrev CI : Type := String × Nat × List FI
/-- a method: name, bytes, max_locals, return type; frames and words that its callees need -/
abbrev MI : Type := MethodName × ByteArray × Nat × Option FieldType × Nat × Nat
def osz (K : List CI) : Ob → Nat
  | .inl (c, _) => ((K[c]?).map (fun ci => ci.2.1)).getD 0
  | .inr (_, vs) => vs.length
def szs (K : List CI) (H : List Ob) : Nat := (H.map (osz K)).sum
def OOk (K : List CI) (Z : State) (n0 : Nat) (h : Heap) (a : Addr) : Ob → Prop
  | .inl (c, vs) => ∃ ci, K[c]? = some ci ∧ Exa Z h a ci.1 ∧ ∀ (i : Nat) (f : FI) (v : Value), ci.2.2[i]? = some f → vs[i]? = some v → Fld Z h a f.1 f.2.1 f.2.2.1 (shV n0 v)
  | .inr (ty, vs) => ∃ cl, Arr Z h a cl ty ∧ cl.slots.size = vs.length ∧ vs.length < 2 ^ 31 ∧ ∀ (i : Nat) (v : Value), vs[i]? = some v → cl.slots[i]? = some (shV n0 v) ∧ fits ty v = true
def Rel (K : List CI) (Z : State) (n0 : Nat) (H : List Ob) (h : Heap) : Prop := h.size = n0 + H.length ∧ ∀ (k : Nat) (o : Ob), H[k]? = some o → OOk K Z n0 h (n0 + k) o
def KOk (K : List CI) (Z : State) (a0 : Array Value) : Prop := ∀ (k : Nat) (ci : CI), K[k]? = some ci → (Jvm.Cond.instantiable ci.1 ci.2.1).before a0 Z = true ∧ (∀ f ∈ ci.2.2, Laid Z a0 ci.1 f.1 f.2.1 f.2.2.1 ∧ parseFieldDescriptor f.2.2.1 = some f.2.2.2) ∧ ci.2.2.Pairwise (fun f g => f.2.1 ≠ g.2.1)
theorem cat_sh (n0 : Nat) (v : Value) : (shV n0 v).category = v.category := by cases v <;> rfl
theorem cats_sh (n0 : Nat) (st : List Value) : ((st.map (shV n0)).map fun v => v.category).sum = (st.map fun v => v.category).sum := by
  rw [List.map_map]; congr 1; exact List.map_congr_left fun v _ => cat_sh n0 v
theorem laid_map (n0 : Nat) : ∀ as : List Value, Jvm.Sym.laidSlots (as.map (shV n0)) = (Jvm.Sym.laidSlots as).map (shS n0)
  | [] => rfl
  | v :: vs => by
    simp only [List.map_cons, Jvm.Sym.laidSlots, cat_sh, laid_map n0 vs]
    split <;> rfl
theorem entry_eq (n0 : Nat) (m : MethodId) (as : List Value) (n : Nat) {ls : List Slot} (h : Jvm.Sym.laidSlots as ++ List.replicate (n - (Jvm.Sym.laidSlots as).length) .unset = ls) :
    entryFrame m (as.map (shV n0)).toArray n = mkF m 0 (ls.map (shS n0)).toArray [] := by
  have e : argsToLocals (as.map (shV n0)).toArray n = (ls.map (shS n0)).toArray := Array.toList_inj.mp (by
    rw [Jvm.Sym.argsToLocals_toList]
    simp only [laid_map, List.length_map, ← h, List.map_append, List.map_replicate]
    rfl)
  show ({ method := m, pc := 0, locals := argsToLocals (as.map (shV n0)).toArray n, stack := [], locked := none } : JFrame) = _
  rw [e]
theorem loc_at {n0 : Nat} {ls : List Slot} {k : Nat} {s : Slot} (h : ls[k]? = some s) : ((ls.map (shS n0)).toArray)[k]? = some (shS n0 s) := by
  simp [h]
/-- the place k may take a value of one word -/
def P1 (ls : List Slot) (k : Nat) : Bool := match ls[k]? with | some .unset => true | some (.val w) => w.category == 1 | _ => false
/-- the places k and k + 1 may take a value of two words -/
def P2 (ls : List Slot) (k : Nat) : Bool := match ls[k]?, ls[k + 1]? with | some (.val w), some .second => w.category == 2 | _, _ => P1 ls k && P1 ls (k + 1)
theorem P1_slot {ls : List Slot} {k : Nat} (h : P1 ls k = true) : ∃ s, ls[k]? = some s ∧ (match s with | .second => False | .val old => old.category = 1 | .unset => True) := by
  unfold P1 at h
  split at h
  · rename_i e; exact ⟨_, e, trivial⟩
  · rename_i w e; exact ⟨_, e, by simpa using h⟩
  · cases h
theorem st1 {n0 : Nat} {ls ls' : List Slot} {k : Nat} {v : Value} (hp : P1 ls k = true) (hv : v.category = 1) (hs : ls.set k (.val v) = ls') : storeLocals (ls.map (shS n0)).toArray k (shV n0 v) = some (ls'.map (shS n0)).toArray := by
  obtain ⟨s, e, q⟩ := P1_slot hp
  rw [storeLocals_cat1 (loc_at (n0 := n0) e) (by rw [cat_sh]; exact hv) (by cases s <;> simp_all [shS, cat_sh]), ← hs]
  simp [List.map_set, shS]
theorem st2 {n0 : Nat} {ls ls' : List Slot} {k : Nat} {v : Value} (hp : P2 ls k = true) (hv : v.category = 2) (hs : (ls.set k (.val v)).set (k + 1) .second = ls') : storeLocals (ls.map (shS n0)).toArray k (shV n0 v) = some (ls'.map (shS n0)).toArray := by
  have key : ∃ x y, ls[k]? = some x ∧ ls[k + 1]? = some y ∧ ((Jvm.Free.Fl.Plain1 (shS n0 x) ∧ Jvm.Free.Fl.Plain1 (shS n0 y)) ∨ ((∃ old, shS n0 x = .val old ∧ old.category = 2) ∧ shS n0 y = .second)) := by
    unfold P2 at hp
    split at hp
    · rename_i w e1 e2
      exact ⟨_, _, e1, e2, Or.inr ⟨⟨_, rfl, by rw [cat_sh]; simpa using hp⟩, rfl⟩⟩
    · rw [Bool.and_eq_true] at hp
      obtain ⟨s, e, q⟩ := P1_slot hp.1
      obtain ⟨s', e', q'⟩ := P1_slot hp.2
      exact ⟨s, s', e, e', Or.inl ⟨by cases s <;> simp_all [shS, cat_sh, Jvm.Free.Fl.Plain1], by cases s' <;> simp_all [shS, cat_sh, Jvm.Free.Fl.Plain1]⟩⟩
  obtain ⟨x, y, e1, e2, q⟩ := key
  rw [Jvm.Free.Fl.storeLocals_cat2 (loc_at (n0 := n0) e1) (loc_at (n0 := n0) e2) (by rw [cat_sh]; exact hv) q, ← hs]
  simp [List.map_set, shS]
def Runs (K : List CI) (l : Launch) (Z : State) (n0 : Nat) (mi : MI) (pc : Nat) (ls : List Slot) (st : List Value) (H : List Ob) (v : Option Value) (H' : List Ob) : Prop :=
  H.length ≤ H'.length ∧ szs K H ≤ szs K H' ∧
  ∀ (p : Program) (e : Env) (R : Room) (s : State) (m : MethodId) (args : Array Value) (below : List Frame) (meth : Method) (c : Code) (T : State) (locs : List Loc) (cells slots : Nat),
    Stand p l e R s m args below meth c T locs cells slots → p.tables.exec = Jvm.exec → Z.Warmed39 s.vm → c.code = mi.2.1 → c.maxLocals = mi.2.2.1 → meth.sig.returnType = mi.2.2.2.1 → s.vm.findClass mi.1.cls = some m.cls → meth.name = mi.1.name →
    Rel K Z n0 H T.heap → Fr n0 locs → mi.2.2.2.2.1 ≤ R.frames → mi.2.2.2.2.2 ≤ R.locals → s.heap.size + cells = n0 + H.length → cells + H'.length ≤ R.cells + H.length → slots + szs K H' ≤ R.slots + szs K H →
    ∃ (T' : State) (locs' : List Loc) (cells' slots' : Nat), Stand p l e R s m args below meth c T' locs' cells' slots' ∧ Rel K Z n0 H' T'.heap ∧ Fr n0 locs' ∧ s.heap.size + cells' = n0 + H'.length ∧ slots' + szs K H ≤ slots + szs K H' ∧
      ∀ fs, (∀ (f : JFrame) (acts : List Action), f.method = m → f.locked = none → f.entered = [] → (doReturn e (T'.setTop f) acts (v.map (shV n0))).1 = T'.setFrames fs) →
        Steps p.tables e below (T.setTop (mkF m pc (ls.map (shS n0)).toArray (st.map (shV n0)))) (T'.setFrames fs)
def rmOf (K : List CI) (mi : MI) (H H' : List Ob) : Room := { frames := mi.2.2.2.2.1, cells := H'.length - H.length, slots := szs K H' - szs K H, locals := mi.2.2.2.2.2 }
def Meets (K : List CI) (l : Launch) (Z : State) (n0 : Nat) (mi : MI) (as : List Value) (H : List Ob) (v : Option Value) (H' : List Ob) : Prop :=
  H.length ≤ H'.length ∧ szs K H ≤ szs K H' ∧ ∀ h, Rel K Z n0 H h →
    MetFree l mi.1 (head1 [Jvm.Cond.code mi.1 mi.2.1 mi.2.2.1 mi.2.2.2.1] (rmOf K mi H H')) (fun a U => a = (as.map (shV n0)).toArray ∧ Z.Warmed39 U.vm ∧ U.heap = h) (fun _ _ _ _ _ => True)
      (fun _ U o U' => ∃ w L, o = .returned w ∧ (w = v.map (shV n0) ∧ Rel K Z n0 H' U'.heap ∧ Fr n0 L) ∧ FrameEnd U o U' L (rmOf K mi H H').cells (rmOf K mi H H').slots)
theorem leB {a b : Nat} (h : Nat.ble a b = true) : a ≤ b := Nat.le_of_ble_eq_true h
theorem ltB {a b : Nat} (h : Nat.ble (a + 1) b = true) : a < b := Nat.le_of_ble_eq_true h
section Logic
variable {K : List CI} {l : Launch} {Z : State} {a0 : Array Value} {n0 : Nat} {mi : MI} {pc np tp : Nat} {ls ls' : List Slot} {st rest : List Value} {H H' H1 : List Ob} {v : Option Value}
/-- from a run of the body to the method's contract, in any room that holds it -/
theorem met_gen {as : List Value} (ws : List Jvm.Cond) (R0 : Room) (hp : plainFor mi.1 = true) (hls : Jvm.Sym.laidSlots as ++ List.replicate (mi.2.2.1 - (Jvm.Sym.laidSlots as).length) .unset = ls) (hv : mi.2.2.2.1 = none → v = none)
    (k : Runs K l Z n0 mi 0 ls [] H v H') (hfr : mi.2.2.2.2.1 ≤ R0.frames) (hlo : mi.2.2.2.2.2 ≤ R0.locals) (hcl : H'.length ≤ R0.cells + H.length) (hsl : szs K H' ≤ R0.slots + szs K H) {h : Heap} (hrel : Rel K Z n0 H h) :
    MetFree l mi.1 (head1 (Jvm.Cond.code mi.1 mi.2.1 mi.2.2.1 mi.2.2.2.1 :: ws) R0) (fun a U => a = (as.map (shV n0)).toArray ∧ Z.Warmed39 U.vm ∧ U.heap = h) (fun _ _ _ _ _ => True)
      (fun _ U o U' => ∃ w L, o = .returned w ∧ (w = v.map (shV n0) ∧ Rel K Z n0 H' U'.heap ∧ Fr n0 L) ∧ FrameEnd U o U' L (H'.length - H.length) (szs K H' - szs K H)) := by
  refine MetFree.of_bodySF hp hisR ?_
  intro p e s m args below meth c s₁ Bd hml0 hP hK
  obtain ⟨rfl, hZ, hh⟩ := hP
  have hx := Bd.exec
  have hby := Bd.bytes
  have hown : s.vm.findClass mi.1.cls = some m.cls := findClass_of_methodNamed Bd.named
  have hnm := (name_of_methodNamed Bd.named Bd.method).1
  have X0 : Stand p l e R0 s m (as.map (shV n0)).toArray below meth c s₁ [] 0 0 := Stand.of_body Bd
  have e0 : s₁.heap = h := by rw [← hh, Bd.state]; rfl
  obtain ⟨T', locs', cells', slots', X', rel', fr', hc', hs', stp⟩ := k.2.2 p e R0 s m _ below meth c s₁ [] 0 0 X0 hx hZ hby hml0 Bd.returns hown hnm (e0 ▸ hrel) (Fr.nil n0) hfr hlo (by rw [hh, hrel.1]; rfl) (by omega) (by omega)
  have hsz : s.heap.size = n0 + H.length := by rw [hh, hrel.1]
  obtain ⟨fs, hr, hrun, hended, hW, hsame⟩ := X'.leave (v := v.map (shV n0)) (fun q => by rw [Bd.returns] at q; rw [hv q]; rfl)
  exact ⟨_, _, castTop (entry_eq n0 m as mi.2.2.1 hls) (stp fs hr), hrun, hended, _, _, rfl, ⟨rfl, rel', fr'⟩, ⟨_, rfl⟩, hW, hsame.mono (by omega) (by omega)⟩
theorem meets {as : List Value} (hp : plainFor mi.1 = true) (hls : Jvm.Sym.laidSlots as ++ List.replicate (mi.2.2.1 - (Jvm.Sym.laidSlots as).length) .unset = ls) (hv : mi.2.2.2.1 = none → v = none) (k : Runs K l Z n0 mi 0 ls [] H v H') : Meets K l Z n0 mi as H v H' :=
  ⟨k.1, k.2.1, fun h hrel => met_gen [] (rmOf K mi H H') hp hls hv k (Nat.le_refl _) (Nat.le_refl _) (by have := k.1; show _ ≤ (H'.length - H.length) + _; omega) (by have := k.2.1; show _ ≤ (szs K H' - szs K H) + _; omega) hrel⟩
/-- a run that ends in some heap of at most c cells and n slots -/
def RunsB (K : List CI) (l : Launch) (Z : State) (n0 : Nat) (mi : MI) (pc : Nat) (ls : List Slot) (st : List Value) (H : List Ob) (v : Option Value) (c n : Nat) : Prop := ∃ H' : List Ob, Runs K l Z n0 mi pc ls st H v H' ∧ H'.length ≤ c ∧ szs K H' ≤ n
theorem lift {st2 : List Value} {c n : Nat} (f : ∀ H' : List Ob, Runs K l Z n0 mi np ls' st2 H1 v H' → Runs K l Z n0 mi pc ls st H v H') (k : RunsB K l Z n0 mi np ls' st2 H1 v c n) : RunsB K l Z n0 mi pc ls st H v c n := by
  obtain ⟨H', k1, k2⟩ := k
  exact ⟨H', f H' k1, k2⟩
/-- a step that reads no heap -/
theorem Runs.pure {st2 : List Value} (hstep : ∀ (p : Program) (e : Env) (R : Room) (s : State) (m : MethodId) (args : Array Value) (below : List Frame) (meth : Method) (c : Code) (T : State) (locs : List Loc) (cells slots : Nat),
      Stand p l e R s m args below meth c T locs cells slots → p.tables.exec = Jvm.exec → Z.Warmed39 s.vm → c.code = mi.2.1 → s.vm.findClass mi.1.cls = some m.cls → ∀ target,
      Steps p.tables e below (T.setTop (mkF m np (ls'.map (shS n0)).toArray (st2.map (shV n0)))) target → Steps p.tables e below (T.setTop (mkF m pc (ls.map (shS n0)).toArray (st.map (shV n0)))) target)
    (k : Runs K l Z n0 mi np ls' st2 H v H') : Runs K l Z n0 mi pc ls st H v H' := by
  refine ⟨k.1, k.2.1, fun p e R s m args below meth c T locs cells slots X hx hZ hc hml hret hown hnm hrel hfr hf hlo hsz hcl hsl => ?_⟩
  obtain ⟨T', locs', cells', slots', X', rel', fr', hc', hs', stp⟩ := k.2.2 p e R s m args below meth c T locs cells slots X hx hZ hc hml hret hown hnm hrel hfr hf hlo hsz hcl hsl
  exact ⟨T', locs', cells', slots', X', rel', fr', hc', hs', fun fs hr => hstep p e R s m args below meth c T locs cells slots X hx hZ hc hown _ (stp fs hr)⟩
theorem isRef_sh {n0 : Nat} {x : Value} (h : x.isRef = true) : (shV n0 x).isRef = true := by cases x <;> first | rfl | cases h
theorem P1_int {ls : List Slot} {k : Nat} {x : Int32} (h : ls[k]? = some (.val (.int x))) : P1 ls k = true := by unfold P1; rw [h]; rfl
theorem r_iloadN {k : Fin 4} {x : Int32} (hd : decode mi.2.1 pc = .ok (.iload_n k, 1) ∧ pc + 1 = np) (hl : ls[k.val]? = some (.val (.int x))) (kk : Runs K l Z n0 mi np ls (.int x :: st) H v H') : Runs K l Z n0 mi pc ls st H v H' := by
  obtain ⟨hd, rfl⟩ := hd
  exact Runs.pure (fun _ _ _ _ _ _ _ _ _ _ _ _ _ X hx hZ hc hown t h => XS.iloadN X.here hx rfl (hb hc hd) (loc_at hl) h) kk
theorem r_iload {k : Nat} {x : Int32} (hd : decode mi.2.1 pc = .ok (.iload k, 2) ∧ pc + 2 = np) (hl : ls[k]? = some (.val (.int x))) (kk : Runs K l Z n0 mi np ls (.int x :: st) H v H') : Runs K l Z n0 mi pc ls st H v H' := by
  obtain ⟨hd, rfl⟩ := hd
  exact Runs.pure (fun _ _ _ _ _ _ _ _ _ _ _ _ _ X hx hZ hc hown t h => XS.iload X.here hx rfl (hb hc hd) (loc_at hl) h) kk
theorem r_lloadN {k : Fin 4} {x : Int64} (hd : decode mi.2.1 pc = .ok (.lload_n k, 1) ∧ pc + 1 = np) (hl : ls[k.val]? = some (.val (.long x))) (kk : Runs K l Z n0 mi np ls (.long x :: st) H v H') : Runs K l Z n0 mi pc ls st H v H' := by
  obtain ⟨hd, rfl⟩ := hd
  exact Runs.pure (fun _ _ _ _ _ _ _ _ _ _ _ _ _ X hx hZ hc hown t h => XT.lloadN X.here hx rfl (hb hc hd) (loc_at hl) h) kk
theorem r_lload {k : Nat} {x : Int64} (hd : decode mi.2.1 pc = .ok (.lload k, 2) ∧ pc + 2 = np) (hl : ls[k]? = some (.val (.long x))) (kk : Runs K l Z n0 mi np ls (.long x :: st) H v H') : Runs K l Z n0 mi pc ls st H v H' := by
  obtain ⟨hd, rfl⟩ := hd
  exact Runs.pure (fun _ _ _ _ _ _ _ _ _ _ _ _ _ X hx hZ hc hown t h => XT.lload X.here hx rfl (hb hc hd) (loc_at hl) h) kk
theorem r_aloadN {k : Fin 4} {x : Value} (hd : decode mi.2.1 pc = .ok (.aload_n k, 1) ∧ pc + 1 = np) (hl : ls[k.val]? = some (.val x)) (hv : x.isRef = true) (kk : Runs K l Z n0 mi np ls (x :: st) H v H') : Runs K l Z n0 mi pc ls st H v H' := by
  obtain ⟨hd, rfl⟩ := hd
  exact Runs.pure (fun _ _ _ _ _ _ _ _ _ _ _ _ _ X hx hZ hc hown t h => XS.aloadN X.here hx rfl (hb hc hd) (loc_at hl) (isRef_sh hv) h) kk
theorem r_aload {k : Nat} {x : Value} (hd : decode mi.2.1 pc = .ok (.aload k, 2) ∧ pc + 2 = np) (hl : ls[k]? = some (.val x)) (hv : x.isRef = true) (kk : Runs K l Z n0 mi np ls (x :: st) H v H') : Runs K l Z n0 mi pc ls st H v H' := by
  obtain ⟨hd, rfl⟩ := hd
  exact Runs.pure (fun _ _ _ _ _ _ _ _ _ _ _ _ _ X hx hZ hc hown t h => XS.aload X.here hx rfl (hb hc hd) (loc_at hl) (isRef_sh hv) h) kk
theorem r_istoreN {k : Fin 4} {x : Int32} (hd : decode mi.2.1 pc = .ok (.istore_n k, 1) ∧ pc + 1 = np) (hp : P1 ls k.val = true) (hs : ls.set k.val (.val (.int x)) = ls') (kk : Runs K l Z n0 mi np ls' st H v H') : Runs K l Z n0 mi pc ls (.int x :: st) H v H' := by
  obtain ⟨hd, rfl⟩ := hd
  exact Runs.pure (fun _ _ _ _ _ _ _ _ _ _ _ _ _ X hx hZ hc hown t h => XS.istoreN X.here hx rfl (hb hc hd) rfl (st1 hp rfl hs) h) kk
theorem r_istore {k : Nat} {x : Int32} (hd : decode mi.2.1 pc = .ok (.istore k, 2) ∧ pc + 2 = np) (hp : P1 ls k = true) (hs : ls.set k (.val (.int x)) = ls') (kk : Runs K l Z n0 mi np ls' st H v H') : Runs K l Z n0 mi pc ls (.int x :: st) H v H' := by
  obtain ⟨hd, rfl⟩ := hd
  exact Runs.pure (fun _ _ _ _ _ _ _ _ _ _ _ _ _ X hx hZ hc hown t h => XS.istore X.here hx rfl (hb hc hd) rfl (st1 hp rfl hs) h) kk
theorem r_lstoreN {k : Fin 4} {x : Int64} (hd : decode mi.2.1 pc = .ok (.lstore_n k, 1) ∧ pc + 1 = np) (hp : P2 ls k.val = true) (hs : (ls.set k.val (.val (.long x))).set (k.val + 1) .second = ls') (kk : Runs K l Z n0 mi np ls' st H v H') : Runs K l Z n0 mi pc ls (.long x :: st) H v H' := by
  obtain ⟨hd, rfl⟩ := hd
  exact Runs.pure (fun _ _ _ _ _ _ _ _ _ _ _ _ _ X hx hZ hc hown t h => XT.lstoreN X.here hx rfl (hb hc hd) rfl (st2 hp rfl hs) h) kk
theorem r_lstore {k : Nat} {x : Int64} (hd : decode mi.2.1 pc = .ok (.lstore k, 2) ∧ pc + 2 = np) (hp : P2 ls k = true) (hs : (ls.set k (.val (.long x))).set (k + 1) .second = ls') (kk : Runs K l Z n0 mi np ls' st H v H') : Runs K l Z n0 mi pc ls (.long x :: st) H v H' := by
  obtain ⟨hd, rfl⟩ := hd
  exact Runs.pure (fun _ _ _ _ _ _ _ _ _ _ _ _ _ X hx hZ hc hown t h => XT.lstore X.here hx rfl (hb hc hd) rfl (st2 hp rfl hs) h) kk
theorem r_astoreN {k : Fin 4} {x : Value} (hd : decode mi.2.1 pc = .ok (.astore_n k, 1) ∧ pc + 1 = np) (hp : P1 ls k.val = true) (hv : x.isRef = true) (hs : ls.set k.val (.val x) = ls') (kk : Runs K l Z n0 mi np ls' st H v H') : Runs K l Z n0 mi pc ls (x :: st) H v H' := by
  obtain ⟨hd, rfl⟩ := hd
  exact Runs.pure (fun _ _ _ _ _ _ _ _ _ _ _ _ _ X hx hZ hc hown t h => XS.astoreN X.here hx rfl (hb hc hd) rfl (isRef_sh hv) (st1 hp (XT.cat1 hv) hs) h) kk
theorem r_astore {k : Nat} {x : Value} (hd : decode mi.2.1 pc = .ok (.astore k, 2) ∧ pc + 2 = np) (hp : P1 ls k = true) (hv : x.isRef = true) (hs : ls.set k (.val x) = ls') (kk : Runs K l Z n0 mi np ls' st H v H') : Runs K l Z n0 mi pc ls (x :: st) H v H' := by
  obtain ⟨hd, rfl⟩ := hd
  exact Runs.pure (fun _ _ _ _ _ _ _ _ _ _ _ _ _ X hx hZ hc hown t h => XS.astore X.here hx rfl (hb hc hd) rfl (isRef_sh hv) (st1 hp (XT.cat1 hv) hs) h) kk
theorem r_iadd {x y : Int32} (hd : decode mi.2.1 pc = .ok (.iadd, 1) ∧ pc + 1 = np) (kk : Runs K l Z n0 mi np ls (.int (x + y) :: st) H v H') : Runs K l Z n0 mi pc ls (.int y :: .int x :: st) H v H' := by
  obtain ⟨hd, rfl⟩ := hd
  exact Runs.pure (fun _ _ _ _ _ _ _ _ _ _ _ _ _ X hx hZ hc hown t h => XS.iadd X.here hx rfl (hb hc hd) rfl h) kk
theorem r_isub {x y : Int32} (hd : decode mi.2.1 pc = .ok (.isub, 1) ∧ pc + 1 = np) (kk : Runs K l Z n0 mi np ls (.int (x - y) :: st) H v H') : Runs K l Z n0 mi pc ls (.int y :: .int x :: st) H v H' := by
  obtain ⟨hd, rfl⟩ := hd
  exact Runs.pure (fun _ _ _ _ _ _ _ _ _ _ _ _ _ X hx hZ hc hown t h => XS.isub X.here hx rfl (hb hc hd) rfl h) kk
theorem r_imul {x y : Int32} (hd : decode mi.2.1 pc = .ok (.imul, 1) ∧ pc + 1 = np) (kk : Runs K l Z n0 mi np ls (.int (x * y) :: st) H v H') : Runs K l Z n0 mi pc ls (.int y :: .int x :: st) H v H' := by
  obtain ⟨hd, rfl⟩ := hd
  exact Runs.pure (fun _ _ _ _ _ _ _ _ _ _ _ _ _ X hx hZ hc hown t h => XS.imul X.here hx rfl (hb hc hd) rfl h) kk
theorem r_iand {x y : Int32} (hd : decode mi.2.1 pc = .ok (.iand, 1) ∧ pc + 1 = np) (kk : Runs K l Z n0 mi np ls (.int (x &&& y) :: st) H v H') : Runs K l Z n0 mi pc ls (.int y :: .int x :: st) H v H' := by
  obtain ⟨hd, rfl⟩ := hd
  exact Runs.pure (fun _ _ _ _ _ _ _ _ _ _ _ _ _ X hx hZ hc hown t h => XS.iand X.here hx rfl (hb hc hd) rfl h) kk
theorem r_ior {x y : Int32} (hd : decode mi.2.1 pc = .ok (.ior, 1) ∧ pc + 1 = np) (kk : Runs K l Z n0 mi np ls (.int (x ||| y) :: st) H v H') : Runs K l Z n0 mi pc ls (.int y :: .int x :: st) H v H' := by
  obtain ⟨hd, rfl⟩ := hd
  exact Runs.pure (fun _ _ _ _ _ _ _ _ _ _ _ _ _ X hx hZ hc hown t h => XT.ior X.here hx rfl (hb hc hd) rfl h) kk
theorem r_ixor {x y : Int32} (hd : decode mi.2.1 pc = .ok (.ixor, 1) ∧ pc + 1 = np) (kk : Runs K l Z n0 mi np ls (.int (x ^^^ y) :: st) H v H') : Runs K l Z n0 mi pc ls (.int y :: .int x :: st) H v H' := by
  obtain ⟨hd, rfl⟩ := hd
  exact Runs.pure (fun _ _ _ _ _ _ _ _ _ _ _ _ _ X hx hZ hc hown t h => XT.ixor X.here hx rfl (hb hc hd) rfl h) kk
theorem r_ishl {x y : Int32} (hd : decode mi.2.1 pc = .ok (.ishl, 1) ∧ pc + 1 = np) (kk : Runs K l Z n0 mi np ls (.int (x <<< (y &&& 31)) :: st) H v H') : Runs K l Z n0 mi pc ls (.int y :: .int x :: st) H v H' := by
  obtain ⟨hd, rfl⟩ := hd
  exact Runs.pure (fun _ _ _ _ _ _ _ _ _ _ _ _ _ X hx hZ hc hown t h => XT.ishl X.here hx rfl (hb hc hd) rfl h) kk
theorem r_ishr {x y : Int32} (hd : decode mi.2.1 pc = .ok (.ishr, 1) ∧ pc + 1 = np) (kk : Runs K l Z n0 mi np ls (.int (x >>> (y &&& 31)) :: st) H v H') : Runs K l Z n0 mi pc ls (.int y :: .int x :: st) H v H' := by
  obtain ⟨hd, rfl⟩ := hd
  exact Runs.pure (fun _ _ _ _ _ _ _ _ _ _ _ _ _ X hx hZ hc hown t h => XT.ishr X.here hx rfl (hb hc hd) rfl h) kk
theorem r_iushr {x y : Int32} (hd : decode mi.2.1 pc = .ok (.iushr, 1) ∧ pc + 1 = np) (kk : Runs K l Z n0 mi np ls (.int (XT.ushr x y) :: st) H v H') : Runs K l Z n0 mi pc ls (.int y :: .int x :: st) H v H' := by
  obtain ⟨hd, rfl⟩ := hd
  exact Runs.pure (fun _ _ _ _ _ _ _ _ _ _ _ _ _ X hx hZ hc hown t h => XT.iushr X.here hx rfl (hb hc hd) rfl h) kk
theorem r_idiv {x y : Int32} (hd : decode mi.2.1 pc = .ok (.idiv, 1) ∧ pc + 1 = np) (hy : y ≠ 0) (kk : Runs K l Z n0 mi np ls (.int (x / y) :: st) H v H') : Runs K l Z n0 mi pc ls (.int y :: .int x :: st) H v H' := by
  obtain ⟨hd, rfl⟩ := hd
  exact Runs.pure (fun _ _ _ _ _ _ _ _ _ _ _ _ _ X hx hZ hc hown t h => XS.idiv X.here hx rfl (hb hc hd) rfl hy h) kk
theorem r_irem {x y : Int32} (hd : decode mi.2.1 pc = .ok (.irem, 1) ∧ pc + 1 = np) (hy : y ≠ 0) (kk : Runs K l Z n0 mi np ls (.int (x % y) :: st) H v H') : Runs K l Z n0 mi pc ls (.int y :: .int x :: st) H v H' := by
  obtain ⟨hd, rfl⟩ := hd
  exact Runs.pure (fun _ _ _ _ _ _ _ _ _ _ _ _ _ X hx hZ hc hown t h => iremM X hx rfl (hb hc hd) rfl hy h) kk
theorem r_ladd {x y : Int64} (hd : decode mi.2.1 pc = .ok (.ladd, 1) ∧ pc + 1 = np) (kk : Runs K l Z n0 mi np ls (.long (x + y) :: st) H v H') : Runs K l Z n0 mi pc ls (.long y :: .long x :: st) H v H' := by
  obtain ⟨hd, rfl⟩ := hd
  exact Runs.pure (fun _ _ _ _ _ _ _ _ _ _ _ _ _ X hx hZ hc hown t h => XT.ladd X.here hx rfl (hb hc hd) rfl h) kk
theorem r_lsub {x y : Int64} (hd : decode mi.2.1 pc = .ok (.lsub, 1) ∧ pc + 1 = np) (kk : Runs K l Z n0 mi np ls (.long (x - y) :: st) H v H') : Runs K l Z n0 mi pc ls (.long y :: .long x :: st) H v H' := by
  obtain ⟨hd, rfl⟩ := hd
  exact Runs.pure (fun _ _ _ _ _ _ _ _ _ _ _ _ _ X hx hZ hc hown t h => XT.lsub X.here hx rfl (hb hc hd) rfl h) kk
theorem r_lmul {x y : Int64} (hd : decode mi.2.1 pc = .ok (.lmul, 1) ∧ pc + 1 = np) (kk : Runs K l Z n0 mi np ls (.long (x * y) :: st) H v H') : Runs K l Z n0 mi pc ls (.long y :: .long x :: st) H v H' := by
  obtain ⟨hd, rfl⟩ := hd
  exact Runs.pure (fun _ _ _ _ _ _ _ _ _ _ _ _ _ X hx hZ hc hown t h => XT.lmul X.here hx rfl (hb hc hd) rfl h) kk
theorem r_land {x y : Int64} (hd : decode mi.2.1 pc = .ok (.land, 1) ∧ pc + 1 = np) (kk : Runs K l Z n0 mi np ls (.long (x &&& y) :: st) H v H') : Runs K l Z n0 mi pc ls (.long y :: .long x :: st) H v H' := by
  obtain ⟨hd, rfl⟩ := hd
  exact Runs.pure (fun _ _ _ _ _ _ _ _ _ _ _ _ _ X hx hZ hc hown t h => XT.land X.here hx rfl (hb hc hd) rfl h) kk
theorem r_lor {x y : Int64} (hd : decode mi.2.1 pc = .ok (.lor, 1) ∧ pc + 1 = np) (kk : Runs K l Z n0 mi np ls (.long (x ||| y) :: st) H v H') : Runs K l Z n0 mi pc ls (.long y :: .long x :: st) H v H' := by
  obtain ⟨hd, rfl⟩ := hd
  exact Runs.pure (fun _ _ _ _ _ _ _ _ _ _ _ _ _ X hx hZ hc hown t h => XT.lor X.here hx rfl (hb hc hd) rfl h) kk
theorem r_lxor {x y : Int64} (hd : decode mi.2.1 pc = .ok (.lxor, 1) ∧ pc + 1 = np) (kk : Runs K l Z n0 mi np ls (.long (x ^^^ y) :: st) H v H') : Runs K l Z n0 mi pc ls (.long y :: .long x :: st) H v H' := by
  obtain ⟨hd, rfl⟩ := hd
  exact Runs.pure (fun _ _ _ _ _ _ _ _ _ _ _ _ _ X hx hZ hc hown t h => XT.lxor X.here hx rfl (hb hc hd) rfl h) kk
theorem r_lshl {x : Int64} {y : Int32} (hd : decode mi.2.1 pc = .ok (.lshl, 1) ∧ pc + 1 = np) (kk : Runs K l Z n0 mi np ls (.long (x <<< (y.toInt64 &&& 63)) :: st) H v H') : Runs K l Z n0 mi pc ls (.int y :: .long x :: st) H v H' := by
  obtain ⟨hd, rfl⟩ := hd
  exact Runs.pure (fun _ _ _ _ _ _ _ _ _ _ _ _ _ X hx hZ hc hown t h => XT.lshl X.here hx rfl (hb hc hd) rfl h) kk
theorem r_lshr {x : Int64} {y : Int32} (hd : decode mi.2.1 pc = .ok (.lshr, 1) ∧ pc + 1 = np) (kk : Runs K l Z n0 mi np ls (.long (x >>> (y.toInt64 &&& 63)) :: st) H v H') : Runs K l Z n0 mi pc ls (.int y :: .long x :: st) H v H' := by
  obtain ⟨hd, rfl⟩ := hd
  exact Runs.pure (fun _ _ _ _ _ _ _ _ _ _ _ _ _ X hx hZ hc hown t h => XT.lshr X.here hx rfl (hb hc hd) rfl h) kk
theorem r_lushr {x : Int64} {y : Int32} (hd : decode mi.2.1 pc = .ok (.lushr, 1) ∧ pc + 1 = np) (kk : Runs K l Z n0 mi np ls (.long (XT.ushrL x y) :: st) H v H') : Runs K l Z n0 mi pc ls (.int y :: .long x :: st) H v H' := by
  obtain ⟨hd, rfl⟩ := hd
  exact Runs.pure (fun _ _ _ _ _ _ _ _ _ _ _ _ _ X hx hZ hc hown t h => XT.lushr X.here hx rfl (hb hc hd) rfl h) kk
theorem r_ldiv {x y : Int64} (hd : decode mi.2.1 pc = .ok (.ldiv, 1) ∧ pc + 1 = np) (hy : y ≠ 0) (kk : Runs K l Z n0 mi np ls (.long (x / y) :: st) H v H') : Runs K l Z n0 mi pc ls (.long y :: .long x :: st) H v H' := by
  obtain ⟨hd, rfl⟩ := hd
  exact Runs.pure (fun _ _ _ _ _ _ _ _ _ _ _ _ _ X hx hZ hc hown t h => XT.ldiv X.here hx rfl (hb hc hd) rfl hy h) kk
theorem r_lrem {x y : Int64} (hd : decode mi.2.1 pc = .ok (.lrem, 1) ∧ pc + 1 = np) (hy : y ≠ 0) (kk : Runs K l Z n0 mi np ls (.long (x % y) :: st) H v H') : Runs K l Z n0 mi pc ls (.long y :: .long x :: st) H v H' := by
  obtain ⟨hd, rfl⟩ := hd
  exact Runs.pure (fun _ _ _ _ _ _ _ _ _ _ _ _ _ X hx hZ hc hown t h => XT.lrem X.here hx rfl (hb hc hd) rfl hy (by rw [lrem_mod]; exact h)) kk
theorem r_lcmp {x y : Int64} (hd : decode mi.2.1 pc = .ok (.lcmp, 1) ∧ pc + 1 = np) (kk : Runs K l Z n0 mi np ls (.int (XT.cmpL x y) :: st) H v H') : Runs K l Z n0 mi pc ls (.long y :: .long x :: st) H v H' := by
  obtain ⟨hd, rfl⟩ := hd
  exact Runs.pure (fun _ _ _ _ _ _ _ _ _ _ _ _ _ X hx hZ hc hown t h => XT.lcmp X.here hx rfl (hb hc hd) rfl h) kk
theorem r_ineg {x : Int32} (hd : decode mi.2.1 pc = .ok (.ineg, 1) ∧ pc + 1 = np) (kk : Runs K l Z n0 mi np ls (.int (-x) :: st) H v H') : Runs K l Z n0 mi pc ls (.int x :: st) H v H' := by
  obtain ⟨hd, rfl⟩ := hd
  exact Runs.pure (fun _ _ _ _ _ _ _ _ _ _ _ _ _ X hx hZ hc hown t h => XS.ineg X.here hx rfl (hb hc hd) rfl h) kk
theorem r_lneg {x : Int64} (hd : decode mi.2.1 pc = .ok (.lneg, 1) ∧ pc + 1 = np) (kk : Runs K l Z n0 mi np ls (.long (-x) :: st) H v H') : Runs K l Z n0 mi pc ls (.long x :: st) H v H' := by
  obtain ⟨hd, rfl⟩ := hd
  exact Runs.pure (fun _ _ _ _ _ _ _ _ _ _ _ _ _ X hx hZ hc hown t h => XT.lneg X.here hx rfl (hb hc hd) rfl h) kk
theorem r_i2l {x : Int32} (hd : decode mi.2.1 pc = .ok (.i2l, 1) ∧ pc + 1 = np) (kk : Runs K l Z n0 mi np ls (.long x.toInt64 :: st) H v H') : Runs K l Z n0 mi pc ls (.int x :: st) H v H' := by
  obtain ⟨hd, rfl⟩ := hd
  exact Runs.pure (fun _ _ _ _ _ _ _ _ _ _ _ _ _ X hx hZ hc hown t h => XT.i2l X.here hx rfl (hb hc hd) rfl h) kk
theorem r_l2i {x : Int64} (hd : decode mi.2.1 pc = .ok (.l2i, 1) ∧ pc + 1 = np) (kk : Runs K l Z n0 mi np ls (.int x.toInt32 :: st) H v H') : Runs K l Z n0 mi pc ls (.long x :: st) H v H' := by
  obtain ⟨hd, rfl⟩ := hd
  exact Runs.pure (fun _ _ _ _ _ _ _ _ _ _ _ _ _ X hx hZ hc hown t h => XT.l2i X.here hx rfl (hb hc hd) rfl h) kk
theorem r_i2b {x : Int32} (hd : decode mi.2.1 pc = .ok (.i2b, 1) ∧ pc + 1 = np) (kk : Runs K l Z n0 mi np ls (.int x.toInt8.toInt32 :: st) H v H') : Runs K l Z n0 mi pc ls (.int x :: st) H v H' := by
  obtain ⟨hd, rfl⟩ := hd
  exact Runs.pure (fun _ _ _ _ _ _ _ _ _ _ _ _ _ X hx hZ hc hown t h => XT.i2b X.here hx rfl (hb hc hd) rfl h) kk
theorem r_i2s {x : Int32} (hd : decode mi.2.1 pc = .ok (.i2s, 1) ∧ pc + 1 = np) (kk : Runs K l Z n0 mi np ls (.int x.toInt16.toInt32 :: st) H v H') : Runs K l Z n0 mi pc ls (.int x :: st) H v H' := by
  obtain ⟨hd, rfl⟩ := hd
  exact Runs.pure (fun _ _ _ _ _ _ _ _ _ _ _ _ _ X hx hZ hc hown t h => XT.i2s X.here hx rfl (hb hc hd) rfl h) kk
theorem r_i2c {x : Int32} (hd : decode mi.2.1 pc = .ok (.i2c, 1) ∧ pc + 1 = np) (kk : Runs K l Z n0 mi np ls (.int x.toUInt32.toUInt16.toUInt32.toInt32 :: st) H v H') : Runs K l Z n0 mi pc ls (.int x :: st) H v H' := by
  obtain ⟨hd, rfl⟩ := hd
  exact Runs.pure (fun _ _ _ _ _ _ _ _ _ _ _ _ _ X hx hZ hc hown t h => XT.i2c X.here hx rfl (hb hc hd) rfl h) kk
theorem r_dup {x : Value} (hd : decode mi.2.1 pc = .ok (.dup, 1) ∧ pc + 1 = np) (hx1 : x.category = 1) (kk : Runs K l Z n0 mi np ls (x :: x :: st) H v H') : Runs K l Z n0 mi pc ls (x :: st) H v H' := by
  obtain ⟨hd, rfl⟩ := hd
  exact Runs.pure (fun _ _ _ _ _ _ _ _ _ _ _ _ _ X hx hZ hc hown t h => XS.dup X.here hx rfl (hb hc hd) rfl ((cat_sh _ _).trans hx1) h) kk
theorem r_pop {x : Value} (hd : decode mi.2.1 pc = .ok (.pop, 1) ∧ pc + 1 = np) (hx1 : x.category = 1) (kk : Runs K l Z n0 mi np ls st H v H') : Runs K l Z n0 mi pc ls (x :: st) H v H' := by
  obtain ⟨hd, rfl⟩ := hd
  exact Runs.pure (fun _ _ _ _ _ _ _ _ _ _ _ _ _ X hx hZ hc hown t h => XT.pop X.here hx rfl (hb hc hd) rfl ((cat_sh _ _).trans hx1) h) kk
theorem r_dupX1 {x y : Value} (hd : decode mi.2.1 pc = .ok (.dup_x1, 1) ∧ pc + 1 = np) (hx1 : x.category = 1) (hy1 : y.category = 1) (kk : Runs K l Z n0 mi np ls (x :: y :: x :: st) H v H') : Runs K l Z n0 mi pc ls (x :: y :: st) H v H' := by
  obtain ⟨hd, rfl⟩ := hd
  exact Runs.pure (fun _ _ _ _ _ _ _ _ _ _ _ _ _ X hx hZ hc hown t h => XT.dupX1 X.here hx rfl (hb hc hd) rfl ((cat_sh _ _).trans hx1) ((cat_sh _ _).trans hy1) h) kk
theorem r_dup2 {x y : Value} (hd : decode mi.2.1 pc = .ok (.dup2, 1) ∧ pc + 1 = np) (hx1 : x.category = 1) (hy1 : y.category = 1) (kk : Runs K l Z n0 mi np ls (x :: y :: x :: y :: st) H v H') : Runs K l Z n0 mi pc ls (x :: y :: st) H v H' := by
  obtain ⟨hd, rfl⟩ := hd
  exact Runs.pure (fun _ _ _ _ _ _ _ _ _ _ _ _ _ X hx hZ hc hown t h => XT.dup2 X.here hx rfl (hb hc hd) rfl ((cat_sh _ _).trans hx1) ((cat_sh _ _).trans hy1) h) kk
theorem r_dup2L {x : Int64} (hd : decode mi.2.1 pc = .ok (.dup2, 1) ∧ pc + 1 = np) (kk : Runs K l Z n0 mi np ls (.long x :: .long x :: st) H v H') : Runs K l Z n0 mi pc ls (.long x :: st) H v H' := by
  obtain ⟨hd, rfl⟩ := hd
  exact Runs.pure (fun _ _ _ _ _ _ _ _ _ _ _ _ _ X hx hZ hc hown t h => XT.dup2L X.here hx rfl (hb hc hd) rfl h) kk
theorem r_aconstNull  (hd : decode mi.2.1 pc = .ok (.aconst_null, 1) ∧ pc + 1 = np) (kk : Runs K l Z n0 mi np ls (.null :: st) H v H') : Runs K l Z n0 mi pc ls st H v H' := by
  obtain ⟨hd, rfl⟩ := hd
  exact Runs.pure (fun _ _ _ _ _ _ _ _ _ _ _ _ _ X hx hZ hc hown t h => XS.aconstNull X.here hx rfl (hb hc hd) h) kk
theorem r_iconst {i : Int} {x : Int32} (hd : decode mi.2.1 pc = .ok (.iconst i, 1) ∧ pc + 1 = np ∧ Int32.ofInt i = x) (kk : Runs K l Z n0 mi np ls (.int x :: st) H v H') : Runs K l Z n0 mi pc ls st H v H' := by
  obtain ⟨hd, rfl, hx0⟩ := hd
  exact Runs.pure (fun _ _ _ _ _ _ _ _ _ _ _ _ _ X hx hZ hc hown t h => XT.iconstV X.here hx rfl x (hb hc hd) hx0 h) kk
theorem r_bipush {i : Int} {x : Int32} (hd : decode mi.2.1 pc = .ok (.bipush i, 2) ∧ pc + 2 = np ∧ (Int8.ofInt i).toInt32 = x) (kk : Runs K l Z n0 mi np ls (.int x :: st) H v H') : Runs K l Z n0 mi pc ls st H v H' := by
  obtain ⟨hd, rfl, hx0⟩ := hd
  exact Runs.pure (fun _ _ _ _ _ _ _ _ _ _ _ _ _ X hx hZ hc hown t h => XT.bipushV X.here hx rfl x (hb hc hd) hx0 h) kk
theorem r_sipush {i : Int} {x : Int32} (hd : decode mi.2.1 pc = .ok (.sipush i, 3) ∧ pc + 3 = np ∧ (Int16.ofInt i).toInt32 = x) (kk : Runs K l Z n0 mi np ls (.int x :: st) H v H') : Runs K l Z n0 mi pc ls st H v H' := by
  obtain ⟨hd, rfl, hx0⟩ := hd
  exact Runs.pure (fun _ _ _ _ _ _ _ _ _ _ _ _ _ X hx hZ hc hown t h => XT.sipushV X.here hx rfl x (hb hc hd) hx0 h) kk
theorem r_lconst {i : Fin 2} {x : Int64} (hd : decode mi.2.1 pc = .ok (.lconst i, 1) ∧ pc + 1 = np ∧ Int64.ofNat i = x) (kk : Runs K l Z n0 mi np ls (.long x :: st) H v H') : Runs K l Z n0 mi pc ls st H v H' := by
  obtain ⟨hd, rfl, hx0⟩ := hd
  exact Runs.pure (fun _ _ _ _ _ _ _ _ _ _ _ _ _ X hx hZ hc hown t h => XT.lconstV X.here hx rfl x (hb hc hd) hx0 h) kk
theorem r_ldc {i : Nat} {x : Int32} (hd : decode mi.2.1 pc = .ok (.ldc i, 2) ∧ pc + 2 = np) (w : (Jvm.Cond.constant mi.1.cls i x).before a0 Z = true) (kk : Runs K l Z n0 mi np ls (.int x :: st) H v H') : Runs K l Z n0 mi pc ls st H v H' := by
  obtain ⟨hd, rfl⟩ := hd
  exact Runs.pure (fun _ _ _ _ _ _ _ _ _ _ _ _ _ X hx hZ hc hown t h => X.ldcI hx hown (mv hZ w) rfl (hb hc hd) h) kk
theorem r_ldcW {i : Nat} {x : Int32} (hd : decode mi.2.1 pc = .ok (.ldc_w i, 3) ∧ pc + 3 = np) (w : (Jvm.Cond.constant mi.1.cls i x).before a0 Z = true) (kk : Runs K l Z n0 mi np ls (.int x :: st) H v H') : Runs K l Z n0 mi pc ls st H v H' := by
  obtain ⟨hd, rfl⟩ := hd
  exact Runs.pure (fun _ _ _ _ _ _ _ _ _ _ _ _ _ X hx hZ hc hown t h => X.ldcWI hx hown (mv hZ w) rfl (hb hc hd) h) kk
theorem r_ldc2 {i : Nat} {x : Int64} (hd : decode mi.2.1 pc = .ok (.ldc2_w i, 3) ∧ pc + 3 = np) (w : (Jvm.Cond.constantLong mi.1.cls i x).before a0 Z = true) (kk : Runs K l Z n0 mi np ls (.long x :: st) H v H') : Runs K l Z n0 mi pc ls st H v H' := by
  obtain ⟨hd, rfl⟩ := hd
  exact Runs.pure (fun _ _ _ _ _ _ _ _ _ _ _ _ _ X hx hZ hc hown t h => X.ldc2J hx hown (mv hZ w) rfl (hb hc hd) h) kk
theorem r_iinc {k : Nat} {i : Int} {x y : Int32} (hd : decode mi.2.1 pc = .ok (.iinc k i, 3) ∧ pc + 3 = np ∧ Int32.ofInt i = y) (hl : ls[k]? = some (.val (.int x))) (hs : ls.set k (.val (.int (x + y))) = ls') (kk : Runs K l Z n0 mi np ls' st H v H') : Runs K l Z n0 mi pc ls st H v H' := by
  obtain ⟨hd, rfl, hx0⟩ := hd
  exact Runs.pure (fun _ _ _ _ _ _ _ _ _ _ _ _ _ X hx hZ hc hown t h => XT.iincV X.here hx rfl y (hb hc hd) hx0 (loc_at hl) (st1 (P1_int hl) rfl hs) h) kk
theorem r_goto  {o : Int} (hd : decode mi.2.1 pc = .ok (.goto o, 3) ∧ pc + 3 = np ∧ 0 ≤ (pc : Int) + o ∧ ((pc : Int) + o).toNat = tp) (kk : Runs K l Z n0 mi tp ls st H v H') : Runs K l Z n0 mi pc ls st H v H' := by
  obtain ⟨hd, hn, h1, h2⟩ := hd
  exact Runs.pure (fun _ _ _ _ _ _ _ _ _ _ _ _ _ X hx hZ hc hown t h => XS.goto X.here hx rfl rfl (hb hc hd) h1 h2 h) kk
theorem r_ifT {cd : ClassFile.Cond} {x : Int32} {o : Int} (hd : decode mi.2.1 pc = .ok (.ifCond cd o, 3) ∧ pc + 3 = np ∧ 0 ≤ (pc : Int) + o ∧ ((pc : Int) + o).toNat = tp) (hq : ifCond.holds cd x = true) (kk : Runs K l Z n0 mi tp ls st H v H') : Runs K l Z n0 mi pc ls (.int x :: st) H v H' := by
  obtain ⟨hd, hn, h1, h2⟩ := hd
  exact Runs.pure (fun _ _ _ _ _ _ _ _ _ _ _ _ _ X hx hZ hc hown t h => XS.ifYes X.here hx rfl rfl (hb hc hd) rfl hq h1 h2 h) kk
theorem r_ifF {cd : ClassFile.Cond} {x : Int32} {o : Int} (hd : decode mi.2.1 pc = .ok (.ifCond cd o, 3) ∧ pc + 3 = np ∧ 0 ≤ (pc : Int) + o ∧ ((pc : Int) + o).toNat = tp) (hq : ifCond.holds cd x = false) (kk : Runs K l Z n0 mi np ls st H v H') : Runs K l Z n0 mi pc ls (.int x :: st) H v H' := by
  obtain ⟨hd, rfl, h1, h2⟩ := hd
  exact Runs.pure (fun _ _ _ _ _ _ _ _ _ _ _ _ _ X hx hZ hc hown t h => XS.ifNo X.here hx rfl (hb hc hd) rfl hq h) kk
theorem r_icT {cd : ClassFile.Cond} {x y : Int32} {o : Int} (hd : decode mi.2.1 pc = .ok (.if_icmp cd o, 3) ∧ pc + 3 = np ∧ 0 ≤ (pc : Int) + o ∧ ((pc : Int) + o).toNat = tp) (hq : if_icmp.holds cd x y = true) (kk : Runs K l Z n0 mi tp ls st H v H') : Runs K l Z n0 mi pc ls (.int y :: .int x :: st) H v H' := by
  obtain ⟨hd, hn, h1, h2⟩ := hd
  exact Runs.pure (fun _ _ _ _ _ _ _ _ _ _ _ _ _ X hx hZ hc hown t h => XS.icmpYes X.here hx rfl rfl (hb hc hd) rfl hq h1 h2 h) kk
theorem r_icF {cd : ClassFile.Cond} {x y : Int32} {o : Int} (hd : decode mi.2.1 pc = .ok (.if_icmp cd o, 3) ∧ pc + 3 = np ∧ 0 ≤ (pc : Int) + o ∧ ((pc : Int) + o).toNat = tp) (hq : if_icmp.holds cd x y = false) (kk : Runs K l Z n0 mi np ls st H v H') : Runs K l Z n0 mi pc ls (.int y :: .int x :: st) H v H' := by
  obtain ⟨hd, rfl, h1, h2⟩ := hd
  exact Runs.pure (fun _ _ _ _ _ _ _ _ _ _ _ _ _ X hx hZ hc hown t h => XS.icmpNo X.here hx rfl (hb hc hd) rfl hq h) kk
theorem r_nullT  {o : Int} (hd : decode mi.2.1 pc = .ok (.ifnull o, 3) ∧ pc + 3 = np ∧ 0 ≤ (pc : Int) + o ∧ ((pc : Int) + o).toNat = tp) (kk : Runs K l Z n0 mi tp ls st H v H') : Runs K l Z n0 mi pc ls (.null :: st) H v H' := by
  obtain ⟨hd, hn, h1, h2⟩ := hd
  exact Runs.pure (fun _ _ _ _ _ _ _ _ _ _ _ _ _ X hx hZ hc hown t h => XS.ifnullYes X.here hx rfl rfl (hb hc hd) rfl h1 h2 h) kk
theorem r_nullF {a : Addr} {o : Int} (hd : decode mi.2.1 pc = .ok (.ifnull o, 3) ∧ pc + 3 = np ∧ 0 ≤ (pc : Int) + o ∧ ((pc : Int) + o).toNat = tp) (kk : Runs K l Z n0 mi np ls st H v H') : Runs K l Z n0 mi pc ls (.ref a :: st) H v H' := by
  obtain ⟨hd, rfl, h1, h2⟩ := hd
  exact Runs.pure (fun _ _ _ _ _ _ _ _ _ _ _ _ _ X hx hZ hc hown t h => XS.ifnullNo X.here hx rfl (hb hc hd) rfl h) kk
theorem r_nonnullT {a : Addr} {o : Int} (hd : decode mi.2.1 pc = .ok (.ifnonnull o, 3) ∧ pc + 3 = np ∧ 0 ≤ (pc : Int) + o ∧ ((pc : Int) + o).toNat = tp) (kk : Runs K l Z n0 mi tp ls st H v H') : Runs K l Z n0 mi pc ls (.ref a :: st) H v H' := by
  obtain ⟨hd, hn, h1, h2⟩ := hd
  exact Runs.pure (fun _ _ _ _ _ _ _ _ _ _ _ _ _ X hx hZ hc hown t h => XT.ifnonnullYes X.here hx rfl rfl (hb hc hd) rfl h1 h2 h) kk
theorem r_nonnullF  {o : Int} (hd : decode mi.2.1 pc = .ok (.ifnonnull o, 3) ∧ pc + 3 = np ∧ 0 ≤ (pc : Int) + o ∧ ((pc : Int) + o).toNat = tp) (kk : Runs K l Z n0 mi np ls st H v H') : Runs K l Z n0 mi pc ls (.null :: st) H v H' := by
  obtain ⟨hd, rfl, h1, h2⟩ := hd
  exact Runs.pure (fun _ _ _ _ _ _ _ _ _ _ _ _ _ X hx hZ hc hown t h => XT.ifnonnullNo X.here hx rfl (hb hc hd) rfl h) kk
/-- a step that may turn the heap -/
theorem Runs.heap {st2 : List Value} (m1 : H.length ≤ H1.length) (m2 : szs K H ≤ szs K H1) (hstep : ∀ (p : Program) (e : Env) (R : Room) (s : State) (m : MethodId) (args : Array Value) (below : List Frame) (meth : Method) (c : Code) (T : State) (locs : List Loc) (cells slots : Nat),
      Stand p l e R s m args below meth c T locs cells slots → p.tables.exec = Jvm.exec → Z.Warmed39 s.vm → c.code = mi.2.1 → c.maxLocals = mi.2.2.1 → s.vm.findClass mi.1.cls = some m.cls → meth.name = mi.1.name → Rel K Z n0 H T.heap → Fr n0 locs → mi.2.2.2.2.1 ≤ R.frames → mi.2.2.2.2.2 ≤ R.locals →
      s.heap.size + cells = n0 + H.length → cells + H1.length ≤ R.cells + H.length → slots + szs K H1 ≤ R.slots + szs K H →
      ∃ (T1 : State) (locs1 : List Loc) (cells1 slots1 : Nat), Stand p l e R s m args below meth c T1 locs1 cells1 slots1 ∧ Rel K Z n0 H1 T1.heap ∧ Fr n0 locs1 ∧ s.heap.size + cells1 = n0 + H1.length ∧ slots1 + szs K H ≤ slots + szs K H1 ∧
        ∀ target, Steps p.tables e below (T1.setTop (mkF m np (ls'.map (shS n0)).toArray (st2.map (shV n0)))) target → Steps p.tables e below (T.setTop (mkF m pc (ls.map (shS n0)).toArray (st.map (shV n0)))) target)
    (k : Runs K l Z n0 mi np ls' st2 H1 v H') : Runs K l Z n0 mi pc ls st H v H' := by
  have k1 := k.1
  have k2 := k.2.1
  refine ⟨Nat.le_trans m1 k1, Nat.le_trans m2 k2, fun p e R s m args below meth c T locs cells slots X hx hZ hc hml hret hown hnm hrel hfr hf hlo hsz hcl hsl => ?_⟩
  obtain ⟨T1, locs1, cells1, slots1, X1, rel1, fr1, hc1, hs1, st1⟩ := hstep p e R s m args below meth c T locs cells slots X hx hZ hc hml hown hnm hrel hfr hf hlo hsz (by omega) (by omega)
  obtain ⟨T', locs', cells', slots', X', rel', fr', hc', hs', stp⟩ := k.2.2 p e R s m args below meth c T1 locs1 cells1 slots1 X1 hx hZ hc hml hret hown hnm rel1 fr1 hf hlo hc1 (by omega) (by omega)
  exact ⟨T', locs', cells', slots', X', rel', fr', hc', by omega, fun fs hr => st1 _ (stp fs hr)⟩
theorem r_ret {x : Value} {t : FieldType} {i : Instr} (hd : decode mi.2.1 pc = .ok (i, 1)) (hret : mi.2.2.2.1 = some t) (hn : narrow t x = x)
    (hi : (i = .ireturn ∧ (t = .int ∨ t = .boolean ∨ t = .byte ∨ t = .char ∨ t = .short) ∧ ∃ z, x = .int z) ∨ (i = .lreturn ∧ t = .long ∧ ∃ z, x = .long z) ∨ (i = .areturn ∧ t.isReference = true ∧ x.isRef = true)) : Runs K l Z n0 mi pc ls (x :: st) H (some x) H := by
  refine ⟨Nat.le_refl _, Nat.le_refl _, fun p e R s m args below meth c T locs cells slots X hx hZ hc hml hret' hown hnm hrel hfr hf hlo hsz hcl hsl => ⟨T, locs, cells, slots, X, hrel, hfr, hsz, Nat.le_refl _, fun fs hr => ?_⟩⟩
  have hn' : narrow t (shV n0 x) = shV n0 x := by
    rcases hi with ⟨-, -, z, rfl⟩ | ⟨-, -, z, rfl⟩ | ⟨-, -, q⟩
    · exact hn
    · exact hn
    · cases x <;> first | (cases q; done) | (cases t <;> rfl)
  refine retOut X hx (hret'.trans hret) hn' ?_ (hb hc hd) hr
  rcases hi with ⟨h1, h2, z, rfl⟩ | ⟨h1, h2, z, rfl⟩ | ⟨h1, h2, q⟩
  · exact Or.inl ⟨h1, h2, z, rfl⟩
  · exact Or.inr (Or.inl ⟨h1, h2, z, rfl⟩)
  · exact Or.inr (Or.inr (Or.inr (Or.inr ⟨h1, h2, isRef_sh q⟩)))
theorem r_ireturn {z : Int32} (hd : decode mi.2.1 pc = .ok (.ireturn, 1)) (hret : mi.2.2.2.1 = some .int) : Runs K l Z n0 mi pc ls (.int z :: st) H (some (.int z)) H := r_ret hd hret rfl (Or.inl ⟨rfl, Or.inl rfl, z, rfl⟩)
theorem r_ireturnE {z z' : Int32} (hd : decode mi.2.1 pc = .ok (.ireturn, 1)) (hret : mi.2.2.2.1 = some .int) (h : z = z') : Runs K l Z n0 mi pc ls (.int z :: st) H (some (.int z')) H := h ▸ r_ireturn hd hret
theorem r_zreturn {z : Int32} (hd : decode mi.2.1 pc = .ok (.ireturn, 1)) (hret : mi.2.2.2.1 = some .boolean) (hz : z = 0 ∨ z = 1) : Runs K l Z n0 mi pc ls (.int z :: st) H (some (.int z)) H := r_ret hd hret (by rcases hz with rfl | rfl <;> rfl) (Or.inl ⟨rfl, Or.inr (Or.inl rfl), z, rfl⟩)
theorem r_lreturn {z : Int64} (hd : decode mi.2.1 pc = .ok (.lreturn, 1)) (hret : mi.2.2.2.1 = some .long) : Runs K l Z n0 mi pc ls (.long z :: st) H (some (.long z)) H := r_ret hd hret rfl (Or.inr (Or.inl ⟨rfl, rfl, z, rfl⟩))
theorem r_areturn {x : Value} {t : FieldType} (hd : decode mi.2.1 pc = .ok (.areturn, 1)) (hret : mi.2.2.2.1 = some t) (ht : t.isReference = true) (hx : x.isRef = true) : Runs K l Z n0 mi pc ls (x :: st) H (some x) H := r_ret hd hret (by cases x <;> first | (cases hx; done) | (cases t <;> rfl)) (Or.inr (Or.inr ⟨rfl, ht, hx⟩))
theorem r_return (hd : decode mi.2.1 pc = .ok (.return_, 1)) (hret : mi.2.2.2.1 = none) : Runs K l Z n0 mi pc ls [] H none H := by
  refine ⟨Nat.le_refl _, Nat.le_refl _, fun p e R s m args below meth c T locs cells slots X hx hZ hc hml hret' hown hnm hrel hfr hf hlo hsz hcl hsl => ⟨T, locs, cells, slots, X, hrel, hfr, hsz, Nat.le_refl _, fun fs hr => ?_⟩⟩
  exact X.returnOut hx (hret'.trans hret) (hb hc hd) hr
theorem r_tswIn {dflt low high o : Int} {offs : Array Int} {len : Nat} {i : Int32} (hd : decode mi.2.1 pc = .ok (.tableswitch dflt low high offs, len)) (hin : ¬ (i.toInt < low ∨ i.toInt > high)) (hoff : offs[(i.toInt - low).toNat]? = some o) (ho : 0 ≤ (pc : Int) + o) (hp : ((pc : Int) + o).toNat = tp)
    (kk : Runs K l Z n0 mi tp ls st H v H') : Runs K l Z n0 mi pc ls (.int i :: st) H v H' :=
  Runs.pure (fun _ _ _ _ _ _ _ _ _ _ _ _ _ X hx hZ hc hown t h => XS.tswIn X.here hx rfl rfl (hb hc hd) rfl hin hoff ho hp h) kk
theorem r_tswOut {dflt low high : Int} {offs : Array Int} {len : Nat} {i : Int32} (hd : decode mi.2.1 pc = .ok (.tableswitch dflt low high offs, len)) (hout : i.toInt < low ∨ i.toInt > high) (ho : 0 ≤ (pc : Int) + dflt) (hp : ((pc : Int) + dflt).toNat = tp)
    (kk : Runs K l Z n0 mi tp ls st H v H') : Runs K l Z n0 mi pc ls (.int i :: st) H v H' :=
  Runs.pure (fun _ _ _ _ _ _ _ _ _ _ _ _ _ X hx hZ hc hown t h => XS.tswOut X.here hx rfl rfl (hb hc hd) rfl hout ho hp h) kk
/-! ### the heap -/
theorem OOk.ext {h h' : Heap} {a : Addr} {o : Ob} (E : Ext h h') (q : OOk K Z n0 h a o) : OOk K Z n0 h' a o := by
  cases o with
  | inl o => obtain ⟨ci, h1, h2, h3⟩ := q; exact ⟨ci, h1, h2.ext E, fun i f v a b => (h3 i f v a b).ext E⟩
  | inr o => obtain ⟨cl, h1, h2⟩ := q; exact ⟨cl, h1.ext E, h2⟩
theorem OOk.other {h h' : Heap} {a b : Addr} {sl : Nat} {x : Value} {o : Ob} (W : Wr h h' b sl x) (ne : a ≠ b) (q : OOk K Z n0 h a o) : OOk K Z n0 h' a o := by
  cases o with
  | inl o => obtain ⟨ci, h1, h2, h3⟩ := q; exact ⟨ci, h1, h2.wr W, fun i f v a b => (h3 i f v a b).other W (Or.inl ne)⟩
  | inr o => obtain ⟨cl, h1, h2⟩ := q; exact ⟨cl, h1.other W ne, h2⟩
theorem Rel.push {h h' : Heap} {o : Ob} (r : Rel K Z n0 H h) (E : Ext h h') (hs : h'.size = h.size + 1) (ho : OOk K Z n0 h' h.size o) : Rel K Z n0 (H ++ [o]) h' := by
  refine ⟨by rw [hs, r.1, List.length_append]; rfl, fun k q hk => ?_⟩
  by_cases hl : k < H.length
  · rw [List.getElem?_append_left hl] at hk; exact (r.2 k q hk).ext E
  · rw [List.getElem?_append_right (Nat.le_of_not_lt hl)] at hk
    have e : k - H.length = 0 := by
      cases hq : k - H.length with
      | zero => rfl
      | succ j => rw [hq] at hk; simp at hk
    rw [e] at hk
    simp at hk
    subst hk
    have : k = H.length := by omega
    subst this
    rw [← r.1]; exact ho
theorem Rel.put {h h' : Heap} {o : Ob} {a sl : Nat} {x : Value} (r : Rel K Z n0 H h) (W : Wr h h' (n0 + a) sl x) (ha : a < H.length) (ho : OOk K Z n0 h' (n0 + a) o) : Rel K Z n0 (H.set a o) h' := by
  refine ⟨by rw [W.size, r.1, List.length_set], fun k q hk => ?_⟩
  by_cases e : a = k
  · subst e
    rw [List.getElem?_set_self ha] at hk
    cases hk; exact ho
  · rw [List.getElem?_set_ne e] at hk
    exact (r.2 k q hk).other W (fun z => e (Nat.add_left_cancel z).symm)
theorem map_set_same {α β : Type} (f : α → β) : ∀ (H : List α) (a : Nat) (o o' : α), H[a]? = some o' → f o = f o' → (H.set a o).map f = H.map f
  | [], _, _, _, h, _ => by simp at h
  | x :: r, 0, o, o', h, e => by simp at h; subst h; simp [e]
  | x :: r, a + 1, o, o', h, e => by simp at h; simp [map_set_same f r a o o' h e]
theorem szs_set {a : Nat} {o o' : Ob} (h : H[a]? = some o') (e : osz K o = osz K o') : szs K (H.set a o) = szs K H := by unfold szs; rw [map_set_same (osz K) H a o o' h e]
theorem szs_push {o : Ob} : szs K (H ++ [o]) = szs K H + osz K o := by simp [szs]
theorem lt_of_at {α : Type} {L : List α} {a : Nat} {o : α} (h : L[a]? = some o) : a < L.length := (List.getElem?_eq_some_iff.mp h).1
theorem nar_sh {t : FieldType} {x : Value} (h : narrow t x = x) : narrow t (shV n0 x) = shV n0 x := by cases x <;> first | exact h | (cases t <;> rfl)
theorem fits_sh {t : FieldType} {x : Value} (h : fits t x = true) : fits t (shV n0 x) = true := by cases x <;> first | exact h | (cases t <;> first | rfl | cases h)
theorem sh_dflt (ty : FieldType) : shV n0 (defaultValue ty) = defaultValue ty := by cases ty <;> rfl
theorem r_getF {a cid i idx : Nat} {vs : List Value} {ci : CI} {f : FI} {x : Value} {R0 : String} (hd : decode mi.2.1 pc = .ok (.getfield idx, 3) ∧ pc + 3 = np) (w : (Jvm.Cond.fieldLink mi.1.cls idx R0 f.2.1 f.2.2.1).before a0 Z = true) (via : Via Z R0 f.1 f.2.1 f.2.2.1) (hci : K[cid]? = some ci) (hf : ci.2.2[i]? = some f)
    (ho : H[a]? = some (.inl (cid, vs))) (hv : vs[i]? = some x) (kk : Runs K l Z n0 mi np ls (x :: st) H v H') : Runs K l Z n0 mi pc ls (.ref a :: st) H v H' := by
  obtain ⟨hd, rfl⟩ := hd
  refine Runs.heap (Nat.le_refl _) (Nat.le_refl _) (fun p e R s m args below meth c T locs cells slots X hx hZ hc hml hown hnm hrel hfr hf' hlo hsz hcl hsl => ?_) kk
  obtain ⟨ci', q1, E, F⟩ := hrel.2 a _ ho
  cases hci.symm.trans q1
  obtain ⟨T1, X1, e1, st1⟩ := getF X hx hZ hown (host := "") (Or.inl w) via rfl (F i f x hf hv) (g := mkF m pc (ls.map (shS n0)).toArray (.ref (n0 + a) :: st.map (shV n0))) rfl rfl (hb hc hd)
  exact ⟨T1, _, _, _, X1, by rw [e1]; exact hrel, hfr, hsz, Nat.le_refl _, st1⟩
theorem r_putF {a cid i idx : Nat} {vs vs' : List Value} {ci : CI} {f : FI} {x : Value} {R0 : String} (hK : KOk K Z a0) (hd : decode mi.2.1 pc = .ok (.putfield idx, 3) ∧ pc + 3 = np) (w : (Jvm.Cond.fieldLink mi.1.cls idx R0 f.2.1 f.2.2.1).before a0 Z = true) (via : Via Z R0 f.1 f.2.1 f.2.2.1) (hci : K[cid]? = some ci) (hf : ci.2.2[i]? = some f)
    (L : (Jvm.Cond.lays ci.1 f.1 f.2.1 f.2.2.1).before a0 Z = true ∨ ((Jvm.Cond.laysFinal ci.1 f.1 f.2.1 f.2.2.1).before a0 Z = true ∧ mi.1.cls = f.1 ∧ mi.1.name = "<init>"))
    (ho : H[a]? = some (.inl (cid, vs))) (hi : i < vs.length) (hn : narrow f.2.2.2 x = x) (hft : fits f.2.2.2 x = true) (hvs : vs.set i x = vs') (hH : H.set a (.inl (cid, vs')) = H1) (kk : Runs K l Z n0 mi np ls st H1 v H') : Runs K l Z n0 mi pc ls (x :: .ref a :: st) H v H' := by
  obtain ⟨hd, rfl⟩ := hd
  subst hvs hH
  have ha := lt_of_at ho
  have es : szs K (H.set a (.inl (cid, vs.set i x))) = szs K H := szs_set ho rfl
  refine Runs.heap (by rw [List.length_set]; exact Nat.le_refl _) (by rw [es]; exact Nat.le_refl _) (fun p e R s m args below meth c T locs cells slots X hx hZ hc hml hown hnm hrel hfr hf' hlo hsz hcl hsl => ?_) kk
  obtain ⟨ci', q1, E, F⟩ := hrel.2 a _ ho
  cases hci.symm.trans q1
  obtain ⟨kk1, kk2, kk3⟩ := hK cid ci hci
  have hfm : f ∈ ci.2.2 := List.mem_of_getElem? hf
  obtain ⟨T1, h1, X1, e1, W1, st1⟩ := putF X hx hZ hown (host := "") (Or.inl w) via rfl (F i f _ hf (List.getElem?_eq_getElem hi)) E (L.imp id fun q => ⟨q.1, q.2.1, hnm.trans q.2.2⟩) kk1 (kk2 f hfm).2 (nar_sh hn) (fits_sh hft)
    (g := mkF m pc (ls.map (shS n0)).toArray (shV n0 x :: .ref (n0 + a) :: st.map (shV n0))) rfl rfl (hb hc hd)
  refine ⟨T1, _, _, _, X1, ?_, Fr.snoc X1 hfr (Nat.le_add_right _ _), by rw [List.length_set]; exact hsz, by rw [es]; exact Nat.le_refl _, st1⟩
  rw [e1]
  refine hrel.put W1 ha ⟨ci, hci, E.wr W1, fun j g y hg hy => ?_⟩
  by_cases ji : i = j
  · subst ji
    cases hf.symm.trans hg
    rw [List.getElem?_set_self hi] at hy
    cases hy
    exact (F i f _ hf (List.getElem?_eq_getElem hi)).same W1
  · rw [List.getElem?_set_ne ji] at hy
    have hgm : g ∈ ci.2.2 := List.mem_of_getElem? hg
    refine (F j g y hg hy).other W1 (Or.inr (slot_ne (kk2 g hgm).1 (kk2 f hfm).1 ?_ (kk2 g hgm).2 (kk2 f hfm).2))
    obtain ⟨li, ei⟩ := List.getElem?_eq_some_iff.mp hf
    obtain ⟨lj, ej⟩ := List.getElem?_eq_some_iff.mp hg
    have pw := List.pairwise_iff_getElem.mp kk3
    rcases Nat.lt_or_gt_of_ne ji with q | q
    · have := pw i j li lj q; rw [ei, ej] at this; exact fun z => this z.symm
    · have := pw j i lj li q; rw [ei, ej] at this; exact this
theorem r_new {a cid idx : Nat} {ci : CI} {o : List Value} (hK : KOk K Z a0) (hd : decode mi.2.1 pc = .ok (.new idx, 3) ∧ pc + 3 = np) (w : (Jvm.Cond.classLink mi.1.cls idx ci.1).before a0 Z = true) (wz : (Jvm.Cond.initialized ci.1).before a0 Z = true) (hci : K[cid]? = some ci)
    (ho : ci.2.2.map (fun f => defaultValue f.2.2.2) = o) (ha : H.length = a) (hH : H ++ [.inl (cid, o)] = H1) (kk : Runs K l Z n0 mi np ls (.ref a :: st) H1 v H') : Runs K l Z n0 mi pc ls st H v H' := by
  obtain ⟨hd, rfl⟩ := hd
  subst ho ha hH
  obtain ⟨kk1, kk2, kk3⟩ := hK cid ci hci
  have es : osz K (.inl (cid, ci.2.2.map (fun f => defaultValue f.2.2.2))) = ci.2.1 := by show ((K[cid]?).map (fun ci => ci.2.1)).getD 0 = _; rw [hci]; rfl
  refine Runs.heap (by simp) (by rw [szs_push]; exact Nat.le_add_right _ _) (fun p e R s m args below meth c T locs cells slots X hx hZ hc hml hown hnm hrel hfr hf' hlo hsz hcl hsl => ?_) kk
  rw [szs_push, es] at hsl
  simp only [List.length_append, List.length_cons, List.length_nil] at hcl
  obtain ⟨T1, h1, X1, e1, E1, A1, D1, -, st1⟩ := newO X hx hZ hown w kk1 wz rfl (g := mkF m pc (ls.map (shS n0)).toArray (st.map (shV n0))) rfl (hb hc hd) (by omega) (by omega)
  have hs1 := X1.heapSize
  have hlt : T.heap.size < h1.size := A1.lt
  have hh := hrel.1
  rw [e1] at hs1
  refine ⟨T1, _, _, _, X1, ?_, hfr, by simp only [List.length_append, List.length_cons, List.length_nil]; omega, by rw [szs_push, es]; omega, fun t q => st1 t ?_⟩
  · rw [e1]
    refine hrel.push E1 (by omega) ⟨ci, hci, A1, fun i f x hf hx => ?_⟩
    have hfm : f ∈ ci.2.2 := List.mem_of_getElem? hf
    rw [List.getElem?_map, hf] at hx
    cases hx
    show Fld Z h1 T.heap.size f.1 f.2.1 f.2.2.1 (shV n0 (defaultValue f.2.2.2))
    rw [sh_dflt]
    exact D1 (kk2 f hfm).1 (kk2 f hfm).2
  · show Steps _ _ _ (T1.setTop (mkF m (pc + 3) _ (.ref T.heap.size :: _))) t
    rw [hh]; exact q
theorem toNat_of {n : Int32} (h : ¬ n < 0) : n.toNatClampNeg < 2 ^ 31 := (back32 h).2
theorem r_newA {a : Nat} {n : Int32} {aty : ArrayType} {o : List Value} (hd : decode mi.2.1 pc = .ok (.newarray aty, 2) ∧ pc + 2 = np) (w : (Jvm.Cond.arrayClass (newarray.typeOf aty)).before a0 Z = true) (hn : ¬ n < 0) (hb8 : n.toNatClampNeg * 8 ≤ 536870912)
    (ho : List.replicate n.toNatClampNeg (defaultValue (newarray.typeOf aty)) = o) (ha : H.length = a) (hH : H ++ [.inr (newarray.typeOf aty, o)] = H1) (kk : Runs K l Z n0 mi np ls (.ref a :: st) H1 v H') : Runs K l Z n0 mi pc ls (.int n :: st) H v H' := by
  obtain ⟨hd, rfl⟩ := hd
  subst ho ha hH
  have es : osz K (.inr (newarray.typeOf aty, List.replicate n.toNatClampNeg (defaultValue (newarray.typeOf aty)))) = n.toNatClampNeg := by show (List.replicate _ _).length = _; simp
  refine Runs.heap (by simp) (by rw [szs_push]; exact Nat.le_add_right _ _) (fun p e R s m args below meth c T locs cells slots X hx hZ hc hml hown hnm hrel hfr hf' hlo hsz hcl hsl => ?_) kk
  rw [szs_push, es] at hsl
  simp only [List.length_append, List.length_cons, List.length_nil] at hcl
  obtain ⟨T1, h1, cA, X1, e1, E1, A1, st1⟩ := newP X hx hZ w rfl (g := mkF m pc (ls.map (shS n0)).toArray (.int n :: st.map (shV n0))) rfl (hb hc hd) rfl hn (cap := n.toNatClampNeg) (Nat.le_refl _) hb8 (by omega) (by omega)
  have hs1 := X1.heapSize
  have hlt : T.heap.size < h1.size := A1.lt
  have hh := hrel.1
  rw [e1] at hs1
  refine ⟨T1, _, _, _, X1, ?_, hfr, by simp only [List.length_append, List.length_cons, List.length_nil]; omega, by rw [szs_push, es]; omega, fun t q => st1 t ?_⟩
  · rw [e1]
    refine hrel.push E1 (by omega) ⟨_, A1, by rw [sz_new]; simp, by simpa using toNat_of hn, fun i x hx => ?_⟩
    rw [List.getElem?_replicate] at hx
    split at hx
    · rename_i hi
      cases hx
      have q1 : (newA cA (newarray.typeOf aty) n).slots[i]? = some (defaultValue (newarray.typeOf aty)) := by simp [newA, hi]
      exact ⟨by rw [q1]; cases newarray.typeOf aty <;> rfl, by cases newarray.typeOf aty <;> rfl⟩
    · cases hx
  · show Steps _ _ _ (T1.setTop (mkF m (pc + 2) _ (.ref T.heap.size :: _))) t
    rw [hh]; exact q
theorem fits_byte (x : Int32) : fits .byte (.int x.toInt8.toInt32) = true := by
  have h1 : (x.toInt8.toInt32).toInt = x.toInt8.toInt := Int8.toInt_toInt32 _
  have h2 := x.toInt8.toInt_lt
  have h3 := x.toInt8.le_toInt
  have e1 : (-128 : Int32).toInt = -128 := by decide
  have e2 : (127 : Int32).toInt = 127 := by decide
  simp only [fits, Bool.and_eq_true, decide_eq_true_eq]
  rw [Int32.le_iff_toInt_le, Int32.le_iff_toInt_le, h1, e1, e2]
  omega
/-- the int j names the place i -/
def Ix (j : Int32) (i : Nat) : Prop := ¬ j < 0 ∧ j.toNatClampNeg = i
theorem r_len {a : Nat} {ty : FieldType} {vs : List Value} {n : Int32} (hd : decode mi.2.1 pc = .ok (.arraylength, 1) ∧ pc + 1 = np) (ho : H[a]? = some (.inr (ty, vs))) (hn : vs.length.toInt32 = n) (kk : Runs K l Z n0 mi np ls (.int n :: st) H v H') : Runs K l Z n0 mi pc ls (.ref a :: st) H v H' := by
  obtain ⟨hd, rfl⟩ := hd
  subst hn
  refine Runs.heap (Nat.le_refl _) (Nat.le_refl _) (fun p e R s m args below meth c T locs cells slots X hx hZ hc hml hown hnm hrel hfr hf' hlo hsz hcl hsl => ?_) kk
  obtain ⟨cl, A, hs, hl, hv⟩ := hrel.2 a _ ho
  refine ⟨T, _, _, _, X, hrel, hfr, hsz, Nat.le_refl _, fun t q => ?_⟩
  refine X.arraylength hx A.1 (State.isArrayOf_alike hZ.alike A.2.1) (g := mkF m pc (ls.map (shS n0)).toArray (.ref (n0 + a) :: st.map (shV n0))) rfl rfl (hb hc hd) _ ?_
  rw [hs]; exact q
theorem r_iaload {a i : Nat} {vs : List Value} {j : Int32} {x : Value} (hd : decode mi.2.1 pc = .ok (.iaload, 1) ∧ pc + 1 = np) (ho : H[a]? = some (.inr (.int, vs))) (hj : Ix j i) (hv : vs[i]? = some x) (kk : Runs K l Z n0 mi np ls (x :: st) H v H') : Runs K l Z n0 mi pc ls (.int j :: .ref a :: st) H v H' := by
  obtain ⟨hd, rfl⟩ := hd
  obtain ⟨hj0, rfl⟩ := hj
  refine Runs.heap (Nat.le_refl _) (Nat.le_refl _) (fun p e R s m args below meth c T locs cells slots X hx hZ hc hml hown hnm hrel hfr hf' hlo hsz hcl hsl => ?_) kk
  obtain ⟨cl, A, hs, hl, hvs⟩ := hrel.2 a _ ho
  have hi := lt_of_at hv
  refine ⟨T, _, _, _, X, hrel, hfr, hsz, Nat.le_refl _, fun t q => ?_⟩
  exact X.iaload hx (j := j) (v := shV n0 x) A.1 (State.isArrayOf_alike hZ.alike A.2.1) A.2.2 (fun z => z.elim hj0 (fun q => by rw [hs] at q; omega)) (hvs _ _ hv).1 (g := mkF m pc (ls.map (shS n0)).toArray (.int j :: .ref (n0 + a) :: st.map (shV n0))) rfl rfl (hb hc hd) _ q
theorem r_laload {a i : Nat} {vs : List Value} {j : Int32} {x : Value} (hd : decode mi.2.1 pc = .ok (.laload, 1) ∧ pc + 1 = np) (ho : H[a]? = some (.inr (.long, vs))) (hj : Ix j i) (hv : vs[i]? = some x) (kk : Runs K l Z n0 mi np ls (x :: st) H v H') : Runs K l Z n0 mi pc ls (.int j :: .ref a :: st) H v H' := by
  obtain ⟨hd, rfl⟩ := hd
  obtain ⟨hj0, rfl⟩ := hj
  refine Runs.heap (Nat.le_refl _) (Nat.le_refl _) (fun p e R s m args below meth c T locs cells slots X hx hZ hc hml hown hnm hrel hfr hf' hlo hsz hcl hsl => ?_) kk
  obtain ⟨cl, A, hs, hl, hvs⟩ := hrel.2 a _ ho
  have hi := lt_of_at hv
  refine ⟨T, _, _, _, X, hrel, hfr, hsz, Nat.le_refl _, fun t q => ?_⟩
  exact X.laload hx (j := j) (v := shV n0 x) A.1 (State.isArrayOf_alike hZ.alike A.2.1) A.2.2 (fun z => z.elim hj0 (fun q => by rw [hs] at q; omega)) (hvs _ _ hv).1 (g := mkF m pc (ls.map (shS n0)).toArray (.int j :: .ref (n0 + a) :: st.map (shV n0))) rfl rfl (hb hc hd) _ q
theorem r_baload {a i : Nat} {vs : List Value} {j : Int32} {x : Value} (hd : decode mi.2.1 pc = .ok (.baload, 1) ∧ pc + 1 = np) (ho : H[a]? = some (.inr (.byte, vs))) (hj : Ix j i) (hv : vs[i]? = some x) (kk : Runs K l Z n0 mi np ls (x :: st) H v H') : Runs K l Z n0 mi pc ls (.int j :: .ref a :: st) H v H' := by
  obtain ⟨hd, rfl⟩ := hd
  obtain ⟨hj0, rfl⟩ := hj
  refine Runs.heap (Nat.le_refl _) (Nat.le_refl _) (fun p e R s m args below meth c T locs cells slots X hx hZ hc hml hown hnm hrel hfr hf' hlo hsz hcl hsl => ?_) kk
  obtain ⟨cl, A, hs, hl, hvs⟩ := hrel.2 a _ ho
  have hi := lt_of_at hv
  refine ⟨T, _, _, _, X, hrel, hfr, hsz, Nat.le_refl _, fun t q => ?_⟩
  exact X.baloadBytes hx (j := j) (v := shV n0 x) A.1 (State.isArrayOf_alike hZ.alike A.2.1) A.2.2 (fun z => z.elim hj0 (fun q => by rw [hs] at q; omega)) (hvs _ _ hv).1 (g := mkF m pc (ls.map (shS n0)).toArray (.int j :: .ref (n0 + a) :: st.map (shV n0))) rfl rfl (hb hc hd) _ q
theorem r_caload {a i : Nat} {vs : List Value} {j : Int32} {x : Value} (hd : decode mi.2.1 pc = .ok (.caload, 1) ∧ pc + 1 = np) (ho : H[a]? = some (.inr (.char, vs))) (hj : Ix j i) (hv : vs[i]? = some x) (kk : Runs K l Z n0 mi np ls (x :: st) H v H') : Runs K l Z n0 mi pc ls (.int j :: .ref a :: st) H v H' := by
  obtain ⟨hd, rfl⟩ := hd
  obtain ⟨hj0, rfl⟩ := hj
  refine Runs.heap (Nat.le_refl _) (Nat.le_refl _) (fun p e R s m args below meth c T locs cells slots X hx hZ hc hml hown hnm hrel hfr hf' hlo hsz hcl hsl => ?_) kk
  obtain ⟨cl, A, hs, hl, hvs⟩ := hrel.2 a _ ho
  have hi := lt_of_at hv
  refine ⟨T, _, _, _, X, hrel, hfr, hsz, Nat.le_refl _, fun t q => ?_⟩
  exact X.caload hx (j := j) (v := shV n0 x) A.1 (State.isArrayOf_alike hZ.alike A.2.1) A.2.2 (fun z => z.elim hj0 (fun q => by rw [hs] at q; omega)) (hvs _ _ hv).1 (g := mkF m pc (ls.map (shS n0)).toArray (.int j :: .ref (n0 + a) :: st.map (shV n0))) rfl rfl (hb hc hd) _ q
theorem r_iastore {a i : Nat} {vs vs' : List Value} {j : Int32} {x : Int32} (hd : decode mi.2.1 pc = .ok (.iastore, 1) ∧ pc + 1 = np) (ho : H[a]? = some (.inr (.int, vs))) (hj : Ix j i) (hi : i < vs.length) (hvs : vs.set i (.int x) = vs') (hH : H.set a (.inr (.int, vs')) = H1) (kk : Runs K l Z n0 mi np ls st H1 v H') : Runs K l Z n0 mi pc ls (.int x :: .int j :: .ref a :: st) H v H' := by
  obtain ⟨hd, rfl⟩ := hd
  obtain ⟨hj0, rfl⟩ := hj
  subst hvs hH
  have ha := lt_of_at ho
  have es : szs K (H.set a (.inr (.int, vs.set j.toNatClampNeg (.int x)))) = szs K H := szs_set ho (by show (List.set _ _ _).length = _; simp [osz])
  refine Runs.heap (by rw [List.length_set]; exact Nat.le_refl _) (by rw [es]; exact Nat.le_refl _) (fun p e R s m args below meth c T locs cells slots X hx hZ hc hml hown hnm hrel hfr hf' hlo hsz hcl hsl => ?_) kk
  obtain ⟨cl, A, hs, hl, hvs⟩ := hrel.2 a _ ho
  have hin : ¬ (j < 0 ∨ cl.slots.size ≤ j.toNatClampNeg) := fun z => z.elim hj0 (fun q => by rw [hs] at q; omega)
  obtain ⟨T1, h1, X1, e1, W1, st1⟩ := stI X hx hZ rfl A hin (g := mkF m pc (ls.map (shS n0)).toArray (.int x :: .int j :: .ref (n0 + a) :: st.map (shV n0))) rfl rfl (hb hc hd)
  refine ⟨T1, _, _, _, X1, ?_, Fr.snoc X1 hfr (Nat.le_add_right _ _), by rw [List.length_set]; exact hsz, by rw [es]; exact Nat.le_refl _, st1⟩
  rw [e1]
  refine hrel.put W1 ha ⟨_, A.same W1, by rw [sz_set, hs, List.length_set], by rw [List.length_set]; exact hl, fun k y hy => ?_⟩
  by_cases e : j.toNatClampNeg = k
  · subst e
    rw [List.getElem?_set_self hi] at hy
    cases hy
    exact ⟨by simp [Cell.setSlot, hs, hi, shV, nar], rfl⟩
  · rw [List.getElem?_set_ne e] at hy
    refine ⟨?_, (hvs k y hy).2⟩
    exact (Array.getElem?_setIfInBounds_ne e).trans (hvs k y hy).1
theorem r_lastore {a i : Nat} {vs vs' : List Value} {j : Int32} {x : Int64} (hd : decode mi.2.1 pc = .ok (.lastore, 1) ∧ pc + 1 = np) (ho : H[a]? = some (.inr (.long, vs))) (hj : Ix j i) (hi : i < vs.length) (hvs : vs.set i (.long x) = vs') (hH : H.set a (.inr (.long, vs')) = H1) (kk : Runs K l Z n0 mi np ls st H1 v H') : Runs K l Z n0 mi pc ls (.long x :: .int j :: .ref a :: st) H v H' := by
  obtain ⟨hd, rfl⟩ := hd
  obtain ⟨hj0, rfl⟩ := hj
  subst hvs hH
  have ha := lt_of_at ho
  have es : szs K (H.set a (.inr (.long, vs.set j.toNatClampNeg (.long x)))) = szs K H := szs_set ho (by show (List.set _ _ _).length = _; simp [osz])
  refine Runs.heap (by rw [List.length_set]; exact Nat.le_refl _) (by rw [es]; exact Nat.le_refl _) (fun p e R s m args below meth c T locs cells slots X hx hZ hc hml hown hnm hrel hfr hf' hlo hsz hcl hsl => ?_) kk
  obtain ⟨cl, A, hs, hl, hvs⟩ := hrel.2 a _ ho
  have hin : ¬ (j < 0 ∨ cl.slots.size ≤ j.toNatClampNeg) := fun z => z.elim hj0 (fun q => by rw [hs] at q; omega)
  obtain ⟨T1, h1, X1, e1, W1, st1⟩ := stJ X hx hZ rfl A hin (g := mkF m pc (ls.map (shS n0)).toArray (.long x :: .int j :: .ref (n0 + a) :: st.map (shV n0))) rfl rfl (hb hc hd)
  refine ⟨T1, _, _, _, X1, ?_, Fr.snoc X1 hfr (Nat.le_add_right _ _), by rw [List.length_set]; exact hsz, by rw [es]; exact Nat.le_refl _, st1⟩
  rw [e1]
  refine hrel.put W1 ha ⟨_, A.same W1, by rw [sz_set, hs, List.length_set], by rw [List.length_set]; exact hl, fun k y hy => ?_⟩
  by_cases e : j.toNatClampNeg = k
  · subst e
    rw [List.getElem?_set_self hi] at hy
    cases hy
    exact ⟨by simp [Cell.setSlot, hs, hi, shV, nar], rfl⟩
  · rw [List.getElem?_set_ne e] at hy
    refine ⟨?_, (hvs k y hy).2⟩
    exact (Array.getElem?_setIfInBounds_ne e).trans (hvs k y hy).1
theorem r_bastore {a i : Nat} {vs vs' : List Value} {j : Int32} {x : Int32} (hd : decode mi.2.1 pc = .ok (.bastore, 1) ∧ pc + 1 = np) (ho : H[a]? = some (.inr (.byte, vs))) (hj : Ix j i) (hi : i < vs.length) (hvs : vs.set i (.int x.toInt8.toInt32) = vs') (hH : H.set a (.inr (.byte, vs')) = H1) (kk : Runs K l Z n0 mi np ls st H1 v H') : Runs K l Z n0 mi pc ls (.int x :: .int j :: .ref a :: st) H v H' := by
  obtain ⟨hd, rfl⟩ := hd
  obtain ⟨hj0, rfl⟩ := hj
  subst hvs hH
  have ha := lt_of_at ho
  have es : szs K (H.set a (.inr (.byte, vs.set j.toNatClampNeg (.int x.toInt8.toInt32)))) = szs K H := szs_set ho (by show (List.set _ _ _).length = _; simp [osz])
  refine Runs.heap (by rw [List.length_set]; exact Nat.le_refl _) (by rw [es]; exact Nat.le_refl _) (fun p e R s m args below meth c T locs cells slots X hx hZ hc hml hown hnm hrel hfr hf' hlo hsz hcl hsl => ?_) kk
  obtain ⟨cl, A, hs, hl, hvs⟩ := hrel.2 a _ ho
  have hin : ¬ (j < 0 ∨ cl.slots.size ≤ j.toNatClampNeg) := fun z => z.elim hj0 (fun q => by rw [hs] at q; omega)
  obtain ⟨T1, h1, X1, e1, W1, st1⟩ := stB X hx hZ rfl A hin (g := mkF m pc (ls.map (shS n0)).toArray (.int x :: .int j :: .ref (n0 + a) :: st.map (shV n0))) rfl rfl (hb hc hd)
  refine ⟨T1, _, _, _, X1, ?_, Fr.snoc X1 hfr (Nat.le_add_right _ _), by rw [List.length_set]; exact hsz, by rw [es]; exact Nat.le_refl _, st1⟩
  rw [e1]
  refine hrel.put W1 ha ⟨_, A.same W1, by rw [sz_set, hs, List.length_set], by rw [List.length_set]; exact hl, fun k y hy => ?_⟩
  by_cases e : j.toNatClampNeg = k
  · subst e
    rw [List.getElem?_set_self hi] at hy
    cases hy
    exact ⟨by simp [Cell.setSlot, hs, hi, shV, nar], fits_byte x⟩
  · rw [List.getElem?_set_ne e] at hy
    refine ⟨?_, (hvs k y hy).2⟩
    exact (Array.getElem?_setIfInBounds_ne e).trans (hvs k y hy).1
/-! ### calls -/
theorem map_toList (w : Option Value) (rest : List Value) : ((w.toList ++ rest).map (shV n0)) = (w.map (shV n0)).toList ++ rest.map (shV n0) := by cases w <;> simp
theorem r_initO {a idx : Nat} (hd : decode mi.2.1 pc = .ok (.invokespecial idx, 3) ∧ pc + 3 = np) (w1 : (Jvm.Cond.methodLink mi.1.cls idx Lib.objectInit).before a0 Z = true) (w2 : (Jvm.Cond.instanceMethod Lib.objectInit).before a0 Z = true) (w3 : (Jvm.Cond.code Lib.objectInit ⟨#[0xb1]⟩ 1 none).before a0 Z = true)
    (hls : ls.length = mi.2.2.1) (hf : 1 ≤ mi.2.2.2.2.1) (hlo : (st.map fun v => v.category).sum + 12 ≤ mi.2.2.2.2.2) (kk : Runs K l Z n0 mi np ls st H v H') : Runs K l Z n0 mi pc ls (.ref a :: st) H v H' := by
  obtain ⟨hd, rfl⟩ := hd
  refine Runs.heap (Nat.le_refl _) (Nat.le_refl _) (fun p e R s m args below meth c T locs cells slots X hx hZ hc hml hown hnm hrel hfr hf' hlo' hsz hcl hsl => ?_) kk
  obtain ⟨T1, X1, e1, st1⟩ := initO X hx hZ hown w1 w2 w3 rfl (g := mkF m pc (ls.map (shS n0)).toArray (.ref (n0 + a) :: st.map (shV n0))) rfl (by rw [hml, ← hls]; simp) rfl (hb hc hd) (by omega) (W := (st.map fun v => v.category).sum) (by rw [cats_sh]; show 2 * 0 + _ ≤ _; omega) (by omega)
  exact ⟨T1, _, _, _, X1, by rw [e1]; exact hrel, hfr, hsz, Nat.le_refl _, st1⟩
theorem backM {mj : MI} {as : List Value} {w : Option Value} {h : Heap} {p : Program} {e : Env} {R : Room} {s : State} {args : Array Value} {below : List Frame} {len W : Nat} (M : Meets K l Z n0 mj as H w H1) (hrel : Rel K Z n0 H h) (hZ : Z.Warmed39 s.vm) (w4 : (Jvm.Cond.code mj.1 mj.2.1 mj.2.2.1 mj.2.2.2.1).before a0 Z = true) (w3 : (Jvm.Cond.initialized mj.1.cls).before a0 Z = true)
    (hf : mj.2.2.2.2.1 + 1 ≤ R.frames) (hl : W + (mj.2.2.1 + 11) + mj.2.2.2.2.2 ≤ R.locals) :
    Back l R p e below s args mj.1 len W (fun A a => a = (as.map (shV n0)).toArray ∧ A.U.heap = h ∧ A.cells + (H1.length - H.length) ≤ R.cells ∧ A.slots + (szs K H1 - szs K H) ≤ R.slots)
      (fun A _ v B => ∃ L, (v = w.map (shV n0) ∧ Rel K Z n0 H1 B.U.heap ∧ Fr n0 L) ∧ B.locs = A.locs ++ L ∧ B.cells = A.cells + (H1.length - H.length) ∧ B.slots = A.slots + (szs K H1 - szs K H)) :=
  backOf (rm := rmOf K mj H H1) (Q := fun v h L => v = w.map (shV n0) ∧ Rel K Z n0 H1 h ∧ Fr n0 L) (M.2.2 h hrel) hZ w4 w3 hf hl
theorem r_static {mj : MI} {as : List Value} {w : Option Value} {idx : Nat} (hd : decode mi.2.1 pc = .ok (.invokestatic idx, 3) ∧ pc + 3 = np) (w1 : (Jvm.Cond.methodLink mi.1.cls idx mj.1).before a0 Z = true) (w2 : (Jvm.Cond.static mj.1).before a0 Z = true) (w3 : (Jvm.Cond.initialized mj.1.cls).before a0 Z = true) (w4 : (Jvm.Cond.code mj.1 mj.2.1 mj.2.2.1 mj.2.2.2.1).before a0 Z = true)
    (hy : mj.1.cls ≠ "java/lang/invoke/MethodHandle" ∧ mj.1.cls ≠ "java/lang/invoke/VarHandle") (hlen : ∀ sig, parseMethodDescriptor mj.1.desc = some sig → as.length = sig.parameters.length) (hfr : mj.2.2.2.2.1 + 1 ≤ mi.2.2.2.2.1)
    (hst : as.reverse ++ rest = st) (hls : ls.length = mi.2.2.1) (hlo : (rest.map fun v => v.category).sum + (mj.2.2.1 + 11) + mj.2.2.2.2.2 ≤ mi.2.2.2.2.2)
    (M : Meets K l Z n0 mj as H w H1) (kk : Runs K l Z n0 mi np ls (w.toList ++ rest) H1 v H') : Runs K l Z n0 mi pc ls st H v H' := by
  obtain ⟨hd, rfl⟩ := hd
  subst hst
  have m1 := M.1
  have m2 := M.2.1
  refine Runs.heap m1 m2 (fun p e R s m args below meth c T locs cells slots X hx hZ hc hml hown hnm hrel hfr' hf' hlo' hsz hcl hsl => ?_) kk
  obtain ⟨_, _, ⟨T1, L1, k1, n1⟩, -, X1, ⟨Lc, hQ, l1, y1, z1⟩, st1⟩ := Jvm.LawKit.callS X hx (y := mj.1) hown (mvT hZ w1) (mvT hZ w2) (mvT hZ w3) (mvT hZ w4) hy
    (backM (W := (rest.map fun v => v.category).sum) M hrel hZ w4 w3 (by omega) (by omega))
    (g := mkF m pc (ls.map (shS n0)).toArray ((as.reverse ++ rest).map (shV n0))) rfl (by rw [hml, ← hls]; simp) (argsL := as.map (shV n0)) (rest := rest.map (shV n0)) (fun sig q => by rw [List.length_map]; exact hlen sig q) (by simp) (by rw [cats_sh]; show 2 * 0 + _ ≤ _; omega) (hb hc hd)
    (fun _ _ => ⟨rfl, rfl, (by show cells + (H1.length - H.length) ≤ _; omega), (by show slots + (szs K H1 - szs K H) ≤ _; omega)⟩)
  dsimp only [Pt.U, Pt.locs, Pt.cells, Pt.slots] at X1 l1 y1 z1 st1 hQ
  subst l1 y1 z1
  obtain ⟨rfl, R1, F1⟩ := hQ
  refine ⟨T1, _, _, _, X1, R1, Fr.app hfr' F1, by show s.heap.size + (cells + (H1.length - H.length)) = _; omega, by show slots + (szs K H1 - szs K H) + _ ≤ _; omega, fun t q => st1 t ?_⟩
  rw [map_toList] at q; exact q
theorem r_special {mj : MI} {as : List Value} {a idx : Nat} (hd : decode mi.2.1 pc = .ok (.invokespecial idx, 3) ∧ pc + 3 = np) (hy1 : mj.1.name = "<init>") (hr : mj.2.2.2.1 = none) (w1 : (Jvm.Cond.methodLink mi.1.cls idx mj.1).before a0 Z = true) (w2 : (Jvm.Cond.instanceMethod mj.1).before a0 Z = true) (w3 : (Jvm.Cond.initialized mj.1.cls).before a0 Z = true) (w4 : (Jvm.Cond.code mj.1 mj.2.1 mj.2.2.1 mj.2.2.2.1).before a0 Z = true)
    (hy : mj.1.cls ≠ "java/lang/invoke/MethodHandle" ∧ mj.1.cls ≠ "java/lang/invoke/VarHandle") (hlen : ∀ sig, parseMethodDescriptor mj.1.desc = some sig → as.length = sig.parameters.length) (hfr : mj.2.2.2.2.1 + 1 ≤ mi.2.2.2.2.1)
    (hst : as.reverse ++ .ref a :: rest = st) (hls : ls.length = mi.2.2.1) (hlo : (rest.map fun v => v.category).sum + (mj.2.2.1 + 11) + mj.2.2.2.2.2 ≤ mi.2.2.2.2.2)
    (M : Meets K l Z n0 mj (.ref a :: as) H none H1) (kk : Runs K l Z n0 mi np ls rest H1 v H') : Runs K l Z n0 mi pc ls st H v H' := by
  obtain ⟨hd, rfl⟩ := hd
  subst hst
  have m1 := M.1
  have m2 := M.2.1
  refine Runs.heap m1 m2 (fun p e R s m args below meth c T locs cells slots X hx hZ hc hml hown hnm hrel hfr' hf' hlo' hsz hcl hsl => ?_) kk
  have w4' := w4
  rw [hr] at w4'
  obtain ⟨_, _, ⟨T1, L1, k1, n1⟩, -, X1, ⟨Lc, hQ, l1, y1, z1⟩, st1⟩ := X.specialBack hx (y := mj.1) hy1 hown (mvT hZ w1) (mvT hZ w2) (mvT hZ w4') hy
    (backM (W := (rest.map fun v => v.category).sum) M hrel hZ w4 w3 (by omega) (by omega))
    (g := mkF m pc (ls.map (shS n0)).toArray ((as.reverse ++ .ref a :: rest).map (shV n0))) rfl (by rw [hml, ← hls]; simp) (Steps.refl _) (a := n0 + a) (argsL := as.map (shV n0)) (rest := rest.map (shV n0)) (fun sig q => by rw [List.length_map]; exact hlen sig q) (by simp [shV]) (by rw [cats_sh]; show 2 * 0 + _ ≤ _; omega) (hb hc hd)
    (fun _ _ => ⟨rfl, rfl, (by show cells + (H1.length - H.length) ≤ _; omega), (by show slots + (szs K H1 - szs K H) ≤ _; omega)⟩)
  dsimp only [Pt.U, Pt.locs, Pt.cells, Pt.slots] at X1 l1 y1 z1 st1 hQ
  subst l1 y1 z1
  obtain ⟨rfl, R1, F1⟩ := hQ
  exact ⟨T1, _, _, _, X1, R1, Fr.app hfr' F1, by show s.heap.size + (cells + (H1.length - H.length)) = _; omega, by show slots + (szs K H1 - szs K H) + _ ≤ _; omega, fun t q => st1.trans q⟩
theorem r_virtual {mj : MI} {as : List Value} {w : Option Value} {a cid idx : Nat} {ci : CI} {vs : List Value} (hd : decode mi.2.1 pc = .ok (.invokevirtual idx, 3) ∧ pc + 3 = np) (w1 : (Jvm.Cond.methodLink mi.1.cls idx mj.1).before a0 Z = true) (w2 : (Jvm.Cond.declares mj.1).before a0 Z = true) (w5 : (Jvm.Cond.selects ci.1 mj.1 mj.1).before a0 Z = true) (w6 : (Jvm.Cond.instanceMethod mj.1).before a0 Z = true) (w3 : (Jvm.Cond.initialized mj.1.cls).before a0 Z = true) (w4 : (Jvm.Cond.code mj.1 mj.2.1 mj.2.2.1 mj.2.2.2.1).before a0 Z = true)
    (hy : mj.1.cls ≠ "java/lang/invoke/MethodHandle" ∧ mj.1.cls ≠ "java/lang/invoke/VarHandle") (hlen : ∀ sig, parseMethodDescriptor mj.1.desc = some sig → as.length = sig.parameters.length) (hfr : mj.2.2.2.2.1 + 1 ≤ mi.2.2.2.2.1) (hci : K[cid]? = some ci)
    (hst : as.reverse ++ .ref a :: rest = st) (ho : H[a]? = some (.inl (cid, vs))) (hls : ls.length = mi.2.2.1) (hlo : (rest.map fun v => v.category).sum + (mj.2.2.1 + 11) + mj.2.2.2.2.2 ≤ mi.2.2.2.2.2)
    (M : Meets K l Z n0 mj (.ref a :: as) H w H1) (kk : Runs K l Z n0 mi np ls (w.toList ++ rest) H1 v H') : Runs K l Z n0 mi pc ls st H v H' := by
  obtain ⟨hd, rfl⟩ := hd
  subst hst
  have m1 := M.1
  have m2 := M.2.1
  refine Runs.heap m1 m2 (fun p e R s m args below meth c T locs cells slots X hx hZ hc hml hown hnm hrel hfr' hf' hlo' hsz hcl hsl => ?_) kk
  obtain ⟨ci', q1, E, F⟩ := hrel.2 a _ ho
  cases hci.symm.trans q1
  obtain ⟨cq, kq, qa, qb, qc⟩ := isOf hZ rfl E
  obtain ⟨_, _, ⟨T1, L1, k1, n1⟩, -, X1, ⟨Lc, hQ, l1, y1, z1⟩, st1⟩ := X.virtualBack hx (y := mj.1) (z := mj.1) hown (mvT hZ w1) (mvT hZ w2) (notFace_of_selects (args := #[]) (mvT hZ w5)) (mvT hZ w5) (mvT hZ w6) hy
    (backM (W := (rest.map fun v => v.category).sum) M hrel hZ w4 w3 (by omega) (by omega)) qa qc
    (g := mkF m pc (ls.map (shS n0)).toArray ((as.reverse ++ .ref a :: rest).map (shV n0))) rfl (by rw [hml, ← hls]; simp) (Steps.refl _) (argsL := as.map (shV n0)) (rest := rest.map (shV n0)) (fun sig q => by rw [List.length_map]; exact hlen sig q) (by simp [shV]) (by rw [cats_sh]; show 2 * 0 + _ ≤ _; omega) (hb hc hd)
    (fun _ _ => ⟨rfl, rfl, (by show cells + (H1.length - H.length) ≤ _; omega), (by show slots + (szs K H1 - szs K H) ≤ _; omega)⟩)
  dsimp only [Pt.U, Pt.locs, Pt.cells, Pt.slots] at X1 l1 y1 z1 st1 hQ
  subst l1 y1 z1
  obtain ⟨rfl, R1, F1⟩ := hQ
  refine ⟨T1, _, _, _, X1, R1, Fr.app hfr' F1, by show s.heap.size + (cells + (H1.length - H.length)) = _; omega, by show slots + (szs K H1 - szs K H) + _ ≤ _; omega, fun t q => st1.trans ?_⟩
  rw [map_toList] at q; exact q
theorem r_private {mj : MI} {as : List Value} {w : Option Value} {a cid idx : Nat} {ci : CI} {vs : List Value} (hd : decode mi.2.1 pc = .ok (.invokevirtual idx, 3) ∧ pc + 3 = np) (w1 : (Jvm.Cond.methodLink mi.1.cls idx mj.1).before a0 Z = true) (w5 : (Jvm.Cond.selects mj.1.cls mj.1 mj.1).before a0 Z = true) (w7 : (Jvm.Cond.privateMethod mj.1).before a0 Z = true) (w6 : (Jvm.Cond.instanceMethod mj.1).before a0 Z = true) (w3 : (Jvm.Cond.initialized mj.1.cls).before a0 Z = true) (w4 : (Jvm.Cond.code mj.1 mj.2.1 mj.2.2.1 mj.2.2.2.1).before a0 Z = true)
    (hy : mj.1.cls ≠ "java/lang/invoke/MethodHandle" ∧ mj.1.cls ≠ "java/lang/invoke/VarHandle") (hlen : ∀ sig, parseMethodDescriptor mj.1.desc = some sig → as.length = sig.parameters.length) (hfr : mj.2.2.2.2.1 + 1 ≤ mi.2.2.2.2.1) (hci : K[cid]? = some ci)
    (hst : as.reverse ++ .ref a :: rest = st) (ho : H[a]? = some (.inl (cid, vs))) (hls : ls.length = mi.2.2.1) (hlo : (rest.map fun v => v.category).sum + (mj.2.2.1 + 11) + mj.2.2.2.2.2 ≤ mi.2.2.2.2.2)
    (M : Meets K l Z n0 mj (.ref a :: as) H w H1) (kk : Runs K l Z n0 mi np ls (w.toList ++ rest) H1 v H') : Runs K l Z n0 mi pc ls st H v H' := by
  obtain ⟨hd, rfl⟩ := hd
  subst hst
  have m1 := M.1
  have m2 := M.2.1
  refine Runs.heap m1 m2 (fun p e R s m args below meth c T locs cells slots X hx hZ hc hml hown hnm hrel hfr' hf' hlo' hsz hcl hsl => ?_) kk
  obtain ⟨ci', q1, E, F⟩ := hrel.2 a _ ho
  cases hci.symm.trans q1
  obtain ⟨cq, qa, qc⟩ := E.cell
  obtain ⟨_, _, ⟨T1, L1, k1, n1⟩, -, X1, ⟨Lc, hQ, l1, y1, z1⟩, st1⟩ := X.privateBack hx (y := mj.1) hown (mvT hZ w1) (mvT hZ w6) (mvT hZ w5) (Cond.privateMethod_at (mvP hZ w7 (args := #[]))) (mvT hZ w4) hy
    (backM (W := (rest.map fun v => v.category).sum) M hrel hZ w4 w3 (by omega) (by omega))
    (g := mkF m pc (ls.map (shS n0)).toArray ((as.reverse ++ .ref a :: rest).map (shV n0))) rfl (by rw [hml, ← hls]; simp) (Steps.refl _) (a := n0 + a) qa qc (argsL := as.map (shV n0)) (rest := rest.map (shV n0)) (fun sig q => by rw [List.length_map]; exact hlen sig q) (by simp [shV]) (by rw [cats_sh]; show 2 * 0 + _ ≤ _; omega) (hb hc hd)
    (fun _ _ => ⟨rfl, rfl, (by show cells + (H1.length - H.length) ≤ _; omega), (by show slots + (szs K H1 - szs K H) ≤ _; omega)⟩)
  dsimp only [Pt.U, Pt.locs, Pt.cells, Pt.slots] at X1 l1 y1 z1 st1 hQ
  subst l1 y1 z1
  obtain ⟨rfl, R1, F1⟩ := hQ
  refine ⟨T1, _, _, _, X1, R1, Fr.app hfr' F1, by show s.heap.size + (cells + (H1.length - H.length)) = _; omega, by show slots + (szs K H1 - szs K H) + _ ≤ _; omega, fun t q => st1.trans ?_⟩
  rw [map_toList] at q; exact q
end Logic
abbrev HW (Z : State) (a0 : Array Value) : Prop := ∀ d ∈ tables_1, d.before a0 Z = true
def K : List CI := [("com/example/tendril/tendril/algo/Marks", 2, [("com/example/tendril/tendril/algo/Marks", "stamps", "[I", (.array .int)), ("com/example/tendril/tendril/algo/Marks", "stamp", "I", .int)])]
theorem allL0 {α : Type} {P : α → Prop} : ∀ x ∈ ([] : List α), P x := fun _ q => nomatch q
theorem allLS {α : Type} {P : α → Prop} {y : α} {L : List α} (q : P y) (r : ∀ x ∈ L, P x) : ∀ x ∈ y :: L, P x := fun x z => (List.mem_cons.mp z).elim (fun u => u ▸ q) (r x)
theorem kok {Z : State} {a0 : Array Value} (hw : HW Z a0) : KOk K Z a0 := by
  intro k ci h
  match k, h with
  | 0, h => cases h; exact ⟨(hw _ (List.mem_of_getElem? (i := 2) rfl)), (allLS ⟨Or.inr (hw _ (List.mem_of_getElem? (i := 12) rfl)), by decide⟩ (allLS ⟨Or.inl (hw _ (List.mem_of_getElem? (i := 19) rfl)), by decide⟩ (allL0))), by decide⟩
  | (k + 1), h => simp [K] at h
def m0 : MI := (x, code, 24, some .boolean, 2, 26)
def m1 : MI := (⟨"com/example/tendril/tendril/algo/Marks", "<init>", "(I)V"⟩, prog_10_method_1_code, 2, none, 1, 12)
def m3 : MI := (⟨"com/example/tendril/tendril/algo/Marks", "start", "()V"⟩, prog_10_method_2_code, 1, none, 0, 0)
def m4 : MI := (⟨"com/example/tendril/tendril/algo/Marks", "mark", "(I)Z"⟩, prog_10_method_3_code, 3, some .boolean, 0, 0)
theorem pd0 : parseMethodDescriptor "(IIIII)Z" = some ⟨[.int, .int, .int, .int, .int], some .boolean⟩ := by decide +kernel
theorem pf0 : plainFor m0.1 = true := by first | exact plainFor_of_name (by first | (simp [m0, x, plainName, overriddenIn]; done) | decide +kernel) | decide +kernel
theorem pd1 : parseMethodDescriptor "(I)V" = some ⟨[.int], none⟩ := by decide +kernel
theorem pf1 : plainFor m1.1 = true := by first | exact plainFor_of_name (by first | (simp [m1, x, plainName, overriddenIn]; done) | decide +kernel) | decide +kernel
theorem pd3 : parseMethodDescriptor "()V" = some ⟨[], none⟩ := by decide +kernel
theorem pf3 : plainFor m3.1 = true := by first | exact plainFor_of_name (by first | (simp [m3, x, plainName, overriddenIn]; done) | decide +kernel) | decide +kernel
theorem pd4 : parseMethodDescriptor "(I)Z" = some ⟨[.int], some .boolean⟩ := by decide +kernel
theorem pf4 : plainFor m4.1 = true := by first | exact plainFor_of_name (by first | (simp [m4, x, plainName, overriddenIn]; done) | decide +kernel) | decide +kernel
theorem i0_0 : decode m0.2.1 0 = .ok (.iconst 1, 1) ∧ 0 + 1 = 1 ∧ Int32.ofInt 1 = 1 := ⟨by decide +kernel, rfl, by decide⟩
theorem i0_1 : decode m0.2.1 1 = .ok (.iload_n 0, 1) ∧ 1 + 1 = 2 := ⟨by decide +kernel, rfl⟩
theorem i0_2 : decode m0.2.1 2 = .ok (.bipush 7, 2) ∧ 2 + 2 = 4 ∧ (Int8.ofInt 7).toInt32 = 7 := ⟨by decide +kernel, rfl, by decide⟩
theorem i0_4 : decode m0.2.1 4 = .ok (.iand, 1) ∧ 4 + 1 = 5 := ⟨by decide +kernel, rfl⟩
theorem i0_5 : decode m0.2.1 5 = .ok (.iadd, 1) ∧ 5 + 1 = 6 := ⟨by decide +kernel, rfl⟩
theorem i0_6 : decode m0.2.1 6 = .ok (.istore 5, 2) ∧ 6 + 2 = 8 := ⟨by decide +kernel, rfl⟩
theorem i0_8 : decode m0.2.1 8 = .ok (.iload_n 1, 1) ∧ 8 + 1 = 9 := ⟨by decide +kernel, rfl⟩
theorem i0_9 : decode m0.2.1 9 = .ok (.ldc 7, 2) ∧ 9 + 2 = 11 := ⟨by decide +kernel, rfl⟩
theorem i0_11 : decode m0.2.1 11 = .ok (.iand, 1) ∧ 11 + 1 = 12 := ⟨by decide +kernel, rfl⟩
theorem i0_12 : decode m0.2.1 12 = .ok (.iload 5, 2) ∧ 12 + 2 = 14 := ⟨by decide +kernel, rfl⟩
theorem i0_14 : decode m0.2.1 14 = .ok (.irem, 1) ∧ 14 + 1 = 15 := ⟨by decide +kernel, rfl⟩
theorem i0_15 : decode m0.2.1 15 = .ok (.istore 6, 2) ∧ 15 + 2 = 17 := ⟨by decide +kernel, rfl⟩
theorem i0_17 : decode m0.2.1 17 = .ok (.iload_n 2, 1) ∧ 17 + 1 = 18 := ⟨by decide +kernel, rfl⟩
theorem i0_18 : decode m0.2.1 18 = .ok (.ldc 7, 2) ∧ 18 + 2 = 20 := ⟨by decide +kernel, rfl⟩
theorem i0_20 : decode m0.2.1 20 = .ok (.iand, 1) ∧ 20 + 1 = 21 := ⟨by decide +kernel, rfl⟩
theorem i0_21 : decode m0.2.1 21 = .ok (.iload 5, 2) ∧ 21 + 2 = 23 := ⟨by decide +kernel, rfl⟩
theorem i0_23 : decode m0.2.1 23 = .ok (.irem, 1) ∧ 23 + 1 = 24 := ⟨by decide +kernel, rfl⟩
theorem i0_24 : decode m0.2.1 24 = .ok (.istore 7, 2) ∧ 24 + 2 = 26 := ⟨by decide +kernel, rfl⟩
theorem i0_26 : decode m0.2.1 26 = .ok (.iload_n 3, 1) ∧ 26 + 1 = 27 := ⟨by decide +kernel, rfl⟩
theorem i0_27 : decode m0.2.1 27 = .ok (.ldc 7, 2) ∧ 27 + 2 = 29 := ⟨by decide +kernel, rfl⟩
theorem i0_29 : decode m0.2.1 29 = .ok (.iand, 1) ∧ 29 + 1 = 30 := ⟨by decide +kernel, rfl⟩
theorem i0_30 : decode m0.2.1 30 = .ok (.iload 5, 2) ∧ 30 + 2 = 32 := ⟨by decide +kernel, rfl⟩
theorem i0_32 : decode m0.2.1 32 = .ok (.irem, 1) ∧ 32 + 1 = 33 := ⟨by decide +kernel, rfl⟩
theorem i0_33 : decode m0.2.1 33 = .ok (.istore 8, 2) ∧ 33 + 2 = 35 := ⟨by decide +kernel, rfl⟩
theorem i0_35 : decode m0.2.1 35 = .ok (.iload 4, 2) ∧ 35 + 2 = 37 := ⟨by decide +kernel, rfl⟩
theorem i0_37 : decode m0.2.1 37 = .ok (.iconst 1, 1) ∧ 37 + 1 = 38 ∧ Int32.ofInt 1 = 1 := ⟨by decide +kernel, rfl, by decide⟩
theorem i0_38 : decode m0.2.1 38 = .ok (.iand, 1) ∧ 38 + 1 = 39 := ⟨by decide +kernel, rfl⟩
theorem i0_39 : decode m0.2.1 39 = .ok (.ifCond .eq 7, 3) ∧ 39 + 3 = 42 ∧ 0 ≤ ((39 : Nat) : Int) + 7 ∧ (((39 : Nat) : Int) + 7).toNat = 46 := ⟨by decide +kernel, rfl, by decide, by decide⟩
theorem i0_42 : decode m0.2.1 42 = .ok (.iconst 1, 1) ∧ 42 + 1 = 43 ∧ Int32.ofInt 1 = 1 := ⟨by decide +kernel, rfl, by decide⟩
theorem i0_43 : decode m0.2.1 43 = .ok (.goto 4, 3) ∧ 43 + 3 = 46 ∧ 0 ≤ ((43 : Nat) : Int) + 4 ∧ (((43 : Nat) : Int) + 4).toNat = 47 := ⟨by decide +kernel, rfl, by decide, by decide⟩
theorem i0_46 : decode m0.2.1 46 = .ok (.iconst 0, 1) ∧ 46 + 1 = 47 ∧ Int32.ofInt 0 = 0 := ⟨by decide +kernel, rfl, by decide⟩
theorem i0_47 : decode m0.2.1 47 = .ok (.istore 9, 2) ∧ 47 + 2 = 49 := ⟨by decide +kernel, rfl⟩
theorem i0_49 : decode m0.2.1 49 = .ok (.new 8, 3) ∧ 49 + 3 = 52 := ⟨by decide +kernel, rfl⟩
theorem i0_52 : decode m0.2.1 52 = .ok (.dup, 1) ∧ 52 + 1 = 53 := ⟨by decide +kernel, rfl⟩
theorem i0_53 : decode m0.2.1 53 = .ok (.iload 5, 2) ∧ 53 + 2 = 55 := ⟨by decide +kernel, rfl⟩
theorem i0_55 : decode m0.2.1 55 = .ok (.invokespecial 10, 3) ∧ 55 + 3 = 58 := ⟨by decide +kernel, rfl⟩
theorem i0_58 : decode m0.2.1 58 = .ok (.astore 10, 2) ∧ 58 + 2 = 60 := ⟨by decide +kernel, rfl⟩
theorem i0_60 : decode m0.2.1 60 = .ok (.aload 10, 2) ∧ 60 + 2 = 62 := ⟨by decide +kernel, rfl⟩
theorem i0_62 : decode m0.2.1 62 = .ok (.invokevirtual 13, 3) ∧ 62 + 3 = 65 := ⟨by decide +kernel, rfl⟩
theorem i0_65 : decode m0.2.1 65 = .ok (.aload 10, 2) ∧ 65 + 2 = 67 := ⟨by decide +kernel, rfl⟩
theorem i0_67 : decode m0.2.1 67 = .ok (.iload 6, 2) ∧ 67 + 2 = 69 := ⟨by decide +kernel, rfl⟩
theorem i0_69 : decode m0.2.1 69 = .ok (.invokevirtual 16, 3) ∧ 69 + 3 = 72 := ⟨by decide +kernel, rfl⟩
theorem i0_72 : decode m0.2.1 72 = .ok (.istore 11, 2) ∧ 72 + 2 = 74 := ⟨by decide +kernel, rfl⟩
theorem i0_74 : decode m0.2.1 74 = .ok (.aload 10, 2) ∧ 74 + 2 = 76 := ⟨by decide +kernel, rfl⟩
theorem i0_76 : decode m0.2.1 76 = .ok (.iload 7, 2) ∧ 76 + 2 = 78 := ⟨by decide +kernel, rfl⟩
theorem i0_78 : decode m0.2.1 78 = .ok (.invokevirtual 16, 3) ∧ 78 + 3 = 81 := ⟨by decide +kernel, rfl⟩
theorem i0_81 : decode m0.2.1 81 = .ok (.istore 12, 2) ∧ 81 + 2 = 83 := ⟨by decide +kernel, rfl⟩
theorem i0_83 : decode m0.2.1 83 = .ok (.aload 10, 2) ∧ 83 + 2 = 85 := ⟨by decide +kernel, rfl⟩
theorem i0_85 : decode m0.2.1 85 = .ok (.iload 8, 2) ∧ 85 + 2 = 87 := ⟨by decide +kernel, rfl⟩
theorem i0_87 : decode m0.2.1 87 = .ok (.invokevirtual 16, 3) ∧ 87 + 3 = 90 := ⟨by decide +kernel, rfl⟩
theorem i0_90 : decode m0.2.1 90 = .ok (.istore 13, 2) ∧ 90 + 2 = 92 := ⟨by decide +kernel, rfl⟩
theorem i0_92 : decode m0.2.1 92 = .ok (.iload 9, 2) ∧ 92 + 2 = 94 := ⟨by decide +kernel, rfl⟩
theorem i0_94 : decode m0.2.1 94 = .ok (.ifCond .eq 8, 3) ∧ 94 + 3 = 97 ∧ 0 ≤ ((94 : Nat) : Int) + 8 ∧ (((94 : Nat) : Int) + 8).toNat = 102 := ⟨by decide +kernel, rfl, by decide, by decide⟩
theorem i0_97 : decode m0.2.1 97 = .ok (.aload 10, 2) ∧ 97 + 2 = 99 := ⟨by decide +kernel, rfl⟩
theorem i0_99 : decode m0.2.1 99 = .ok (.invokevirtual 13, 3) ∧ 99 + 3 = 102 := ⟨by decide +kernel, rfl⟩
theorem i0_102 : decode m0.2.1 102 = .ok (.aload 10, 2) ∧ 102 + 2 = 104 := ⟨by decide +kernel, rfl⟩
theorem i0_104 : decode m0.2.1 104 = .ok (.iload 6, 2) ∧ 104 + 2 = 106 := ⟨by decide +kernel, rfl⟩
theorem i0_106 : decode m0.2.1 106 = .ok (.invokevirtual 16, 3) ∧ 106 + 3 = 109 := ⟨by decide +kernel, rfl⟩
theorem i0_109 : decode m0.2.1 109 = .ok (.istore 14, 2) ∧ 109 + 2 = 111 := ⟨by decide +kernel, rfl⟩
theorem i0_111 : decode m0.2.1 111 = .ok (.aload 10, 2) ∧ 111 + 2 = 113 := ⟨by decide +kernel, rfl⟩
theorem i0_113 : decode m0.2.1 113 = .ok (.iload 7, 2) ∧ 113 + 2 = 115 := ⟨by decide +kernel, rfl⟩
theorem i0_115 : decode m0.2.1 115 = .ok (.invokevirtual 16, 3) ∧ 115 + 3 = 118 := ⟨by decide +kernel, rfl⟩
theorem i0_118 : decode m0.2.1 118 = .ok (.istore 15, 2) ∧ 118 + 2 = 120 := ⟨by decide +kernel, rfl⟩
theorem i0_120 : decode m0.2.1 120 = .ok (.aload 10, 2) ∧ 120 + 2 = 122 := ⟨by decide +kernel, rfl⟩
theorem i0_122 : decode m0.2.1 122 = .ok (.iload 8, 2) ∧ 122 + 2 = 124 := ⟨by decide +kernel, rfl⟩
theorem i0_124 : decode m0.2.1 124 = .ok (.invokevirtual 16, 3) ∧ 124 + 3 = 127 := ⟨by decide +kernel, rfl⟩
theorem i0_127 : decode m0.2.1 127 = .ok (.istore 16, 2) ∧ 127 + 2 = 129 := ⟨by decide +kernel, rfl⟩
theorem i0_129 : decode m0.2.1 129 = .ok (.aload 10, 2) ∧ 129 + 2 = 131 := ⟨by decide +kernel, rfl⟩
theorem i0_131 : decode m0.2.1 131 = .ok (.iload 7, 2) ∧ 131 + 2 = 133 := ⟨by decide +kernel, rfl⟩
theorem i0_133 : decode m0.2.1 133 = .ok (.invokevirtual 16, 3) ∧ 133 + 3 = 136 := ⟨by decide +kernel, rfl⟩
theorem i0_136 : decode m0.2.1 136 = .ok (.istore 17, 2) ∧ 136 + 2 = 138 := ⟨by decide +kernel, rfl⟩
theorem i0_138 : decode m0.2.1 138 = .ok (.iconst 1, 1) ∧ 138 + 1 = 139 ∧ Int32.ofInt 1 = 1 := ⟨by decide +kernel, rfl, by decide⟩
theorem i0_139 : decode m0.2.1 139 = .ok (.istore 18, 2) ∧ 139 + 2 = 141 := ⟨by decide +kernel, rfl⟩
theorem i0_141 : decode m0.2.1 141 = .ok (.iload 7, 2) ∧ 141 + 2 = 143 := ⟨by decide +kernel, rfl⟩
theorem i0_143 : decode m0.2.1 143 = .ok (.iload 6, 2) ∧ 143 + 2 = 145 := ⟨by decide +kernel, rfl⟩
theorem i0_145 : decode m0.2.1 145 = .ok (.if_icmp .eq 7, 3) ∧ 145 + 3 = 148 ∧ 0 ≤ ((145 : Nat) : Int) + 7 ∧ (((145 : Nat) : Int) + 7).toNat = 152 := ⟨by decide +kernel, rfl, by decide, by decide⟩
theorem i0_148 : decode m0.2.1 148 = .ok (.iconst 1, 1) ∧ 148 + 1 = 149 ∧ Int32.ofInt 1 = 1 := ⟨by decide +kernel, rfl, by decide⟩
theorem i0_149 : decode m0.2.1 149 = .ok (.goto 4, 3) ∧ 149 + 3 = 152 ∧ 0 ≤ ((149 : Nat) : Int) + 4 ∧ (((149 : Nat) : Int) + 4).toNat = 153 := ⟨by decide +kernel, rfl, by decide, by decide⟩
theorem i0_152 : decode m0.2.1 152 = .ok (.iconst 0, 1) ∧ 152 + 1 = 153 ∧ Int32.ofInt 0 = 0 := ⟨by decide +kernel, rfl, by decide⟩
theorem i0_153 : decode m0.2.1 153 = .ok (.istore 19, 2) ∧ 153 + 2 = 155 := ⟨by decide +kernel, rfl⟩
theorem i0_155 : decode m0.2.1 155 = .ok (.iload 8, 2) ∧ 155 + 2 = 157 := ⟨by decide +kernel, rfl⟩
theorem i0_157 : decode m0.2.1 157 = .ok (.iload 6, 2) ∧ 157 + 2 = 159 := ⟨by decide +kernel, rfl⟩
theorem i0_159 : decode m0.2.1 159 = .ok (.if_icmp .eq 14, 3) ∧ 159 + 3 = 162 ∧ 0 ≤ ((159 : Nat) : Int) + 14 ∧ (((159 : Nat) : Int) + 14).toNat = 173 := ⟨by decide +kernel, rfl, by decide, by decide⟩
theorem i0_162 : decode m0.2.1 162 = .ok (.iload 8, 2) ∧ 162 + 2 = 164 := ⟨by decide +kernel, rfl⟩
theorem i0_164 : decode m0.2.1 164 = .ok (.iload 7, 2) ∧ 164 + 2 = 166 := ⟨by decide +kernel, rfl⟩
theorem i0_166 : decode m0.2.1 166 = .ok (.if_icmp .eq 7, 3) ∧ 166 + 3 = 169 ∧ 0 ≤ ((166 : Nat) : Int) + 7 ∧ (((166 : Nat) : Int) + 7).toNat = 173 := ⟨by decide +kernel, rfl, by decide, by decide⟩
theorem i0_169 : decode m0.2.1 169 = .ok (.iconst 1, 1) ∧ 169 + 1 = 170 ∧ Int32.ofInt 1 = 1 := ⟨by decide +kernel, rfl, by decide⟩
theorem i0_170 : decode m0.2.1 170 = .ok (.goto 4, 3) ∧ 170 + 3 = 173 ∧ 0 ≤ ((170 : Nat) : Int) + 4 ∧ (((170 : Nat) : Int) + 4).toNat = 174 := ⟨by decide +kernel, rfl, by decide, by decide⟩
theorem i0_173 : decode m0.2.1 173 = .ok (.iconst 0, 1) ∧ 173 + 1 = 174 ∧ Int32.ofInt 0 = 0 := ⟨by decide +kernel, rfl, by decide⟩
theorem i0_174 : decode m0.2.1 174 = .ok (.istore 20, 2) ∧ 174 + 2 = 176 := ⟨by decide +kernel, rfl⟩
theorem i0_176 : decode m0.2.1 176 = .ok (.iload 9, 2) ∧ 176 + 2 = 178 := ⟨by decide +kernel, rfl⟩
theorem i0_178 : decode m0.2.1 178 = .ok (.istore 21, 2) ∧ 178 + 2 = 180 := ⟨by decide +kernel, rfl⟩
theorem i0_180 : decode m0.2.1 180 = .ok (.iload 9, 2) ∧ 180 + 2 = 182 := ⟨by decide +kernel, rfl⟩
theorem i0_182 : decode m0.2.1 182 = .ok (.ifCond .eq 14, 3) ∧ 182 + 3 = 185 ∧ 0 ≤ ((182 : Nat) : Int) + 14 ∧ (((182 : Nat) : Int) + 14).toNat = 196 := ⟨by decide +kernel, rfl, by decide, by decide⟩
theorem i0_185 : decode m0.2.1 185 = .ok (.iload 7, 2) ∧ 185 + 2 = 187 := ⟨by decide +kernel, rfl⟩
theorem i0_187 : decode m0.2.1 187 = .ok (.iload 6, 2) ∧ 187 + 2 = 189 := ⟨by decide +kernel, rfl⟩
theorem i0_189 : decode m0.2.1 189 = .ok (.if_icmp .eq 7, 3) ∧ 189 + 3 = 192 ∧ 0 ≤ ((189 : Nat) : Int) + 7 ∧ (((189 : Nat) : Int) + 7).toNat = 196 := ⟨by decide +kernel, rfl, by decide, by decide⟩
theorem i0_192 : decode m0.2.1 192 = .ok (.iconst 1, 1) ∧ 192 + 1 = 193 ∧ Int32.ofInt 1 = 1 := ⟨by decide +kernel, rfl, by decide⟩
theorem i0_193 : decode m0.2.1 193 = .ok (.goto 4, 3) ∧ 193 + 3 = 196 ∧ 0 ≤ ((193 : Nat) : Int) + 4 ∧ (((193 : Nat) : Int) + 4).toNat = 197 := ⟨by decide +kernel, rfl, by decide, by decide⟩
theorem i0_196 : decode m0.2.1 196 = .ok (.iconst 0, 1) ∧ 196 + 1 = 197 ∧ Int32.ofInt 0 = 0 := ⟨by decide +kernel, rfl, by decide⟩
theorem i0_197 : decode m0.2.1 197 = .ok (.istore 22, 2) ∧ 197 + 2 = 199 := ⟨by decide +kernel, rfl⟩
theorem i0_199 : decode m0.2.1 199 = .ok (.iload 9, 2) ∧ 199 + 2 = 201 := ⟨by decide +kernel, rfl⟩
theorem i0_201 : decode m0.2.1 201 = .ok (.ifCond .eq 21, 3) ∧ 201 + 3 = 204 ∧ 0 ≤ ((201 : Nat) : Int) + 21 ∧ (((201 : Nat) : Int) + 21).toNat = 222 := ⟨by decide +kernel, rfl, by decide, by decide⟩
theorem i0_204 : decode m0.2.1 204 = .ok (.iload 8, 2) ∧ 204 + 2 = 206 := ⟨by decide +kernel, rfl⟩
theorem i0_206 : decode m0.2.1 206 = .ok (.iload 6, 2) ∧ 206 + 2 = 208 := ⟨by decide +kernel, rfl⟩
theorem i0_208 : decode m0.2.1 208 = .ok (.if_icmp .eq 14, 3) ∧ 208 + 3 = 211 ∧ 0 ≤ ((208 : Nat) : Int) + 14 ∧ (((208 : Nat) : Int) + 14).toNat = 222 := ⟨by decide +kernel, rfl, by decide, by decide⟩
theorem i0_211 : decode m0.2.1 211 = .ok (.iload 8, 2) ∧ 211 + 2 = 213 := ⟨by decide +kernel, rfl⟩
theorem i0_213 : decode m0.2.1 213 = .ok (.iload 7, 2) ∧ 213 + 2 = 215 := ⟨by decide +kernel, rfl⟩
theorem i0_215 : decode m0.2.1 215 = .ok (.if_icmp .eq 7, 3) ∧ 215 + 3 = 218 ∧ 0 ≤ ((215 : Nat) : Int) + 7 ∧ (((215 : Nat) : Int) + 7).toNat = 222 := ⟨by decide +kernel, rfl, by decide, by decide⟩
theorem i0_218 : decode m0.2.1 218 = .ok (.iconst 1, 1) ∧ 218 + 1 = 219 ∧ Int32.ofInt 1 = 1 := ⟨by decide +kernel, rfl, by decide⟩
theorem i0_219 : decode m0.2.1 219 = .ok (.goto 4, 3) ∧ 219 + 3 = 222 ∧ 0 ≤ ((219 : Nat) : Int) + 4 ∧ (((219 : Nat) : Int) + 4).toNat = 223 := ⟨by decide +kernel, rfl, by decide, by decide⟩
theorem i0_222 : decode m0.2.1 222 = .ok (.iconst 0, 1) ∧ 222 + 1 = 223 ∧ Int32.ofInt 0 = 0 := ⟨by decide +kernel, rfl, by decide⟩
theorem i0_223 : decode m0.2.1 223 = .ok (.istore 23, 2) ∧ 223 + 2 = 225 := ⟨by decide +kernel, rfl⟩
theorem i0_225 : decode m0.2.1 225 = .ok (.iload 11, 2) ∧ 225 + 2 = 227 := ⟨by decide +kernel, rfl⟩
theorem i0_227 : decode m0.2.1 227 = .ok (.iload 18, 2) ∧ 227 + 2 = 229 := ⟨by decide +kernel, rfl⟩
theorem i0_229 : decode m0.2.1 229 = .ok (.if_icmp .ne 47, 3) ∧ 229 + 3 = 232 ∧ 0 ≤ ((229 : Nat) : Int) + 47 ∧ (((229 : Nat) : Int) + 47).toNat = 276 := ⟨by decide +kernel, rfl, by decide, by decide⟩
theorem i0_232 : decode m0.2.1 232 = .ok (.iload 12, 2) ∧ 232 + 2 = 234 := ⟨by decide +kernel, rfl⟩
theorem i0_234 : decode m0.2.1 234 = .ok (.iload 19, 2) ∧ 234 + 2 = 236 := ⟨by decide +kernel, rfl⟩
theorem i0_236 : decode m0.2.1 236 = .ok (.if_icmp .ne 40, 3) ∧ 236 + 3 = 239 ∧ 0 ≤ ((236 : Nat) : Int) + 40 ∧ (((236 : Nat) : Int) + 40).toNat = 276 := ⟨by decide +kernel, rfl, by decide, by decide⟩
theorem i0_239 : decode m0.2.1 239 = .ok (.iload 13, 2) ∧ 239 + 2 = 241 := ⟨by decide +kernel, rfl⟩
theorem i0_241 : decode m0.2.1 241 = .ok (.iload 20, 2) ∧ 241 + 2 = 243 := ⟨by decide +kernel, rfl⟩
theorem i0_243 : decode m0.2.1 243 = .ok (.if_icmp .ne 33, 3) ∧ 243 + 3 = 246 ∧ 0 ≤ ((243 : Nat) : Int) + 33 ∧ (((243 : Nat) : Int) + 33).toNat = 276 := ⟨by decide +kernel, rfl, by decide, by decide⟩
theorem i0_246 : decode m0.2.1 246 = .ok (.iload 14, 2) ∧ 246 + 2 = 248 := ⟨by decide +kernel, rfl⟩
theorem i0_248 : decode m0.2.1 248 = .ok (.iload 21, 2) ∧ 248 + 2 = 250 := ⟨by decide +kernel, rfl⟩
theorem i0_250 : decode m0.2.1 250 = .ok (.if_icmp .ne 26, 3) ∧ 250 + 3 = 253 ∧ 0 ≤ ((250 : Nat) : Int) + 26 ∧ (((250 : Nat) : Int) + 26).toNat = 276 := ⟨by decide +kernel, rfl, by decide, by decide⟩
theorem i0_253 : decode m0.2.1 253 = .ok (.iload 15, 2) ∧ 253 + 2 = 255 := ⟨by decide +kernel, rfl⟩
theorem i0_255 : decode m0.2.1 255 = .ok (.iload 22, 2) ∧ 255 + 2 = 257 := ⟨by decide +kernel, rfl⟩
theorem i0_257 : decode m0.2.1 257 = .ok (.if_icmp .ne 19, 3) ∧ 257 + 3 = 260 ∧ 0 ≤ ((257 : Nat) : Int) + 19 ∧ (((257 : Nat) : Int) + 19).toNat = 276 := ⟨by decide +kernel, rfl, by decide, by decide⟩
theorem i0_260 : decode m0.2.1 260 = .ok (.iload 16, 2) ∧ 260 + 2 = 262 := ⟨by decide +kernel, rfl⟩
theorem i0_262 : decode m0.2.1 262 = .ok (.iload 23, 2) ∧ 262 + 2 = 264 := ⟨by decide +kernel, rfl⟩
theorem i0_264 : decode m0.2.1 264 = .ok (.if_icmp .ne 12, 3) ∧ 264 + 3 = 267 ∧ 0 ≤ ((264 : Nat) : Int) + 12 ∧ (((264 : Nat) : Int) + 12).toNat = 276 := ⟨by decide +kernel, rfl, by decide, by decide⟩
theorem i0_267 : decode m0.2.1 267 = .ok (.iload 17, 2) ∧ 267 + 2 = 269 := ⟨by decide +kernel, rfl⟩
theorem i0_269 : decode m0.2.1 269 = .ok (.ifCond .ne 7, 3) ∧ 269 + 3 = 272 ∧ 0 ≤ ((269 : Nat) : Int) + 7 ∧ (((269 : Nat) : Int) + 7).toNat = 276 := ⟨by decide +kernel, rfl, by decide, by decide⟩
theorem i0_272 : decode m0.2.1 272 = .ok (.iconst 1, 1) ∧ 272 + 1 = 273 ∧ Int32.ofInt 1 = 1 := ⟨by decide +kernel, rfl, by decide⟩
theorem i0_273 : decode m0.2.1 273 = .ok (.goto 4, 3) ∧ 273 + 3 = 276 ∧ 0 ≤ ((273 : Nat) : Int) + 4 ∧ (((273 : Nat) : Int) + 4).toNat = 277 := ⟨by decide +kernel, rfl, by decide, by decide⟩
theorem i0_276 : decode m0.2.1 276 = .ok (.iconst 0, 1) ∧ 276 + 1 = 277 ∧ Int32.ofInt 0 = 0 := ⟨by decide +kernel, rfl, by decide⟩
theorem i0_277 : decode m0.2.1 277 = .ok (.ireturn, 1) := by decide +kernel
theorem i1_0 : decode m1.2.1 0 = .ok (.aload_n 0, 1) ∧ 0 + 1 = 1 := ⟨by decide +kernel, rfl⟩
theorem i1_1 : decode m1.2.1 1 = .ok (.invokespecial 1, 3) ∧ 1 + 3 = 4 := ⟨by decide +kernel, rfl⟩
theorem i1_4 : decode m1.2.1 4 = .ok (.aload_n 0, 1) ∧ 4 + 1 = 5 := ⟨by decide +kernel, rfl⟩
theorem i1_5 : decode m1.2.1 5 = .ok (.iload_n 1, 1) ∧ 5 + 1 = 6 := ⟨by decide +kernel, rfl⟩
theorem i1_6 : decode m1.2.1 6 = .ok (.newarray .int, 2) ∧ 6 + 2 = 8 := ⟨by decide +kernel, rfl⟩
theorem i1_8 : decode m1.2.1 8 = .ok (.putfield 7, 3) ∧ 8 + 3 = 11 := ⟨by decide +kernel, rfl⟩
theorem i1_11 : decode m1.2.1 11 = .ok (.return_, 1) := by decide +kernel
theorem i3_0 : decode m3.2.1 0 = .ok (.aload_n 0, 1) ∧ 0 + 1 = 1 := ⟨by decide +kernel, rfl⟩
theorem i3_1 : decode m3.2.1 1 = .ok (.dup, 1) ∧ 1 + 1 = 2 := ⟨by decide +kernel, rfl⟩
theorem i3_2 : decode m3.2.1 2 = .ok (.getfield 13, 3) ∧ 2 + 3 = 5 := ⟨by decide +kernel, rfl⟩
theorem i3_5 : decode m3.2.1 5 = .ok (.iconst 1, 1) ∧ 5 + 1 = 6 ∧ Int32.ofInt 1 = 1 := ⟨by decide +kernel, rfl, by decide⟩
theorem i3_6 : decode m3.2.1 6 = .ok (.iadd, 1) ∧ 6 + 1 = 7 := ⟨by decide +kernel, rfl⟩
theorem i3_7 : decode m3.2.1 7 = .ok (.putfield 13, 3) ∧ 7 + 3 = 10 := ⟨by decide +kernel, rfl⟩
theorem i3_10 : decode m3.2.1 10 = .ok (.aload_n 0, 1) ∧ 10 + 1 = 11 := ⟨by decide +kernel, rfl⟩
theorem i3_11 : decode m3.2.1 11 = .ok (.getfield 13, 3) ∧ 11 + 3 = 14 := ⟨by decide +kernel, rfl⟩
theorem i3_14 : decode m3.2.1 14 = .ok (.ifCond .ne 16, 3) ∧ 14 + 3 = 17 ∧ 0 ≤ ((14 : Nat) : Int) + 16 ∧ (((14 : Nat) : Int) + 16).toNat = 30 := ⟨by decide +kernel, rfl, by decide, by decide⟩
theorem i3_17 : decode m3.2.1 17 = .ok (.aload_n 0, 1) ∧ 17 + 1 = 18 := ⟨by decide +kernel, rfl⟩
theorem i3_18 : decode m3.2.1 18 = .ok (.getfield 7, 3) ∧ 18 + 3 = 21 := ⟨by decide +kernel, rfl⟩
theorem i3_21 : decode m3.2.1 21 = .ok (.iconst 0, 1) ∧ 21 + 1 = 22 ∧ Int32.ofInt 0 = 0 := ⟨by decide +kernel, rfl, by decide⟩
theorem i3_22 : decode m3.2.1 22 = .ok (.invokestatic 17, 3) ∧ 22 + 3 = 25 := ⟨by decide +kernel, rfl⟩
theorem i3_25 : decode m3.2.1 25 = .ok (.aload_n 0, 1) ∧ 25 + 1 = 26 := ⟨by decide +kernel, rfl⟩
theorem i3_26 : decode m3.2.1 26 = .ok (.iconst 1, 1) ∧ 26 + 1 = 27 ∧ Int32.ofInt 1 = 1 := ⟨by decide +kernel, rfl, by decide⟩
theorem i3_27 : decode m3.2.1 27 = .ok (.putfield 13, 3) ∧ 27 + 3 = 30 := ⟨by decide +kernel, rfl⟩
theorem i3_30 : decode m3.2.1 30 = .ok (.return_, 1) := by decide +kernel
theorem i4_0 : decode m4.2.1 0 = .ok (.aload_n 0, 1) ∧ 0 + 1 = 1 := ⟨by decide +kernel, rfl⟩
theorem i4_1 : decode m4.2.1 1 = .ok (.getfield 7, 3) ∧ 1 + 3 = 4 := ⟨by decide +kernel, rfl⟩
theorem i4_4 : decode m4.2.1 4 = .ok (.iload_n 1, 1) ∧ 4 + 1 = 5 := ⟨by decide +kernel, rfl⟩
theorem i4_5 : decode m4.2.1 5 = .ok (.iaload, 1) ∧ 5 + 1 = 6 := ⟨by decide +kernel, rfl⟩
theorem i4_6 : decode m4.2.1 6 = .ok (.aload_n 0, 1) ∧ 6 + 1 = 7 := ⟨by decide +kernel, rfl⟩
theorem i4_7 : decode m4.2.1 7 = .ok (.getfield 13, 3) ∧ 7 + 3 = 10 := ⟨by decide +kernel, rfl⟩
theorem i4_10 : decode m4.2.1 10 = .ok (.if_icmp .eq 7, 3) ∧ 10 + 3 = 13 ∧ 0 ≤ ((10 : Nat) : Int) + 7 ∧ (((10 : Nat) : Int) + 7).toNat = 17 := ⟨by decide +kernel, rfl, by decide, by decide⟩
theorem i4_13 : decode m4.2.1 13 = .ok (.iconst 1, 1) ∧ 13 + 1 = 14 ∧ Int32.ofInt 1 = 1 := ⟨by decide +kernel, rfl, by decide⟩
theorem i4_14 : decode m4.2.1 14 = .ok (.goto 4, 3) ∧ 14 + 3 = 17 ∧ 0 ≤ ((14 : Nat) : Int) + 4 ∧ (((14 : Nat) : Int) + 4).toNat = 18 := ⟨by decide +kernel, rfl, by decide, by decide⟩
theorem i4_17 : decode m4.2.1 17 = .ok (.iconst 0, 1) ∧ 17 + 1 = 18 ∧ Int32.ofInt 0 = 0 := ⟨by decide +kernel, rfl, by decide⟩
theorem i4_18 : decode m4.2.1 18 = .ok (.istore_n 2, 1) ∧ 18 + 1 = 19 := ⟨by decide +kernel, rfl⟩
theorem i4_19 : decode m4.2.1 19 = .ok (.aload_n 0, 1) ∧ 19 + 1 = 20 := ⟨by decide +kernel, rfl⟩
theorem i4_20 : decode m4.2.1 20 = .ok (.getfield 7, 3) ∧ 20 + 3 = 23 := ⟨by decide +kernel, rfl⟩
theorem i4_23 : decode m4.2.1 23 = .ok (.iload_n 1, 1) ∧ 23 + 1 = 24 := ⟨by decide +kernel, rfl⟩
theorem i4_24 : decode m4.2.1 24 = .ok (.aload_n 0, 1) ∧ 24 + 1 = 25 := ⟨by decide +kernel, rfl⟩
theorem i4_25 : decode m4.2.1 25 = .ok (.getfield 13, 3) ∧ 25 + 3 = 28 := ⟨by decide +kernel, rfl⟩
theorem i4_28 : decode m4.2.1 28 = .ok (.iastore, 1) ∧ 28 + 1 = 29 := ⟨by decide +kernel, rfl⟩
theorem i4_29 : decode m4.2.1 29 = .ok (.iload_n 2, 1) ∧ 29 + 1 = 30 := ⟨by decide +kernel, rfl⟩
theorem i4_30 : decode m4.2.1 30 = .ok (.ireturn, 1) := by decide +kernel
theorem s0_9 {l : Launch} {Z : State} {a0 : Array Value} {n0 : Nat} {ls : List Slot} {st : List Value} {H H' : List Ob} {v : Option Value} (hw : HW Z a0) (kk : Runs K l Z n0 m0 11 ls (.int 2147483647 :: st) H v H') : Runs K l Z n0 m0 9 ls st H v H' := r_ldc i0_9 (hw _ (List.mem_of_getElem? (i := 0) rfl)) kk
theorem s0_18 {l : Launch} {Z : State} {a0 : Array Value} {n0 : Nat} {ls : List Slot} {st : List Value} {H H' : List Ob} {v : Option Value} (hw : HW Z a0) (kk : Runs K l Z n0 m0 20 ls (.int 2147483647 :: st) H v H') : Runs K l Z n0 m0 18 ls st H v H' := r_ldc i0_18 (hw _ (List.mem_of_getElem? (i := 0) rfl)) kk
theorem s0_27 {l : Launch} {Z : State} {a0 : Array Value} {n0 : Nat} {ls : List Slot} {st : List Value} {H H' : List Ob} {v : Option Value} (hw : HW Z a0) (kk : Runs K l Z n0 m0 29 ls (.int 2147483647 :: st) H v H') : Runs K l Z n0 m0 27 ls st H v H' := r_ldc i0_27 (hw _ (List.mem_of_getElem? (i := 0) rfl)) kk
theorem s0_49 {l : Launch} {Z : State} {a0 : Array Value} {n0 : Nat} {ls : List Slot} {st : List Value} {H H' H1 : List Ob} {v : Option Value} (hw : HW Z a0) {a : Nat} (ha : H.length = a) (hH : H ++ [.inl (0, [.null, .int 0])] = H1) (kk : Runs K l Z n0 m0 52 ls (.ref a :: st) H1 v H') : Runs K l Z n0 m0 49 ls st H v H' := r_new (cid := 0) (kok hw) i0_49 (hw _ (List.mem_of_getElem? (i := 1) rfl)) (hw _ (List.mem_of_getElem? (i := 3) rfl)) rfl rfl ha hH kk
theorem s0_55 {l : Launch} {Z : State} {a0 : Array Value} {n0 : Nat} {ls : List Slot} {st : List Value} {H H' H1 : List Ob} {v : Option Value} (hw : HW Z a0) {a : Nat} {x0 : Value} (M : Meets K l Z n0 m1 [.ref a, x0] H none H1) (hls : ls.length = 24) (hlo : (st.map fun v => v.category).sum ≤ 1) (kk : Runs K l Z n0 m0 58 ls st H1 v H') : Runs K l Z n0 m0 55 ls (x0 :: .ref a :: st) H v H' := r_special (mj := m1) (as := [x0]) (rest := st) i0_55 rfl rfl (hw _ (List.mem_of_getElem? (i := 4) rfl)) (hw _ (List.mem_of_getElem? (i := 5) rfl)) (hw _ (List.mem_of_getElem? (i := 3) rfl)) (hw _ (List.mem_of_getElem? (i := 6) rfl)) (by decide) (lenOf pd1 rfl) (by decide) rfl hls (by show _ + (2 + 11) + 12 ≤ 26; omega) M kk
theorem s0_62 {l : Launch} {Z : State} {a0 : Array Value} {n0 : Nat} {ls : List Slot} {st : List Value} {H H' H1 : List Ob} {v : Option Value} (hw : HW Z a0) {a : Nat} {vs : List Value} (ho : H[a]? = some (.inl (0, vs))) (M : Meets K l Z n0 m3 [.ref a] H none H1) (hls : ls.length = 24) (hlo : (st.map fun v => v.category).sum ≤ 14) (kk : Runs K l Z n0 m0 65 ls st H1 v H') : Runs K l Z n0 m0 62 ls (.ref a :: st) H v H' := r_virtual (mj := m3) (cid := 0) (as := []) (rest := st) i0_62 (hw _ (List.mem_of_getElem? (i := 13) rfl)) (hw _ (List.mem_of_getElem? (i := 14) rfl)) (hw _ (List.mem_of_getElem? (i := 16) rfl)) (hw _ (List.mem_of_getElem? (i := 15) rfl)) (hw _ (List.mem_of_getElem? (i := 3) rfl)) (hw _ (List.mem_of_getElem? (i := 17) rfl)) (by decide) (lenOf pd3 rfl) (by decide) rfl rfl ho hls (by show _ + (1 + 11) + 0 ≤ 26; omega) M kk
theorem s0_69 {l : Launch} {Z : State} {a0 : Array Value} {n0 : Nat} {ls : List Slot} {st : List Value} {H H' H1 : List Ob} {v : Option Value} (hw : HW Z a0) {a : Nat} {vs : List Value} {x0 : Value} {w : Value} (ho : H[a]? = some (.inl (0, vs))) (M : Meets K l Z n0 m4 [.ref a, x0] H (some w) H1) (hls : ls.length = 24) (hlo : (st.map fun v => v.category).sum ≤ 12) (kk : Runs K l Z n0 m0 72 ls (w :: st) H1 v H') : Runs K l Z n0 m0 69 ls (x0 :: .ref a :: st) H v H' := r_virtual (mj := m4) (cid := 0) (as := [x0]) (rest := st) i0_69 (hw _ (List.mem_of_getElem? (i := 20) rfl)) (hw _ (List.mem_of_getElem? (i := 21) rfl)) (hw _ (List.mem_of_getElem? (i := 23) rfl)) (hw _ (List.mem_of_getElem? (i := 22) rfl)) (hw _ (List.mem_of_getElem? (i := 3) rfl)) (hw _ (List.mem_of_getElem? (i := 24) rfl)) (by decide) (lenOf pd4 rfl) (by decide) rfl rfl ho hls (by show _ + (3 + 11) + 0 ≤ 26; omega) M kk
theorem s0_78 {l : Launch} {Z : State} {a0 : Array Value} {n0 : Nat} {ls : List Slot} {st : List Value} {H H' H1 : List Ob} {v : Option Value} (hw : HW Z a0) {a : Nat} {vs : List Value} {x0 : Value} {w : Value} (ho : H[a]? = some (.inl (0, vs))) (M : Meets K l Z n0 m4 [.ref a, x0] H (some w) H1) (hls : ls.length = 24) (hlo : (st.map fun v => v.category).sum ≤ 12) (kk : Runs K l Z n0 m0 81 ls (w :: st) H1 v H') : Runs K l Z n0 m0 78 ls (x0 :: .ref a :: st) H v H' := r_virtual (mj := m4) (cid := 0) (as := [x0]) (rest := st) i0_78 (hw _ (List.mem_of_getElem? (i := 20) rfl)) (hw _ (List.mem_of_getElem? (i := 21) rfl)) (hw _ (List.mem_of_getElem? (i := 23) rfl)) (hw _ (List.mem_of_getElem? (i := 22) rfl)) (hw _ (List.mem_of_getElem? (i := 3) rfl)) (hw _ (List.mem_of_getElem? (i := 24) rfl)) (by decide) (lenOf pd4 rfl) (by decide) rfl rfl ho hls (by show _ + (3 + 11) + 0 ≤ 26; omega) M kk
theorem s0_87 {l : Launch} {Z : State} {a0 : Array Value} {n0 : Nat} {ls : List Slot} {st : List Value} {H H' H1 : List Ob} {v : Option Value} (hw : HW Z a0) {a : Nat} {vs : List Value} {x0 : Value} {w : Value} (ho : H[a]? = some (.inl (0, vs))) (M : Meets K l Z n0 m4 [.ref a, x0] H (some w) H1) (hls : ls.length = 24) (hlo : (st.map fun v => v.category).sum ≤ 12) (kk : Runs K l Z n0 m0 90 ls (w :: st) H1 v H') : Runs K l Z n0 m0 87 ls (x0 :: .ref a :: st) H v H' := r_virtual (mj := m4) (cid := 0) (as := [x0]) (rest := st) i0_87 (hw _ (List.mem_of_getElem? (i := 20) rfl)) (hw _ (List.mem_of_getElem? (i := 21) rfl)) (hw _ (List.mem_of_getElem? (i := 23) rfl)) (hw _ (List.mem_of_getElem? (i := 22) rfl)) (hw _ (List.mem_of_getElem? (i := 3) rfl)) (hw _ (List.mem_of_getElem? (i := 24) rfl)) (by decide) (lenOf pd4 rfl) (by decide) rfl rfl ho hls (by show _ + (3 + 11) + 0 ≤ 26; omega) M kk
theorem s0_99 {l : Launch} {Z : State} {a0 : Array Value} {n0 : Nat} {ls : List Slot} {st : List Value} {H H' H1 : List Ob} {v : Option Value} (hw : HW Z a0) {a : Nat} {vs : List Value} (ho : H[a]? = some (.inl (0, vs))) (M : Meets K l Z n0 m3 [.ref a] H none H1) (hls : ls.length = 24) (hlo : (st.map fun v => v.category).sum ≤ 14) (kk : Runs K l Z n0 m0 102 ls st H1 v H') : Runs K l Z n0 m0 99 ls (.ref a :: st) H v H' := r_virtual (mj := m3) (cid := 0) (as := []) (rest := st) i0_99 (hw _ (List.mem_of_getElem? (i := 13) rfl)) (hw _ (List.mem_of_getElem? (i := 14) rfl)) (hw _ (List.mem_of_getElem? (i := 16) rfl)) (hw _ (List.mem_of_getElem? (i := 15) rfl)) (hw _ (List.mem_of_getElem? (i := 3) rfl)) (hw _ (List.mem_of_getElem? (i := 17) rfl)) (by decide) (lenOf pd3 rfl) (by decide) rfl rfl ho hls (by show _ + (1 + 11) + 0 ≤ 26; omega) M kk
theorem s0_106 {l : Launch} {Z : State} {a0 : Array Value} {n0 : Nat} {ls : List Slot} {st : List Value} {H H' H1 : List Ob} {v : Option Value} (hw : HW Z a0) {a : Nat} {vs : List Value} {x0 : Value} {w : Value} (ho : H[a]? = some (.inl (0, vs))) (M : Meets K l Z n0 m4 [.ref a, x0] H (some w) H1) (hls : ls.length = 24) (hlo : (st.map fun v => v.category).sum ≤ 12) (kk : Runs K l Z n0 m0 109 ls (w :: st) H1 v H') : Runs K l Z n0 m0 106 ls (x0 :: .ref a :: st) H v H' := r_virtual (mj := m4) (cid := 0) (as := [x0]) (rest := st) i0_106 (hw _ (List.mem_of_getElem? (i := 20) rfl)) (hw _ (List.mem_of_getElem? (i := 21) rfl)) (hw _ (List.mem_of_getElem? (i := 23) rfl)) (hw _ (List.mem_of_getElem? (i := 22) rfl)) (hw _ (List.mem_of_getElem? (i := 3) rfl)) (hw _ (List.mem_of_getElem? (i := 24) rfl)) (by decide) (lenOf pd4 rfl) (by decide) rfl rfl ho hls (by show _ + (3 + 11) + 0 ≤ 26; omega) M kk
theorem s0_115 {l : Launch} {Z : State} {a0 : Array Value} {n0 : Nat} {ls : List Slot} {st : List Value} {H H' H1 : List Ob} {v : Option Value} (hw : HW Z a0) {a : Nat} {vs : List Value} {x0 : Value} {w : Value} (ho : H[a]? = some (.inl (0, vs))) (M : Meets K l Z n0 m4 [.ref a, x0] H (some w) H1) (hls : ls.length = 24) (hlo : (st.map fun v => v.category).sum ≤ 12) (kk : Runs K l Z n0 m0 118 ls (w :: st) H1 v H') : Runs K l Z n0 m0 115 ls (x0 :: .ref a :: st) H v H' := r_virtual (mj := m4) (cid := 0) (as := [x0]) (rest := st) i0_115 (hw _ (List.mem_of_getElem? (i := 20) rfl)) (hw _ (List.mem_of_getElem? (i := 21) rfl)) (hw _ (List.mem_of_getElem? (i := 23) rfl)) (hw _ (List.mem_of_getElem? (i := 22) rfl)) (hw _ (List.mem_of_getElem? (i := 3) rfl)) (hw _ (List.mem_of_getElem? (i := 24) rfl)) (by decide) (lenOf pd4 rfl) (by decide) rfl rfl ho hls (by show _ + (3 + 11) + 0 ≤ 26; omega) M kk
theorem s0_124 {l : Launch} {Z : State} {a0 : Array Value} {n0 : Nat} {ls : List Slot} {st : List Value} {H H' H1 : List Ob} {v : Option Value} (hw : HW Z a0) {a : Nat} {vs : List Value} {x0 : Value} {w : Value} (ho : H[a]? = some (.inl (0, vs))) (M : Meets K l Z n0 m4 [.ref a, x0] H (some w) H1) (hls : ls.length = 24) (hlo : (st.map fun v => v.category).sum ≤ 12) (kk : Runs K l Z n0 m0 127 ls (w :: st) H1 v H') : Runs K l Z n0 m0 124 ls (x0 :: .ref a :: st) H v H' := r_virtual (mj := m4) (cid := 0) (as := [x0]) (rest := st) i0_124 (hw _ (List.mem_of_getElem? (i := 20) rfl)) (hw _ (List.mem_of_getElem? (i := 21) rfl)) (hw _ (List.mem_of_getElem? (i := 23) rfl)) (hw _ (List.mem_of_getElem? (i := 22) rfl)) (hw _ (List.mem_of_getElem? (i := 3) rfl)) (hw _ (List.mem_of_getElem? (i := 24) rfl)) (by decide) (lenOf pd4 rfl) (by decide) rfl rfl ho hls (by show _ + (3 + 11) + 0 ≤ 26; omega) M kk
theorem s0_133 {l : Launch} {Z : State} {a0 : Array Value} {n0 : Nat} {ls : List Slot} {st : List Value} {H H' H1 : List Ob} {v : Option Value} (hw : HW Z a0) {a : Nat} {vs : List Value} {x0 : Value} {w : Value} (ho : H[a]? = some (.inl (0, vs))) (M : Meets K l Z n0 m4 [.ref a, x0] H (some w) H1) (hls : ls.length = 24) (hlo : (st.map fun v => v.category).sum ≤ 12) (kk : Runs K l Z n0 m0 136 ls (w :: st) H1 v H') : Runs K l Z n0 m0 133 ls (x0 :: .ref a :: st) H v H' := r_virtual (mj := m4) (cid := 0) (as := [x0]) (rest := st) i0_133 (hw _ (List.mem_of_getElem? (i := 20) rfl)) (hw _ (List.mem_of_getElem? (i := 21) rfl)) (hw _ (List.mem_of_getElem? (i := 23) rfl)) (hw _ (List.mem_of_getElem? (i := 22) rfl)) (hw _ (List.mem_of_getElem? (i := 3) rfl)) (hw _ (List.mem_of_getElem? (i := 24) rfl)) (by decide) (lenOf pd4 rfl) (by decide) rfl rfl ho hls (by show _ + (3 + 11) + 0 ≤ 26; omega) M kk
theorem s1_1 {l : Launch} {Z : State} {a0 : Array Value} {n0 : Nat} {ls : List Slot} {st : List Value} {H H' : List Ob} {v : Option Value} (hw : HW Z a0) {a : Nat} (hls : ls.length = 2) (hlo : (st.map fun v => v.category).sum ≤ 0) (kk : Runs K l Z n0 m1 4 ls st H v H') : Runs K l Z n0 m1 1 ls (.ref a :: st) H v H' := r_initO i1_1 (hw _ (List.mem_of_getElem? (i := 7) rfl)) (hw _ (List.mem_of_getElem? (i := 8) rfl)) (hw _ (List.mem_of_getElem? (i := 9) rfl)) hls (by decide) (Nat.add_le_add_right hlo 12) kk
theorem s1_6 {l : Launch} {Z : State} {a0 : Array Value} {n0 : Nat} {ls : List Slot} {st : List Value} {H H' H1 : List Ob} {v : Option Value} (hw : HW Z a0) {a : Nat} {n : Int32} {o : List Value} (hn : ¬ n < 0) (h8 : n.toNatClampNeg * 8 ≤ 536870912) (ho : List.replicate n.toNatClampNeg (.int 0) = o) (ha : H.length = a) (hH : H ++ [.inr (.int, o)] = H1) (kk : Runs K l Z n0 m1 8 ls (.ref a :: st) H1 v H') : Runs K l Z n0 m1 6 ls (.int n :: st) H v H' := r_newA i1_6 (hw _ (List.mem_of_getElem? (i := 10) rfl)) hn h8 ho ha hH kk
theorem s1_8 {l : Launch} {Z : State} {a0 : Array Value} {n0 : Nat} {ls : List Slot} {st : List Value} {H H' H1 : List Ob} {v : Option Value} (hw : HW Z a0) {a : Nat} {f0 f1 x : Value} (ho : H[a]? = some (.inl (0, [f0, f1]))) (hn : narrow (.array .int) x = x) (hf : fits (.array .int) x = true) (hH : H.set a (.inl (0, [x, f1])) = H1) (kk : Runs K l Z n0 m1 11 ls st H1 v H') : Runs K l Z n0 m1 8 ls (x :: .ref a :: st) H v H' := r_putF (cid := 0) (i := 0) (kok hw) i1_8 (hw _ (List.mem_of_getElem? (i := 11) rfl)) Via.refl rfl rfl (Or.inr ⟨(hw _ (List.mem_of_getElem? (i := 12) rfl)), rfl, rfl⟩) ho (ltB rfl) hn hf rfl hH kk
theorem s3_2 {l : Launch} {Z : State} {a0 : Array Value} {n0 : Nat} {ls : List Slot} {st : List Value} {H H' : List Ob} {v : Option Value} (hw : HW Z a0) {a : Nat} {f0 f1 : Value} (ho : H[a]? = some (.inl (0, [f0, f1]))) (kk : Runs K l Z n0 m3 5 ls (f1 :: st) H v H') : Runs K l Z n0 m3 2 ls (.ref a :: st) H v H' := r_getF (cid := 0) (i := 1) i3_2 (hw _ (List.mem_of_getElem? (i := 18) rfl)) Via.refl rfl rfl ho rfl kk
theorem s3_7 {l : Launch} {Z : State} {a0 : Array Value} {n0 : Nat} {ls : List Slot} {st : List Value} {H H' H1 : List Ob} {v : Option Value} (hw : HW Z a0) {a : Nat} {f0 f1 x : Value} (ho : H[a]? = some (.inl (0, [f0, f1]))) (hn : narrow .int x = x) (hf : fits .int x = true) (hH : H.set a (.inl (0, [f0, x])) = H1) (kk : Runs K l Z n0 m3 10 ls st H1 v H') : Runs K l Z n0 m3 7 ls (x :: .ref a :: st) H v H' := r_putF (cid := 0) (i := 1) (kok hw) i3_7 (hw _ (List.mem_of_getElem? (i := 18) rfl)) Via.refl rfl rfl (Or.inl (hw _ (List.mem_of_getElem? (i := 19) rfl))) ho (ltB rfl) hn hf rfl hH kk
theorem s3_11 {l : Launch} {Z : State} {a0 : Array Value} {n0 : Nat} {ls : List Slot} {st : List Value} {H H' : List Ob} {v : Option Value} (hw : HW Z a0) {a : Nat} {f0 f1 : Value} (ho : H[a]? = some (.inl (0, [f0, f1]))) (kk : Runs K l Z n0 m3 14 ls (f1 :: st) H v H') : Runs K l Z n0 m3 11 ls (.ref a :: st) H v H' := r_getF (cid := 0) (i := 1) i3_11 (hw _ (List.mem_of_getElem? (i := 18) rfl)) Via.refl rfl rfl ho rfl kk
theorem s3_18 {l : Launch} {Z : State} {a0 : Array Value} {n0 : Nat} {ls : List Slot} {st : List Value} {H H' : List Ob} {v : Option Value} (hw : HW Z a0) {a : Nat} {f0 f1 : Value} (ho : H[a]? = some (.inl (0, [f0, f1]))) (kk : Runs K l Z n0 m3 21 ls (f0 :: st) H v H') : Runs K l Z n0 m3 18 ls (.ref a :: st) H v H' := r_getF (cid := 0) (i := 0) i3_18 (hw _ (List.mem_of_getElem? (i := 11) rfl)) Via.refl rfl rfl ho rfl kk
-- 3_22 .invokestatic 17: no link word
theorem s3_27 {l : Launch} {Z : State} {a0 : Array Value} {n0 : Nat} {ls : List Slot} {st : List Value} {H H' H1 : List Ob} {v : Option Value} (hw : HW Z a0) {a : Nat} {f0 f1 x : Value} (ho : H[a]? = some (.inl (0, [f0, f1]))) (hn : narrow .int x = x) (hf : fits .int x = true) (hH : H.set a (.inl (0, [f0, x])) = H1) (kk : Runs K l Z n0 m3 30 ls st H1 v H') : Runs K l Z n0 m3 27 ls (x :: .ref a :: st) H v H' := r_putF (cid := 0) (i := 1) (kok hw) i3_27 (hw _ (List.mem_of_getElem? (i := 18) rfl)) Via.refl rfl rfl (Or.inl (hw _ (List.mem_of_getElem? (i := 19) rfl))) ho (ltB rfl) hn hf rfl hH kk
theorem s4_1 {l : Launch} {Z : State} {a0 : Array Value} {n0 : Nat} {ls : List Slot} {st : List Value} {H H' : List Ob} {v : Option Value} (hw : HW Z a0) {a : Nat} {f0 f1 : Value} (ho : H[a]? = some (.inl (0, [f0, f1]))) (kk : Runs K l Z n0 m4 4 ls (f0 :: st) H v H') : Runs K l Z n0 m4 1 ls (.ref a :: st) H v H' := r_getF (cid := 0) (i := 0) i4_1 (hw _ (List.mem_of_getElem? (i := 11) rfl)) Via.refl rfl rfl ho rfl kk
theorem s4_7 {l : Launch} {Z : State} {a0 : Array Value} {n0 : Nat} {ls : List Slot} {st : List Value} {H H' : List Ob} {v : Option Value} (hw : HW Z a0) {a : Nat} {f0 f1 : Value} (ho : H[a]? = some (.inl (0, [f0, f1]))) (kk : Runs K l Z n0 m4 10 ls (f1 :: st) H v H') : Runs K l Z n0 m4 7 ls (.ref a :: st) H v H' := r_getF (cid := 0) (i := 1) i4_7 (hw _ (List.mem_of_getElem? (i := 18) rfl)) Via.refl rfl rfl ho rfl kk
theorem s4_20 {l : Launch} {Z : State} {a0 : Array Value} {n0 : Nat} {ls : List Slot} {st : List Value} {H H' : List Ob} {v : Option Value} (hw : HW Z a0) {a : Nat} {f0 f1 : Value} (ho : H[a]? = some (.inl (0, [f0, f1]))) (kk : Runs K l Z n0 m4 23 ls (f0 :: st) H v H') : Runs K l Z n0 m4 20 ls (.ref a :: st) H v H' := r_getF (cid := 0) (i := 0) i4_20 (hw _ (List.mem_of_getElem? (i := 11) rfl)) Via.refl rfl rfl ho rfl kk
theorem s4_25 {l : Launch} {Z : State} {a0 : Array Value} {n0 : Nat} {ls : List Slot} {st : List Value} {H H' : List Ob} {v : Option Value} (hw : HW Z a0) {a : Nat} {f0 f1 : Value} (ho : H[a]? = some (.inl (0, [f0, f1]))) (kk : Runs K l Z n0 m4 28 ls (f1 :: st) H v H') : Runs K l Z n0 m4 25 ls (.ref a :: st) H v H' := r_getF (cid := 0) (i := 1) i4_25 (hw _ (List.mem_of_getElem? (i := 18) rfl)) Via.refl rfl rfl ho rfl kk
theorem own_sz {f0 f1 : Value} {vs : List Value} {n : Int32} (h : n.toNatClampNeg ≤ 8) (e : vs.length = n.toNatClampNeg) : ([.inl (0, [f0, f1]), .inr (.int, vs)] : List Ob).length ≤ 16 ∧ szs K [.inl (0, [f0, f1]), .inr (.int, vs)] ≤ 128 := by
  refine ⟨leB rfl, ?_⟩
  show 2 + (vs.length + 0) ≤ 128
  omega
theorem init_m {l : Launch} {Z : State} {a0 : Array Value} {n0 : Nat} (hw : HW Z a0) {f0 f1 : Value} {n : Int32} (hn : ¬ n < 0) (h8 : n.toNatClampNeg * 8 ≤ 536870912) : Meets K l Z n0 m1 [.ref 0, .int n] [.inl (0, [f0, f1])] none [.inl (0, [.ref 1, f1]), .inr (.int, List.replicate n.toNatClampNeg (.int 0))] := by
  refine meets (ls := [_, _]) pf1 rfl (fun _ => rfl) ?_
  refine r_aloadN i1_0 rfl rfl ?_
  refine s1_1 hw rfl (leB rfl) ?_
  refine r_aloadN i1_4 rfl rfl ?_
  refine r_iloadN i1_5 rfl ?_
  refine s1_6 hw (a := 1) (H1 := [_, _]) hn h8 rfl rfl rfl ?_
  refine s1_8 hw (H1 := [_, _]) rfl rfl rfl rfl ?_
  exact r_return i1_11 rfl
theorem start_m {l : Launch} {Z : State} {a0 : Array Value} {n0 : Nat} (hw : HW Z a0) {f0 : Value} {s s' : Int32} {q : Ob} (hs : s + 1 = s') (h0 : s' ≠ 0) : Meets K l Z n0 m3 [.ref 0] [.inl (0, [f0, .int s]), q] none [.inl (0, [f0, .int s']), q] := by
  refine meets (ls := [_]) pf3 rfl (fun _ => rfl) ?_
  subst hs
  refine r_aloadN i3_0 rfl rfl ?_
  refine r_dup i3_1 rfl ?_
  refine s3_2 hw rfl ?_
  refine r_iconst i3_5 ?_
  refine r_iadd i3_6 ?_
  refine s3_7 hw (H1 := [_, _]) rfl rfl rfl rfl ?_
  refine r_aloadN i3_10 rfl rfl ?_
  refine s3_11 hw rfl ?_
  refine r_ifT i3_14 (XT.i0_ne_t h0) ?_
  exact r_return i3_30 rfl
theorem mark_old {l : Launch} {Z : State} {a0 : Array Value} {n0 : Nat} (hw : HW Z a0) {i : Nat} {x s w : Int32} {vs : List Value} (hx : Ix x i) (hv : vs[i]? = some (.int w)) (h : w = s) : Meets K l Z n0 m4 [.ref 0, .int x] [.inl (0, [.ref 1, .int s]), .inr (.int, vs)] (some (.int 0)) [.inl (0, [.ref 1, .int s]), .inr (.int, vs.set i (.int s))] := by
  refine meets (ls := [_, _, _]) pf4 rfl (fun h => nomatch h) ?_
  refine r_aloadN i4_0 rfl rfl ?_
  refine s4_1 hw rfl ?_
  refine r_iloadN i4_4 rfl ?_
  refine r_iaload i4_5 rfl hx hv ?_
  refine r_aloadN i4_6 rfl rfl ?_
  refine s4_7 hw rfl ?_
  refine r_icT i4_10 (XT.ii_eq_t h) ?_
  refine r_iconst i4_17 ?_
  refine r_istoreN (ls' := [_, _, _]) i4_18 rfl rfl ?_
  refine r_aloadN i4_19 rfl rfl ?_
  refine s4_20 hw rfl ?_
  refine r_iloadN i4_23 rfl ?_
  refine r_aloadN i4_24 rfl rfl ?_
  refine s4_25 hw rfl ?_
  refine r_iastore (H1 := [_, _]) i4_28 rfl hx (lt_of_at hv) rfl rfl ?_
  refine r_iloadN i4_29 rfl ?_
  exact r_zreturn i4_30 rfl (by first | decide | simp)
theorem mark_new {l : Launch} {Z : State} {a0 : Array Value} {n0 : Nat} (hw : HW Z a0) {i : Nat} {x s w : Int32} {vs : List Value} (hx : Ix x i) (hv : vs[i]? = some (.int w)) (h : ¬ w = s) : Meets K l Z n0 m4 [.ref 0, .int x] [.inl (0, [.ref 1, .int s]), .inr (.int, vs)] (some (.int 1)) [.inl (0, [.ref 1, .int s]), .inr (.int, vs.set i (.int s))] := by
  refine meets (ls := [_, _, _]) pf4 rfl (fun h => nomatch h) ?_
  refine r_aloadN i4_0 rfl rfl ?_
  refine s4_1 hw rfl ?_
  refine r_iloadN i4_4 rfl ?_
  refine r_iaload i4_5 rfl hx hv ?_
  refine r_aloadN i4_6 rfl rfl ?_
  refine s4_7 hw rfl ?_
  refine r_icF i4_10 (XT.ii_eq_f h) ?_
  refine r_iconst i4_13 ?_
  refine r_goto i4_14 ?_
  refine r_istoreN (ls' := [_, _, _]) i4_18 rfl rfl ?_
  refine r_aloadN i4_19 rfl rfl ?_
  refine s4_20 hw rfl ?_
  refine r_iloadN i4_23 rfl ?_
  refine r_aloadN i4_24 rfl rfl ?_
  refine s4_25 hw rfl ?_
  refine r_iastore (H1 := [_, _]) i4_28 rfl hx (lt_of_at hv) rfl rfl ?_
  refine r_iloadN i4_29 rfl ?_
  exact r_zreturn i4_30 rfl (by first | decide | simp)
theorem own_ix {x n : Int32} (h0 : 0 ≤ x.toInt) (h1 : x.toInt < n.toInt) : Ix x x.toNatClampNeg ∧ x.toNatClampNeg < n.toNatClampNeg := by
  refine ⟨⟨?_, rfl⟩, ?_⟩
  · rw [Int32.lt_iff_toInt_lt]; have e : (0 : Int32).toInt = 0 := by decide
    omega
  · simp only [Int32.toNatClampNeg]; omega
theorem own_ne {x y : Int32} (hx : 0 ≤ x.toInt) (hy : 0 ≤ y.toInt) (h : ¬ x = y) : ¬ x.toNatClampNeg = y.toNatClampNeg := by
  rw [← Int32.toInt_inj] at h; simp only [Int32.toNatClampNeg]; omega
set_option maxHeartbeats 4000000 in
theorem core1 {l : Launch} {Z : State} {a0 : Array Value} {n0 : Nat} (hw : HW Z a0) (p0 p1 p2 p3 p4 n x y z : Int32) (hn : 0 < n.toInt ∧ n.toInt ≤ 8) (x0 : 0 ≤ x.toInt) (y0 : 0 ≤ y.toInt) (z0 : 0 ≤ z.toInt) (x1 : x.toInt < n.toInt) (y1 : y.toInt < n.toInt) (z1 : z.toInt < n.toInt) : RunsB K l Z n0 m0 49 [.val (.int p0), .val (.int p1), .val (.int p2), .val (.int p3), .val (.int p4), .val (.int n), .val (.int x), .val (.int y), .val (.int z), .val (.int 1), .unset, .unset, .unset, .unset, .unset, .unset, .unset, .unset, .unset, .unset, .unset, .unset, .unset, .unset] [] [] (some (.int 1)) 16 128 := by
  obtain ⟨jx, hx⟩ := own_ix x0 x1
  obtain ⟨jy, hy⟩ := own_ix y0 y1
  obtain ⟨jz, hz⟩ := own_ix z0 z1
  have e0 : (0 : Int32).toInt = 0 := by decide
  have n1 : ¬ n < 0 := by rw [Int32.lt_iff_toInt_lt]; omega
  have n8 : n.toNatClampNeg ≤ 8 := by simp only [Int32.toNatClampNeg]; omega
  by_cases hyx : y = x
  · subst hyx
    by_cases hzx : z = y
    · subst hzx
      have hhx := hz
      refine lift (fun _ kk => s0_49 hw (a := 0) (H1 := [_]) rfl rfl kk) ?_
      refine lift (fun _ kk => r_dup i0_52 rfl kk) ?_
      refine lift (fun _ kk => r_iload i0_53 rfl kk) ?_
      refine lift (fun _ kk => s0_55 hw (H1 := [_, _]) (init_m hw n1 (by omega)) rfl (leB rfl) kk) ?_
      refine lift (fun _ kk => r_astore (ls' := [_, _, _, _, _, _, _, _, _, _, _, _, _, _, _, _, _, _, _, _, _, _, _, _]) i0_58 rfl rfl rfl kk) ?_
      refine lift (fun _ kk => r_aload i0_60 rfl rfl kk) ?_
      refine lift (fun _ kk => s0_62 hw (H1 := [_, _]) rfl (start_m hw (s' := 1) (by decide) (by decide)) rfl (leB rfl) kk) ?_
      refine lift (fun _ kk => r_aload i0_65 rfl rfl kk) ?_
      refine lift (fun _ kk => r_iload i0_67 rfl kk) ?_
      refine lift (fun _ kk => s0_69 hw (H1 := [_, _]) rfl (mark_new hw (w := 0) jz ((List.getElem?_replicate).trans (if_pos hhx)) (by decide)) rfl (leB rfl) kk) ?_
      refine lift (fun _ kk => r_istore (ls' := [_, _, _, _, _, _, _, _, _, _, _, _, _, _, _, _, _, _, _, _, _, _, _, _]) i0_72 rfl rfl kk) ?_
      refine lift (fun _ kk => r_aload i0_74 rfl rfl kk) ?_
      refine lift (fun _ kk => r_iload i0_76 rfl kk) ?_
      refine lift (fun _ kk => s0_78 hw (H1 := [_, _]) rfl (mark_old hw (w := 1) jz (List.getElem?_set_self (by simp only [List.length_set, List.length_replicate]; exact hhx)) rfl) rfl (leB rfl) kk) ?_
      refine lift (fun _ kk => r_istore (ls' := [_, _, _, _, _, _, _, _, _, _, _, _, _, _, _, _, _, _, _, _, _, _, _, _]) i0_81 rfl rfl kk) ?_
      refine lift (fun _ kk => r_aload i0_83 rfl rfl kk) ?_
      refine lift (fun _ kk => r_iload i0_85 rfl kk) ?_
      refine lift (fun _ kk => s0_87 hw (H1 := [_, _]) rfl (mark_old hw (w := 1) jz (List.getElem?_set_self (by simp only [List.length_set, List.length_replicate]; exact hhx)) rfl) rfl (leB rfl) kk) ?_
      refine lift (fun _ kk => r_istore (ls' := [_, _, _, _, _, _, _, _, _, _, _, _, _, _, _, _, _, _, _, _, _, _, _, _]) i0_90 rfl rfl kk) ?_
      refine lift (fun _ kk => r_iload i0_92 rfl kk) ?_
      refine lift (fun _ kk => r_ifF i0_94 (XT.i0_eq_f (by decide)) kk) ?_
      refine lift (fun _ kk => r_aload i0_97 rfl rfl kk) ?_
      refine lift (fun _ kk => s0_99 hw (H1 := [_, _]) rfl (start_m hw (s' := 2) (by decide) (by decide)) rfl (leB rfl) kk) ?_
      refine lift (fun _ kk => r_aload i0_102 rfl rfl kk) ?_
      refine lift (fun _ kk => r_iload i0_104 rfl kk) ?_
      refine lift (fun _ kk => s0_106 hw (H1 := [_, _]) rfl (mark_new hw (w := 1) jz (List.getElem?_set_self (by simp only [List.length_set, List.length_replicate]; exact hhx)) (by decide)) rfl (leB rfl) kk) ?_
      refine lift (fun _ kk => r_istore (ls' := [_, _, _, _, _, _, _, _, _, _, _, _, _, _, _, _, _, _, _, _, _, _, _, _]) i0_109 rfl rfl kk) ?_
      refine lift (fun _ kk => r_aload i0_111 rfl rfl kk) ?_
      refine lift (fun _ kk => r_iload i0_113 rfl kk) ?_
      refine lift (fun _ kk => s0_115 hw (H1 := [_, _]) rfl (mark_old hw (w := 2) jz (List.getElem?_set_self (by simp only [List.length_set, List.length_replicate]; exact hhx)) rfl) rfl (leB rfl) kk) ?_
      refine lift (fun _ kk => r_istore (ls' := [_, _, _, _, _, _, _, _, _, _, _, _, _, _, _, _, _, _, _, _, _, _, _, _]) i0_118 rfl rfl kk) ?_
      refine lift (fun _ kk => r_aload i0_120 rfl rfl kk) ?_
      refine lift (fun _ kk => r_iload i0_122 rfl kk) ?_
      refine lift (fun _ kk => s0_124 hw (H1 := [_, _]) rfl (mark_old hw (w := 2) jz (List.getElem?_set_self (by simp only [List.length_set, List.length_replicate]; exact hhx)) rfl) rfl (leB rfl) kk) ?_
      refine lift (fun _ kk => r_istore (ls' := [_, _, _, _, _, _, _, _, _, _, _, _, _, _, _, _, _, _, _, _, _, _, _, _]) i0_127 rfl rfl kk) ?_
      refine lift (fun _ kk => r_aload i0_129 rfl rfl kk) ?_
      refine lift (fun _ kk => r_iload i0_131 rfl kk) ?_
      refine lift (fun _ kk => s0_133 hw (H1 := [_, _]) rfl (mark_old hw (w := 2) jz (List.getElem?_set_self (by simp only [List.length_set, List.length_replicate]; exact hhx)) rfl) rfl (leB rfl) kk) ?_
      refine lift (fun _ kk => r_istore (ls' := [_, _, _, _, _, _, _, _, _, _, _, _, _, _, _, _, _, _, _, _, _, _, _, _]) i0_136 rfl rfl kk) ?_
      refine lift (fun _ kk => r_iconst i0_138 kk) ?_
      refine lift (fun _ kk => r_istore (ls' := [_, _, _, _, _, _, _, _, _, _, _, _, _, _, _, _, _, _, _, _, _, _, _, _]) i0_139 rfl rfl kk) ?_
      refine lift (fun _ kk => r_iload i0_141 rfl kk) ?_
      refine lift (fun _ kk => r_iload i0_143 rfl kk) ?_
      refine lift (fun _ kk => r_icT i0_145 (XT.ii_eq_t rfl) kk) ?_
      refine lift (fun _ kk => r_iconst i0_152 kk) ?_
      refine lift (fun _ kk => r_istore (ls' := [_, _, _, _, _, _, _, _, _, _, _, _, _, _, _, _, _, _, _, _, _, _, _, _]) i0_153 rfl rfl kk) ?_
      refine lift (fun _ kk => r_iload i0_155 rfl kk) ?_
      refine lift (fun _ kk => r_iload i0_157 rfl kk) ?_
      refine lift (fun _ kk => r_icT i0_159 (XT.ii_eq_t rfl) kk) ?_
      refine lift (fun _ kk => r_iconst i0_173 kk) ?_
      refine lift (fun _ kk => r_istore (ls' := [_, _, _, _, _, _, _, _, _, _, _, _, _, _, _, _, _, _, _, _, _, _, _, _]) i0_174 rfl rfl kk) ?_
      refine lift (fun _ kk => r_iload i0_176 rfl kk) ?_
      refine lift (fun _ kk => r_istore (ls' := [_, _, _, _, _, _, _, _, _, _, _, _, _, _, _, _, _, _, _, _, _, _, _, _]) i0_178 rfl rfl kk) ?_
      refine lift (fun _ kk => r_iload i0_180 rfl kk) ?_
      refine lift (fun _ kk => r_ifF i0_182 (XT.i0_eq_f (by decide)) kk) ?_
      refine lift (fun _ kk => r_iload i0_185 rfl kk) ?_
      refine lift (fun _ kk => r_iload i0_187 rfl kk) ?_
      refine lift (fun _ kk => r_icT i0_189 (XT.ii_eq_t rfl) kk) ?_
      refine lift (fun _ kk => r_iconst i0_196 kk) ?_
      refine lift (fun _ kk => r_istore (ls' := [_, _, _, _, _, _, _, _, _, _, _, _, _, _, _, _, _, _, _, _, _, _, _, _]) i0_197 rfl rfl kk) ?_
      refine lift (fun _ kk => r_iload i0_199 rfl kk) ?_
      refine lift (fun _ kk => r_ifF i0_201 (XT.i0_eq_f (by decide)) kk) ?_
      refine lift (fun _ kk => r_iload i0_204 rfl kk) ?_
      refine lift (fun _ kk => r_iload i0_206 rfl kk) ?_
      refine lift (fun _ kk => r_icT i0_208 (XT.ii_eq_t rfl) kk) ?_
      refine lift (fun _ kk => r_iconst i0_222 kk) ?_
      refine lift (fun _ kk => r_istore (ls' := [_, _, _, _, _, _, _, _, _, _, _, _, _, _, _, _, _, _, _, _, _, _, _, _]) i0_223 rfl rfl kk) ?_
      refine lift (fun _ kk => r_iload i0_225 rfl kk) ?_
      refine lift (fun _ kk => r_iload i0_227 rfl kk) ?_
      refine lift (fun _ kk => r_icF i0_229 (XT.ii_ne_f rfl) kk) ?_
      refine lift (fun _ kk => r_iload i0_232 rfl kk) ?_
      refine lift (fun _ kk => r_iload i0_234 rfl kk) ?_
      refine lift (fun _ kk => r_icF i0_236 (XT.ii_ne_f rfl) kk) ?_
      refine lift (fun _ kk => r_iload i0_239 rfl kk) ?_
      refine lift (fun _ kk => r_iload i0_241 rfl kk) ?_
      refine lift (fun _ kk => r_icF i0_243 (XT.ii_ne_f rfl) kk) ?_
      refine lift (fun _ kk => r_iload i0_246 rfl kk) ?_
      refine lift (fun _ kk => r_iload i0_248 rfl kk) ?_
      refine lift (fun _ kk => r_icF i0_250 (XT.ii_ne_f rfl) kk) ?_
      refine lift (fun _ kk => r_iload i0_253 rfl kk) ?_
      refine lift (fun _ kk => r_iload i0_255 rfl kk) ?_
      refine lift (fun _ kk => r_icF i0_257 (XT.ii_ne_f rfl) kk) ?_
      refine lift (fun _ kk => r_iload i0_260 rfl kk) ?_
      refine lift (fun _ kk => r_iload i0_262 rfl kk) ?_
      refine lift (fun _ kk => r_icF i0_264 (XT.ii_ne_f rfl) kk) ?_
      refine lift (fun _ kk => r_iload i0_267 rfl kk) ?_
      refine lift (fun _ kk => r_ifF i0_269 (XT.i0_ne_f rfl) kk) ?_
      refine lift (fun _ kk => r_iconst i0_272 kk) ?_
      refine lift (fun _ kk => r_goto i0_273 kk) ?_
      exact ⟨_, r_zreturn i0_277 rfl (by first | decide | simp), own_sz n8 (by simp only [List.length_set, List.length_replicate])⟩
    · have nzx := hzx
      have nzy := hzx
      have q1 := own_ne z0 y0 nzx
      have hhx := hy
      have nnxz := own_ne y0 z0 (show ¬ y = z by first | assumption | (intro q; exact absurd q.symm (by assumption)))
      have hhz := hz
      have nnzx := own_ne z0 y0 (show ¬ z = y by first | assumption | (intro q; exact absurd q.symm (by assumption)))
      refine lift (fun _ kk => s0_49 hw (a := 0) (H1 := [_]) rfl rfl kk) ?_
      refine lift (fun _ kk => r_dup i0_52 rfl kk) ?_
      refine lift (fun _ kk => r_iload i0_53 rfl kk) ?_
      refine lift (fun _ kk => s0_55 hw (H1 := [_, _]) (init_m hw n1 (by omega)) rfl (leB rfl) kk) ?_
      refine lift (fun _ kk => r_astore (ls' := [_, _, _, _, _, _, _, _, _, _, _, _, _, _, _, _, _, _, _, _, _, _, _, _]) i0_58 rfl rfl rfl kk) ?_
      refine lift (fun _ kk => r_aload i0_60 rfl rfl kk) ?_
      refine lift (fun _ kk => s0_62 hw (H1 := [_, _]) rfl (start_m hw (s' := 1) (by decide) (by decide)) rfl (leB rfl) kk) ?_
      refine lift (fun _ kk => r_aload i0_65 rfl rfl kk) ?_
      refine lift (fun _ kk => r_iload i0_67 rfl kk) ?_
      refine lift (fun _ kk => s0_69 hw (H1 := [_, _]) rfl (mark_new hw (w := 0) jy ((List.getElem?_replicate).trans (if_pos hhx)) (by decide)) rfl (leB rfl) kk) ?_
      refine lift (fun _ kk => r_istore (ls' := [_, _, _, _, _, _, _, _, _, _, _, _, _, _, _, _, _, _, _, _, _, _, _, _]) i0_72 rfl rfl kk) ?_
      refine lift (fun _ kk => r_aload i0_74 rfl rfl kk) ?_
      refine lift (fun _ kk => r_iload i0_76 rfl kk) ?_
      refine lift (fun _ kk => s0_78 hw (H1 := [_, _]) rfl (mark_old hw (w := 1) jy (List.getElem?_set_self (by simp only [List.length_set, List.length_replicate]; exact hhx)) rfl) rfl (leB rfl) kk) ?_
      refine lift (fun _ kk => r_istore (ls' := [_, _, _, _, _, _, _, _, _, _, _, _, _, _, _, _, _, _, _, _, _, _, _, _]) i0_81 rfl rfl kk) ?_
      refine lift (fun _ kk => r_aload i0_83 rfl rfl kk) ?_
      refine lift (fun _ kk => r_iload i0_85 rfl kk) ?_
      refine lift (fun _ kk => s0_87 hw (H1 := [_, _]) rfl (mark_new hw (w := 0) jz ((List.getElem?_set_ne (nnxz)).trans ((List.getElem?_set_ne (nnxz)).trans ((List.getElem?_replicate).trans (if_pos hhz)))) (by decide)) rfl (leB rfl) kk) ?_
      refine lift (fun _ kk => r_istore (ls' := [_, _, _, _, _, _, _, _, _, _, _, _, _, _, _, _, _, _, _, _, _, _, _, _]) i0_90 rfl rfl kk) ?_
      refine lift (fun _ kk => r_iload i0_92 rfl kk) ?_
      refine lift (fun _ kk => r_ifF i0_94 (XT.i0_eq_f (by decide)) kk) ?_
      refine lift (fun _ kk => r_aload i0_97 rfl rfl kk) ?_
      refine lift (fun _ kk => s0_99 hw (H1 := [_, _]) rfl (start_m hw (s' := 2) (by decide) (by decide)) rfl (leB rfl) kk) ?_
      refine lift (fun _ kk => r_aload i0_102 rfl rfl kk) ?_
      refine lift (fun _ kk => r_iload i0_104 rfl kk) ?_
      refine lift (fun _ kk => s0_106 hw (H1 := [_, _]) rfl (mark_new hw (w := 1) jy ((List.getElem?_set_ne (nnzx)).trans (List.getElem?_set_self (by simp only [List.length_set, List.length_replicate]; exact hhx))) (by decide)) rfl (leB rfl) kk) ?_
      refine lift (fun _ kk => r_istore (ls' := [_, _, _, _, _, _, _, _, _, _, _, _, _, _, _, _, _, _, _, _, _, _, _, _]) i0_109 rfl rfl kk) ?_
      refine lift (fun _ kk => r_aload i0_111 rfl rfl kk) ?_
      refine lift (fun _ kk => r_iload i0_113 rfl kk) ?_
      refine lift (fun _ kk => s0_115 hw (H1 := [_, _]) rfl (mark_old hw (w := 2) jy (List.getElem?_set_self (by simp only [List.length_set, List.length_replicate]; exact hhx)) rfl) rfl (leB rfl) kk) ?_
      refine lift (fun _ kk => r_istore (ls' := [_, _, _, _, _, _, _, _, _, _, _, _, _, _, _, _, _, _, _, _, _, _, _, _]) i0_118 rfl rfl kk) ?_
      refine lift (fun _ kk => r_aload i0_120 rfl rfl kk) ?_
      refine lift (fun _ kk => r_iload i0_122 rfl kk) ?_
      refine lift (fun _ kk => s0_124 hw (H1 := [_, _]) rfl (mark_new hw (w := 1) jz ((List.getElem?_set_ne (nnxz)).trans ((List.getElem?_set_ne (nnxz)).trans (List.getElem?_set_self (by simp only [List.length_set, List.length_replicate]; exact hhz)))) (by decide)) rfl (leB rfl) kk) ?_
      refine lift (fun _ kk => r_istore (ls' := [_, _, _, _, _, _, _, _, _, _, _, _, _, _, _, _, _, _, _, _, _, _, _, _]) i0_127 rfl rfl kk) ?_
      refine lift (fun _ kk => r_aload i0_129 rfl rfl kk) ?_
      refine lift (fun _ kk => r_iload i0_131 rfl kk) ?_
      refine lift (fun _ kk => s0_133 hw (H1 := [_, _]) rfl (mark_old hw (w := 2) jy ((List.getElem?_set_ne (nnzx)).trans (List.getElem?_set_self (by simp only [List.length_set, List.length_replicate]; exact hhx))) rfl) rfl (leB rfl) kk) ?_
      refine lift (fun _ kk => r_istore (ls' := [_, _, _, _, _, _, _, _, _, _, _, _, _, _, _, _, _, _, _, _, _, _, _, _]) i0_136 rfl rfl kk) ?_
      refine lift (fun _ kk => r_iconst i0_138 kk) ?_
      refine lift (fun _ kk => r_istore (ls' := [_, _, _, _, _, _, _, _, _, _, _, _, _, _, _, _, _, _, _, _, _, _, _, _]) i0_139 rfl rfl kk) ?_
      refine lift (fun _ kk => r_iload i0_141 rfl kk) ?_
      refine lift (fun _ kk => r_iload i0_143 rfl kk) ?_
      refine lift (fun _ kk => r_icT i0_145 (XT.ii_eq_t rfl) kk) ?_
      refine lift (fun _ kk => r_iconst i0_152 kk) ?_
      refine lift (fun _ kk => r_istore (ls' := [_, _, _, _, _, _, _, _, _, _, _, _, _, _, _, _, _, _, _, _, _, _, _, _]) i0_153 rfl rfl kk) ?_
      refine lift (fun _ kk => r_iload i0_155 rfl kk) ?_
      refine lift (fun _ kk => r_iload i0_157 rfl kk) ?_
      refine lift (fun _ kk => r_icF i0_159 (XT.ii_eq_f nzx) kk) ?_
      refine lift (fun _ kk => r_iload i0_162 rfl kk) ?_
      refine lift (fun _ kk => r_iload i0_164 rfl kk) ?_
      refine lift (fun _ kk => r_icF i0_166 (XT.ii_eq_f nzy) kk) ?_
      refine lift (fun _ kk => r_iconst i0_169 kk) ?_
      refine lift (fun _ kk => r_goto i0_170 kk) ?_
      refine lift (fun _ kk => r_istore (ls' := [_, _, _, _, _, _, _, _, _, _, _, _, _, _, _, _, _, _, _, _, _, _, _, _]) i0_174 rfl rfl kk) ?_
      refine lift (fun _ kk => r_iload i0_176 rfl kk) ?_
      refine lift (fun _ kk => r_istore (ls' := [_, _, _, _, _, _, _, _, _, _, _, _, _, _, _, _, _, _, _, _, _, _, _, _]) i0_178 rfl rfl kk) ?_
      refine lift (fun _ kk => r_iload i0_180 rfl kk) ?_
      refine lift (fun _ kk => r_ifF i0_182 (XT.i0_eq_f (by decide)) kk) ?_
      refine lift (fun _ kk => r_iload i0_185 rfl kk) ?_
      refine lift (fun _ kk => r_iload i0_187 rfl kk) ?_
      refine lift (fun _ kk => r_icT i0_189 (XT.ii_eq_t rfl) kk) ?_
      refine lift (fun _ kk => r_iconst i0_196 kk) ?_
      refine lift (fun _ kk => r_istore (ls' := [_, _, _, _, _, _, _, _, _, _, _, _, _, _, _, _, _, _, _, _, _, _, _, _]) i0_197 rfl rfl kk) ?_
      refine lift (fun _ kk => r_iload i0_199 rfl kk) ?_
      refine lift (fun _ kk => r_ifF i0_201 (XT.i0_eq_f (by decide)) kk) ?_
      refine lift (fun _ kk => r_iload i0_204 rfl kk) ?_
      refine lift (fun _ kk => r_iload i0_206 rfl kk) ?_
      refine lift (fun _ kk => r_icF i0_208 (XT.ii_eq_f nzx) kk) ?_
      refine lift (fun _ kk => r_iload i0_211 rfl kk) ?_
      refine lift (fun _ kk => r_iload i0_213 rfl kk) ?_
      refine lift (fun _ kk => r_icF i0_215 (XT.ii_eq_f nzy) kk) ?_
      refine lift (fun _ kk => r_iconst i0_218 kk) ?_
      refine lift (fun _ kk => r_goto i0_219 kk) ?_
      refine lift (fun _ kk => r_istore (ls' := [_, _, _, _, _, _, _, _, _, _, _, _, _, _, _, _, _, _, _, _, _, _, _, _]) i0_223 rfl rfl kk) ?_
      refine lift (fun _ kk => r_iload i0_225 rfl kk) ?_
      refine lift (fun _ kk => r_iload i0_227 rfl kk) ?_
      refine lift (fun _ kk => r_icF i0_229 (XT.ii_ne_f rfl) kk) ?_
      refine lift (fun _ kk => r_iload i0_232 rfl kk) ?_
      refine lift (fun _ kk => r_iload i0_234 rfl kk) ?_
      refine lift (fun _ kk => r_icF i0_236 (XT.ii_ne_f rfl) kk) ?_
      refine lift (fun _ kk => r_iload i0_239 rfl kk) ?_
      refine lift (fun _ kk => r_iload i0_241 rfl kk) ?_
      refine lift (fun _ kk => r_icF i0_243 (XT.ii_ne_f rfl) kk) ?_
      refine lift (fun _ kk => r_iload i0_246 rfl kk) ?_
      refine lift (fun _ kk => r_iload i0_248 rfl kk) ?_
      refine lift (fun _ kk => r_icF i0_250 (XT.ii_ne_f rfl) kk) ?_
      refine lift (fun _ kk => r_iload i0_253 rfl kk) ?_
      refine lift (fun _ kk => r_iload i0_255 rfl kk) ?_
      refine lift (fun _ kk => r_icF i0_257 (XT.ii_ne_f rfl) kk) ?_
      refine lift (fun _ kk => r_iload i0_260 rfl kk) ?_
      refine lift (fun _ kk => r_iload i0_262 rfl kk) ?_
      refine lift (fun _ kk => r_icF i0_264 (XT.ii_ne_f rfl) kk) ?_
      refine lift (fun _ kk => r_iload i0_267 rfl kk) ?_
      refine lift (fun _ kk => r_ifF i0_269 (XT.i0_ne_f rfl) kk) ?_
      refine lift (fun _ kk => r_iconst i0_272 kk) ?_
      refine lift (fun _ kk => r_goto i0_273 kk) ?_
      exact ⟨_, r_zreturn i0_277 rfl (by first | decide | simp), own_sz n8 (by simp only [List.length_set, List.length_replicate])⟩
  · have nyx := hyx
    have q1 := own_ne y0 x0 nyx
    by_cases hzx : z = x
    · subst hzx
      have hhx := hz
      have nnxy := own_ne z0 y0 (show ¬ z = y by first | assumption | (intro q; exact absurd q.symm (by assumption)))
      have hhy := hy
      have nnyx := own_ne y0 z0 (show ¬ y = z by first | assumption | (intro q; exact absurd q.symm (by assumption)))
      refine lift (fun _ kk => s0_49 hw (a := 0) (H1 := [_]) rfl rfl kk) ?_
      refine lift (fun _ kk => r_dup i0_52 rfl kk) ?_
      refine lift (fun _ kk => r_iload i0_53 rfl kk) ?_
      refine lift (fun _ kk => s0_55 hw (H1 := [_, _]) (init_m hw n1 (by omega)) rfl (leB rfl) kk) ?_
      refine lift (fun _ kk => r_astore (ls' := [_, _, _, _, _, _, _, _, _, _, _, _, _, _, _, _, _, _, _, _, _, _, _, _]) i0_58 rfl rfl rfl kk) ?_
      refine lift (fun _ kk => r_aload i0_60 rfl rfl kk) ?_
      refine lift (fun _ kk => s0_62 hw (H1 := [_, _]) rfl (start_m hw (s' := 1) (by decide) (by decide)) rfl (leB rfl) kk) ?_
      refine lift (fun _ kk => r_aload i0_65 rfl rfl kk) ?_
      refine lift (fun _ kk => r_iload i0_67 rfl kk) ?_
      refine lift (fun _ kk => s0_69 hw (H1 := [_, _]) rfl (mark_new hw (w := 0) jz ((List.getElem?_replicate).trans (if_pos hhx)) (by decide)) rfl (leB rfl) kk) ?_
      refine lift (fun _ kk => r_istore (ls' := [_, _, _, _, _, _, _, _, _, _, _, _, _, _, _, _, _, _, _, _, _, _, _, _]) i0_72 rfl rfl kk) ?_
      refine lift (fun _ kk => r_aload i0_74 rfl rfl kk) ?_
      refine lift (fun _ kk => r_iload i0_76 rfl kk) ?_
      refine lift (fun _ kk => s0_78 hw (H1 := [_, _]) rfl (mark_new hw (w := 0) jy ((List.getElem?_set_ne (nnxy)).trans ((List.getElem?_replicate).trans (if_pos hhy))) (by decide)) rfl (leB rfl) kk) ?_
      refine lift (fun _ kk => r_istore (ls' := [_, _, _, _, _, _, _, _, _, _, _, _, _, _, _, _, _, _, _, _, _, _, _, _]) i0_81 rfl rfl kk) ?_
      refine lift (fun _ kk => r_aload i0_83 rfl rfl kk) ?_
      refine lift (fun _ kk => r_iload i0_85 rfl kk) ?_
      refine lift (fun _ kk => s0_87 hw (H1 := [_, _]) rfl (mark_old hw (w := 1) jz ((List.getElem?_set_ne (nnyx)).trans (List.getElem?_set_self (by simp only [List.length_set, List.length_replicate]; exact hhx))) rfl) rfl (leB rfl) kk) ?_
      refine lift (fun _ kk => r_istore (ls' := [_, _, _, _, _, _, _, _, _, _, _, _, _, _, _, _, _, _, _, _, _, _, _, _]) i0_90 rfl rfl kk) ?_
      refine lift (fun _ kk => r_iload i0_92 rfl kk) ?_
      refine lift (fun _ kk => r_ifF i0_94 (XT.i0_eq_f (by decide)) kk) ?_
      refine lift (fun _ kk => r_aload i0_97 rfl rfl kk) ?_
      refine lift (fun _ kk => s0_99 hw (H1 := [_, _]) rfl (start_m hw (s' := 2) (by decide) (by decide)) rfl (leB rfl) kk) ?_
      refine lift (fun _ kk => r_aload i0_102 rfl rfl kk) ?_
      refine lift (fun _ kk => r_iload i0_104 rfl kk) ?_
      refine lift (fun _ kk => s0_106 hw (H1 := [_, _]) rfl (mark_new hw (w := 1) jz (List.getElem?_set_self (by simp only [List.length_set, List.length_replicate]; exact hhx)) (by decide)) rfl (leB rfl) kk) ?_
      refine lift (fun _ kk => r_istore (ls' := [_, _, _, _, _, _, _, _, _, _, _, _, _, _, _, _, _, _, _, _, _, _, _, _]) i0_109 rfl rfl kk) ?_
      refine lift (fun _ kk => r_aload i0_111 rfl rfl kk) ?_
      refine lift (fun _ kk => r_iload i0_113 rfl kk) ?_
      refine lift (fun _ kk => s0_115 hw (H1 := [_, _]) rfl (mark_new hw (w := 1) jy ((List.getElem?_set_ne (nnxy)).trans ((List.getElem?_set_ne (nnxy)).trans (List.getElem?_set_self (by simp only [List.length_set, List.length_replicate]; exact hhy)))) (by decide)) rfl (leB rfl) kk) ?_
      refine lift (fun _ kk => r_istore (ls' := [_, _, _, _, _, _, _, _, _, _, _, _, _, _, _, _, _, _, _, _, _, _, _, _]) i0_118 rfl rfl kk) ?_
      refine lift (fun _ kk => r_aload i0_120 rfl rfl kk) ?_
      refine lift (fun _ kk => r_iload i0_122 rfl kk) ?_
      refine lift (fun _ kk => s0_124 hw (H1 := [_, _]) rfl (mark_old hw (w := 2) jz ((List.getElem?_set_ne (nnyx)).trans (List.getElem?_set_self (by simp only [List.length_set, List.length_replicate]; exact hhx))) rfl) rfl (leB rfl) kk) ?_
      refine lift (fun _ kk => r_istore (ls' := [_, _, _, _, _, _, _, _, _, _, _, _, _, _, _, _, _, _, _, _, _, _, _, _]) i0_127 rfl rfl kk) ?_
      refine lift (fun _ kk => r_aload i0_129 rfl rfl kk) ?_
      refine lift (fun _ kk => r_iload i0_131 rfl kk) ?_
      refine lift (fun _ kk => s0_133 hw (H1 := [_, _]) rfl (mark_old hw (w := 2) jy ((List.getElem?_set_ne (nnxy)).trans (List.getElem?_set_self (by simp only [List.length_set, List.length_replicate]; exact hhy))) rfl) rfl (leB rfl) kk) ?_
      refine lift (fun _ kk => r_istore (ls' := [_, _, _, _, _, _, _, _, _, _, _, _, _, _, _, _, _, _, _, _, _, _, _, _]) i0_136 rfl rfl kk) ?_
      refine lift (fun _ kk => r_iconst i0_138 kk) ?_
      refine lift (fun _ kk => r_istore (ls' := [_, _, _, _, _, _, _, _, _, _, _, _, _, _, _, _, _, _, _, _, _, _, _, _]) i0_139 rfl rfl kk) ?_
      refine lift (fun _ kk => r_iload i0_141 rfl kk) ?_
      refine lift (fun _ kk => r_iload i0_143 rfl kk) ?_
      refine lift (fun _ kk => r_icF i0_145 (XT.ii_eq_f nyx) kk) ?_
      refine lift (fun _ kk => r_iconst i0_148 kk) ?_
      refine lift (fun _ kk => r_goto i0_149 kk) ?_
      refine lift (fun _ kk => r_istore (ls' := [_, _, _, _, _, _, _, _, _, _, _, _, _, _, _, _, _, _, _, _, _, _, _, _]) i0_153 rfl rfl kk) ?_
      refine lift (fun _ kk => r_iload i0_155 rfl kk) ?_
      refine lift (fun _ kk => r_iload i0_157 rfl kk) ?_
      refine lift (fun _ kk => r_icT i0_159 (XT.ii_eq_t rfl) kk) ?_
      refine lift (fun _ kk => r_iconst i0_173 kk) ?_
      refine lift (fun _ kk => r_istore (ls' := [_, _, _, _, _, _, _, _, _, _, _, _, _, _, _, _, _, _, _, _, _, _, _, _]) i0_174 rfl rfl kk) ?_
      refine lift (fun _ kk => r_iload i0_176 rfl kk) ?_
      refine lift (fun _ kk => r_istore (ls' := [_, _, _, _, _, _, _, _, _, _, _, _, _, _, _, _, _, _, _, _, _, _, _, _]) i0_178 rfl rfl kk) ?_
      refine lift (fun _ kk => r_iload i0_180 rfl kk) ?_
      refine lift (fun _ kk => r_ifF i0_182 (XT.i0_eq_f (by decide)) kk) ?_
      refine lift (fun _ kk => r_iload i0_185 rfl kk) ?_
      refine lift (fun _ kk => r_iload i0_187 rfl kk) ?_
      refine lift (fun _ kk => r_icF i0_189 (XT.ii_eq_f nyx) kk) ?_
      refine lift (fun _ kk => r_iconst i0_192 kk) ?_
      refine lift (fun _ kk => r_goto i0_193 kk) ?_
      refine lift (fun _ kk => r_istore (ls' := [_, _, _, _, _, _, _, _, _, _, _, _, _, _, _, _, _, _, _, _, _, _, _, _]) i0_197 rfl rfl kk) ?_
      refine lift (fun _ kk => r_iload i0_199 rfl kk) ?_
      refine lift (fun _ kk => r_ifF i0_201 (XT.i0_eq_f (by decide)) kk) ?_
      refine lift (fun _ kk => r_iload i0_204 rfl kk) ?_
      refine lift (fun _ kk => r_iload i0_206 rfl kk) ?_
      refine lift (fun _ kk => r_icT i0_208 (XT.ii_eq_t rfl) kk) ?_
      refine lift (fun _ kk => r_iconst i0_222 kk) ?_
      refine lift (fun _ kk => r_istore (ls' := [_, _, _, _, _, _, _, _, _, _, _, _, _, _, _, _, _, _, _, _, _, _, _, _]) i0_223 rfl rfl kk) ?_
      refine lift (fun _ kk => r_iload i0_225 rfl kk) ?_
      refine lift (fun _ kk => r_iload i0_227 rfl kk) ?_
      refine lift (fun _ kk => r_icF i0_229 (XT.ii_ne_f rfl) kk) ?_
      refine lift (fun _ kk => r_iload i0_232 rfl kk) ?_
      refine lift (fun _ kk => r_iload i0_234 rfl kk) ?_
      refine lift (fun _ kk => r_icF i0_236 (XT.ii_ne_f rfl) kk) ?_
      refine lift (fun _ kk => r_iload i0_239 rfl kk) ?_
      refine lift (fun _ kk => r_iload i0_241 rfl kk) ?_
      refine lift (fun _ kk => r_icF i0_243 (XT.ii_ne_f rfl) kk) ?_
      refine lift (fun _ kk => r_iload i0_246 rfl kk) ?_
      refine lift (fun _ kk => r_iload i0_248 rfl kk) ?_
      refine lift (fun _ kk => r_icF i0_250 (XT.ii_ne_f rfl) kk) ?_
      refine lift (fun _ kk => r_iload i0_253 rfl kk) ?_
      refine lift (fun _ kk => r_iload i0_255 rfl kk) ?_
      refine lift (fun _ kk => r_icF i0_257 (XT.ii_ne_f rfl) kk) ?_
      refine lift (fun _ kk => r_iload i0_260 rfl kk) ?_
      refine lift (fun _ kk => r_iload i0_262 rfl kk) ?_
      refine lift (fun _ kk => r_icF i0_264 (XT.ii_ne_f rfl) kk) ?_
      refine lift (fun _ kk => r_iload i0_267 rfl kk) ?_
      refine lift (fun _ kk => r_ifF i0_269 (XT.i0_ne_f rfl) kk) ?_
      refine lift (fun _ kk => r_iconst i0_272 kk) ?_
      refine lift (fun _ kk => r_goto i0_273 kk) ?_
      exact ⟨_, r_zreturn i0_277 rfl (by first | decide | simp), own_sz n8 (by simp only [List.length_set, List.length_replicate])⟩
    · have nzx := hzx
      have q2 := own_ne z0 x0 nzx
      by_cases hzy : z = y
      · subst hzy
        have hhx := hx
        have nnxy := own_ne x0 z0 (show ¬ x = z by first | assumption | (intro q; exact absurd q.symm (by assumption)))
        have hhy := hz
        have nnyx := own_ne z0 x0 (show ¬ z = x by first | assumption | (intro q; exact absurd q.symm (by assumption)))
        refine lift (fun _ kk => s0_49 hw (a := 0) (H1 := [_]) rfl rfl kk) ?_
        refine lift (fun _ kk => r_dup i0_52 rfl kk) ?_
        refine lift (fun _ kk => r_iload i0_53 rfl kk) ?_
        refine lift (fun _ kk => s0_55 hw (H1 := [_, _]) (init_m hw n1 (by omega)) rfl (leB rfl) kk) ?_
        refine lift (fun _ kk => r_astore (ls' := [_, _, _, _, _, _, _, _, _, _, _, _, _, _, _, _, _, _, _, _, _, _, _, _]) i0_58 rfl rfl rfl kk) ?_
        refine lift (fun _ kk => r_aload i0_60 rfl rfl kk) ?_
        refine lift (fun _ kk => s0_62 hw (H1 := [_, _]) rfl (start_m hw (s' := 1) (by decide) (by decide)) rfl (leB rfl) kk) ?_
        refine lift (fun _ kk => r_aload i0_65 rfl rfl kk) ?_
        refine lift (fun _ kk => r_iload i0_67 rfl kk) ?_
        refine lift (fun _ kk => s0_69 hw (H1 := [_, _]) rfl (mark_new hw (w := 0) jx ((List.getElem?_replicate).trans (if_pos hhx)) (by decide)) rfl (leB rfl) kk) ?_
        refine lift (fun _ kk => r_istore (ls' := [_, _, _, _, _, _, _, _, _, _, _, _, _, _, _, _, _, _, _, _, _, _, _, _]) i0_72 rfl rfl kk) ?_
        refine lift (fun _ kk => r_aload i0_74 rfl rfl kk) ?_
        refine lift (fun _ kk => r_iload i0_76 rfl kk) ?_
        refine lift (fun _ kk => s0_78 hw (H1 := [_, _]) rfl (mark_new hw (w := 0) jz ((List.getElem?_set_ne (nnxy)).trans ((List.getElem?_replicate).trans (if_pos hhy))) (by decide)) rfl (leB rfl) kk) ?_
        refine lift (fun _ kk => r_istore (ls' := [_, _, _, _, _, _, _, _, _, _, _, _, _, _, _, _, _, _, _, _, _, _, _, _]) i0_81 rfl rfl kk) ?_
        refine lift (fun _ kk => r_aload i0_83 rfl rfl kk) ?_
        refine lift (fun _ kk => r_iload i0_85 rfl kk) ?_
        refine lift (fun _ kk => s0_87 hw (H1 := [_, _]) rfl (mark_old hw (w := 1) jz (List.getElem?_set_self (by simp only [List.length_set, List.length_replicate]; exact hhy)) rfl) rfl (leB rfl) kk) ?_
        refine lift (fun _ kk => r_istore (ls' := [_, _, _, _, _, _, _, _, _, _, _, _, _, _, _, _, _, _, _, _, _, _, _, _]) i0_90 rfl rfl kk) ?_
        refine lift (fun _ kk => r_iload i0_92 rfl kk) ?_
        refine lift (fun _ kk => r_ifF i0_94 (XT.i0_eq_f (by decide)) kk) ?_
        refine lift (fun _ kk => r_aload i0_97 rfl rfl kk) ?_
        refine lift (fun _ kk => s0_99 hw (H1 := [_, _]) rfl (start_m hw (s' := 2) (by decide) (by decide)) rfl (leB rfl) kk) ?_
        refine lift (fun _ kk => r_aload i0_102 rfl rfl kk) ?_
        refine lift (fun _ kk => r_iload i0_104 rfl kk) ?_
        refine lift (fun _ kk => s0_106 hw (H1 := [_, _]) rfl (mark_new hw (w := 1) jx ((List.getElem?_set_ne (nnyx)).trans ((List.getElem?_set_ne (nnyx)).trans (List.getElem?_set_self (by simp only [List.length_set, List.length_replicate]; exact hhx)))) (by decide)) rfl (leB rfl) kk) ?_
        refine lift (fun _ kk => r_istore (ls' := [_, _, _, _, _, _, _, _, _, _, _, _, _, _, _, _, _, _, _, _, _, _, _, _]) i0_109 rfl rfl kk) ?_
        refine lift (fun _ kk => r_aload i0_111 rfl rfl kk) ?_
        refine lift (fun _ kk => r_iload i0_113 rfl kk) ?_
        refine lift (fun _ kk => s0_115 hw (H1 := [_, _]) rfl (mark_new hw (w := 1) jz ((List.getElem?_set_ne (nnxy)).trans (List.getElem?_set_self (by simp only [List.length_set, List.length_replicate]; exact hhy))) (by decide)) rfl (leB rfl) kk) ?_
        refine lift (fun _ kk => r_istore (ls' := [_, _, _, _, _, _, _, _, _, _, _, _, _, _, _, _, _, _, _, _, _, _, _, _]) i0_118 rfl rfl kk) ?_
        refine lift (fun _ kk => r_aload i0_120 rfl rfl kk) ?_
        refine lift (fun _ kk => r_iload i0_122 rfl kk) ?_
        refine lift (fun _ kk => s0_124 hw (H1 := [_, _]) rfl (mark_old hw (w := 2) jz (List.getElem?_set_self (by simp only [List.length_set, List.length_replicate]; exact hhy)) rfl) rfl (leB rfl) kk) ?_
        refine lift (fun _ kk => r_istore (ls' := [_, _, _, _, _, _, _, _, _, _, _, _, _, _, _, _, _, _, _, _, _, _, _, _]) i0_127 rfl rfl kk) ?_
        refine lift (fun _ kk => r_aload i0_129 rfl rfl kk) ?_
        refine lift (fun _ kk => r_iload i0_131 rfl kk) ?_
        refine lift (fun _ kk => s0_133 hw (H1 := [_, _]) rfl (mark_old hw (w := 2) jz (List.getElem?_set_self (by simp only [List.length_set, List.length_replicate]; exact hhy)) rfl) rfl (leB rfl) kk) ?_
        refine lift (fun _ kk => r_istore (ls' := [_, _, _, _, _, _, _, _, _, _, _, _, _, _, _, _, _, _, _, _, _, _, _, _]) i0_136 rfl rfl kk) ?_
        refine lift (fun _ kk => r_iconst i0_138 kk) ?_
        refine lift (fun _ kk => r_istore (ls' := [_, _, _, _, _, _, _, _, _, _, _, _, _, _, _, _, _, _, _, _, _, _, _, _]) i0_139 rfl rfl kk) ?_
        refine lift (fun _ kk => r_iload i0_141 rfl kk) ?_
        refine lift (fun _ kk => r_iload i0_143 rfl kk) ?_
        refine lift (fun _ kk => r_icF i0_145 (XT.ii_eq_f nyx) kk) ?_
        refine lift (fun _ kk => r_iconst i0_148 kk) ?_
        refine lift (fun _ kk => r_goto i0_149 kk) ?_
        refine lift (fun _ kk => r_istore (ls' := [_, _, _, _, _, _, _, _, _, _, _, _, _, _, _, _, _, _, _, _, _, _, _, _]) i0_153 rfl rfl kk) ?_
        refine lift (fun _ kk => r_iload i0_155 rfl kk) ?_
        refine lift (fun _ kk => r_iload i0_157 rfl kk) ?_
        refine lift (fun _ kk => r_icF i0_159 (XT.ii_eq_f nzx) kk) ?_
        refine lift (fun _ kk => r_iload i0_162 rfl kk) ?_
        refine lift (fun _ kk => r_iload i0_164 rfl kk) ?_
        refine lift (fun _ kk => r_icT i0_166 (XT.ii_eq_t rfl) kk) ?_
        refine lift (fun _ kk => r_iconst i0_173 kk) ?_
        refine lift (fun _ kk => r_istore (ls' := [_, _, _, _, _, _, _, _, _, _, _, _, _, _, _, _, _, _, _, _, _, _, _, _]) i0_174 rfl rfl kk) ?_
        refine lift (fun _ kk => r_iload i0_176 rfl kk) ?_
        refine lift (fun _ kk => r_istore (ls' := [_, _, _, _, _, _, _, _, _, _, _, _, _, _, _, _, _, _, _, _, _, _, _, _]) i0_178 rfl rfl kk) ?_
        refine lift (fun _ kk => r_iload i0_180 rfl kk) ?_
        refine lift (fun _ kk => r_ifF i0_182 (XT.i0_eq_f (by decide)) kk) ?_
        refine lift (fun _ kk => r_iload i0_185 rfl kk) ?_
        refine lift (fun _ kk => r_iload i0_187 rfl kk) ?_
        refine lift (fun _ kk => r_icF i0_189 (XT.ii_eq_f nyx) kk) ?_
        refine lift (fun _ kk => r_iconst i0_192 kk) ?_
        refine lift (fun _ kk => r_goto i0_193 kk) ?_
        refine lift (fun _ kk => r_istore (ls' := [_, _, _, _, _, _, _, _, _, _, _, _, _, _, _, _, _, _, _, _, _, _, _, _]) i0_197 rfl rfl kk) ?_
        refine lift (fun _ kk => r_iload i0_199 rfl kk) ?_
        refine lift (fun _ kk => r_ifF i0_201 (XT.i0_eq_f (by decide)) kk) ?_
        refine lift (fun _ kk => r_iload i0_204 rfl kk) ?_
        refine lift (fun _ kk => r_iload i0_206 rfl kk) ?_
        refine lift (fun _ kk => r_icF i0_208 (XT.ii_eq_f nzx) kk) ?_
        refine lift (fun _ kk => r_iload i0_211 rfl kk) ?_
        refine lift (fun _ kk => r_iload i0_213 rfl kk) ?_
        refine lift (fun _ kk => r_icT i0_215 (XT.ii_eq_t rfl) kk) ?_
        refine lift (fun _ kk => r_iconst i0_222 kk) ?_
        refine lift (fun _ kk => r_istore (ls' := [_, _, _, _, _, _, _, _, _, _, _, _, _, _, _, _, _, _, _, _, _, _, _, _]) i0_223 rfl rfl kk) ?_
        refine lift (fun _ kk => r_iload i0_225 rfl kk) ?_
        refine lift (fun _ kk => r_iload i0_227 rfl kk) ?_
        refine lift (fun _ kk => r_icF i0_229 (XT.ii_ne_f rfl) kk) ?_
        refine lift (fun _ kk => r_iload i0_232 rfl kk) ?_
        refine lift (fun _ kk => r_iload i0_234 rfl kk) ?_
        refine lift (fun _ kk => r_icF i0_236 (XT.ii_ne_f rfl) kk) ?_
        refine lift (fun _ kk => r_iload i0_239 rfl kk) ?_
        refine lift (fun _ kk => r_iload i0_241 rfl kk) ?_
        refine lift (fun _ kk => r_icF i0_243 (XT.ii_ne_f rfl) kk) ?_
        refine lift (fun _ kk => r_iload i0_246 rfl kk) ?_
        refine lift (fun _ kk => r_iload i0_248 rfl kk) ?_
        refine lift (fun _ kk => r_icF i0_250 (XT.ii_ne_f rfl) kk) ?_
        refine lift (fun _ kk => r_iload i0_253 rfl kk) ?_
        refine lift (fun _ kk => r_iload i0_255 rfl kk) ?_
        refine lift (fun _ kk => r_icF i0_257 (XT.ii_ne_f rfl) kk) ?_
        refine lift (fun _ kk => r_iload i0_260 rfl kk) ?_
        refine lift (fun _ kk => r_iload i0_262 rfl kk) ?_
        refine lift (fun _ kk => r_icF i0_264 (XT.ii_ne_f rfl) kk) ?_
        refine lift (fun _ kk => r_iload i0_267 rfl kk) ?_
        refine lift (fun _ kk => r_ifF i0_269 (XT.i0_ne_f rfl) kk) ?_
        refine lift (fun _ kk => r_iconst i0_272 kk) ?_
        refine lift (fun _ kk => r_goto i0_273 kk) ?_
        exact ⟨_, r_zreturn i0_277 rfl (by first | decide | simp), own_sz n8 (by simp only [List.length_set, List.length_replicate])⟩
      · have nzy := hzy
        have q3 := own_ne z0 y0 nzy
        have hhx := hx
        have nnxy := own_ne x0 y0 (show ¬ x = y by first | assumption | (intro q; exact absurd q.symm (by assumption)))
        have nnxz := own_ne x0 z0 (show ¬ x = z by first | assumption | (intro q; exact absurd q.symm (by assumption)))
        have hhy := hy
        have nnyx := own_ne y0 x0 (show ¬ y = x by first | assumption | (intro q; exact absurd q.symm (by assumption)))
        have nnyz := own_ne y0 z0 (show ¬ y = z by first | assumption | (intro q; exact absurd q.symm (by assumption)))
        have hhz := hz
        have nnzx := own_ne z0 x0 (show ¬ z = x by first | assumption | (intro q; exact absurd q.symm (by assumption)))
        have nnzy := own_ne z0 y0 (show ¬ z = y by first | assumption | (intro q; exact absurd q.symm (by assumption)))
        refine lift (fun _ kk => s0_49 hw (a := 0) (H1 := [_]) rfl rfl kk) ?_
        refine lift (fun _ kk => r_dup i0_52 rfl kk) ?_
        refine lift (fun _ kk => r_iload i0_53 rfl kk) ?_
        refine lift (fun _ kk => s0_55 hw (H1 := [_, _]) (init_m hw n1 (by omega)) rfl (leB rfl) kk) ?_
        refine lift (fun _ kk => r_astore (ls' := [_, _, _, _, _, _, _, _, _, _, _, _, _, _, _, _, _, _, _, _, _, _, _, _]) i0_58 rfl rfl rfl kk) ?_
        refine lift (fun _ kk => r_aload i0_60 rfl rfl kk) ?_
        refine lift (fun _ kk => s0_62 hw (H1 := [_, _]) rfl (start_m hw (s' := 1) (by decide) (by decide)) rfl (leB rfl) kk) ?_
        refine lift (fun _ kk => r_aload i0_65 rfl rfl kk) ?_
        refine lift (fun _ kk => r_iload i0_67 rfl kk) ?_
        refine lift (fun _ kk => s0_69 hw (H1 := [_, _]) rfl (mark_new hw (w := 0) jx ((List.getElem?_replicate).trans (if_pos hhx)) (by decide)) rfl (leB rfl) kk) ?_
        refine lift (fun _ kk => r_istore (ls' := [_, _, _, _, _, _, _, _, _, _, _, _, _, _, _, _, _, _, _, _, _, _, _, _]) i0_72 rfl rfl kk) ?_
        refine lift (fun _ kk => r_aload i0_74 rfl rfl kk) ?_
        refine lift (fun _ kk => r_iload i0_76 rfl kk) ?_
        refine lift (fun _ kk => s0_78 hw (H1 := [_, _]) rfl (mark_new hw (w := 0) jy ((List.getElem?_set_ne (nnxy)).trans ((List.getElem?_replicate).trans (if_pos hhy))) (by decide)) rfl (leB rfl) kk) ?_
        refine lift (fun _ kk => r_istore (ls' := [_, _, _, _, _, _, _, _, _, _, _, _, _, _, _, _, _, _, _, _, _, _, _, _]) i0_81 rfl rfl kk) ?_
        refine lift (fun _ kk => r_aload i0_83 rfl rfl kk) ?_
        refine lift (fun _ kk => r_iload i0_85 rfl kk) ?_
        refine lift (fun _ kk => s0_87 hw (H1 := [_, _]) rfl (mark_new hw (w := 0) jz ((List.getElem?_set_ne (nnyz)).trans ((List.getElem?_set_ne (nnxz)).trans ((List.getElem?_replicate).trans (if_pos hhz)))) (by decide)) rfl (leB rfl) kk) ?_
        refine lift (fun _ kk => r_istore (ls' := [_, _, _, _, _, _, _, _, _, _, _, _, _, _, _, _, _, _, _, _, _, _, _, _]) i0_90 rfl rfl kk) ?_
        refine lift (fun _ kk => r_iload i0_92 rfl kk) ?_
        refine lift (fun _ kk => r_ifF i0_94 (XT.i0_eq_f (by decide)) kk) ?_
        refine lift (fun _ kk => r_aload i0_97 rfl rfl kk) ?_
        refine lift (fun _ kk => s0_99 hw (H1 := [_, _]) rfl (start_m hw (s' := 2) (by decide) (by decide)) rfl (leB rfl) kk) ?_
        refine lift (fun _ kk => r_aload i0_102 rfl rfl kk) ?_
        refine lift (fun _ kk => r_iload i0_104 rfl kk) ?_
        refine lift (fun _ kk => s0_106 hw (H1 := [_, _]) rfl (mark_new hw (w := 1) jx ((List.getElem?_set_ne (nnzx)).trans ((List.getElem?_set_ne (nnyx)).trans (List.getElem?_set_self (by simp only [List.length_set, List.length_replicate]; exact hhx)))) (by decide)) rfl (leB rfl) kk) ?_
        refine lift (fun _ kk => r_istore (ls' := [_, _, _, _, _, _, _, _, _, _, _, _, _, _, _, _, _, _, _, _, _, _, _, _]) i0_109 rfl rfl kk) ?_
        refine lift (fun _ kk => r_aload i0_111 rfl rfl kk) ?_
        refine lift (fun _ kk => r_iload i0_113 rfl kk) ?_
        refine lift (fun _ kk => s0_115 hw (H1 := [_, _]) rfl (mark_new hw (w := 1) jy ((List.getElem?_set_ne (nnxy)).trans ((List.getElem?_set_ne (nnzy)).trans (List.getElem?_set_self (by simp only [List.length_set, List.length_replicate]; exact hhy)))) (by decide)) rfl (leB rfl) kk) ?_
        refine lift (fun _ kk => r_istore (ls' := [_, _, _, _, _, _, _, _, _, _, _, _, _, _, _, _, _, _, _, _, _, _, _, _]) i0_118 rfl rfl kk) ?_
        refine lift (fun _ kk => r_aload i0_120 rfl rfl kk) ?_
        refine lift (fun _ kk => r_iload i0_122 rfl kk) ?_
        refine lift (fun _ kk => s0_124 hw (H1 := [_, _]) rfl (mark_new hw (w := 1) jz ((List.getElem?_set_ne (nnyz)).trans ((List.getElem?_set_ne (nnxz)).trans (List.getElem?_set_self (by simp only [List.length_set, List.length_replicate]; exact hhz)))) (by decide)) rfl (leB rfl) kk) ?_
        refine lift (fun _ kk => r_istore (ls' := [_, _, _, _, _, _, _, _, _, _, _, _, _, _, _, _, _, _, _, _, _, _, _, _]) i0_127 rfl rfl kk) ?_
        refine lift (fun _ kk => r_aload i0_129 rfl rfl kk) ?_
        refine lift (fun _ kk => r_iload i0_131 rfl kk) ?_
        refine lift (fun _ kk => s0_133 hw (H1 := [_, _]) rfl (mark_old hw (w := 2) jy ((List.getElem?_set_ne (nnzy)).trans (List.getElem?_set_self (by simp only [List.length_set, List.length_replicate]; exact hhy))) rfl) rfl (leB rfl) kk) ?_
        refine lift (fun _ kk => r_istore (ls' := [_, _, _, _, _, _, _, _, _, _, _, _, _, _, _, _, _, _, _, _, _, _, _, _]) i0_136 rfl rfl kk) ?_
        refine lift (fun _ kk => r_iconst i0_138 kk) ?_
        refine lift (fun _ kk => r_istore (ls' := [_, _, _, _, _, _, _, _, _, _, _, _, _, _, _, _, _, _, _, _, _, _, _, _]) i0_139 rfl rfl kk) ?_
        refine lift (fun _ kk => r_iload i0_141 rfl kk) ?_
        refine lift (fun _ kk => r_iload i0_143 rfl kk) ?_
        refine lift (fun _ kk => r_icF i0_145 (XT.ii_eq_f nyx) kk) ?_
        refine lift (fun _ kk => r_iconst i0_148 kk) ?_
        refine lift (fun _ kk => r_goto i0_149 kk) ?_
        refine lift (fun _ kk => r_istore (ls' := [_, _, _, _, _, _, _, _, _, _, _, _, _, _, _, _, _, _, _, _, _, _, _, _]) i0_153 rfl rfl kk) ?_
        refine lift (fun _ kk => r_iload i0_155 rfl kk) ?_
        refine lift (fun _ kk => r_iload i0_157 rfl kk) ?_
        refine lift (fun _ kk => r_icF i0_159 (XT.ii_eq_f nzx) kk) ?_
        refine lift (fun _ kk => r_iload i0_162 rfl kk) ?_
        refine lift (fun _ kk => r_iload i0_164 rfl kk) ?_
        refine lift (fun _ kk => r_icF i0_166 (XT.ii_eq_f nzy) kk) ?_
        refine lift (fun _ kk => r_iconst i0_169 kk) ?_
        refine lift (fun _ kk => r_goto i0_170 kk) ?_
        refine lift (fun _ kk => r_istore (ls' := [_, _, _, _, _, _, _, _, _, _, _, _, _, _, _, _, _, _, _, _, _, _, _, _]) i0_174 rfl rfl kk) ?_
        refine lift (fun _ kk => r_iload i0_176 rfl kk) ?_
        refine lift (fun _ kk => r_istore (ls' := [_, _, _, _, _, _, _, _, _, _, _, _, _, _, _, _, _, _, _, _, _, _, _, _]) i0_178 rfl rfl kk) ?_
        refine lift (fun _ kk => r_iload i0_180 rfl kk) ?_
        refine lift (fun _ kk => r_ifF i0_182 (XT.i0_eq_f (by decide)) kk) ?_
        refine lift (fun _ kk => r_iload i0_185 rfl kk) ?_
        refine lift (fun _ kk => r_iload i0_187 rfl kk) ?_
        refine lift (fun _ kk => r_icF i0_189 (XT.ii_eq_f nyx) kk) ?_
        refine lift (fun _ kk => r_iconst i0_192 kk) ?_
        refine lift (fun _ kk => r_goto i0_193 kk) ?_
        refine lift (fun _ kk => r_istore (ls' := [_, _, _, _, _, _, _, _, _, _, _, _, _, _, _, _, _, _, _, _, _, _, _, _]) i0_197 rfl rfl kk) ?_
        refine lift (fun _ kk => r_iload i0_199 rfl kk) ?_
        refine lift (fun _ kk => r_ifF i0_201 (XT.i0_eq_f (by decide)) kk) ?_
        refine lift (fun _ kk => r_iload i0_204 rfl kk) ?_
        refine lift (fun _ kk => r_iload i0_206 rfl kk) ?_
        refine lift (fun _ kk => r_icF i0_208 (XT.ii_eq_f nzx) kk) ?_
        refine lift (fun _ kk => r_iload i0_211 rfl kk) ?_
        refine lift (fun _ kk => r_iload i0_213 rfl kk) ?_
        refine lift (fun _ kk => r_icF i0_215 (XT.ii_eq_f nzy) kk) ?_
        refine lift (fun _ kk => r_iconst i0_218 kk) ?_
        refine lift (fun _ kk => r_goto i0_219 kk) ?_
        refine lift (fun _ kk => r_istore (ls' := [_, _, _, _, _, _, _, _, _, _, _, _, _, _, _, _, _, _, _, _, _, _, _, _]) i0_223 rfl rfl kk) ?_
        refine lift (fun _ kk => r_iload i0_225 rfl kk) ?_
        refine lift (fun _ kk => r_iload i0_227 rfl kk) ?_
        refine lift (fun _ kk => r_icF i0_229 (XT.ii_ne_f rfl) kk) ?_
        refine lift (fun _ kk => r_iload i0_232 rfl kk) ?_
        refine lift (fun _ kk => r_iload i0_234 rfl kk) ?_
        refine lift (fun _ kk => r_icF i0_236 (XT.ii_ne_f rfl) kk) ?_
        refine lift (fun _ kk => r_iload i0_239 rfl kk) ?_
        refine lift (fun _ kk => r_iload i0_241 rfl kk) ?_
        refine lift (fun _ kk => r_icF i0_243 (XT.ii_ne_f rfl) kk) ?_
        refine lift (fun _ kk => r_iload i0_246 rfl kk) ?_
        refine lift (fun _ kk => r_iload i0_248 rfl kk) ?_
        refine lift (fun _ kk => r_icF i0_250 (XT.ii_ne_f rfl) kk) ?_
        refine lift (fun _ kk => r_iload i0_253 rfl kk) ?_
        refine lift (fun _ kk => r_iload i0_255 rfl kk) ?_
        refine lift (fun _ kk => r_icF i0_257 (XT.ii_ne_f rfl) kk) ?_
        refine lift (fun _ kk => r_iload i0_260 rfl kk) ?_
        refine lift (fun _ kk => r_iload i0_262 rfl kk) ?_
        refine lift (fun _ kk => r_icF i0_264 (XT.ii_ne_f rfl) kk) ?_
        refine lift (fun _ kk => r_iload i0_267 rfl kk) ?_
        refine lift (fun _ kk => r_ifF i0_269 (XT.i0_ne_f rfl) kk) ?_
        refine lift (fun _ kk => r_iconst i0_272 kk) ?_
        refine lift (fun _ kk => r_goto i0_273 kk) ?_
        exact ⟨_, r_zreturn i0_277 rfl (by first | decide | simp), own_sz n8 (by simp only [List.length_set, List.length_replicate])⟩
set_option maxHeartbeats 4000000 in
theorem core0 {l : Launch} {Z : State} {a0 : Array Value} {n0 : Nat} (hw : HW Z a0) (p0 p1 p2 p3 p4 n x y z : Int32) (hn : 0 < n.toInt ∧ n.toInt ≤ 8) (x0 : 0 ≤ x.toInt) (y0 : 0 ≤ y.toInt) (z0 : 0 ≤ z.toInt) (x1 : x.toInt < n.toInt) (y1 : y.toInt < n.toInt) (z1 : z.toInt < n.toInt) : RunsB K l Z n0 m0 49 [.val (.int p0), .val (.int p1), .val (.int p2), .val (.int p3), .val (.int p4), .val (.int n), .val (.int x), .val (.int y), .val (.int z), .val (.int 0), .unset, .unset, .unset, .unset, .unset, .unset, .unset, .unset, .unset, .unset, .unset, .unset, .unset, .unset] [] [] (some (.int 1)) 16 128 := by
  obtain ⟨jx, hx⟩ := own_ix x0 x1
  obtain ⟨jy, hy⟩ := own_ix y0 y1
  obtain ⟨jz, hz⟩ := own_ix z0 z1
  have e0 : (0 : Int32).toInt = 0 := by decide
  have n1 : ¬ n < 0 := by rw [Int32.lt_iff_toInt_lt]; omega
  have n8 : n.toNatClampNeg ≤ 8 := by simp only [Int32.toNatClampNeg]; omega
  by_cases hyx : y = x
  · subst hyx
    by_cases hzx : z = y
    · subst hzx
      have hhx := hz
      refine lift (fun _ kk => s0_49 hw (a := 0) (H1 := [_]) rfl rfl kk) ?_
      refine lift (fun _ kk => r_dup i0_52 rfl kk) ?_
      refine lift (fun _ kk => r_iload i0_53 rfl kk) ?_
      refine lift (fun _ kk => s0_55 hw (H1 := [_, _]) (init_m hw n1 (by omega)) rfl (leB rfl) kk) ?_
      refine lift (fun _ kk => r_astore (ls' := [_, _, _, _, _, _, _, _, _, _, _, _, _, _, _, _, _, _, _, _, _, _, _, _]) i0_58 rfl rfl rfl kk) ?_
      refine lift (fun _ kk => r_aload i0_60 rfl rfl kk) ?_
      refine lift (fun _ kk => s0_62 hw (H1 := [_, _]) rfl (start_m hw (s' := 1) (by decide) (by decide)) rfl (leB rfl) kk) ?_
      refine lift (fun _ kk => r_aload i0_65 rfl rfl kk) ?_
      refine lift (fun _ kk => r_iload i0_67 rfl kk) ?_
      refine lift (fun _ kk => s0_69 hw (H1 := [_, _]) rfl (mark_new hw (w := 0) jz ((List.getElem?_replicate).trans (if_pos hhx)) (by decide)) rfl (leB rfl) kk) ?_
      refine lift (fun _ kk => r_istore (ls' := [_, _, _, _, _, _, _, _, _, _, _, _, _, _, _, _, _, _, _, _, _, _, _, _]) i0_72 rfl rfl kk) ?_
      refine lift (fun _ kk => r_aload i0_74 rfl rfl kk) ?_
      refine lift (fun _ kk => r_iload i0_76 rfl kk) ?_
      refine lift (fun _ kk => s0_78 hw (H1 := [_, _]) rfl (mark_old hw (w := 1) jz (List.getElem?_set_self (by simp only [List.length_set, List.length_replicate]; exact hhx)) rfl) rfl (leB rfl) kk) ?_
      refine lift (fun _ kk => r_istore (ls' := [_, _, _, _, _, _, _, _, _, _, _, _, _, _, _, _, _, _, _, _, _, _, _, _]) i0_81 rfl rfl kk) ?_
      refine lift (fun _ kk => r_aload i0_83 rfl rfl kk) ?_
      refine lift (fun _ kk => r_iload i0_85 rfl kk) ?_
      refine lift (fun _ kk => s0_87 hw (H1 := [_, _]) rfl (mark_old hw (w := 1) jz (List.getElem?_set_self (by simp only [List.length_set, List.length_replicate]; exact hhx)) rfl) rfl (leB rfl) kk) ?_
      refine lift (fun _ kk => r_istore (ls' := [_, _, _, _, _, _, _, _, _, _, _, _, _, _, _, _, _, _, _, _, _, _, _, _]) i0_90 rfl rfl kk) ?_
      refine lift (fun _ kk => r_iload i0_92 rfl kk) ?_
      refine lift (fun _ kk => r_ifT i0_94 (XT.i0_eq_t rfl) kk) ?_
      refine lift (fun _ kk => r_aload i0_102 rfl rfl kk) ?_
      refine lift (fun _ kk => r_iload i0_104 rfl kk) ?_
      refine lift (fun _ kk => s0_106 hw (H1 := [_, _]) rfl (mark_old hw (w := 1) jz (List.getElem?_set_self (by simp only [List.length_set, List.length_replicate]; exact hhx)) rfl) rfl (leB rfl) kk) ?_
      refine lift (fun _ kk => r_istore (ls' := [_, _, _, _, _, _, _, _, _, _, _, _, _, _, _, _, _, _, _, _, _, _, _, _]) i0_109 rfl rfl kk) ?_
      refine lift (fun _ kk => r_aload i0_111 rfl rfl kk) ?_
      refine lift (fun _ kk => r_iload i0_113 rfl kk) ?_
      refine lift (fun _ kk => s0_115 hw (H1 := [_, _]) rfl (mark_old hw (w := 1) jz (List.getElem?_set_self (by simp only [List.length_set, List.length_replicate]; exact hhx)) rfl) rfl (leB rfl) kk) ?_
      refine lift (fun _ kk => r_istore (ls' := [_, _, _, _, _, _, _, _, _, _, _, _, _, _, _, _, _, _, _, _, _, _, _, _]) i0_118 rfl rfl kk) ?_
      refine lift (fun _ kk => r_aload i0_120 rfl rfl kk) ?_
      refine lift (fun _ kk => r_iload i0_122 rfl kk) ?_
      refine lift (fun _ kk => s0_124 hw (H1 := [_, _]) rfl (mark_old hw (w := 1) jz (List.getElem?_set_self (by simp only [List.length_set, List.length_replicate]; exact hhx)) rfl) rfl (leB rfl) kk) ?_
      refine lift (fun _ kk => r_istore (ls' := [_, _, _, _, _, _, _, _, _, _, _, _, _, _, _, _, _, _, _, _, _, _, _, _]) i0_127 rfl rfl kk) ?_
      refine lift (fun _ kk => r_aload i0_129 rfl rfl kk) ?_
      refine lift (fun _ kk => r_iload i0_131 rfl kk) ?_
      refine lift (fun _ kk => s0_133 hw (H1 := [_, _]) rfl (mark_old hw (w := 1) jz (List.getElem?_set_self (by simp only [List.length_set, List.length_replicate]; exact hhx)) rfl) rfl (leB rfl) kk) ?_
      refine lift (fun _ kk => r_istore (ls' := [_, _, _, _, _, _, _, _, _, _, _, _, _, _, _, _, _, _, _, _, _, _, _, _]) i0_136 rfl rfl kk) ?_
      refine lift (fun _ kk => r_iconst i0_138 kk) ?_
      refine lift (fun _ kk => r_istore (ls' := [_, _, _, _, _, _, _, _, _, _, _, _, _, _, _, _, _, _, _, _, _, _, _, _]) i0_139 rfl rfl kk) ?_
      refine lift (fun _ kk => r_iload i0_141 rfl kk) ?_
      refine lift (fun _ kk => r_iload i0_143 rfl kk) ?_
      refine lift (fun _ kk => r_icT i0_145 (XT.ii_eq_t rfl) kk) ?_
      refine lift (fun _ kk => r_iconst i0_152 kk) ?_
      refine lift (fun _ kk => r_istore (ls' := [_, _, _, _, _, _, _, _, _, _, _, _, _, _, _, _, _, _, _, _, _, _, _, _]) i0_153 rfl rfl kk) ?_
      refine lift (fun _ kk => r_iload i0_155 rfl kk) ?_
      refine lift (fun _ kk => r_iload i0_157 rfl kk) ?_
      refine lift (fun _ kk => r_icT i0_159 (XT.ii_eq_t rfl) kk) ?_
      refine lift (fun _ kk => r_iconst i0_173 kk) ?_
      refine lift (fun _ kk => r_istore (ls' := [_, _, _, _, _, _, _, _, _, _, _, _, _, _, _, _, _, _, _, _, _, _, _, _]) i0_174 rfl rfl kk) ?_
      refine lift (fun _ kk => r_iload i0_176 rfl kk) ?_
      refine lift (fun _ kk => r_istore (ls' := [_, _, _, _, _, _, _, _, _, _, _, _, _, _, _, _, _, _, _, _, _, _, _, _]) i0_178 rfl rfl kk) ?_
      refine lift (fun _ kk => r_iload i0_180 rfl kk) ?_
      refine lift (fun _ kk => r_ifT i0_182 (XT.i0_eq_t rfl) kk) ?_
      refine lift (fun _ kk => r_iconst i0_196 kk) ?_
      refine lift (fun _ kk => r_istore (ls' := [_, _, _, _, _, _, _, _, _, _, _, _, _, _, _, _, _, _, _, _, _, _, _, _]) i0_197 rfl rfl kk) ?_
      refine lift (fun _ kk => r_iload i0_199 rfl kk) ?_
      refine lift (fun _ kk => r_ifT i0_201 (XT.i0_eq_t rfl) kk) ?_
      refine lift (fun _ kk => r_iconst i0_222 kk) ?_
      refine lift (fun _ kk => r_istore (ls' := [_, _, _, _, _, _, _, _, _, _, _, _, _, _, _, _, _, _, _, _, _, _, _, _]) i0_223 rfl rfl kk) ?_
      refine lift (fun _ kk => r_iload i0_225 rfl kk) ?_
      refine lift (fun _ kk => r_iload i0_227 rfl kk) ?_
      refine lift (fun _ kk => r_icF i0_229 (XT.ii_ne_f rfl) kk) ?_
      refine lift (fun _ kk => r_iload i0_232 rfl kk) ?_
      refine lift (fun _ kk => r_iload i0_234 rfl kk) ?_
      refine lift (fun _ kk => r_icF i0_236 (XT.ii_ne_f rfl) kk) ?_
      refine lift (fun _ kk => r_iload i0_239 rfl kk) ?_
      refine lift (fun _ kk => r_iload i0_241 rfl kk) ?_
      refine lift (fun _ kk => r_icF i0_243 (XT.ii_ne_f rfl) kk) ?_
      refine lift (fun _ kk => r_iload i0_246 rfl kk) ?_
      refine lift (fun _ kk => r_iload i0_248 rfl kk) ?_
      refine lift (fun _ kk => r_icF i0_250 (XT.ii_ne_f rfl) kk) ?_
      refine lift (fun _ kk => r_iload i0_253 rfl kk) ?_
      refine lift (fun _ kk => r_iload i0_255 rfl kk) ?_
      refine lift (fun _ kk => r_icF i0_257 (XT.ii_ne_f rfl) kk) ?_
      refine lift (fun _ kk => r_iload i0_260 rfl kk) ?_
      refine lift (fun _ kk => r_iload i0_262 rfl kk) ?_
      refine lift (fun _ kk => r_icF i0_264 (XT.ii_ne_f rfl) kk) ?_
      refine lift (fun _ kk => r_iload i0_267 rfl kk) ?_
      refine lift (fun _ kk => r_ifF i0_269 (XT.i0_ne_f rfl) kk) ?_
      refine lift (fun _ kk => r_iconst i0_272 kk) ?_
      refine lift (fun _ kk => r_goto i0_273 kk) ?_
      exact ⟨_, r_zreturn i0_277 rfl (by first | decide | simp), own_sz n8 (by simp only [List.length_set, List.length_replicate])⟩
    · have nzx := hzx
      have nzy := hzx
      have q1 := own_ne z0 y0 nzx
      have hhx := hy
      have nnxz := own_ne y0 z0 (show ¬ y = z by first | assumption | (intro q; exact absurd q.symm (by assumption)))
      have hhz := hz
      have nnzx := own_ne z0 y0 (show ¬ z = y by first | assumption | (intro q; exact absurd q.symm (by assumption)))
      refine lift (fun _ kk => s0_49 hw (a := 0) (H1 := [_]) rfl rfl kk) ?_
      refine lift (fun _ kk => r_dup i0_52 rfl kk) ?_
      refine lift (fun _ kk => r_iload i0_53 rfl kk) ?_
      refine lift (fun _ kk => s0_55 hw (H1 := [_, _]) (init_m hw n1 (by omega)) rfl (leB rfl) kk) ?_
      refine lift (fun _ kk => r_astore (ls' := [_, _, _, _, _, _, _, _, _, _, _, _, _, _, _, _, _, _, _, _, _, _, _, _]) i0_58 rfl rfl rfl kk) ?_
      refine lift (fun _ kk => r_aload i0_60 rfl rfl kk) ?_
      refine lift (fun _ kk => s0_62 hw (H1 := [_, _]) rfl (start_m hw (s' := 1) (by decide) (by decide)) rfl (leB rfl) kk) ?_
      refine lift (fun _ kk => r_aload i0_65 rfl rfl kk) ?_
      refine lift (fun _ kk => r_iload i0_67 rfl kk) ?_
      refine lift (fun _ kk => s0_69 hw (H1 := [_, _]) rfl (mark_new hw (w := 0) jy ((List.getElem?_replicate).trans (if_pos hhx)) (by decide)) rfl (leB rfl) kk) ?_
      refine lift (fun _ kk => r_istore (ls' := [_, _, _, _, _, _, _, _, _, _, _, _, _, _, _, _, _, _, _, _, _, _, _, _]) i0_72 rfl rfl kk) ?_
      refine lift (fun _ kk => r_aload i0_74 rfl rfl kk) ?_
      refine lift (fun _ kk => r_iload i0_76 rfl kk) ?_
      refine lift (fun _ kk => s0_78 hw (H1 := [_, _]) rfl (mark_old hw (w := 1) jy (List.getElem?_set_self (by simp only [List.length_set, List.length_replicate]; exact hhx)) rfl) rfl (leB rfl) kk) ?_
      refine lift (fun _ kk => r_istore (ls' := [_, _, _, _, _, _, _, _, _, _, _, _, _, _, _, _, _, _, _, _, _, _, _, _]) i0_81 rfl rfl kk) ?_
      refine lift (fun _ kk => r_aload i0_83 rfl rfl kk) ?_
      refine lift (fun _ kk => r_iload i0_85 rfl kk) ?_
      refine lift (fun _ kk => s0_87 hw (H1 := [_, _]) rfl (mark_new hw (w := 0) jz ((List.getElem?_set_ne (nnxz)).trans ((List.getElem?_set_ne (nnxz)).trans ((List.getElem?_replicate).trans (if_pos hhz)))) (by decide)) rfl (leB rfl) kk) ?_
      refine lift (fun _ kk => r_istore (ls' := [_, _, _, _, _, _, _, _, _, _, _, _, _, _, _, _, _, _, _, _, _, _, _, _]) i0_90 rfl rfl kk) ?_
      refine lift (fun _ kk => r_iload i0_92 rfl kk) ?_
      refine lift (fun _ kk => r_ifT i0_94 (XT.i0_eq_t rfl) kk) ?_
      refine lift (fun _ kk => r_aload i0_102 rfl rfl kk) ?_
      refine lift (fun _ kk => r_iload i0_104 rfl kk) ?_
      refine lift (fun _ kk => s0_106 hw (H1 := [_, _]) rfl (mark_old hw (w := 1) jy ((List.getElem?_set_ne (nnzx)).trans (List.getElem?_set_self (by simp only [List.length_set, List.length_replicate]; exact hhx))) rfl) rfl (leB rfl) kk) ?_
      refine lift (fun _ kk => r_istore (ls' := [_, _, _, _, _, _, _, _, _, _, _, _, _, _, _, _, _, _, _, _, _, _, _, _]) i0_109 rfl rfl kk) ?_
      refine lift (fun _ kk => r_aload i0_111 rfl rfl kk) ?_
      refine lift (fun _ kk => r_iload i0_113 rfl kk) ?_
      refine lift (fun _ kk => s0_115 hw (H1 := [_, _]) rfl (mark_old hw (w := 1) jy (List.getElem?_set_self (by simp only [List.length_set, List.length_replicate]; exact hhx)) rfl) rfl (leB rfl) kk) ?_
      refine lift (fun _ kk => r_istore (ls' := [_, _, _, _, _, _, _, _, _, _, _, _, _, _, _, _, _, _, _, _, _, _, _, _]) i0_118 rfl rfl kk) ?_
      refine lift (fun _ kk => r_aload i0_120 rfl rfl kk) ?_
      refine lift (fun _ kk => r_iload i0_122 rfl kk) ?_
      refine lift (fun _ kk => s0_124 hw (H1 := [_, _]) rfl (mark_old hw (w := 1) jz ((List.getElem?_set_ne (nnxz)).trans ((List.getElem?_set_ne (nnxz)).trans (List.getElem?_set_self (by simp only [List.length_set, List.length_replicate]; exact hhz)))) rfl) rfl (leB rfl) kk) ?_
      refine lift (fun _ kk => r_istore (ls' := [_, _, _, _, _, _, _, _, _, _, _, _, _, _, _, _, _, _, _, _, _, _, _, _]) i0_127 rfl rfl kk) ?_
      refine lift (fun _ kk => r_aload i0_129 rfl rfl kk) ?_
      refine lift (fun _ kk => r_iload i0_131 rfl kk) ?_
      refine lift (fun _ kk => s0_133 hw (H1 := [_, _]) rfl (mark_old hw (w := 1) jy ((List.getElem?_set_ne (nnzx)).trans (List.getElem?_set_self (by simp only [List.length_set, List.length_replicate]; exact hhx))) rfl) rfl (leB rfl) kk) ?_
      refine lift (fun _ kk => r_istore (ls' := [_, _, _, _, _, _, _, _, _, _, _, _, _, _, _, _, _, _, _, _, _, _, _, _]) i0_136 rfl rfl kk) ?_
      refine lift (fun _ kk => r_iconst i0_138 kk) ?_
      refine lift (fun _ kk => r_istore (ls' := [_, _, _, _, _, _, _, _, _, _, _, _, _, _, _, _, _, _, _, _, _, _, _, _]) i0_139 rfl rfl kk) ?_
      refine lift (fun _ kk => r_iload i0_141 rfl kk) ?_
      refine lift (fun _ kk => r_iload i0_143 rfl kk) ?_
      refine lift (fun _ kk => r_icT i0_145 (XT.ii_eq_t rfl) kk) ?_
      refine lift (fun _ kk => r_iconst i0_152 kk) ?_
      refine lift (fun _ kk => r_istore (ls' := [_, _, _, _, _, _, _, _, _, _, _, _, _, _, _, _, _, _, _, _, _, _, _, _]) i0_153 rfl rfl kk) ?_
      refine lift (fun _ kk => r_iload i0_155 rfl kk) ?_
      refine lift (fun _ kk => r_iload i0_157 rfl kk) ?_
      refine lift (fun _ kk => r_icF i0_159 (XT.ii_eq_f nzx) kk) ?_
      refine lift (fun _ kk => r_iload i0_162 rfl kk) ?_
      refine lift (fun _ kk => r_iload i0_164 rfl kk) ?_
      refine lift (fun _ kk => r_icF i0_166 (XT.ii_eq_f nzy) kk) ?_
      refine lift (fun _ kk => r_iconst i0_169 kk) ?_
      refine lift (fun _ kk => r_goto i0_170 kk) ?_
      refine lift (fun _ kk => r_istore (ls' := [_, _, _, _, _, _, _, _, _, _, _, _, _, _, _, _, _, _, _, _, _, _, _, _]) i0_174 rfl rfl kk) ?_
      refine lift (fun _ kk => r_iload i0_176 rfl kk) ?_
      refine lift (fun _ kk => r_istore (ls' := [_, _, _, _, _, _, _, _, _, _, _, _, _, _, _, _, _, _, _, _, _, _, _, _]) i0_178 rfl rfl kk) ?_
      refine lift (fun _ kk => r_iload i0_180 rfl kk) ?_
      refine lift (fun _ kk => r_ifT i0_182 (XT.i0_eq_t rfl) kk) ?_
      refine lift (fun _ kk => r_iconst i0_196 kk) ?_
      refine lift (fun _ kk => r_istore (ls' := [_, _, _, _, _, _, _, _, _, _, _, _, _, _, _, _, _, _, _, _, _, _, _, _]) i0_197 rfl rfl kk) ?_
      refine lift (fun _ kk => r_iload i0_199 rfl kk) ?_
      refine lift (fun _ kk => r_ifT i0_201 (XT.i0_eq_t rfl) kk) ?_
      refine lift (fun _ kk => r_iconst i0_222 kk) ?_
      refine lift (fun _ kk => r_istore (ls' := [_, _, _, _, _, _, _, _, _, _, _, _, _, _, _, _, _, _, _, _, _, _, _, _]) i0_223 rfl rfl kk) ?_
      refine lift (fun _ kk => r_iload i0_225 rfl kk) ?_
      refine lift (fun _ kk => r_iload i0_227 rfl kk) ?_
      refine lift (fun _ kk => r_icF i0_229 (XT.ii_ne_f rfl) kk) ?_
      refine lift (fun _ kk => r_iload i0_232 rfl kk) ?_
      refine lift (fun _ kk => r_iload i0_234 rfl kk) ?_
      refine lift (fun _ kk => r_icF i0_236 (XT.ii_ne_f rfl) kk) ?_
      refine lift (fun _ kk => r_iload i0_239 rfl kk) ?_
      refine lift (fun _ kk => r_iload i0_241 rfl kk) ?_
      refine lift (fun _ kk => r_icF i0_243 (XT.ii_ne_f rfl) kk) ?_
      refine lift (fun _ kk => r_iload i0_246 rfl kk) ?_
      refine lift (fun _ kk => r_iload i0_248 rfl kk) ?_
      refine lift (fun _ kk => r_icF i0_250 (XT.ii_ne_f rfl) kk) ?_
      refine lift (fun _ kk => r_iload i0_253 rfl kk) ?_
      refine lift (fun _ kk => r_iload i0_255 rfl kk) ?_
      refine lift (fun _ kk => r_icF i0_257 (XT.ii_ne_f rfl) kk) ?_
      refine lift (fun _ kk => r_iload i0_260 rfl kk) ?_
      refine lift (fun _ kk => r_iload i0_262 rfl kk) ?_
      refine lift (fun _ kk => r_icF i0_264 (XT.ii_ne_f rfl) kk) ?_
      refine lift (fun _ kk => r_iload i0_267 rfl kk) ?_
      refine lift (fun _ kk => r_ifF i0_269 (XT.i0_ne_f rfl) kk) ?_
      refine lift (fun _ kk => r_iconst i0_272 kk) ?_
      refine lift (fun _ kk => r_goto i0_273 kk) ?_
      exact ⟨_, r_zreturn i0_277 rfl (by first | decide | simp), own_sz n8 (by simp only [List.length_set, List.length_replicate])⟩
  · have nyx := hyx
    have q1 := own_ne y0 x0 nyx
    by_cases hzx : z = x
    · subst hzx
      have hhx := hz
      have nnxy := own_ne z0 y0 (show ¬ z = y by first | assumption | (intro q; exact absurd q.symm (by assumption)))
      have hhy := hy
      have nnyx := own_ne y0 z0 (show ¬ y = z by first | assumption | (intro q; exact absurd q.symm (by assumption)))
      refine lift (fun _ kk => s0_49 hw (a := 0) (H1 := [_]) rfl rfl kk) ?_
      refine lift (fun _ kk => r_dup i0_52 rfl kk) ?_
      refine lift (fun _ kk => r_iload i0_53 rfl kk) ?_
      refine lift (fun _ kk => s0_55 hw (H1 := [_, _]) (init_m hw n1 (by omega)) rfl (leB rfl) kk) ?_
      refine lift (fun _ kk => r_astore (ls' := [_, _, _, _, _, _, _, _, _, _, _, _, _, _, _, _, _, _, _, _, _, _, _, _]) i0_58 rfl rfl rfl kk) ?_
      refine lift (fun _ kk => r_aload i0_60 rfl rfl kk) ?_
      refine lift (fun _ kk => s0_62 hw (H1 := [_, _]) rfl (start_m hw (s' := 1) (by decide) (by decide)) rfl (leB rfl) kk) ?_
      refine lift (fun _ kk => r_aload i0_65 rfl rfl kk) ?_
      refine lift (fun _ kk => r_iload i0_67 rfl kk) ?_
      refine lift (fun _ kk => s0_69 hw (H1 := [_, _]) rfl (mark_new hw (w := 0) jz ((List.getElem?_replicate).trans (if_pos hhx)) (by decide)) rfl (leB rfl) kk) ?_
      refine lift (fun _ kk => r_istore (ls' := [_, _, _, _, _, _, _, _, _, _, _, _, _, _, _, _, _, _, _, _, _, _, _, _]) i0_72 rfl rfl kk) ?_
      refine lift (fun _ kk => r_aload i0_74 rfl rfl kk) ?_
      refine lift (fun _ kk => r_iload i0_76 rfl kk) ?_
      refine lift (fun _ kk => s0_78 hw (H1 := [_, _]) rfl (mark_new hw (w := 0) jy ((List.getElem?_set_ne (nnxy)).trans ((List.getElem?_replicate).trans (if_pos hhy))) (by decide)) rfl (leB rfl) kk) ?_
      refine lift (fun _ kk => r_istore (ls' := [_, _, _, _, _, _, _, _, _, _, _, _, _, _, _, _, _, _, _, _, _, _, _, _]) i0_81 rfl rfl kk) ?_
      refine lift (fun _ kk => r_aload i0_83 rfl rfl kk) ?_
      refine lift (fun _ kk => r_iload i0_85 rfl kk) ?_
      refine lift (fun _ kk => s0_87 hw (H1 := [_, _]) rfl (mark_old hw (w := 1) jz ((List.getElem?_set_ne (nnyx)).trans (List.getElem?_set_self (by simp only [List.length_set, List.length_replicate]; exact hhx))) rfl) rfl (leB rfl) kk) ?_
      refine lift (fun _ kk => r_istore (ls' := [_, _, _, _, _, _, _, _, _, _, _, _, _, _, _, _, _, _, _, _, _, _, _, _]) i0_90 rfl rfl kk) ?_
      refine lift (fun _ kk => r_iload i0_92 rfl kk) ?_
      refine lift (fun _ kk => r_ifT i0_94 (XT.i0_eq_t rfl) kk) ?_
      refine lift (fun _ kk => r_aload i0_102 rfl rfl kk) ?_
      refine lift (fun _ kk => r_iload i0_104 rfl kk) ?_
      refine lift (fun _ kk => s0_106 hw (H1 := [_, _]) rfl (mark_old hw (w := 1) jz (List.getElem?_set_self (by simp only [List.length_set, List.length_replicate]; exact hhx)) rfl) rfl (leB rfl) kk) ?_
      refine lift (fun _ kk => r_istore (ls' := [_, _, _, _, _, _, _, _, _, _, _, _, _, _, _, _, _, _, _, _, _, _, _, _]) i0_109 rfl rfl kk) ?_
      refine lift (fun _ kk => r_aload i0_111 rfl rfl kk) ?_
      refine lift (fun _ kk => r_iload i0_113 rfl kk) ?_
      refine lift (fun _ kk => s0_115 hw (H1 := [_, _]) rfl (mark_old hw (w := 1) jy ((List.getElem?_set_ne (nnxy)).trans ((List.getElem?_set_ne (nnxy)).trans (List.getElem?_set_self (by simp only [List.length_set, List.length_replicate]; exact hhy)))) rfl) rfl (leB rfl) kk) ?_
      refine lift (fun _ kk => r_istore (ls' := [_, _, _, _, _, _, _, _, _, _, _, _, _, _, _, _, _, _, _, _, _, _, _, _]) i0_118 rfl rfl kk) ?_
      refine lift (fun _ kk => r_aload i0_120 rfl rfl kk) ?_
      refine lift (fun _ kk => r_iload i0_122 rfl kk) ?_
      refine lift (fun _ kk => s0_124 hw (H1 := [_, _]) rfl (mark_old hw (w := 1) jz ((List.getElem?_set_ne (nnyx)).trans (List.getElem?_set_self (by simp only [List.length_set, List.length_replicate]; exact hhx))) rfl) rfl (leB rfl) kk) ?_
      refine lift (fun _ kk => r_istore (ls' := [_, _, _, _, _, _, _, _, _, _, _, _, _, _, _, _, _, _, _, _, _, _, _, _]) i0_127 rfl rfl kk) ?_
      refine lift (fun _ kk => r_aload i0_129 rfl rfl kk) ?_
      refine lift (fun _ kk => r_iload i0_131 rfl kk) ?_
      refine lift (fun _ kk => s0_133 hw (H1 := [_, _]) rfl (mark_old hw (w := 1) jy ((List.getElem?_set_ne (nnxy)).trans (List.getElem?_set_self (by simp only [List.length_set, List.length_replicate]; exact hhy))) rfl) rfl (leB rfl) kk) ?_
      refine lift (fun _ kk => r_istore (ls' := [_, _, _, _, _, _, _, _, _, _, _, _, _, _, _, _, _, _, _, _, _, _, _, _]) i0_136 rfl rfl kk) ?_
      refine lift (fun _ kk => r_iconst i0_138 kk) ?_
      refine lift (fun _ kk => r_istore (ls' := [_, _, _, _, _, _, _, _, _, _, _, _, _, _, _, _, _, _, _, _, _, _, _, _]) i0_139 rfl rfl kk) ?_
      refine lift (fun _ kk => r_iload i0_141 rfl kk) ?_
      refine lift (fun _ kk => r_iload i0_143 rfl kk) ?_
      refine lift (fun _ kk => r_icF i0_145 (XT.ii_eq_f nyx) kk) ?_
      refine lift (fun _ kk => r_iconst i0_148 kk) ?_
      refine lift (fun _ kk => r_goto i0_149 kk) ?_
      refine lift (fun _ kk => r_istore (ls' := [_, _, _, _, _, _, _, _, _, _, _, _, _, _, _, _, _, _, _, _, _, _, _, _]) i0_153 rfl rfl kk) ?_
      refine lift (fun _ kk => r_iload i0_155 rfl kk) ?_
      refine lift (fun _ kk => r_iload i0_157 rfl kk) ?_
      refine lift (fun _ kk => r_icT i0_159 (XT.ii_eq_t rfl) kk) ?_
      refine lift (fun _ kk => r_iconst i0_173 kk) ?_
      refine lift (fun _ kk => r_istore (ls' := [_, _, _, _, _, _, _, _, _, _, _, _, _, _, _, _, _, _, _, _, _, _, _, _]) i0_174 rfl rfl kk) ?_
      refine lift (fun _ kk => r_iload i0_176 rfl kk) ?_
      refine lift (fun _ kk => r_istore (ls' := [_, _, _, _, _, _, _, _, _, _, _, _, _, _, _, _, _, _, _, _, _, _, _, _]) i0_178 rfl rfl kk) ?_
      refine lift (fun _ kk => r_iload i0_180 rfl kk) ?_
      refine lift (fun _ kk => r_ifT i0_182 (XT.i0_eq_t rfl) kk) ?_
      refine lift (fun _ kk => r_iconst i0_196 kk) ?_
      refine lift (fun _ kk => r_istore (ls' := [_, _, _, _, _, _, _, _, _, _, _, _, _, _, _, _, _, _, _, _, _, _, _, _]) i0_197 rfl rfl kk) ?_
      refine lift (fun _ kk => r_iload i0_199 rfl kk) ?_
      refine lift (fun _ kk => r_ifT i0_201 (XT.i0_eq_t rfl) kk) ?_
      refine lift (fun _ kk => r_iconst i0_222 kk) ?_
      refine lift (fun _ kk => r_istore (ls' := [_, _, _, _, _, _, _, _, _, _, _, _, _, _, _, _, _, _, _, _, _, _, _, _]) i0_223 rfl rfl kk) ?_
      refine lift (fun _ kk => r_iload i0_225 rfl kk) ?_
      refine lift (fun _ kk => r_iload i0_227 rfl kk) ?_
      refine lift (fun _ kk => r_icF i0_229 (XT.ii_ne_f rfl) kk) ?_
      refine lift (fun _ kk => r_iload i0_232 rfl kk) ?_
      refine lift (fun _ kk => r_iload i0_234 rfl kk) ?_
      refine lift (fun _ kk => r_icF i0_236 (XT.ii_ne_f rfl) kk) ?_
      refine lift (fun _ kk => r_iload i0_239 rfl kk) ?_
      refine lift (fun _ kk => r_iload i0_241 rfl kk) ?_
      refine lift (fun _ kk => r_icF i0_243 (XT.ii_ne_f rfl) kk) ?_
      refine lift (fun _ kk => r_iload i0_246 rfl kk) ?_
      refine lift (fun _ kk => r_iload i0_248 rfl kk) ?_
      refine lift (fun _ kk => r_icF i0_250 (XT.ii_ne_f rfl) kk) ?_
      refine lift (fun _ kk => r_iload i0_253 rfl kk) ?_
      refine lift (fun _ kk => r_iload i0_255 rfl kk) ?_
      refine lift (fun _ kk => r_icF i0_257 (XT.ii_ne_f rfl) kk) ?_
      refine lift (fun _ kk => r_iload i0_260 rfl kk) ?_
      refine lift (fun _ kk => r_iload i0_262 rfl kk) ?_
      refine lift (fun _ kk => r_icF i0_264 (XT.ii_ne_f rfl) kk) ?_
      refine lift (fun _ kk => r_iload i0_267 rfl kk) ?_
      refine lift (fun _ kk => r_ifF i0_269 (XT.i0_ne_f rfl) kk) ?_
      refine lift (fun _ kk => r_iconst i0_272 kk) ?_
      refine lift (fun _ kk => r_goto i0_273 kk) ?_
      exact ⟨_, r_zreturn i0_277 rfl (by first | decide | simp), own_sz n8 (by simp only [List.length_set, List.length_replicate])⟩
    · have nzx := hzx
      have q2 := own_ne z0 x0 nzx
      by_cases hzy : z = y
      · subst hzy
        have hhx := hx
        have nnxy := own_ne x0 z0 (show ¬ x = z by first | assumption | (intro q; exact absurd q.symm (by assumption)))
        have hhy := hz
        have nnyx := own_ne z0 x0 (show ¬ z = x by first | assumption | (intro q; exact absurd q.symm (by assumption)))
        refine lift (fun _ kk => s0_49 hw (a := 0) (H1 := [_]) rfl rfl kk) ?_
        refine lift (fun _ kk => r_dup i0_52 rfl kk) ?_
        refine lift (fun _ kk => r_iload i0_53 rfl kk) ?_
        refine lift (fun _ kk => s0_55 hw (H1 := [_, _]) (init_m hw n1 (by omega)) rfl (leB rfl) kk) ?_
        refine lift (fun _ kk => r_astore (ls' := [_, _, _, _, _, _, _, _, _, _, _, _, _, _, _, _, _, _, _, _, _, _, _, _]) i0_58 rfl rfl rfl kk) ?_
        refine lift (fun _ kk => r_aload i0_60 rfl rfl kk) ?_
        refine lift (fun _ kk => s0_62 hw (H1 := [_, _]) rfl (start_m hw (s' := 1) (by decide) (by decide)) rfl (leB rfl) kk) ?_
        refine lift (fun _ kk => r_aload i0_65 rfl rfl kk) ?_
        refine lift (fun _ kk => r_iload i0_67 rfl kk) ?_
        refine lift (fun _ kk => s0_69 hw (H1 := [_, _]) rfl (mark_new hw (w := 0) jx ((List.getElem?_replicate).trans (if_pos hhx)) (by decide)) rfl (leB rfl) kk) ?_
        refine lift (fun _ kk => r_istore (ls' := [_, _, _, _, _, _, _, _, _, _, _, _, _, _, _, _, _, _, _, _, _, _, _, _]) i0_72 rfl rfl kk) ?_
        refine lift (fun _ kk => r_aload i0_74 rfl rfl kk) ?_
        refine lift (fun _ kk => r_iload i0_76 rfl kk) ?_
        refine lift (fun _ kk => s0_78 hw (H1 := [_, _]) rfl (mark_new hw (w := 0) jz ((List.getElem?_set_ne (nnxy)).trans ((List.getElem?_replicate).trans (if_pos hhy))) (by decide)) rfl (leB rfl) kk) ?_
        refine lift (fun _ kk => r_istore (ls' := [_, _, _, _, _, _, _, _, _, _, _, _, _, _, _, _, _, _, _, _, _, _, _, _]) i0_81 rfl rfl kk) ?_
        refine lift (fun _ kk => r_aload i0_83 rfl rfl kk) ?_
        refine lift (fun _ kk => r_iload i0_85 rfl kk) ?_
        refine lift (fun _ kk => s0_87 hw (H1 := [_, _]) rfl (mark_old hw (w := 1) jz (List.getElem?_set_self (by simp only [List.length_set, List.length_replicate]; exact hhy)) rfl) rfl (leB rfl) kk) ?_
        refine lift (fun _ kk => r_istore (ls' := [_, _, _, _, _, _, _, _, _, _, _, _, _, _, _, _, _, _, _, _, _, _, _, _]) i0_90 rfl rfl kk) ?_
        refine lift (fun _ kk => r_iload i0_92 rfl kk) ?_
        refine lift (fun _ kk => r_ifT i0_94 (XT.i0_eq_t rfl) kk) ?_
        refine lift (fun _ kk => r_aload i0_102 rfl rfl kk) ?_
        refine lift (fun _ kk => r_iload i0_104 rfl kk) ?_
        refine lift (fun _ kk => s0_106 hw (H1 := [_, _]) rfl (mark_old hw (w := 1) jx ((List.getElem?_set_ne (nnyx)).trans ((List.getElem?_set_ne (nnyx)).trans (List.getElem?_set_self (by simp only [List.length_set, List.length_replicate]; exact hhx)))) rfl) rfl (leB rfl) kk) ?_
        refine lift (fun _ kk => r_istore (ls' := [_, _, _, _, _, _, _, _, _, _, _, _, _, _, _, _, _, _, _, _, _, _, _, _]) i0_109 rfl rfl kk) ?_
        refine lift (fun _ kk => r_aload i0_111 rfl rfl kk) ?_
        refine lift (fun _ kk => r_iload i0_113 rfl kk) ?_
        refine lift (fun _ kk => s0_115 hw (H1 := [_, _]) rfl (mark_old hw (w := 1) jz ((List.getElem?_set_ne (nnxy)).trans (List.getElem?_set_self (by simp only [List.length_set, List.length_replicate]; exact hhy))) rfl) rfl (leB rfl) kk) ?_
        refine lift (fun _ kk => r_istore (ls' := [_, _, _, _, _, _, _, _, _, _, _, _, _, _, _, _, _, _, _, _, _, _, _, _]) i0_118 rfl rfl kk) ?_
        refine lift (fun _ kk => r_aload i0_120 rfl rfl kk) ?_
        refine lift (fun _ kk => r_iload i0_122 rfl kk) ?_
        refine lift (fun _ kk => s0_124 hw (H1 := [_, _]) rfl (mark_old hw (w := 1) jz (List.getElem?_set_self (by simp only [List.length_set, List.length_replicate]; exact hhy)) rfl) rfl (leB rfl) kk) ?_
        refine lift (fun _ kk => r_istore (ls' := [_, _, _, _, _, _, _, _, _, _, _, _, _, _, _, _, _, _, _, _, _, _, _, _]) i0_127 rfl rfl kk) ?_
        refine lift (fun _ kk => r_aload i0_129 rfl rfl kk) ?_
        refine lift (fun _ kk => r_iload i0_131 rfl kk) ?_
        refine lift (fun _ kk => s0_133 hw (H1 := [_, _]) rfl (mark_old hw (w := 1) jz (List.getElem?_set_self (by simp only [List.length_set, List.length_replicate]; exact hhy)) rfl) rfl (leB rfl) kk) ?_
        refine lift (fun _ kk => r_istore (ls' := [_, _, _, _, _, _, _, _, _, _, _, _, _, _, _, _, _, _, _, _, _, _, _, _]) i0_136 rfl rfl kk) ?_
        refine lift (fun _ kk => r_iconst i0_138 kk) ?_
        refine lift (fun _ kk => r_istore (ls' := [_, _, _, _, _, _, _, _, _, _, _, _, _, _, _, _, _, _, _, _, _, _, _, _]) i0_139 rfl rfl kk) ?_
        refine lift (fun _ kk => r_iload i0_141 rfl kk) ?_
        refine lift (fun _ kk => r_iload i0_143 rfl kk) ?_
        refine lift (fun _ kk => r_icF i0_145 (XT.ii_eq_f nyx) kk) ?_
        refine lift (fun _ kk => r_iconst i0_148 kk) ?_
        refine lift (fun _ kk => r_goto i0_149 kk) ?_
        refine lift (fun _ kk => r_istore (ls' := [_, _, _, _, _, _, _, _, _, _, _, _, _, _, _, _, _, _, _, _, _, _, _, _]) i0_153 rfl rfl kk) ?_
        refine lift (fun _ kk => r_iload i0_155 rfl kk) ?_
        refine lift (fun _ kk => r_iload i0_157 rfl kk) ?_
        refine lift (fun _ kk => r_icF i0_159 (XT.ii_eq_f nzx) kk) ?_
        refine lift (fun _ kk => r_iload i0_162 rfl kk) ?_
        refine lift (fun _ kk => r_iload i0_164 rfl kk) ?_
        refine lift (fun _ kk => r_icT i0_166 (XT.ii_eq_t rfl) kk) ?_
        refine lift (fun _ kk => r_iconst i0_173 kk) ?_
        refine lift (fun _ kk => r_istore (ls' := [_, _, _, _, _, _, _, _, _, _, _, _, _, _, _, _, _, _, _, _, _, _, _, _]) i0_174 rfl rfl kk) ?_
        refine lift (fun _ kk => r_iload i0_176 rfl kk) ?_
        refine lift (fun _ kk => r_istore (ls' := [_, _, _, _, _, _, _, _, _, _, _, _, _, _, _, _, _, _, _, _, _, _, _, _]) i0_178 rfl rfl kk) ?_
        refine lift (fun _ kk => r_iload i0_180 rfl kk) ?_
        refine lift (fun _ kk => r_ifT i0_182 (XT.i0_eq_t rfl) kk) ?_
        refine lift (fun _ kk => r_iconst i0_196 kk) ?_
        refine lift (fun _ kk => r_istore (ls' := [_, _, _, _, _, _, _, _, _, _, _, _, _, _, _, _, _, _, _, _, _, _, _, _]) i0_197 rfl rfl kk) ?_
        refine lift (fun _ kk => r_iload i0_199 rfl kk) ?_
        refine lift (fun _ kk => r_ifT i0_201 (XT.i0_eq_t rfl) kk) ?_
        refine lift (fun _ kk => r_iconst i0_222 kk) ?_
        refine lift (fun _ kk => r_istore (ls' := [_, _, _, _, _, _, _, _, _, _, _, _, _, _, _, _, _, _, _, _, _, _, _, _]) i0_223 rfl rfl kk) ?_
        refine lift (fun _ kk => r_iload i0_225 rfl kk) ?_
        refine lift (fun _ kk => r_iload i0_227 rfl kk) ?_
        refine lift (fun _ kk => r_icF i0_229 (XT.ii_ne_f rfl) kk) ?_
        refine lift (fun _ kk => r_iload i0_232 rfl kk) ?_
        refine lift (fun _ kk => r_iload i0_234 rfl kk) ?_
        refine lift (fun _ kk => r_icF i0_236 (XT.ii_ne_f rfl) kk) ?_
        refine lift (fun _ kk => r_iload i0_239 rfl kk) ?_
        refine lift (fun _ kk => r_iload i0_241 rfl kk) ?_
        refine lift (fun _ kk => r_icF i0_243 (XT.ii_ne_f rfl) kk) ?_
        refine lift (fun _ kk => r_iload i0_246 rfl kk) ?_
        refine lift (fun _ kk => r_iload i0_248 rfl kk) ?_
        refine lift (fun _ kk => r_icF i0_250 (XT.ii_ne_f rfl) kk) ?_
        refine lift (fun _ kk => r_iload i0_253 rfl kk) ?_
        refine lift (fun _ kk => r_iload i0_255 rfl kk) ?_
        refine lift (fun _ kk => r_icF i0_257 (XT.ii_ne_f rfl) kk) ?_
        refine lift (fun _ kk => r_iload i0_260 rfl kk) ?_
        refine lift (fun _ kk => r_iload i0_262 rfl kk) ?_
        refine lift (fun _ kk => r_icF i0_264 (XT.ii_ne_f rfl) kk) ?_
        refine lift (fun _ kk => r_iload i0_267 rfl kk) ?_
        refine lift (fun _ kk => r_ifF i0_269 (XT.i0_ne_f rfl) kk) ?_
        refine lift (fun _ kk => r_iconst i0_272 kk) ?_
        refine lift (fun _ kk => r_goto i0_273 kk) ?_
        exact ⟨_, r_zreturn i0_277 rfl (by first | decide | simp), own_sz n8 (by simp only [List.length_set, List.length_replicate])⟩
      · have nzy := hzy
        have q3 := own_ne z0 y0 nzy
        have hhx := hx
        have nnxy := own_ne x0 y0 (show ¬ x = y by first | assumption | (intro q; exact absurd q.symm (by assumption)))
        have nnxz := own_ne x0 z0 (show ¬ x = z by first | assumption | (intro q; exact absurd q.symm (by assumption)))
        have hhy := hy
        have nnyx := own_ne y0 x0 (show ¬ y = x by first | assumption | (intro q; exact absurd q.symm (by assumption)))
        have nnyz := own_ne y0 z0 (show ¬ y = z by first | assumption | (intro q; exact absurd q.symm (by assumption)))
        have hhz := hz
        have nnzx := own_ne z0 x0 (show ¬ z = x by first | assumption | (intro q; exact absurd q.symm (by assumption)))
        have nnzy := own_ne z0 y0 (show ¬ z = y by first | assumption | (intro q; exact absurd q.symm (by assumption)))
        refine lift (fun _ kk => s0_49 hw (a := 0) (H1 := [_]) rfl rfl kk) ?_
        refine lift (fun _ kk => r_dup i0_52 rfl kk) ?_
        refine lift (fun _ kk => r_iload i0_53 rfl kk) ?_
        refine lift (fun _ kk => s0_55 hw (H1 := [_, _]) (init_m hw n1 (by omega)) rfl (leB rfl) kk) ?_
        refine lift (fun _ kk => r_astore (ls' := [_, _, _, _, _, _, _, _, _, _, _, _, _, _, _, _, _, _, _, _, _, _, _, _]) i0_58 rfl rfl rfl kk) ?_
        refine lift (fun _ kk => r_aload i0_60 rfl rfl kk) ?_
        refine lift (fun _ kk => s0_62 hw (H1 := [_, _]) rfl (start_m hw (s' := 1) (by decide) (by decide)) rfl (leB rfl) kk) ?_
        refine lift (fun _ kk => r_aload i0_65 rfl rfl kk) ?_
        refine lift (fun _ kk => r_iload i0_67 rfl kk) ?_
        refine lift (fun _ kk => s0_69 hw (H1 := [_, _]) rfl (mark_new hw (w := 0) jx ((List.getElem?_replicate).trans (if_pos hhx)) (by decide)) rfl (leB rfl) kk) ?_
        refine lift (fun _ kk => r_istore (ls' := [_, _, _, _, _, _, _, _, _, _, _, _, _, _, _, _, _, _, _, _, _, _, _, _]) i0_72 rfl rfl kk) ?_
        refine lift (fun _ kk => r_aload i0_74 rfl rfl kk) ?_
        refine lift (fun _ kk => r_iload i0_76 rfl kk) ?_
        refine lift (fun _ kk => s0_78 hw (H1 := [_, _]) rfl (mark_new hw (w := 0) jy ((List.getElem?_set_ne (nnxy)).trans ((List.getElem?_replicate).trans (if_pos hhy))) (by decide)) rfl (leB rfl) kk) ?_
        refine lift (fun _ kk => r_istore (ls' := [_, _, _, _, _, _, _, _, _, _, _, _, _, _, _, _, _, _, _, _, _, _, _, _]) i0_81 rfl rfl kk) ?_
        refine lift (fun _ kk => r_aload i0_83 rfl rfl kk) ?_
        refine lift (fun _ kk => r_iload i0_85 rfl kk) ?_
        refine lift (fun _ kk => s0_87 hw (H1 := [_, _]) rfl (mark_new hw (w := 0) jz ((List.getElem?_set_ne (nnyz)).trans ((List.getElem?_set_ne (nnxz)).trans ((List.getElem?_replicate).trans (if_pos hhz)))) (by decide)) rfl (leB rfl) kk) ?_
        refine lift (fun _ kk => r_istore (ls' := [_, _, _, _, _, _, _, _, _, _, _, _, _, _, _, _, _, _, _, _, _, _, _, _]) i0_90 rfl rfl kk) ?_
        refine lift (fun _ kk => r_iload i0_92 rfl kk) ?_
        refine lift (fun _ kk => r_ifT i0_94 (XT.i0_eq_t rfl) kk) ?_
        refine lift (fun _ kk => r_aload i0_102 rfl rfl kk) ?_
        refine lift (fun _ kk => r_iload i0_104 rfl kk) ?_
        refine lift (fun _ kk => s0_106 hw (H1 := [_, _]) rfl (mark_old hw (w := 1) jx ((List.getElem?_set_ne (nnzx)).trans ((List.getElem?_set_ne (nnyx)).trans (List.getElem?_set_self (by simp only [List.length_set, List.length_replicate]; exact hhx)))) rfl) rfl (leB rfl) kk) ?_
        refine lift (fun _ kk => r_istore (ls' := [_, _, _, _, _, _, _, _, _, _, _, _, _, _, _, _, _, _, _, _, _, _, _, _]) i0_109 rfl rfl kk) ?_
        refine lift (fun _ kk => r_aload i0_111 rfl rfl kk) ?_
        refine lift (fun _ kk => r_iload i0_113 rfl kk) ?_
        refine lift (fun _ kk => s0_115 hw (H1 := [_, _]) rfl (mark_old hw (w := 1) jy ((List.getElem?_set_ne (nnxy)).trans ((List.getElem?_set_ne (nnzy)).trans (List.getElem?_set_self (by simp only [List.length_set, List.length_replicate]; exact hhy)))) rfl) rfl (leB rfl) kk) ?_
        refine lift (fun _ kk => r_istore (ls' := [_, _, _, _, _, _, _, _, _, _, _, _, _, _, _, _, _, _, _, _, _, _, _, _]) i0_118 rfl rfl kk) ?_
        refine lift (fun _ kk => r_aload i0_120 rfl rfl kk) ?_
        refine lift (fun _ kk => r_iload i0_122 rfl kk) ?_
        refine lift (fun _ kk => s0_124 hw (H1 := [_, _]) rfl (mark_old hw (w := 1) jz ((List.getElem?_set_ne (nnyz)).trans ((List.getElem?_set_ne (nnxz)).trans (List.getElem?_set_self (by simp only [List.length_set, List.length_replicate]; exact hhz)))) rfl) rfl (leB rfl) kk) ?_
        refine lift (fun _ kk => r_istore (ls' := [_, _, _, _, _, _, _, _, _, _, _, _, _, _, _, _, _, _, _, _, _, _, _, _]) i0_127 rfl rfl kk) ?_
        refine lift (fun _ kk => r_aload i0_129 rfl rfl kk) ?_
        refine lift (fun _ kk => r_iload i0_131 rfl kk) ?_
        refine lift (fun _ kk => s0_133 hw (H1 := [_, _]) rfl (mark_old hw (w := 1) jy ((List.getElem?_set_ne (nnzy)).trans (List.getElem?_set_self (by simp only [List.length_set, List.length_replicate]; exact hhy))) rfl) rfl (leB rfl) kk) ?_
        refine lift (fun _ kk => r_istore (ls' := [_, _, _, _, _, _, _, _, _, _, _, _, _, _, _, _, _, _, _, _, _, _, _, _]) i0_136 rfl rfl kk) ?_
        refine lift (fun _ kk => r_iconst i0_138 kk) ?_
        refine lift (fun _ kk => r_istore (ls' := [_, _, _, _, _, _, _, _, _, _, _, _, _, _, _, _, _, _, _, _, _, _, _, _]) i0_139 rfl rfl kk) ?_
        refine lift (fun _ kk => r_iload i0_141 rfl kk) ?_
        refine lift (fun _ kk => r_iload i0_143 rfl kk) ?_
        refine lift (fun _ kk => r_icF i0_145 (XT.ii_eq_f nyx) kk) ?_
        refine lift (fun _ kk => r_iconst i0_148 kk) ?_
        refine lift (fun _ kk => r_goto i0_149 kk) ?_
        refine lift (fun _ kk => r_istore (ls' := [_, _, _, _, _, _, _, _, _, _, _, _, _, _, _, _, _, _, _, _, _, _, _, _]) i0_153 rfl rfl kk) ?_
        refine lift (fun _ kk => r_iload i0_155 rfl kk) ?_
        refine lift (fun _ kk => r_iload i0_157 rfl kk) ?_
        refine lift (fun _ kk => r_icF i0_159 (XT.ii_eq_f nzx) kk) ?_
        refine lift (fun _ kk => r_iload i0_162 rfl kk) ?_
        refine lift (fun _ kk => r_iload i0_164 rfl kk) ?_
        refine lift (fun _ kk => r_icF i0_166 (XT.ii_eq_f nzy) kk) ?_
        refine lift (fun _ kk => r_iconst i0_169 kk) ?_
        refine lift (fun _ kk => r_goto i0_170 kk) ?_
        refine lift (fun _ kk => r_istore (ls' := [_, _, _, _, _, _, _, _, _, _, _, _, _, _, _, _, _, _, _, _, _, _, _, _]) i0_174 rfl rfl kk) ?_
        refine lift (fun _ kk => r_iload i0_176 rfl kk) ?_
        refine lift (fun _ kk => r_istore (ls' := [_, _, _, _, _, _, _, _, _, _, _, _, _, _, _, _, _, _, _, _, _, _, _, _]) i0_178 rfl rfl kk) ?_
        refine lift (fun _ kk => r_iload i0_180 rfl kk) ?_
        refine lift (fun _ kk => r_ifT i0_182 (XT.i0_eq_t rfl) kk) ?_
        refine lift (fun _ kk => r_iconst i0_196 kk) ?_
        refine lift (fun _ kk => r_istore (ls' := [_, _, _, _, _, _, _, _, _, _, _, _, _, _, _, _, _, _, _, _, _, _, _, _]) i0_197 rfl rfl kk) ?_
        refine lift (fun _ kk => r_iload i0_199 rfl kk) ?_
        refine lift (fun _ kk => r_ifT i0_201 (XT.i0_eq_t rfl) kk) ?_
        refine lift (fun _ kk => r_iconst i0_222 kk) ?_
        refine lift (fun _ kk => r_istore (ls' := [_, _, _, _, _, _, _, _, _, _, _, _, _, _, _, _, _, _, _, _, _, _, _, _]) i0_223 rfl rfl kk) ?_
        refine lift (fun _ kk => r_iload i0_225 rfl kk) ?_
        refine lift (fun _ kk => r_iload i0_227 rfl kk) ?_
        refine lift (fun _ kk => r_icF i0_229 (XT.ii_ne_f rfl) kk) ?_
        refine lift (fun _ kk => r_iload i0_232 rfl kk) ?_
        refine lift (fun _ kk => r_iload i0_234 rfl kk) ?_
        refine lift (fun _ kk => r_icF i0_236 (XT.ii_ne_f rfl) kk) ?_
        refine lift (fun _ kk => r_iload i0_239 rfl kk) ?_
        refine lift (fun _ kk => r_iload i0_241 rfl kk) ?_
        refine lift (fun _ kk => r_icF i0_243 (XT.ii_ne_f rfl) kk) ?_
        refine lift (fun _ kk => r_iload i0_246 rfl kk) ?_
        refine lift (fun _ kk => r_iload i0_248 rfl kk) ?_
        refine lift (fun _ kk => r_icF i0_250 (XT.ii_ne_f rfl) kk) ?_
        refine lift (fun _ kk => r_iload i0_253 rfl kk) ?_
        refine lift (fun _ kk => r_iload i0_255 rfl kk) ?_
        refine lift (fun _ kk => r_icF i0_257 (XT.ii_ne_f rfl) kk) ?_
        refine lift (fun _ kk => r_iload i0_260 rfl kk) ?_
        refine lift (fun _ kk => r_iload i0_262 rfl kk) ?_
        refine lift (fun _ kk => r_icF i0_264 (XT.ii_ne_f rfl) kk) ?_
        refine lift (fun _ kk => r_iload i0_267 rfl kk) ?_
        refine lift (fun _ kk => r_ifF i0_269 (XT.i0_ne_f rfl) kk) ?_
        refine lift (fun _ kk => r_iconst i0_272 kk) ?_
        refine lift (fun _ kk => r_goto i0_273 kk) ?_
        exact ⟨_, r_zreturn i0_277 rfl (by first | decide | simp), own_sz n8 (by simp only [List.length_set, List.length_replicate])⟩
theorem own_n (p : Int32) : 0 < (1 + (p &&& 7)).toInt ∧ (1 + (p &&& 7)).toInt ≤ 8 := by
  have h := c_mask p 7 3 (by decide) (by decide)
  have e1 : (1 : Int32).toInt = 1 := by decide
  have q := c_iadd 1 (p &&& 7)
  have b1 := Int32.le_toInt (1 + (p &&& 7))
  have b2 := Int32.toInt_lt (1 + (p &&& 7))
  omega
theorem own_r (p n : Int32) (hn : 0 < n.toInt) : 0 ≤ ((p &&& 2147483647) % n).toInt ∧ ((p &&& 2147483647) % n).toInt < n.toInt := by
  have h := c_mask p 2147483647 31 (by decide) (by decide)
  have q := (c_iremV (p &&& 2147483647) n).1 (by omega) hn
  exact ⟨q.1, q.2.1⟩
theorem own_nz (n : Int32) (hn : 0 < n.toInt) : n ≠ 0 := by
  intro h
  subst h
  exact absurd hn (by decide)
theorem law_runs {l : Launch} {Z : State} {a0 : Array Value} {n0 : Nat} (hw : HW Z a0) (p0 : Int32) (p1 : Int32) (p2 : Int32) (p3 : Int32) (p4 : Int32) : RunsB K l Z n0 m0 0 [.val (.int p0), .val (.int p1), .val (.int p2), .val (.int p3), .val (.int p4), .unset, .unset, .unset, .unset, .unset, .unset, .unset, .unset, .unset, .unset, .unset, .unset, .unset, .unset, .unset, .unset, .unset, .unset, .unset] [] [] (some (.int 1)) 16 128 := by
  have hn := own_n p0
  have r1 := own_r p1 _ hn.1
  have r2 := own_r p2 _ hn.1
  have r3 := own_r p3 _ hn.1
  have nz := own_nz _ hn.1
  by_cases h : p4 &&& 1 = 0
  · skip
    refine lift (fun _ kk => r_iconst i0_0 kk) ?_
    refine lift (fun _ kk => r_iloadN i0_1 rfl kk) ?_
    refine lift (fun _ kk => r_bipush i0_2 kk) ?_
    refine lift (fun _ kk => r_iand i0_4 kk) ?_
    refine lift (fun _ kk => r_iadd i0_5 kk) ?_
    refine lift (fun _ kk => r_istore (ls' := [_, _, _, _, _, _, _, _, _, _, _, _, _, _, _, _, _, _, _, _, _, _, _, _]) i0_6 rfl rfl kk) ?_
    refine lift (fun _ kk => r_iloadN i0_8 rfl kk) ?_
    refine lift (fun _ kk => s0_9 hw kk) ?_
    refine lift (fun _ kk => r_iand i0_11 kk) ?_
    refine lift (fun _ kk => r_iload i0_12 rfl kk) ?_
    refine lift (fun _ kk => r_irem i0_14 nz kk) ?_
    refine lift (fun _ kk => r_istore (ls' := [_, _, _, _, _, _, _, _, _, _, _, _, _, _, _, _, _, _, _, _, _, _, _, _]) i0_15 rfl rfl kk) ?_
    refine lift (fun _ kk => r_iloadN i0_17 rfl kk) ?_
    refine lift (fun _ kk => s0_18 hw kk) ?_
    refine lift (fun _ kk => r_iand i0_20 kk) ?_
    refine lift (fun _ kk => r_iload i0_21 rfl kk) ?_
    refine lift (fun _ kk => r_irem i0_23 nz kk) ?_
    refine lift (fun _ kk => r_istore (ls' := [_, _, _, _, _, _, _, _, _, _, _, _, _, _, _, _, _, _, _, _, _, _, _, _]) i0_24 rfl rfl kk) ?_
    refine lift (fun _ kk => r_iloadN i0_26 rfl kk) ?_
    refine lift (fun _ kk => s0_27 hw kk) ?_
    refine lift (fun _ kk => r_iand i0_29 kk) ?_
    refine lift (fun _ kk => r_iload i0_30 rfl kk) ?_
    refine lift (fun _ kk => r_irem i0_32 nz kk) ?_
    refine lift (fun _ kk => r_istore (ls' := [_, _, _, _, _, _, _, _, _, _, _, _, _, _, _, _, _, _, _, _, _, _, _, _]) i0_33 rfl rfl kk) ?_
    refine lift (fun _ kk => r_iload i0_35 rfl kk) ?_
    refine lift (fun _ kk => r_iconst i0_37 kk) ?_
    refine lift (fun _ kk => r_iand i0_38 kk) ?_
    refine lift (fun _ kk => r_ifT i0_39 (XT.i0_eq_t h) kk) ?_
    refine lift (fun _ kk => r_iconst i0_46 kk) ?_
    refine lift (fun _ kk => r_istore (ls' := [_, _, _, _, _, _, _, _, _, _, _, _, _, _, _, _, _, _, _, _, _, _, _, _]) i0_47 rfl rfl kk) ?_
    exact core0 hw p0 p1 p2 p3 p4 _ _ _ _ hn r1.1 r2.1 r3.1 r1.2 r2.2 r3.2
  · skip
    refine lift (fun _ kk => r_iconst i0_0 kk) ?_
    refine lift (fun _ kk => r_iloadN i0_1 rfl kk) ?_
    refine lift (fun _ kk => r_bipush i0_2 kk) ?_
    refine lift (fun _ kk => r_iand i0_4 kk) ?_
    refine lift (fun _ kk => r_iadd i0_5 kk) ?_
    refine lift (fun _ kk => r_istore (ls' := [_, _, _, _, _, _, _, _, _, _, _, _, _, _, _, _, _, _, _, _, _, _, _, _]) i0_6 rfl rfl kk) ?_
    refine lift (fun _ kk => r_iloadN i0_8 rfl kk) ?_
    refine lift (fun _ kk => s0_9 hw kk) ?_
    refine lift (fun _ kk => r_iand i0_11 kk) ?_
    refine lift (fun _ kk => r_iload i0_12 rfl kk) ?_
    refine lift (fun _ kk => r_irem i0_14 nz kk) ?_
    refine lift (fun _ kk => r_istore (ls' := [_, _, _, _, _, _, _, _, _, _, _, _, _, _, _, _, _, _, _, _, _, _, _, _]) i0_15 rfl rfl kk) ?_
    refine lift (fun _ kk => r_iloadN i0_17 rfl kk) ?_
    refine lift (fun _ kk => s0_18 hw kk) ?_
    refine lift (fun _ kk => r_iand i0_20 kk) ?_
    refine lift (fun _ kk => r_iload i0_21 rfl kk) ?_
    refine lift (fun _ kk => r_irem i0_23 nz kk) ?_
    refine lift (fun _ kk => r_istore (ls' := [_, _, _, _, _, _, _, _, _, _, _, _, _, _, _, _, _, _, _, _, _, _, _, _]) i0_24 rfl rfl kk) ?_
    refine lift (fun _ kk => r_iloadN i0_26 rfl kk) ?_
    refine lift (fun _ kk => s0_27 hw kk) ?_
    refine lift (fun _ kk => r_iand i0_29 kk) ?_
    refine lift (fun _ kk => r_iload i0_30 rfl kk) ?_
    refine lift (fun _ kk => r_irem i0_32 nz kk) ?_
    refine lift (fun _ kk => r_istore (ls' := [_, _, _, _, _, _, _, _, _, _, _, _, _, _, _, _, _, _, _, _, _, _, _, _]) i0_33 rfl rfl kk) ?_
    refine lift (fun _ kk => r_iload i0_35 rfl kk) ?_
    refine lift (fun _ kk => r_iconst i0_37 kk) ?_
    refine lift (fun _ kk => r_iand i0_38 kk) ?_
    refine lift (fun _ kk => r_ifF i0_39 (XT.i0_eq_f h) kk) ?_
    refine lift (fun _ kk => r_iconst i0_42 kk) ?_
    refine lift (fun _ kk => r_goto i0_43 kk) ?_
    refine lift (fun _ kk => r_istore (ls' := [_, _, _, _, _, _, _, _, _, _, _, _, _, _, _, _, _, _, _, _, _, _, _, _]) i0_47 rfl rfl kk) ?_
    exact core1 hw p0 p1 p2 p3 p4 _ _ _ _ hn r1.1 r2.1 r3.1 r1.2 r2.2 r3.2
set_option maxRecDepth 65536 in
set_option maxHeartbeats 40000000 in
theorem comes_1 {Post : Tables → Env → Array Value → State → Outcome → State → Prop} (hpost : ∀ tb e args s v u, (limb_1_1.after args s (.returned v) u = true ∧ limb_1_2.after args s (.returned v) u = true ∧ True) → FrameEnd s (.returned v) u (Jvm.fieldLocs frame_1_writes args s ++ Jvm.arrayLocs frame_1_arrays args s ++ Jvm.staticLocs frame_1_statics s) 16 128 → Post tb e args s (.returned v) u) :
    ArmFor flags0 classFile x code maxLocals ret World_1 tables_1 room_1 Calls_1 rest_1 Pre_1 Post := by
  intro l hfl _ _ p e ha hc hk s m args below hf hA hF happ hP
  obtain ⟨hcalls, hrest, hpre⟩ := hP
  obtain ⟨-, -, -, hnamed, -, -, -, hat⟩ := (Spec.applies_iff hf).mp happ
  obtain ⟨hg, hn⟩ := and_e (Cond.before_iff.mp (show (Jvm.Cond.and given_1 narrow_1).before args s = true from hpre))
  obtain ⟨hcount, hk0⟩ := and_e hg
  obtain ⟨w0, w1, w2, w3, w4, rfl⟩ : ∃ w0 w1 w2 w3 w4 : Value, args = #[w0, w1, w2, w3, w4] := by
    have hs : args.size = 5 := by simpa [Cond.value, given_1] using hcount
    obtain ⟨L⟩ := args
    match L, hs with
    | [w0, w1, w2, w3, w4], _ => exact ⟨w0, w1, w2, w3, w4, rfl⟩
  have hw : HW s _ := fun d (hd : d ∈ tables_1) => atoms_spec (ws := Jvm.Cond.code x code maxLocals ret :: tables_1) hat d (List.mem_cons_of_mem _ hd)
  replace hk0 := and_e hk0
  obtain ⟨p0, e0⟩ := is_v hk0.1
  obtain rfl : w0 = (.int p0) := Option.some.inj e0
  have hk1 := hk0.2
  replace hk1 := and_e hk1
  obtain ⟨p1, e1⟩ := is_v hk1.1
  obtain rfl : w1 = (.int p1) := Option.some.inj e1
  have hk2 := hk1.2
  replace hk2 := and_e hk2
  obtain ⟨p2, e2⟩ := is_v hk2.1
  obtain rfl : w2 = (.int p2) := Option.some.inj e2
  have hk3 := hk2.2
  replace hk3 := and_e hk3
  obtain ⟨p3, e3⟩ := is_v hk3.1
  obtain rfl : w3 = (.int p3) := Option.some.inj e3
  have hk4 := hk3.2
  obtain ⟨p4, e4⟩ := is_v hk4
  obtain rfl : w4 = (.int p4) := Option.some.inj e4
  obtain ⟨H', k, hcl, hsl⟩ := law_runs (l := l) (n0 := s.heap.size) hw p0 p1 p2 p3 p4
  obtain ⟨n, o, h1, h2, h3, _, L, rfl, ⟨rfl, -, N⟩, hq⟩ := met_gen (mi := m0) (as := [.int p0, .int p1, .int p2, .int p3, .int p4]) tables_1 room_1 pf0 rfl (fun h => nomatch h) k (by decide) (by decide) (by show H'.length ≤ 16 + 0; omega) (by show szs K H' ≤ 128 + 0; omega) (h := s.heap) ⟨rfl, fun k o h => by simp at h⟩ p e ha hc hk s m _ below hf ((Spec.applies_iff_loose hf).mp happ).1 ⟨rfl, State.Warmed39.refl s, rfl⟩ trivial
  refine ⟨n, _, h1, h2, h3, hpost _ _ _ _ _ _ ⟨Cond.after_iff.mpr rfl, Cond.after_iff.mpr (eq_i res_at (Term.int_eval (1)) rfl), trivial⟩ ⟨hq.1, hq.2.1, (hq.2.2.sift fun y hy => Or.inr (N y hy)).mono (by show H'.length - 0 ≤ _; omega) (by show szs K H' - 0 ≤ _; omega)⟩⟩
theorem main_1_1 : Claimed_1_1 := comes_1 fun _ _ _ _ _ _ h hF => ⟨h.1, hF⟩
theorem main_1_2 : Claimed_1_2 := comes_1 fun _ _ _ _ _ _ h hF => ⟨h.2.1, hF⟩
end Jvm.Pilot.@@N@@
namespace Jvm.Pilot.@@N@@
open Jvm Jvm.ClassFile Sem Op Lib Jvm.Free Jvm.Stand Jvm.Pilot.@@N@@.Jvm.D
/-! MADE BY PROGRAM (witnessworld.py) out of the Statement's table words and the real class files: 9 classes; the members and pool entries that the words name. The judged class is class 1, her method 1. -/
namespace start1
open Jvm.ClassFile
def u (s : String) : CpInfo := .utf8 (stringToUtf16 s)
/-- a pool by its gaps: so many unusable entries, then the entry; so many at the end -/
def gap : Nat → List CpInfo → List CpInfo
  | 0, r => r
  | n + 1, r => .unusable :: gap n r
def poolList (es : List (Nat × CpInfo)) (last : Nat) : List CpInfo := es.foldr (fun e r => gap e.1 (e.2 :: r)) (gap last [])
def pool (es : List (Nat × CpInfo)) (last : Nat) : Array CpInfo := ⟨poolList es last⟩
def fileOf (pool : Array CpInfo) (this : Nat) (attrs : Array Attribute := #[]) (ms : Array MethodInfo := #[]) (fl : Nat := 33) (sup : Nat := 0) (ifs : Array Nat := #[]) (fds : Array FieldInfo := #[]) : ClassFile where
  minorVersion := 0
  majorVersion := 65
  constantPool := pool
  accessFlags := fl
  thisClass := this
  superClass := sup
  interfaces := ifs
  fields := fds
  methods := ms
  attributes := attrs
def plain (name : String) (sup : Option ClassId) : Class where
  name := name
  kind := .ordinary
  loader := none
  accessFlags := 33
  super := sup
  interfaces := #[]
  cf := none
  fields := #[]
  methods := #[]
  instanceTypes := #[]
  staticTypes := #[]
  resolved := #[]
  callSites := []
  init := .initialized
  statics := none
  mirror := none

def pool0 : Array CpInfo := pool [(5, u "<init>"), (0, u "()V"), (1, .class_ 10), (1, u "java/lang/Object")] 113

def k0c0 : Code := { maxStack := 0, maxLocals := 1, code := object_method_1_code, exceptionTable := #[], attributes := #[] }
def k0m0 : Method := { name := "<init>", desc := "()V", sig := { parameters := [], returnType := none }, accessFlags := 1, code := some k0c0 }
/-- java/lang/Object -/
def k0 : Class := { plain "java/lang/Object" none with
  accessFlags := 33
  interfaces := #[]
  cf := some (fileOf pool0 8 #[] #[{ accessFlags := 1, nameIndex := 5, descriptorIndex := 6, attributes := #[] }] 33 0 #[] #[])
  fields := #[]
  methods := #[k0m0]
  instanceTypes := #[]
  staticTypes := #[]
  resolved := Array.replicate 124 none
  statics := none }

def pool1 : Array CpInfo := pool [(2, .class_ 4), (1, u "java/lang/Object"), (0, u "<init>"), (0, u "()V"), (0, .integer 2147483647), (0, .class_ 9), (0, u "com/example/tendril/tendril/algo/Marks"), (0, .methodref 8 11), (0, .nameAndType 5 12), (0, u "(I)V"), (0, .methodref 8 14), (0, .nameAndType 15 6), (0, u "start"), (0, .methodref 8 17), (0, .nameAndType 18 19), (0, u "mark"), (0, u "(I)Z"), (0, .class_ 21), (0, u "com/example/tendril/tendril/algo/MarksMarkPinLaw"), (2, u "law"), (0, u "(IIIII)Z")] 3

def k1m0 : Method := { name := "<init>", desc := "()V", sig := { parameters := [], returnType := none }, accessFlags := 1, code := none }
def k1c1 : Code := { maxStack := 3, maxLocals := 24, code := code, exceptionTable := #[], attributes := #[] }
def k1m1 : Method := { name := "law", desc := "(IIIII)Z", sig := { parameters := [.int, .int, .int, .int, .int], returnType := some .boolean }, accessFlags := 9, code := some k1c1 }
/-- com/example/tendril/tendril/algo/MarksMarkPinLaw -/
def k1 : Class := { plain "com/example/tendril/tendril/algo/MarksMarkPinLaw" (some 0) with
  accessFlags := 49
  interfaces := #[]
  cf := some (fileOf pool1 20 #[] #[{ accessFlags := 1, nameIndex := 5, descriptorIndex := 6, attributes := #[] }, { accessFlags := 9, nameIndex := 24, descriptorIndex := 25, attributes := #[] }] 49 2 #[] #[])
  fields := #[]
  methods := #[k1m0, k1m1]
  instanceTypes := #[]
  staticTypes := #[]
  resolved := Array.replicate 29 none
  statics := none }

def pool2 : Array CpInfo := pool [(1, .methodref 2 3), (0, .class_ 4), (0, .nameAndType 5 6), (0, u "java/lang/Object"), (0, u "<init>"), (0, u "()V"), (0, .fieldref 8 9), (0, .class_ 10), (0, .nameAndType 11 12), (0, u "com/example/tendril/tendril/algo/Marks"), (0, u "stamps"), (0, u "[I"), (0, .fieldref 8 14), (0, .nameAndType 15 16), (0, u "stamp"), (0, u "I"), (12, u "(I)V"), (2, u "start"), (1, u "mark"), (0, u "(I)Z")] 4

def k2c0 : Code := { maxStack := 2, maxLocals := 2, code := prog_10_method_1_code, exceptionTable := #[], attributes := #[] }
def k2m0 : Method := { name := "<init>", desc := "(I)V", sig := { parameters := [.int], returnType := none }, accessFlags := 0, code := some k2c0 }
def k2c1 : Code := { maxStack := 3, maxLocals := 1, code := prog_10_method_2_code, exceptionTable := #[], attributes := #[] }
def k2m1 : Method := { name := "start", desc := "()V", sig := { parameters := [], returnType := none }, accessFlags := 0, code := some k2c1 }
def k2c2 : Code := { maxStack := 3, maxLocals := 3, code := prog_10_method_3_code, exceptionTable := #[], attributes := #[] }
def k2m2 : Method := { name := "mark", desc := "(I)Z", sig := { parameters := [.int], returnType := some .boolean }, accessFlags := 0, code := some k2c2 }
/-- com/example/tendril/tendril/algo/Marks -/
def k2 : Class := { plain "com/example/tendril/tendril/algo/Marks" (some 0) with
  accessFlags := 48
  interfaces := #[]
  cf := some (fileOf pool2 8 #[] #[{ accessFlags := 0, nameIndex := 5, descriptorIndex := 29, attributes := #[] }, { accessFlags := 0, nameIndex := 32, descriptorIndex := 6, attributes := #[] }, { accessFlags := 0, nameIndex := 34, descriptorIndex := 35, attributes := #[] }] 48 2 #[] #[{ accessFlags := 18, nameIndex := 11, descriptorIndex := 12, attributes := #[] }, { accessFlags := 2, nameIndex := 15, descriptorIndex := 16, attributes := #[] }])
  fields := #[{ name := "stamps", type := (.array .int), accessFlags := 18, slot := 0, constantValue := 0 }, { name := "stamp", type := .int, accessFlags := 2, slot := 1, constantValue := 0 }]
  methods := #[k2m0, k2m1, k2m2]
  instanceTypes := #[(.array .int), .int]
  staticTypes := #[]
  resolved := Array.replicate 40 none
  statics := none }

def pool3 : Array CpInfo := pool [(1, u "java/lang/Cloneable"), (0, .class_ 1), (0, u "java/lang/Object"), (0, .class_ 3)] 3

/-- java/lang/Cloneable -/
def k3 : Class := { plain "java/lang/Cloneable" (some 0) with
  accessFlags := 1537
  interfaces := #[]
  cf := some (fileOf pool3 2 #[] #[] 1537 4 #[] #[])
  fields := #[]
  methods := #[]
  instanceTypes := #[]
  staticTypes := #[]
  resolved := Array.replicate 8 none
  statics := none }

def pool4 : Array CpInfo := pool [(1, u "java/io/Serializable"), (0, .class_ 1), (0, u "java/lang/Object"), (0, .class_ 3)] 3

/-- java/io/Serializable -/
def k4 : Class := { plain "java/io/Serializable" (some 0) with
  accessFlags := 1537
  interfaces := #[]
  cf := some (fileOf pool4 2 #[] #[] 1537 4 #[] #[])
  fields := #[]
  methods := #[]
  instanceTypes := #[]
  staticTypes := #[]
  resolved := Array.replicate 8 none
  statics := none }

/-- the primitive byte -/
def k5 : Class := { plain "byte" none with kind := .primitive 'B', accessFlags := 0x411 }
/-- [B -/
def k6 : Class := { plain "[B" (some 0) with kind := .array 5 .byte, interfaces := #[3, 4], accessFlags := 1041 }

/-- the primitive int -/
def k7 : Class := { plain "int" none with kind := .primitive 'I', accessFlags := 0x411 }
/-- [I -/
def k8 : Class := { plain "[I" (some 0) with kind := .array 7 .int, interfaces := #[3, 4], accessFlags := 1041 }

def heap : Heap := #[]
def classes : Array Class := #[k0, k1, k2, k3, k4, k5, k6, k7, k8]
def interned : List (Array UInt16 × Addr) := []
def slotsUsed : Nat := 0
def theMethod : MethodId := ⟨1, 1⟩
def args0 : Array Value := #[.int 5, .int 300, .int 7, .int 11, .int 1]
def aboutOver (below : List Frame) : State where
  vm := { classes := classes, interned := interned.toArray }
  heap := heap
  slotsUsed := slotsUsed
  threads := #[{ frames := .invoking theMethod args0 :: below }]
def below0 : List Frame := [.native { method := ⟨0, 0⟩, args := #[] }]
def about1 : State := aboutOver below0
def p0 : Program := .bare "" "" ""
def e0 : Env := launch0.env 0 0 0
theorem w_frames : about1.frames = Frame.invoking theMethod args0 :: below0 := rfl
set_option maxRecDepth 65536 in
theorem w_args : argsFit about1.vm theMethod args0 = true := by decide +kernel
set_option maxRecDepth 65536 in
theorem w_heap : heapFits about1 = true := by decide +kernel
set_option maxRecDepth 65536 in
theorem w_runnable : about1.curStatus? = some .runnable := by decide +kernel
set_option maxRecDepth 65536 in
theorem w_alone : about1.alone = true := by decide +kernel
set_option maxRecDepth 65536 in
theorem w_named : about1.methodNamed? x = some theMethod := by decide +kernel
set_option maxRecDepth 65536 in
theorem w_hears : about1.hears theMethod below0 = true := by decide +kernel
set_option maxRecDepth 65536 in
theorem w_ripe : about1.ripe theMethod args0 below0 = true := by decide +kernel
theorem w_running : about1.status = .running := rfl
set_option maxRecDepth 65536 in
theorem w_room : about1.hasRoom e0.platform room_1 = true :=
  launch0.hasRoom_least _ room_1 (by decide +kernel) (by decide +kernel) (by decide +kernel) (by decide +kernel) (by decide +kernel) (by decide +kernel)
theorem allAtoms_all (ts : List Jvm.Cond) (a : Array Jvm.Value) (st : Jvm.State) : (allAtoms ts).before a st = ts.all (fun c => c.before a st) := by
  induction ts with
  | nil => rfl
  | cons c t ih =>
    show (Jvm.Cond.and c (allAtoms t)).before a st = _
    rw [Jvm.Cond.before_and, ih, List.all_cons]
def words1 : List Jvm.Cond := Jvm.Cond.code x code maxLocals ret :: tables_1
/-- a 'code' word, met by the world's own term for the bytes: nothing is compared byte by byte -/
theorem code_word {y : MethodName} {bytes : ByteArray} {mx : Nat} {rt : Option FieldType} {a : Array Value} {s : State} {m : MethodId} {meth : Method} {c : Code} (h1 : s.methodNamed? y = some m) (h2 : s.vm.method? m = some meth) (h3 : meth.code = some c) (h4 : c.code = bytes)
    (h5 : (c.maxLocals == mx && c.exceptionTable.isEmpty && decide (c.maxStack ≤ mostOperands) && decide (meth.sig.returnType = rt) && !meth.locks && decide (parseMethodDescriptor y.desc = some meth.sig)) = true) : (Jvm.Cond.code y bytes mx rt).before a s = true := by
  simp only [Bool.and_eq_true, beq_iff_eq, Bool.not_eq_true', decide_eq_true_eq] at h5
  obtain ⟨⟨⟨⟨⟨g1, g2⟩, g3⟩, g4⟩, g5⟩, g6⟩ := h5
  simp [Cond.before, Cond.holds, Cond.value, h1, h2, h3, h4, g1, g2, g3, g4, g5, g6]
def isCode : Jvm.Cond → Bool
  | .code _ _ _ _ => true
  | _ => false
theorem all_split {L : List Jvm.Cond} {P : Jvm.Cond → Bool} (h1 : L.all (fun c => isCode c || P c) = true) (h2 : ∀ c ∈ L.filter isCode, P c = true) : L.all P = true := by
  refine List.all_eq_true.mpr fun c hc => ?_
  have h := List.all_eq_true.mp h1 c hc
  rcases Bool.eq_false_or_eq_true (isCode c) with hi | hi
  · exact h2 c (List.mem_filter.mpr ⟨hc, hi⟩)
  · simpa [hi] using h
set_option maxRecDepth 65536 in
theorem w_c0 : (Jvm.Cond.code x code maxLocals ret).before args0 about1 = true := code_word (m := ⟨1, 1⟩) (meth := k1m1) (c := k1c1) (by decide +kernel) rfl rfl rfl (by decide +kernel)
set_option maxRecDepth 65536 in
theorem w_c1 : (Jvm.Cond.code ({ cls := "com/example/tendril/tendril/algo/Marks", name := "<init>", desc := "(I)V" } : Jvm.MethodName) prog_10_method_1_code (2 : Nat) (Option.none : Option Jvm.ClassFile.FieldType)).before args0 about1 = true := code_word (m := ⟨2, 0⟩) (meth := k2m0) (c := k2c0) (by decide +kernel) rfl rfl rfl (by decide +kernel)
set_option maxRecDepth 65536 in
theorem w_c2 : (Jvm.Cond.code ({ cls := "java/lang/Object", name := "<init>", desc := "()V" } : Jvm.MethodName) object_method_1_code (1 : Nat) (Option.none : Option Jvm.ClassFile.FieldType)).before args0 about1 = true := code_word (m := ⟨0, 0⟩) (meth := k0m0) (c := k0c0) (by decide +kernel) rfl rfl rfl (by decide +kernel)
set_option maxRecDepth 65536 in
theorem w_c3 : (Jvm.Cond.code ({ cls := "com/example/tendril/tendril/algo/Marks", name := "start", desc := "()V" } : Jvm.MethodName) prog_10_method_2_code (1 : Nat) (Option.none : Option Jvm.ClassFile.FieldType)).before args0 about1 = true := code_word (m := ⟨2, 1⟩) (meth := k2m1) (c := k2c1) (by decide +kernel) rfl rfl rfl (by decide +kernel)
set_option maxRecDepth 65536 in
theorem w_c4 : (Jvm.Cond.code ({ cls := "com/example/tendril/tendril/algo/Marks", name := "mark", desc := "(I)Z" } : Jvm.MethodName) prog_10_method_3_code (3 : Nat) (Option.some Jvm.ClassFile.FieldType.boolean)).before args0 about1 = true := code_word (m := ⟨2, 2⟩) (meth := k2m2) (c := k2c2) (by decide +kernel) rfl rfl rfl (by decide +kernel)
def codes1 : List Jvm.Cond := [Jvm.Cond.code x code maxLocals ret, Jvm.Cond.code ({ cls := "com/example/tendril/tendril/algo/Marks", name := "<init>", desc := "(I)V" } : Jvm.MethodName) prog_10_method_1_code (2 : Nat) (Option.none : Option Jvm.ClassFile.FieldType), Jvm.Cond.code ({ cls := "java/lang/Object", name := "<init>", desc := "()V" } : Jvm.MethodName) object_method_1_code (1 : Nat) (Option.none : Option Jvm.ClassFile.FieldType), Jvm.Cond.code ({ cls := "com/example/tendril/tendril/algo/Marks", name := "start", desc := "()V" } : Jvm.MethodName) prog_10_method_2_code (1 : Nat) (Option.none : Option Jvm.ClassFile.FieldType), Jvm.Cond.code ({ cls := "com/example/tendril/tendril/algo/Marks", name := "mark", desc := "(I)Z" } : Jvm.MethodName) prog_10_method_3_code (3 : Nat) (Option.some Jvm.ClassFile.FieldType.boolean)]
set_option maxRecDepth 65536 in
theorem codes_eq : words1.filter isCode = codes1 := rfl
theorem w_codes : ∀ c ∈ words1.filter isCode, c.before args0 about1 = true := by
  rw [codes_eq]
  intro c hc
  simp only [codes1, List.mem_cons, List.not_mem_nil, or_false] at hc
  rcases hc with rfl | rfl | rfl | rfl | rfl
  · exact w_c0
  · exact w_c1
  · exact w_c2
  · exact w_c3
  · exact w_c4
set_option maxRecDepth 65536 in
theorem w_t1 : (words1.take 24).all (fun c => isCode c || c.before args0 about1) = true := by decide +kernel
set_option maxRecDepth 65536 in
theorem w_t2 : (words1.drop 24).all (fun c => isCode c || c.before args0 about1) = true := by decide +kernel
theorem w_tables : (allAtoms (Jvm.Cond.code x code maxLocals ret :: tables_1)).before args0 about1 = true := by
  rw [allAtoms_all]
  show words1.all (fun c => c.before args0 about1) = true
  refine all_split ?_ w_codes
  rw [← List.take_append_drop 24 words1, List.all_append, w_t1, w_t2]
  rfl
set_option maxRecDepth 65536 in
theorem w_case : (Jvm.Cond.and given_1 narrow_1).before args0 about1 = true := by decide +kernel
theorem w_applies : (headSpec (Jvm.Cond.code x code maxLocals ret :: tables_1) room_1).applies x e0.platform about1 = true :=
  (Spec.applies_iff w_frames).mpr ⟨w_running, w_runnable, w_alone, w_named, w_hears, w_ripe, w_room, w_tables⟩
theorem atStart : AtStart classFile x code maxLocals ret World_1 tables_1 room_1 Calls_1 rest_1 Pre_1 launch0 p0 e0 about1 theMethod args0 below0 :=
  ⟨lists_1, trivial, launch0.admits_env _ _ _, launch0.least_env, fairChoices_fair.cas, fairChoices_fair.clock, w_frames, w_args, w_heap, w_applies, trivial, trivial, w_case⟩
end start1
theorem witness_1 : WitnessClaimed_1 := ⟨start1.p0, start1.e0, start1.about1, start1.theMethod, start1.args0, start1.below0, start1.atStart⟩
end Jvm.Pilot.@@N@@
