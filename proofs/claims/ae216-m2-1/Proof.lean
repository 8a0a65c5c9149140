import JvmDerived
import JvmDerived.Pilot.@@N@@Statement
import JvmDerived.Pilot.@@N@@Code
set_option linter.unusedVariables false
set_option linter.unusedSimpArgs false
namespace Jvm.Pilot.@@N@@
open Jvm Jvm.ClassFile Sem Op Lib Jvm.Free Jvm.Stand Jvm.LawKit Jvm.RoadKit Bundle Jvm.Pilot.@@N@@.Jvm.D
/-! ## A small logic of runs over a virtual heap (own work, the same text in every proof of this seat)
References count from the first cell that the law makes (n0): `shV n0`. `Ob`: an object by its class (a place in K) and its laid fields, or an array by its component type and values.
`Runs K l Z n0 mi pc ls st H v H'`: whoever stands in the method mi at pc with locals ls, stack st and virtual heap H comes out returning v with heap H'. -/
def shV (n0 : Nat) : Value → Value
  | .ref a => .ref (n0 + a)
  | v => v
def shS (n0 : Nat) : Slot → Slot
  | .val v => .val (shV n0 v)
  | s => s
abbrev Ob : Type := (Nat × List Value) ⊕ (FieldType × List Value)
/-- a field: who declares it, its name, its descriptor, its type -/
abbrev FI : Type := String × String × String × FieldType
/-- a class: its name, the number of its slots, its fields -/
abbrev CI : Type := String × Nat × List FI
/-- a method: name, bytes, max_locals, return type; frames and words that its callees need -/
abbrev MI : Type := MethodName × ByteArray × Nat × Option FieldType × Nat × Nat
def osz (K : List CI) : Ob → Nat
  | .inl (c, _) => ((K[c]?).map (fun ci => ci.2.1)).getD 0
  | .inr (_, vs) => vs.length
def szs (K : List CI) (H : List Ob) : Nat := (H.map (osz K)).sum
def OOk (K : List CI) (Z : State) (n0 : Nat) (h : Heap) (a : Addr) : Ob → Prop
  | .inl (c, vs) => ∃ ci, K[c]? = some ci ∧ Exa Z h a ci.1 ∧ ∀ (i : Nat) (f : FI) (v : Value), ci.2.2[i]? = some f → vs[i]? = some v → Fld Z h a f.1 f.2.1 f.2.2.1 (shV n0 v)
  | .inr (ty, vs) => ∃ cl, Arr Z h a cl ty ∧ cl.slots.size = vs.length ∧ vs.length < 2 ^ 31 ∧ ∀ (i : Nat) (v : Value), vs[i]? = some v → cl.slots[i]? = some (shV n0 v) ∧ fits ty v = true
def Rel (K : List CI) (Z : State) (n0 : Nat) (H : List Ob) (h : Heap) : Prop := h.size = n0 + H.length ∧ ∀ (k : Nat) (o : Ob), H[k]? = some o → OOk K Z n0 h (n0 + k) o
def KOk (K : List CI) (Z : State) (a0 : Array Value) : Prop := ∀ (k : Nat) (ci : CI), K[k]? = some ci → (Jvm.Cond.instantiable ci.1 ci.2.1).before a0 Z = true ∧ (∀ f ∈ ci.2.2, Laid Z a0 ci.1 f.1 f.2.1 f.2.2.1 ∧ parseFieldDescriptor f.2.2.1 = some f.2.2.2) ∧ ci.2.2.Pairwise (fun f g => f.2.1 ≠ g.2.1)
theorem cat_sh (n0 : Nat) (v : Value) : (shV n0 v).category = v.category := by cases v <;> rfl
theorem cats_sh (n0 : Nat) (st : List Value) : ((st.map (shV n0)).map fun v => v.category).sum = (st.map fun v => v.category).sum := by
  rw [List.map_map]; congr 1; exact List.map_congr_left fun v _ => cat_sh n0 v
theorem laid_map (n0 : Nat) : ∀ as : List Value, Jvm.Sym.laidSlots (as.map (shV n0)) = (Jvm.Sym.laidSlots as).map (shS n0)
  | [] => rfl
  | v :: vs => by
    simp only [List.map_cons, Jvm.Sym.laidSlots, cat_sh, laid_map n0 vs]
    split <;> rfl
theorem entry_eq (n0 : Nat) (m : MethodId) (as : List Value) (n : Nat) {ls : List Slot} (h : Jvm.Sym.laidSlots as ++ List.replicate (n - (Jvm.Sym.laidSlots as).length) .unset = ls) :
    entryFrame m (as.map (shV n0)).toArray n = mkF m 0 (ls.map (shS n0)).toArray [] := by
  have e : argsToLocals (as.map (shV n0)).toArray n = (ls.map (shS n0)).toArray := Array.toList_inj.mp (by
    rw [Jvm.Sym.argsToLocals_toList]
    simp only [laid_map, List.length_map, ← h, List.map_append, List.map_replicate]
    rfl)
  show ({ method := m, pc := 0, locals := argsToLocals (as.map (shV n0)).toArray n, stack := [], locked := none } : JFrame) = _
  rw [e]
theorem loc_at {n0 : Nat} {ls : List Slot} {k : Nat} {s : Slot} (h : ls[k]? = some s) : ((ls.map (shS n0)).toArray)[k]? = some (shS n0 s) := by
  simp [h]
/-- the place k may take a value of one word -/
def P1 (ls : List Slot) (k : Nat) : Bool := match ls[k]? with | some .unset => true | some (.val w) => w.category == 1 | _ => false
/-- the places k and k + 1 may take a value of two words -/
def P2 (ls : List Slot) (k : Nat) : Bool := match ls[k]?, ls[k + 1]? with | some (.val w), some .second => w.category == 2 | _, _ => P1 ls k && P1 ls (k + 1)
theorem P1_slot {ls : List Slot} {k : Nat} (h : P1 ls k = true) : ∃ s, ls[k]? = some s ∧ (match s with | .second => False | .val old => old.category = 1 | .unset => True) := by
  unfold P1 at h
  split at h
  · rename_i e; exact ⟨_, e, trivial⟩
  · rename_i w e; exact ⟨_, e, by simpa using h⟩
  · cases h
theorem st1 {n0 : Nat} {ls ls' : List Slot} {k : Nat} {v : Value} (hp : P1 ls k = true) (hv : v.category = 1) (hs : ls.set k (.val v) = ls') : storeLocals (ls.map (shS n0)).toArray k (shV n0 v) = some (ls'.map (shS n0)).toArray := by
  obtain ⟨s, e, q⟩ := P1_slot hp
  rw [storeLocals_cat1 (loc_at (n0 := n0) e) (by rw [cat_sh]; exact hv) (by cases s <;> simp_all [shS, cat_sh]), ← hs]
  simp [List.map_set, shS]
theorem st2 {n0 : Nat} {ls ls' : List Slot} {k : Nat} {v : Value} (hp : P2 ls k = true) (hv : v.category = 2) (hs : (ls.set k (.val v)).set (k + 1) .second = ls') : storeLocals (ls.map (shS n0)).toArray k (shV n0 v) = some (ls'.map (shS n0)).toArray := by
  have key : ∃ x y, ls[k]? = some x ∧ ls[k + 1]? = some y ∧ ((Jvm.Free.Fl.Plain1 (shS n0 x) ∧ Jvm.Free.Fl.Plain1 (shS n0 y)) ∨ ((∃ old, shS n0 x = .val old ∧ old.category = 2) ∧ shS n0 y = .second)) := by
    unfold P2 at hp
    split at hp
    · rename_i w e1 e2
      exact ⟨_, _, e1, e2, Or.inr ⟨⟨_, rfl, by rw [cat_sh]; simpa using hp⟩, rfl⟩⟩
    · rw [Bool.and_eq_true] at hp
      obtain ⟨s, e, q⟩ := P1_slot hp.1
      obtain ⟨s', e', q'⟩ := P1_slot hp.2
      exact ⟨s, s', e, e', Or.inl ⟨by cases s <;> simp_all [shS, cat_sh, Jvm.Free.Fl.Plain1], by cases s' <;> simp_all [shS, cat_sh, Jvm.Free.Fl.Plain1]⟩⟩
  obtain ⟨x, y, e1, e2, q⟩ := key
  rw [Jvm.Free.Fl.storeLocals_cat2 (loc_at (n0 := n0) e1) (loc_at (n0 := n0) e2) (by rw [cat_sh]; exact hv) q, ← hs]
  simp [List.map_set, shS]
def Runs (K : List CI) (l : Launch) (Z : State) (n0 : Nat) (mi : MI) (pc : Nat) (ls : List Slot) (st : List Value) (H : List Ob) (v : Option Value) (H' : List Ob) : Prop :=
  H.length ≤ H'.length ∧ szs K H ≤ szs K H' ∧
  ∀ (p : Program) (e : Env) (R : Room) (s : State) (m : MethodId) (args : Array Value) (below : List Frame) (meth : Method) (c : Code) (T : State) (locs : List Loc) (cells slots : Nat),
    Stand p l e R s m args below meth c T locs cells slots → p.tables.exec = Jvm.exec → Z.Warmed39 s.vm → c.code = mi.2.1 → c.maxLocals = mi.2.2.1 → meth.sig.returnType = mi.2.2.2.1 → s.vm.findClass mi.1.cls = some m.cls → meth.name = mi.1.name →
    Rel K Z n0 H T.heap → Fr n0 locs → mi.2.2.2.2.1 ≤ R.frames → mi.2.2.2.2.2 ≤ R.locals → s.heap.size + cells = n0 + H.length → cells + H'.length ≤ R.cells + H.length → slots + szs K H' ≤ R.slots + szs K H →
    ∃ (T' : State) (locs' : List Loc) (cells' slots' : Nat), Stand p l e R s m args below meth c T' locs' cells' slots' ∧ Rel K Z n0 H' T'.heap ∧ Fr n0 locs' ∧ s.heap.size + cells' = n0 + H'.length ∧ slots' + szs K H ≤ slots + szs K H' ∧
      ∀ fs, (∀ (f : JFrame) (acts : List Action), f.method = m → f.locked = none → f.entered = [] → (doReturn e (T'.setTop f) acts (v.map (shV n0))).1 = T'.setFrames fs) →
        Steps p.tables e below (T.setTop (mkF m pc (ls.map (shS n0)).toArray (st.map (shV n0)))) (T'.setFrames fs)
def rmOf (K : List CI) (mi : MI) (H H' : List Ob) : Room := { frames := mi.2.2.2.2.1, cells := H'.length - H.length, slots := szs K H' - szs K H, locals := mi.2.2.2.2.2 }
def Meets (K : List CI) (l : Launch) (Z : State) (n0 : Nat) (mi : MI) (as : List Value) (H : List Ob) (v : Option Value) (H' : List Ob) : Prop :=
  H.length ≤ H'.length ∧ szs K H ≤ szs K H' ∧ ∀ h, Rel K Z n0 H h →
    MetFree l mi.1 (head1 [Jvm.Cond.code mi.1 mi.2.1 mi.2.2.1 mi.2.2.2.1] (rmOf K mi H H')) (fun a U => a = (as.map (shV n0)).toArray ∧ Z.Warmed39 U.vm ∧ U.heap = h) (fun _ _ _ _ _ => True)
      (fun _ U o U' => ∃ w L, o = .returned w ∧ (w = v.map (shV n0) ∧ Rel K Z n0 H' U'.heap ∧ Fr n0 L) ∧ FrameEnd U o U' L (rmOf K mi H H').cells (rmOf K mi H H').slots)
theorem leB {a b : Nat} (h : Nat.ble a b = true) : a ≤ b := Nat.le_of_ble_eq_true h
theorem ltB {a b : Nat} (h : Nat.ble (a + 1) b = true) : a < b := Nat.le_of_ble_eq_true h
section Logic
variable {K : List CI} {l : Launch} {Z : State} {a0 : Array Value} {n0 : Nat} {mi : MI} {pc np tp : Nat} {ls ls' : List Slot} {st rest : List Value} {H H' H1 : List Ob} {v : Option Value}
/-- from a run of the body to the method's contract, in any room that holds it -/
theorem met_gen {as : List Value} (ws : List Jvm.Cond) (R0 : Room) (hp : plainFor mi.1 = true) (hls : Jvm.Sym.laidSlots as ++ List.replicate (mi.2.2.1 - (Jvm.Sym.laidSlots as).length) .unset = ls) (hv : mi.2.2.2.1 = none → v = none)
    (k : Runs K l Z n0 mi 0 ls [] H v H') (hfr : mi.2.2.2.2.1 ≤ R0.frames) (hlo : mi.2.2.2.2.2 ≤ R0.locals) (hcl : H'.length ≤ R0.cells + H.length) (hsl : szs K H' ≤ R0.slots + szs K H) {h : Heap} (hrel : Rel K Z n0 H h) :
    MetFree l mi.1 (head1 (Jvm.Cond.code mi.1 mi.2.1 mi.2.2.1 mi.2.2.2.1 :: ws) R0) (fun a U => a = (as.map (shV n0)).toArray ∧ Z.Warmed39 U.vm ∧ U.heap = h) (fun _ _ _ _ _ => True)
      (fun _ U o U' => ∃ w L, o = .returned w ∧ (w = v.map (shV n0) ∧ Rel K Z n0 H' U'.heap ∧ Fr n0 L) ∧ FrameEnd U o U' L (H'.length - H.length) (szs K H' - szs K H)) := by
  refine MetFree.of_bodySF hp hisR ?_
  intro p e s m args below meth c s₁ Bd hml0 hP hK
  obtain ⟨rfl, hZ, hh⟩ := hP
  have hx := Bd.exec
  have hby := Bd.bytes
  have hown : s.vm.findClass mi.1.cls = some m.cls := findClass_of_methodNamed Bd.named
  have hnm := (name_of_methodNamed Bd.named Bd.method).1
  have X0 : Stand p l e R0 s m (as.map (shV n0)).toArray below meth c s₁ [] 0 0 := Stand.of_body Bd
  have e0 : s₁.heap = h := by rw [← hh, Bd.state]; rfl
  obtain ⟨T', locs', cells', slots', X', rel', fr', hc', hs', stp⟩ := k.2.2 p e R0 s m _ below meth c s₁ [] 0 0 X0 hx hZ hby hml0 Bd.returns hown hnm (e0 ▸ hrel) (Fr.nil n0) hfr hlo (by rw [hh, hrel.1]; rfl) (by omega) (by omega)
  have hsz : s.heap.size = n0 + H.length := by rw [hh, hrel.1]
  obtain ⟨fs, hr, hrun, hended, hW, hsame⟩ := X'.leave (v := v.map (shV n0)) (fun q => by rw [Bd.returns] at q; rw [hv q]; rfl)
  exact ⟨_, _, castTop (entry_eq n0 m as mi.2.2.1 hls) (stp fs hr), hrun, hended, _, _, rfl, ⟨rfl, rel', fr'⟩, ⟨_, rfl⟩, hW, hsame.mono (by omega) (by omega)⟩
theorem meets {as : List Value} (hp : plainFor mi.1 = true) (hls : Jvm.Sym.laidSlots as ++ List.replicate (mi.2.2.1 - (Jvm.Sym.laidSlots as).length) .unset = ls) (hv : mi.2.2.2.1 = none → v = none) (k : Runs K l Z n0 mi 0 ls [] H v H') : Meets K l Z n0 mi as H v H' :=
  ⟨k.1, k.2.1, fun h hrel => met_gen [] (rmOf K mi H H') hp hls hv k (Nat.le_refl _) (Nat.le_refl _) (by have := k.1; show _ ≤ (H'.length - H.length) + _; omega) (by have := k.2.1; show _ ≤ (szs K H' - szs K H) + _; omega) hrel⟩
/-- a run that ends in some heap of at most c cells and n slots -/
def RunsB (K : List CI) (l : Launch) (Z : State) (n0 : Nat) (mi : MI) (pc : Nat) (ls : List Slot) (st : List Value) (H : List Ob) (v : Option Value) (c n : Nat) : Prop := ∃ H' : List Ob, Runs K l Z n0 mi pc ls st H v H' ∧ H'.length ≤ c ∧ szs K H' ≤ n
theorem lift {st2 : List Value} {c n : Nat} (f : ∀ H' : List Ob, Runs K l Z n0 mi np ls' st2 H1 v H' → Runs K l Z n0 mi pc ls st H v H') (k : RunsB K l Z n0 mi np ls' st2 H1 v c n) : RunsB K l Z n0 mi pc ls st H v c n := by
  obtain ⟨H', k1, k2⟩ := k
  exact ⟨H', f H' k1, k2⟩
/-- a step that reads no heap -/
theorem Runs.pure {st2 : List Value} (hstep : ∀ (p : Program) (e : Env) (R : Room) (s : State) (m : MethodId) (args : Array Value) (below : List Frame) (meth : Method) (c : Code) (T : State) (locs : List Loc) (cells slots : Nat),
      Stand p l e R s m args below meth c T locs cells slots → p.tables.exec = Jvm.exec → Z.Warmed39 s.vm → c.code = mi.2.1 → s.vm.findClass mi.1.cls = some m.cls → ∀ target,
      Steps p.tables e below (T.setTop (mkF m np (ls'.map (shS n0)).toArray (st2.map (shV n0)))) target → Steps p.tables e below (T.setTop (mkF m pc (ls.map (shS n0)).toArray (st.map (shV n0)))) target)
    (k : Runs K l Z n0 mi np ls' st2 H v H') : Runs K l Z n0 mi pc ls st H v H' := by
  refine ⟨k.1, k.2.1, fun p e R s m args below meth c T locs cells slots X hx hZ hc hml hret hown hnm hrel hfr hf hlo hsz hcl hsl => ?_⟩
  obtain ⟨T', locs', cells', slots', X', rel', fr', hc', hs', stp⟩ := k.2.2 p e R s m args below meth c T locs cells slots X hx hZ hc hml hret hown hnm hrel hfr hf hlo hsz hcl hsl
  exact ⟨T', locs', cells', slots', X', rel', fr', hc', hs', fun fs hr => hstep p e R s m args below meth c T locs cells slots X hx hZ hc hown _ (stp fs hr)⟩
theorem isRef_sh {n0 : Nat} {x : Value} (h : x.isRef = true) : (shV n0 x).isRef = true := by cases x <;> first | rfl | cases h
theorem P1_int {ls : List Slot} {k : Nat} {x : Int32} (h : ls[k]? = some (.val (.int x))) : P1 ls k = true := by unfold P1; rw [h]; rfl
theorem r_iloadN {k : Fin 4} {x : Int32} (hd : decode mi.2.1 pc = .ok (.iload_n k, 1) ∧ pc + 1 = np) (hl : ls[k.val]? = some (.val (.int x))) (kk : Runs K l Z n0 mi np ls (.int x :: st) H v H') : Runs K l Z n0 mi pc ls st H v H' := by
  obtain ⟨hd, rfl⟩ := hd
  exact Runs.pure (fun _ _ _ _ _ _ _ _ _ _ _ _ _ X hx hZ hc hown t h => XS.iloadN X.here hx rfl (hb hc hd) (loc_at hl) h) kk
theorem r_iload {k : Nat} {x : Int32} (hd : decode mi.2.1 pc = .ok (.iload k, 2) ∧ pc + 2 = np) (hl : ls[k]? = some (.val (.int x))) (kk : Runs K l Z n0 mi np ls (.int x :: st) H v H') : Runs K l Z n0 mi pc ls st H v H' := by
  obtain ⟨hd, rfl⟩ := hd
  exact Runs.pure (fun _ _ _ _ _ _ _ _ _ _ _ _ _ X hx hZ hc hown t h => XS.iload X.here hx rfl (hb hc hd) (loc_at hl) h) kk
theorem r_lloadN {k : Fin 4} {x : Int64} (hd : decode mi.2.1 pc = .ok (.lload_n k, 1) ∧ pc + 1 = np) (hl : ls[k.val]? = some (.val (.long x))) (kk : Runs K l Z n0 mi np ls (.long x :: st) H v H') : Runs K l Z n0 mi pc ls st H v H' := by
  obtain ⟨hd, rfl⟩ := hd
  exact Runs.pure (fun _ _ _ _ _ _ _ _ _ _ _ _ _ X hx hZ hc hown t h => XT.lloadN X.here hx rfl (hb hc hd) (loc_at hl) h) kk
theorem r_lload {k : Nat} {x : Int64} (hd : decode mi.2.1 pc = .ok (.lload k, 2) ∧ pc + 2 = np) (hl : ls[k]? = some (.val (.long x))) (kk : Runs K l Z n0 mi np ls (.long x :: st) H v H') : Runs K l Z n0 mi pc ls st H v H' := by
  obtain ⟨hd, rfl⟩ := hd
  exact Runs.pure (fun _ _ _ _ _ _ _ _ _ _ _ _ _ X hx hZ hc hown t h => XT.lload X.here hx rfl (hb hc hd) (loc_at hl) h) kk
theorem r_aloadN {k : Fin 4} {x : Value} (hd : decode mi.2.1 pc = .ok (.aload_n k, 1) ∧ pc + 1 = np) (hl : ls[k.val]? = some (.val x)) (hv : x.isRef = true) (kk : Runs K l Z n0 mi np ls (x :: st) H v H') : Runs K l Z n0 mi pc ls st H v H' := by
  obtain ⟨hd, rfl⟩ := hd
  exact Runs.pure (fun _ _ _ _ _ _ _ _ _ _ _ _ _ X hx hZ hc hown t h => XS.aloadN X.here hx rfl (hb hc hd) (loc_at hl) (isRef_sh hv) h) kk
theorem r_aload {k : Nat} {x : Value} (hd : decode mi.2.1 pc = .ok (.aload k, 2) ∧ pc + 2 = np) (hl : ls[k]? = some (.val x)) (hv : x.isRef = true) (kk : Runs K l Z n0 mi np ls (x :: st) H v H') : Runs K l Z n0 mi pc ls st H v H' := by
  obtain ⟨hd, rfl⟩ := hd
  exact Runs.pure (fun _ _ _ _ _ _ _ _ _ _ _ _ _ X hx hZ hc hown t h => XS.aload X.here hx rfl (hb hc hd) (loc_at hl) (isRef_sh hv) h) kk
theorem r_istoreN {k : Fin 4} {x : Int32} (hd : decode mi.2.1 pc = .ok (.istore_n k, 1) ∧ pc + 1 = np) (hp : P1 ls k.val = true) (hs : ls.set k.val (.val (.int x)) = ls') (kk : Runs K l Z n0 mi np ls' st H v H') : Runs K l Z n0 mi pc ls (.int x :: st) H v H' := by
  obtain ⟨hd, rfl⟩ := hd
  exact Runs.pure (fun _ _ _ _ _ _ _ _ _ _ _ _ _ X hx hZ hc hown t h => XS.istoreN X.here hx rfl (hb hc hd) rfl (st1 hp rfl hs) h) kk
theorem r_istore {k : Nat} {x : Int32} (hd : decode mi.2.1 pc = .ok (.istore k, 2) ∧ pc + 2 = np) (hp : P1 ls k = true) (hs : ls.set k (.val (.int x)) = ls') (kk : Runs K l Z n0 mi np ls' st H v H') : Runs K l Z n0 mi pc ls (.int x :: st) H v H' := by
  obtain ⟨hd, rfl⟩ := hd
  exact Runs.pure (fun _ _ _ _ _ _ _ _ _ _ _ _ _ X hx hZ hc hown t h => XS.istore X.here hx rfl (hb hc hd) rfl (st1 hp rfl hs) h) kk
theorem r_lstoreN {k : Fin 4} {x : Int64} (hd : decode mi.2.1 pc = .ok (.lstore_n k, 1) ∧ pc + 1 = np) (hp : P2 ls k.val = true) (hs : (ls.set k.val (.val (.long x))).set (k.val + 1) .second = ls') (kk : Runs K l Z n0 mi np ls' st H v H') : Runs K l Z n0 mi pc ls (.long x :: st) H v H' := by
  obtain ⟨hd, rfl⟩ := hd
  exact Runs.pure (fun _ _ _ _ _ _ _ _ _ _ _ _ _ X hx hZ hc hown t h => XT.lstoreN X.here hx rfl (hb hc hd) rfl (st2 hp rfl hs) h) kk
theorem r_lstore {k : Nat} {x : Int64} (hd : decode mi.2.1 pc = .ok (.lstore k, 2) ∧ pc + 2 = np) (hp : P2 ls k = true) (hs : (ls.set k (.val (.long x))).set (k + 1) .second = ls') (kk : Runs K l Z n0 mi np ls' st H v H') : Runs K l Z n0 mi pc ls (.long x :: st) H v H' := by
  obtain ⟨hd, rfl⟩ := hd
  exact Runs.pure (fun _ _ _ _ _ _ _ _ _ _ _ _ _ X hx hZ hc hown t h => XT.lstore X.here hx rfl (hb hc hd) rfl (st2 hp rfl hs) h) kk
theorem r_astoreN {k : Fin 4} {x : Value} (hd : decode mi.2.1 pc = .ok (.astore_n k, 1) ∧ pc + 1 = np) (hp : P1 ls k.val = true) (hv : x.isRef = true) (hs : ls.set k.val (.val x) = ls') (kk : Runs K l Z n0 mi np ls' st H v H') : Runs K l Z n0 mi pc ls (x :: st) H v H' := by
  obtain ⟨hd, rfl⟩ := hd
  exact Runs.pure (fun _ _ _ _ _ _ _ _ _ _ _ _ _ X hx hZ hc hown t h => XS.astoreN X.here hx rfl (hb hc hd) rfl (isRef_sh hv) (st1 hp (XT.cat1 hv) hs) h) kk
theorem r_astore {k : Nat} {x : Value} (hd : decode mi.2.1 pc = .ok (.astore k, 2) ∧ pc + 2 = np) (hp : P1 ls k = true) (hv : x.isRef = true) (hs : ls.set k (.val x) = ls') (kk : Runs K l Z n0 mi np ls' st H v H') : Runs K l Z n0 mi pc ls (x :: st) H v H' := by
  obtain ⟨hd, rfl⟩ := hd
  exact Runs.pure (fun _ _ _ _ _ _ _ _ _ _ _ _ _ X hx hZ hc hown t h => XS.astore X.here hx rfl (hb hc hd) rfl (isRef_sh hv) (st1 hp (XT.cat1 hv) hs) h) kk
theorem r_iadd {x y : Int32} (hd : decode mi.2.1 pc = .ok (.iadd, 1) ∧ pc + 1 = np) (kk : Runs K l Z n0 mi np ls (.int (x + y) :: st) H v H') : Runs K l Z n0 mi pc ls (.int y :: .int x :: st) H v H' := by
  obtain ⟨hd, rfl⟩ := hd
  exact Runs.pure (fun _ _ _ _ _ _ _ _ _ _ _ _ _ X hx hZ hc hown t h => XS.iadd X.here hx rfl (hb hc hd) rfl h) kk
theorem r_isub {x y : Int32} (hd : decode mi.2.1 pc = .ok (.isub, 1) ∧ pc + 1 = np) (kk : Runs K l Z n0 mi np ls (.int (x - y) :: st) H v H') : Runs K l Z n0 mi pc ls (.int y :: .int x :: st) H v H' := by
  obtain ⟨hd, rfl⟩ := hd
  exact Runs.pure (fun _ _ _ _ _ _ _ _ _ _ _ _ _ X hx hZ hc hown t h => XS.isub X.here hx rfl (hb hc hd) rfl h) kk
theorem r_imul {x y : Int32} (hd : decode mi.2.1 pc = .ok (.imul, 1) ∧ pc + 1 = np) (kk : Runs K l Z n0 mi np ls (.int (x * y) :: st) H v H') : Runs K l Z n0 mi pc ls (.int y :: .int x :: st) H v H' := by
  obtain ⟨hd, rfl⟩ := hd
  exact Runs.pure (fun _ _ _ _ _ _ _ _ _ _ _ _ _ X hx hZ hc hown t h => XS.imul X.here hx rfl (hb hc hd) rfl h) kk
theorem r_iand {x y : Int32} (hd : decode mi.2.1 pc = .ok (.iand, 1) ∧ pc + 1 = np) (kk : Runs K l Z n0 mi np ls (.int (x &&& y) :: st) H v H') : Runs K l Z n0 mi pc ls (.int y :: .int x :: st) H v H' := by
  obtain ⟨hd, rfl⟩ := hd
  exact Runs.pure (fun _ _ _ _ _ _ _ _ _ _ _ _ _ X hx hZ hc hown t h => XS.iand X.here hx rfl (hb hc hd) rfl h) kk
theorem r_ior {x y : Int32} (hd : decode mi.2.1 pc = .ok (.ior, 1) ∧ pc + 1 = np) (kk : Runs K l Z n0 mi np ls (.int (x ||| y) :: st) H v H') : Runs K l Z n0 mi pc ls (.int y :: .int x :: st) H v H' := by
  obtain ⟨hd, rfl⟩ := hd
  exact Runs.pure (fun _ _ _ _ _ _ _ _ _ _ _ _ _ X hx hZ hc hown t h => XT.ior X.here hx rfl (hb hc hd) rfl h) kk
theorem r_ixor {x y : Int32} (hd : decode mi.2.1 pc = .ok (.ixor, 1) ∧ pc + 1 = np) (kk : Runs K l Z n0 mi np ls (.int (x ^^^ y) :: st) H v H') : Runs K l Z n0 mi pc ls (.int y :: .int x :: st) H v H' := by
  obtain ⟨hd, rfl⟩ := hd
  exact Runs.pure (fun _ _ _ _ _ _ _ _ _ _ _ _ _ X hx hZ hc hown t h => XT.ixor X.here hx rfl (hb hc hd) rfl h) kk
theorem r_ishl {x y : Int32} (hd : decode mi.2.1 pc = .ok (.ishl, 1) ∧ pc + 1 = np) (kk : Runs K l Z n0 mi np ls (.int (x <<< (y &&& 31)) :: st) H v H') : Runs K l Z n0 mi pc ls (.int y :: .int x :: st) H v H' := by
  obtain ⟨hd, rfl⟩ := hd
  exact Runs.pure (fun _ _ _ _ _ _ _ _ _ _ _ _ _ X hx hZ hc hown t h => XT.ishl X.here hx rfl (hb hc hd) rfl h) kk
theorem r_ishr {x y : Int32} (hd : decode mi.2.1 pc = .ok (.ishr, 1) ∧ pc + 1 = np) (kk : Runs K l Z n0 mi np ls (.int (x >>> (y &&& 31)) :: st) H v H') : Runs K l Z n0 mi pc ls (.int y :: .int x :: st) H v H' := by
  obtain ⟨hd, rfl⟩ := hd
  exact Runs.pure (fun _ _ _ _ _ _ _ _ _ _ _ _ _ X hx hZ hc hown t h => XT.ishr X.here hx rfl (hb hc hd) rfl h) kk
theorem r_iushr {x y : Int32} (hd : decode mi.2.1 pc = .ok (.iushr, 1) ∧ pc + 1 = np) (kk : Runs K l Z n0 mi np ls (.int (XT.ushr x y) :: st) H v H') : Runs K l Z n0 mi pc ls (.int y :: .int x :: st) H v H' := by
  obtain ⟨hd, rfl⟩ := hd
  exact Runs.pure (fun _ _ _ _ _ _ _ _ _ _ _ _ _ X hx hZ hc hown t h => XT.iushr X.here hx rfl (hb hc hd) rfl h) kk
theorem r_idiv {x y : Int32} (hd : decode mi.2.1 pc = .ok (.idiv, 1) ∧ pc + 1 = np) (hy : y ≠ 0) (kk : Runs K l Z n0 mi np ls (.int (x / y) :: st) H v H') : Runs K l Z n0 mi pc ls (.int y :: .int x :: st) H v H' := by
  obtain ⟨hd, rfl⟩ := hd
  exact Runs.pure (fun _ _ _ _ _ _ _ _ _ _ _ _ _ X hx hZ hc hown t h => XS.idiv X.here hx rfl (hb hc hd) rfl hy h) kk
theorem r_irem {x y : Int32} (hd : decode mi.2.1 pc = .ok (.irem, 1) ∧ pc + 1 = np) (hy : y ≠ 0) (kk : Runs K l Z n0 mi np ls (.int (x % y) :: st) H v H') : Runs K l Z n0 mi pc ls (.int y :: .int x :: st) H v H' := by
  obtain ⟨hd, rfl⟩ := hd
  exact Runs.pure (fun _ _ _ _ _ _ _ _ _ _ _ _ _ X hx hZ hc hown t h => iremM X hx rfl (hb hc hd) rfl hy h) kk
theorem r_ladd {x y : Int64} (hd : decode mi.2.1 pc = .ok (.ladd, 1) ∧ pc + 1 = np) (kk : Runs K l Z n0 mi np ls (.long (x + y) :: st) H v H') : Runs K l Z n0 mi pc ls (.long y :: .long x :: st) H v H' := by
  obtain ⟨hd, rfl⟩ := hd
  exact Runs.pure (fun _ _ _ _ _ _ _ _ _ _ _ _ _ X hx hZ hc hown t h => XT.ladd X.here hx rfl (hb hc hd) rfl h) kk
theorem r_lsub {x y : Int64} (hd : decode mi.2.1 pc = .ok (.lsub, 1) ∧ pc + 1 = np) (kk : Runs K l Z n0 mi np ls (.long (x - y) :: st) H v H') : Runs K l Z n0 mi pc ls (.long y :: .long x :: st) H v H' := by
  obtain ⟨hd, rfl⟩ := hd
  exact Runs.pure (fun _ _ _ _ _ _ _ _ _ _ _ _ _ X hx hZ hc hown t h => XT.lsub X.here hx rfl (hb hc hd) rfl h) kk
theorem r_lmul {x y : Int64} (hd : decode mi.2.1 pc = .ok (.lmul, 1) ∧ pc + 1 = np) (kk : Runs K l Z n0 mi np ls (.long (x * y) :: st) H v H') : Runs K l Z n0 mi pc ls (.long y :: .long x :: st) H v H' := by
  obtain ⟨hd, rfl⟩ := hd
  exact Runs.pure (fun _ _ _ _ _ _ _ _ _ _ _ _ _ X hx hZ hc hown t h => XT.lmul X.here hx rfl (hb hc hd) rfl h) kk
theorem r_land {x y : Int64} (hd : decode mi.2.1 pc = .ok (.land, 1) ∧ pc + 1 = np) (kk : Runs K l Z n0 mi np ls (.long (x &&& y) :: st) H v H') : Runs K l Z n0 mi pc ls (.long y :: .long x :: st) H v H' := by
  obtain ⟨hd, rfl⟩ := hd
  exact Runs.pure (fun _ _ _ _ _ _ _ _ _ _ _ _ _ X hx hZ hc hown t h => XT.land X.here hx rfl (hb hc hd) rfl h) kk
theorem r_lor {x y : Int64} (hd : decode mi.2.1 pc = .ok (.lor, 1) ∧ pc + 1 = np) (kk : Runs K l Z n0 mi np ls (.long (x ||| y) :: st) H v H') : Runs K l Z n0 mi pc ls (.long y :: .long x :: st) H v H' := by
  obtain ⟨hd, rfl⟩ := hd
  exact Runs.pure (fun _ _ _ _ _ _ _ _ _ _ _ _ _ X hx hZ hc hown t h => XT.lor X.here hx rfl (hb hc hd) rfl h) kk
theorem r_lxor {x y : Int64} (hd : decode mi.2.1 pc = .ok (.lxor, 1) ∧ pc + 1 = np) (kk : Runs K l Z n0 mi np ls (.long (x ^^^ y) :: st) H v H') : Runs K l Z n0 mi pc ls (.long y :: .long x :: st) H v H' := by
  obtain ⟨hd, rfl⟩ := hd
  exact Runs.pure (fun _ _ _ _ _ _ _ _ _ _ _ _ _ X hx hZ hc hown t h => XT.lxor X.here hx rfl (hb hc hd) rfl h) kk
theorem r_lshl {x : Int64} {y : Int32} (hd : decode mi.2.1 pc = .ok (.lshl, 1) ∧ pc + 1 = np) (kk : Runs K l Z n0 mi np ls (.long (x <<< (y.toInt64 &&& 63)) :: st) H v H') : Runs K l Z n0 mi pc ls (.int y :: .long x :: st) H v H' := by
  obtain ⟨hd, rfl⟩ := hd
  exact Runs.pure (fun _ _ _ _ _ _ _ _ _ _ _ _ _ X hx hZ hc hown t h => XT.lshl X.here hx rfl (hb hc hd) rfl h) kk
theorem r_lshr {x : Int64} {y : Int32} (hd : decode mi.2.1 pc = .ok (.lshr, 1) ∧ pc + 1 = np) (kk : Runs K l Z n0 mi np ls (.long (x >>> (y.toInt64 &&& 63)) :: st) H v H') : Runs K l Z n0 mi pc ls (.int y :: .long x :: st) H v H' := by
  obtain ⟨hd, rfl⟩ := hd
  exact Runs.pure (fun _ _ _ _ _ _ _ _ _ _ _ _ _ X hx hZ hc hown t h => XT.lshr X.here hx rfl (hb hc hd) rfl h) kk
theorem r_lushr {x : Int64} {y : Int32} (hd : decode mi.2.1 pc = .ok (.lushr, 1) ∧ pc + 1 = np) (kk : Runs K l Z n0 mi np ls (.long (XT.ushrL x y) :: st) H v H') : Runs K l Z n0 mi pc ls (.int y :: .long x :: st) H v H' := by
  obtain ⟨hd, rfl⟩ := hd
  exact Runs.pure (fun _ _ _ _ _ _ _ _ _ _ _ _ _ X hx hZ hc hown t h => XT.lushr X.here hx rfl (hb hc hd) rfl h) kk
theorem r_ldiv {x y : Int64} (hd : decode mi.2.1 pc = .ok (.ldiv, 1) ∧ pc + 1 = np) (hy : y ≠ 0) (kk : Runs K l Z n0 mi np ls (.long (x / y) :: st) H v H') : Runs K l Z n0 mi pc ls (.long y :: .long x :: st) H v H' := by
  obtain ⟨hd, rfl⟩ := hd
  exact Runs.pure (fun _ _ _ _ _ _ _ _ _ _ _ _ _ X hx hZ hc hown t h => XT.ldiv X.here hx rfl (hb hc hd) rfl hy h) kk
theorem r_lrem {x y : Int64} (hd : decode mi.2.1 pc = .ok (.lrem, 1) ∧ pc + 1 = np) (hy : y ≠ 0) (kk : Runs K l Z n0 mi np ls (.long (x % y) :: st) H v H') : Runs K l Z n0 mi pc ls (.long y :: .long x :: st) H v H' := by
  obtain ⟨hd, rfl⟩ := hd
  exact Runs.pure (fun _ _ _ _ _ _ _ _ _ _ _ _ _ X hx hZ hc hown t h => XT.lrem X.here hx rfl (hb hc hd) rfl hy (by rw [lrem_mod]; exact h)) kk
theorem r_lcmp {x y : Int64} (hd : decode mi.2.1 pc = .ok (.lcmp, 1) ∧ pc + 1 = np) (kk : Runs K l Z n0 mi np ls (.int (XT.cmpL x y) :: st) H v H') : Runs K l Z n0 mi pc ls (.long y :: .long x :: st) H v H' := by
  obtain ⟨hd, rfl⟩ := hd
  exact Runs.pure (fun _ _ _ _ _ _ _ _ _ _ _ _ _ X hx hZ hc hown t h => XT.lcmp X.here hx rfl (hb hc hd) rfl h) kk
theorem r_ineg {x : Int32} (hd : decode mi.2.1 pc = .ok (.ineg, 1) ∧ pc + 1 = np) (kk : Runs K l Z n0 mi np ls (.int (-x) :: st) H v H') : Runs K l Z n0 mi pc ls (.int x :: st) H v H' := by
  obtain ⟨hd, rfl⟩ := hd
  exact Runs.pure (fun _ _ _ _ _ _ _ _ _ _ _ _ _ X hx hZ hc hown t h => XS.ineg X.here hx rfl (hb hc hd) rfl h) kk
theorem r_lneg {x : Int64} (hd : decode mi.2.1 pc = .ok (.lneg, 1) ∧ pc + 1 = np) (kk : Runs K l Z n0 mi np ls (.long (-x) :: st) H v H') : Runs K l Z n0 mi pc ls (.long x :: st) H v H' := by
  obtain ⟨hd, rfl⟩ := hd
  exact Runs.pure (fun _ _ _ _ _ _ _ _ _ _ _ _ _ X hx hZ hc hown t h => XT.lneg X.here hx rfl (hb hc hd) rfl h) kk
theorem r_i2l {x : Int32} (hd : decode mi.2.1 pc = .ok (.i2l, 1) ∧ pc + 1 = np) (kk : Runs K l Z n0 mi np ls (.long x.toInt64 :: st) H v H') : Runs K l Z n0 mi pc ls (.int x :: st) H v H' := by
  obtain ⟨hd, rfl⟩ := hd
  exact Runs.pure (fun _ _ _ _ _ _ _ _ _ _ _ _ _ X hx hZ hc hown t h => XT.i2l X.here hx rfl (hb hc hd) rfl h) kk
theorem r_l2i {x : Int64} (hd : decode mi.2.1 pc = .ok (.l2i, 1) ∧ pc + 1 = np) (kk : Runs K l Z n0 mi np ls (.int x.toInt32 :: st) H v H') : Runs K l Z n0 mi pc ls (.long x :: st) H v H' := by
  obtain ⟨hd, rfl⟩ := hd
  exact Runs.pure (fun _ _ _ _ _ _ _ _ _ _ _ _ _ X hx hZ hc hown t h => XT.l2i X.here hx rfl (hb hc hd) rfl h) kk
theorem r_i2b {x : Int32} (hd : decode mi.2.1 pc = .ok (.i2b, 1) ∧ pc + 1 = np) (kk : Runs K l Z n0 mi np ls (.int x.toInt8.toInt32 :: st) H v H') : Runs K l Z n0 mi pc ls (.int x :: st) H v H' := by
  obtain ⟨hd, rfl⟩ := hd
  exact Runs.pure (fun _ _ _ _ _ _ _ _ _ _ _ _ _ X hx hZ hc hown t h => XT.i2b X.here hx rfl (hb hc hd) rfl h) kk
theorem r_i2s {x : Int32} (hd : decode mi.2.1 pc = .ok (.i2s, 1) ∧ pc + 1 = np) (kk : Runs K l Z n0 mi np ls (.int x.toInt16.toInt32 :: st) H v H') : Runs K l Z n0 mi pc ls (.int x :: st) H v H' := by
  obtain ⟨hd, rfl⟩ := hd
  exact Runs.pure (fun _ _ _ _ _ _ _ _ _ _ _ _ _ X hx hZ hc hown t h => XT.i2s X.here hx rfl (hb hc hd) rfl h) kk
theorem r_i2c {x : Int32} (hd : decode mi.2.1 pc = .ok (.i2c, 1) ∧ pc + 1 = np) (kk : Runs K l Z n0 mi np ls (.int x.toUInt32.toUInt16.toUInt32.toInt32 :: st) H v H') : Runs K l Z n0 mi pc ls (.int x :: st) H v H' := by
  obtain ⟨hd, rfl⟩ := hd
  exact Runs.pure (fun _ _ _ _ _ _ _ _ _ _ _ _ _ X hx hZ hc hown t h => XT.i2c X.here hx rfl (hb hc hd) rfl h) kk
theorem r_dup {x : Value} (hd : decode mi.2.1 pc = .ok (.dup, 1) ∧ pc + 1 = np) (hx1 : x.category = 1) (kk : Runs K l Z n0 mi np ls (x :: x :: st) H v H') : Runs K l Z n0 mi pc ls (x :: st) H v H' := by
  obtain ⟨hd, rfl⟩ := hd
  exact Runs.pure (fun _ _ _ _ _ _ _ _ _ _ _ _ _ X hx hZ hc hown t h => XS.dup X.here hx rfl (hb hc hd) rfl ((cat_sh _ _).trans hx1) h) kk
theorem r_pop {x : Value} (hd : decode mi.2.1 pc = .ok (.pop, 1) ∧ pc + 1 = np) (hx1 : x.category = 1) (kk : Runs K l Z n0 mi np ls st H v H') : Runs K l Z n0 mi pc ls (x :: st) H v H' := by
  obtain ⟨hd, rfl⟩ := hd
  exact Runs.pure (fun _ _ _ _ _ _ _ _ _ _ _ _ _ X hx hZ hc hown t h => XT.pop X.here hx rfl (hb hc hd) rfl ((cat_sh _ _).trans hx1) h) kk
theorem r_dupX1 {x y : Value} (hd : decode mi.2.1 pc = .ok (.dup_x1, 1) ∧ pc + 1 = np) (hx1 : x.category = 1) (hy1 : y.category = 1) (kk : Runs K l Z n0 mi np ls (x :: y :: x :: st) H v H') : Runs K l Z n0 mi pc ls (x :: y :: st) H v H' := by
  obtain ⟨hd, rfl⟩ := hd
  exact Runs.pure (fun _ _ _ _ _ _ _ _ _ _ _ _ _ X hx hZ hc hown t h => XT.dupX1 X.here hx rfl (hb hc hd) rfl ((cat_sh _ _).trans hx1) ((cat_sh _ _).trans hy1) h) kk
theorem r_dup2 {x y : Value} (hd : decode mi.2.1 pc = .ok (.dup2, 1) ∧ pc + 1 = np) (hx1 : x.category = 1) (hy1 : y.category = 1) (kk : Runs K l Z n0 mi np ls (x :: y :: x :: y :: st) H v H') : Runs K l Z n0 mi pc ls (x :: y :: st) H v H' := by
  obtain ⟨hd, rfl⟩ := hd
  exact Runs.pure (fun _ _ _ _ _ _ _ _ _ _ _ _ _ X hx hZ hc hown t h => XT.dup2 X.here hx rfl (hb hc hd) rfl ((cat_sh _ _).trans hx1) ((cat_sh _ _).trans hy1) h) kk
theorem r_dup2L {x : Int64} (hd : decode mi.2.1 pc = .ok (.dup2, 1) ∧ pc + 1 = np) (kk : Runs K l Z n0 mi np ls (.long x :: .long x :: st) H v H') : Runs K l Z n0 mi pc ls (.long x :: st) H v H' := by
  obtain ⟨hd, rfl⟩ := hd
  exact Runs.pure (fun _ _ _ _ _ _ _ _ _ _ _ _ _ X hx hZ hc hown t h => XT.dup2L X.here hx rfl (hb hc hd) rfl h) kk
theorem r_aconstNull  (hd : decode mi.2.1 pc = .ok (.aconst_null, 1) ∧ pc + 1 = np) (kk : Runs K l Z n0 mi np ls (.null :: st) H v H') : Runs K l Z n0 mi pc ls st H v H' := by
  obtain ⟨hd, rfl⟩ := hd
  exact Runs.pure (fun _ _ _ _ _ _ _ _ _ _ _ _ _ X hx hZ hc hown t h => XS.aconstNull X.here hx rfl (hb hc hd) h) kk
theorem r_iconst {i : Int} {x : Int32} (hd : decode mi.2.1 pc = .ok (.iconst i, 1) ∧ pc + 1 = np ∧ Int32.ofInt i = x) (kk : Runs K l Z n0 mi np ls (.int x :: st) H v H') : Runs K l Z n0 mi pc ls st H v H' := by
  obtain ⟨hd, rfl, hx0⟩ := hd
  exact Runs.pure (fun _ _ _ _ _ _ _ _ _ _ _ _ _ X hx hZ hc hown t h => XT.iconstV X.here hx rfl x (hb hc hd) hx0 h) kk
theorem r_bipush {i : Int} {x : Int32} (hd : decode mi.2.1 pc = .ok (.bipush i, 2) ∧ pc + 2 = np ∧ (Int8.ofInt i).toInt32 = x) (kk : Runs K l Z n0 mi np ls (.int x :: st) H v H') : Runs K l Z n0 mi pc ls st H v H' := by
  obtain ⟨hd, rfl, hx0⟩ := hd
  exact Runs.pure (fun _ _ _ _ _ _ _ _ _ _ _ _ _ X hx hZ hc hown t h => XT.bipushV X.here hx rfl x (hb hc hd) hx0 h) kk
theorem r_sipush {i : Int} {x : Int32} (hd : decode mi.2.1 pc = .ok (.sipush i, 3) ∧ pc + 3 = np ∧ (Int16.ofInt i).toInt32 = x) (kk : Runs K l Z n0 mi np ls (.int x :: st) H v H') : Runs K l Z n0 mi pc ls st H v H' := by
  obtain ⟨hd, rfl, hx0⟩ := hd
  exact Runs.pure (fun _ _ _ _ _ _ _ _ _ _ _ _ _ X hx hZ hc hown t h => XT.sipushV X.here hx rfl x (hb hc hd) hx0 h) kk
theorem r_lconst {i : Fin 2} {x : Int64} (hd : decode mi.2.1 pc = .ok (.lconst i, 1) ∧ pc + 1 = np ∧ Int64.ofNat i = x) (kk : Runs K l Z n0 mi np ls (.long x :: st) H v H') : Runs K l Z n0 mi pc ls st H v H' := by
  obtain ⟨hd, rfl, hx0⟩ := hd
  exact Runs.pure (fun _ _ _ _ _ _ _ _ _ _ _ _ _ X hx hZ hc hown t h => XT.lconstV X.here hx rfl x (hb hc hd) hx0 h) kk
theorem r_ldc {i : Nat} {x : Int32} (hd : decode mi.2.1 pc = .ok (.ldc i, 2) ∧ pc + 2 = np) (w : (Jvm.Cond.constant mi.1.cls i x).before a0 Z = true) (kk : Runs K l Z n0 mi np ls (.int x :: st) H v H') : Runs K l Z n0 mi pc ls st H v H' := by
  obtain ⟨hd, rfl⟩ := hd
  exact Runs.pure (fun _ _ _ _ _ _ _ _ _ _ _ _ _ X hx hZ hc hown t h => X.ldcI hx hown (mv hZ w) rfl (hb hc hd) h) kk
theorem r_ldcW {i : Nat} {x : Int32} (hd : decode mi.2.1 pc = .ok (.ldc_w i, 3) ∧ pc + 3 = np) (w : (Jvm.Cond.constant mi.1.cls i x).before a0 Z = true) (kk : Runs K l Z n0 mi np ls (.int x :: st) H v H') : Runs K l Z n0 mi pc ls st H v H' := by
  obtain ⟨hd, rfl⟩ := hd
  exact Runs.pure (fun _ _ _ _ _ _ _ _ _ _ _ _ _ X hx hZ hc hown t h => X.ldcWI hx hown (mv hZ w) rfl (hb hc hd) h) kk
theorem r_ldc2 {i : Nat} {x : Int64} (hd : decode mi.2.1 pc = .ok (.ldc2_w i, 3) ∧ pc + 3 = np) (w : (Jvm.Cond.constantLong mi.1.cls i x).before a0 Z = true) (kk : Runs K l Z n0 mi np ls (.long x :: st) H v H') : Runs K l Z n0 mi pc ls st H v H' := by
  obtain ⟨hd, rfl⟩ := hd
  exact Runs.pure (fun _ _ _ _ _ _ _ _ _ _ _ _ _ X hx hZ hc hown t h => X.ldc2J hx hown (mv hZ w) rfl (hb hc hd) h) kk
theorem r_iinc {k : Nat} {i : Int} {x y : Int32} (hd : decode mi.2.1 pc = .ok (.iinc k i, 3) ∧ pc + 3 = np ∧ Int32.ofInt i = y) (hl : ls[k]? = some (.val (.int x))) (hs : ls.set k (.val (.int (x + y))) = ls') (kk : Runs K l Z n0 mi np ls' st H v H') : Runs K l Z n0 mi pc ls st H v H' := by
  obtain ⟨hd, rfl, hx0⟩ := hd
  exact Runs.pure (fun _ _ _ _ _ _ _ _ _ _ _ _ _ X hx hZ hc hown t h => XT.iincV X.here hx rfl y (hb hc hd) hx0 (loc_at hl) (st1 (P1_int hl) rfl hs) h) kk
theorem r_goto  {o : Int} (hd : decode mi.2.1 pc = .ok (.goto o, 3) ∧ pc + 3 = np ∧ 0 ≤ (pc : Int) + o ∧ ((pc : Int) + o).toNat = tp) (kk : Runs K l Z n0 mi tp ls st H v H') : Runs K l Z n0 mi pc ls st H v H' := by
  obtain ⟨hd, hn, h1, h2⟩ := hd
  exact Runs.pure (fun _ _ _ _ _ _ _ _ _ _ _ _ _ X hx hZ hc hown t h => XS.goto X.here hx rfl rfl (hb hc hd) h1 h2 h) kk
theorem r_ifT {cd : ClassFile.Cond} {x : Int32} {o : Int} (hd : decode mi.2.1 pc = .ok (.ifCond cd o, 3) ∧ pc + 3 = np ∧ 0 ≤ (pc : Int) + o ∧ ((pc : Int) + o).toNat = tp) (hq : ifCond.holds cd x = true) (kk : Runs K l Z n0 mi tp ls st H v H') : Runs K l Z n0 mi pc ls (.int x :: st) H v H' := by
  obtain ⟨hd, hn, h1, h2⟩ := hd
  exact Runs.pure (fun _ _ _ _ _ _ _ _ _ _ _ _ _ X hx hZ hc hown t h => XS.ifYes X.here hx rfl rfl (hb hc hd) rfl hq h1 h2 h) kk
theorem r_ifF {cd : ClassFile.Cond} {x : Int32} {o : Int} (hd : decode mi.2.1 pc = .ok (.ifCond cd o, 3) ∧ pc + 3 = np ∧ 0 ≤ (pc : Int) + o ∧ ((pc : Int) + o).toNat = tp) (hq : ifCond.holds cd x = false) (kk : Runs K l Z n0 mi np ls st H v H') : Runs K l Z n0 mi pc ls (.int x :: st) H v H' := by
  obtain ⟨hd, rfl, h1, h2⟩ := hd
  exact Runs.pure (fun _ _ _ _ _ _ _ _ _ _ _ _ _ X hx hZ hc hown t h => XS.ifNo X.here hx rfl (hb hc hd) rfl hq h) kk
theorem r_icT {cd : ClassFile.Cond} {x y : Int32} {o : Int} (hd : decode mi.2.1 pc = .ok (.if_icmp cd o, 3) ∧ pc + 3 = np ∧ 0 ≤ (pc : Int) + o ∧ ((pc : Int) + o).toNat = tp) (hq : if_icmp.holds cd x y = true) (kk : Runs K l Z n0 mi tp ls st H v H') : Runs K l Z n0 mi pc ls (.int y :: .int x :: st) H v H' := by
  obtain ⟨hd, hn, h1, h2⟩ := hd
  exact Runs.pure (fun _ _ _ _ _ _ _ _ _ _ _ _ _ X hx hZ hc hown t h => XS.icmpYes X.here hx rfl rfl (hb hc hd) rfl hq h1 h2 h) kk
theorem r_icF {cd : ClassFile.Cond} {x y : Int32} {o : Int} (hd : decode mi.2.1 pc = .ok (.if_icmp cd o, 3) ∧ pc + 3 = np ∧ 0 ≤ (pc : Int) + o ∧ ((pc : Int) + o).toNat = tp) (hq : if_icmp.holds cd x y = false) (kk : Runs K l Z n0 mi np ls st H v H') : Runs K l Z n0 mi pc ls (.int y :: .int x :: st) H v H' := by
  obtain ⟨hd, rfl, h1, h2⟩ := hd
  exact Runs.pure (fun _ _ _ _ _ _ _ _ _ _ _ _ _ X hx hZ hc hown t h => XS.icmpNo X.here hx rfl (hb hc hd) rfl hq h) kk
theorem r_nullT  {o : Int} (hd : decode mi.2.1 pc = .ok (.ifnull o, 3) ∧ pc + 3 = np ∧ 0 ≤ (pc : Int) + o ∧ ((pc : Int) + o).toNat = tp) (kk : Runs K l Z n0 mi tp ls st H v H') : Runs K l Z n0 mi pc ls (.null :: st) H v H' := by
  obtain ⟨hd, hn, h1, h2⟩ := hd
  exact Runs.pure (fun _ _ _ _ _ _ _ _ _ _ _ _ _ X hx hZ hc hown t h => XS.ifnullYes X.here hx rfl rfl (hb hc hd) rfl h1 h2 h) kk
theorem r_nullF {a : Addr} {o : Int} (hd : decode mi.2.1 pc = .ok (.ifnull o, 3) ∧ pc + 3 = np ∧ 0 ≤ (pc : Int) + o ∧ ((pc : Int) + o).toNat = tp) (kk : Runs K l Z n0 mi np ls st H v H') : Runs K l Z n0 mi pc ls (.ref a :: st) H v H' := by
  obtain ⟨hd, rfl, h1, h2⟩ := hd
  exact Runs.pure (fun _ _ _ _ _ _ _ _ _ _ _ _ _ X hx hZ hc hown t h => XS.ifnullNo X.here hx rfl (hb hc hd) rfl h) kk
theorem r_nonnullT {a : Addr} {o : Int} (hd : decode mi.2.1 pc = .ok (.ifnonnull o, 3) ∧ pc + 3 = np ∧ 0 ≤ (pc : Int) + o ∧ ((pc : Int) + o).toNat = tp) (kk : Runs K l Z n0 mi tp ls st H v H') : Runs K l Z n0 mi pc ls (.ref a :: st) H v H' := by
  obtain ⟨hd, hn, h1, h2⟩ := hd
  exact Runs.pure (fun _ _ _ _ _ _ _ _ _ _ _ _ _ X hx hZ hc hown t h => XT.ifnonnullYes X.here hx rfl rfl (hb hc hd) rfl h1 h2 h) kk
theorem r_nonnullF  {o : Int} (hd : decode mi.2.1 pc = .ok (.ifnonnull o, 3) ∧ pc + 3 = np ∧ 0 ≤ (pc : Int) + o ∧ ((pc : Int) + o).toNat = tp) (kk : Runs K l Z n0 mi np ls st H v H') : Runs K l Z n0 mi pc ls (.null :: st) H v H' := by
  obtain ⟨hd, rfl, h1, h2⟩ := hd
  exact Runs.pure (fun _ _ _ _ _ _ _ _ _ _ _ _ _ X hx hZ hc hown t h => XT.ifnonnullNo X.here hx rfl (hb hc hd) rfl h) kk
/-- a step that may turn the heap -/
theorem Runs.heap {st2 : List Value} (m1 : H.length ≤ H1.length) (m2 : szs K H ≤ szs K H1) (hstep : ∀ (p : Program) (e : Env) (R : Room) (s : State) (m : MethodId) (args : Array Value) (below : List Frame) (meth : Method) (c : Code) (T : State) (locs : List Loc) (cells slots : Nat),
      Stand p l e R s m args below meth c T locs cells slots → p.tables.exec = Jvm.exec → Z.Warmed39 s.vm → c.code = mi.2.1 → c.maxLocals = mi.2.2.1 → s.vm.findClass mi.1.cls = some m.cls → meth.name = mi.1.name → Rel K Z n0 H T.heap → Fr n0 locs → mi.2.2.2.2.1 ≤ R.frames → mi.2.2.2.2.2 ≤ R.locals →
      s.heap.size + cells = n0 + H.length → cells + H1.length ≤ R.cells + H.length → slots + szs K H1 ≤ R.slots + szs K H →
      ∃ (T1 : State) (locs1 : List Loc) (cells1 slots1 : Nat), Stand p l e R s m args below meth c T1 locs1 cells1 slots1 ∧ Rel K Z n0 H1 T1.heap ∧ Fr n0 locs1 ∧ s.heap.size + cells1 = n0 + H1.length ∧ slots1 + szs K H ≤ slots + szs K H1 ∧
        ∀ target, Steps p.tables e below (T1.setTop (mkF m np (ls'.map (shS n0)).toArray (st2.map (shV n0)))) target → Steps p.tables e below (T.setTop (mkF m pc (ls.map (shS n0)).toArray (st.map (shV n0)))) target)
    (k : Runs K l Z n0 mi np ls' st2 H1 v H') : Runs K l Z n0 mi pc ls st H v H' := by
  have k1 := k.1
  have k2 := k.2.1
  refine ⟨Nat.le_trans m1 k1, Nat.le_trans m2 k2, fun p e R s m args below meth c T locs cells slots X hx hZ hc hml hret hown hnm hrel hfr hf hlo hsz hcl hsl => ?_⟩
  obtain ⟨T1, locs1, cells1, slots1, X1, rel1, fr1, hc1, hs1, st1⟩ := hstep p e R s m args below meth c T locs cells slots X hx hZ hc hml hown hnm hrel hfr hf hlo hsz (by omega) (by omega)
  obtain ⟨T', locs', cells', slots', X', rel', fr', hc', hs', stp⟩ := k.2.2 p e R s m args below meth c T1 locs1 cells1 slots1 X1 hx hZ hc hml hret hown hnm rel1 fr1 hf hlo hc1 (by omega) (by omega)
  exact ⟨T', locs', cells', slots', X', rel', fr', hc', by omega, fun fs hr => st1 _ (stp fs hr)⟩
theorem r_ret {x : Value} {t : FieldType} {i : Instr} (hd : decode mi.2.1 pc = .ok (i, 1)) (hret : mi.2.2.2.1 = some t) (hn : narrow t x = x)
    (hi : (i = .ireturn ∧ (t = .int ∨ t = .boolean ∨ t = .byte ∨ t = .char ∨ t = .short) ∧ ∃ z, x = .int z) ∨ (i = .lreturn ∧ t = .long ∧ ∃ z, x = .long z) ∨ (i = .areturn ∧ t.isReference = true ∧ x.isRef = true)) : Runs K l Z n0 mi pc ls (x :: st) H (some x) H := by
  refine ⟨Nat.le_refl _, Nat.le_refl _, fun p e R s m args below meth c T locs cells slots X hx hZ hc hml hret' hown hnm hrel hfr hf hlo hsz hcl hsl => ⟨T, locs, cells, slots, X, hrel, hfr, hsz, Nat.le_refl _, fun fs hr => ?_⟩⟩
  have hn' : narrow t (shV n0 x) = shV n0 x := by
    rcases hi with ⟨-, -, z, rfl⟩ | ⟨-, -, z, rfl⟩ | ⟨-, -, q⟩
    · exact hn
    · exact hn
    · cases x <;> first | (cases q; done) | (cases t <;> rfl)
  refine retOut X hx (hret'.trans hret) hn' ?_ (hb hc hd) hr
  rcases hi with ⟨h1, h2, z, rfl⟩ | ⟨h1, h2, z, rfl⟩ | ⟨h1, h2, q⟩
  · exact Or.inl ⟨h1, h2, z, rfl⟩
  · exact Or.inr (Or.inl ⟨h1, h2, z, rfl⟩)
  · exact Or.inr (Or.inr (Or.inr (Or.inr ⟨h1, h2, isRef_sh q⟩)))
theorem r_ireturn {z : Int32} (hd : decode mi.2.1 pc = .ok (.ireturn, 1)) (hret : mi.2.2.2.1 = some .int) : Runs K l Z n0 mi pc ls (.int z :: st) H (some (.int z)) H := r_ret hd hret rfl (Or.inl ⟨rfl, Or.inl rfl, z, rfl⟩)
theorem r_ireturnE {z z' : Int32} (hd : decode mi.2.1 pc = .ok (.ireturn, 1)) (hret : mi.2.2.2.1 = some .int) (h : z = z') : Runs K l Z n0 mi pc ls (.int z :: st) H (some (.int z')) H := h ▸ r_ireturn hd hret
theorem r_zreturn {z : Int32} (hd : decode mi.2.1 pc = .ok (.ireturn, 1)) (hret : mi.2.2.2.1 = some .boolean) (hz : z = 0 ∨ z = 1) : Runs K l Z n0 mi pc ls (.int z :: st) H (some (.int z)) H := r_ret hd hret (by rcases hz with rfl | rfl <;> rfl) (Or.inl ⟨rfl, Or.inr (Or.inl rfl), z, rfl⟩)
theorem r_lreturn {z : Int64} (hd : decode mi.2.1 pc = .ok (.lreturn, 1)) (hret : mi.2.2.2.1 = some .long) : Runs K l Z n0 mi pc ls (.long z :: st) H (some (.long z)) H := r_ret hd hret rfl (Or.inr (Or.inl ⟨rfl, rfl, z, rfl⟩))
theorem r_areturn {x : Value} {t : FieldType} (hd : decode mi.2.1 pc = .ok (.areturn, 1)) (hret : mi.2.2.2.1 = some t) (ht : t.isReference = true) (hx : x.isRef = true) : Runs K l Z n0 mi pc ls (x :: st) H (some x) H := r_ret hd hret (by cases x <;> first | (cases hx; done) | (cases t <;> rfl)) (Or.inr (Or.inr ⟨rfl, ht, hx⟩))
theorem r_return (hd : decode mi.2.1 pc = .ok (.return_, 1)) (hret : mi.2.2.2.1 = none) : Runs K l Z n0 mi pc ls [] H none H := by
  refine ⟨Nat.le_refl _, Nat.le_refl _, fun p e R s m args below meth c T locs cells slots X hx hZ hc hml hret' hown hnm hrel hfr hf hlo hsz hcl hsl => ⟨T, locs, cells, slots, X, hrel, hfr, hsz, Nat.le_refl _, fun fs hr => ?_⟩⟩
  exact X.returnOut hx (hret'.trans hret) (hb hc hd) hr
theorem r_tswIn {dflt low high o : Int} {offs : Array Int} {len : Nat} {i : Int32} (hd : decode mi.2.1 pc = .ok (.tableswitch dflt low high offs, len)) (hin : ¬ (i.toInt < low ∨ i.toInt > high)) (hoff : offs[(i.toInt - low).toNat]? = some o) (ho : 0 ≤ (pc : Int) + o) (hp : ((pc : Int) + o).toNat = tp)
    (kk : Runs K l Z n0 mi tp ls st H v H') : Runs K l Z n0 mi pc ls (.int i :: st) H v H' :=
  Runs.pure (fun _ _ _ _ _ _ _ _ _ _ _ _ _ X hx hZ hc hown t h => XS.tswIn X.here hx rfl rfl (hb hc hd) rfl hin hoff ho hp h) kk
theorem r_tswOut {dflt low high : Int} {offs : Array Int} {len : Nat} {i : Int32} (hd : decode mi.2.1 pc = .ok (.tableswitch dflt low high offs, len)) (hout : i.toInt < low ∨ i.toInt > high) (ho : 0 ≤ (pc : Int) + dflt) (hp : ((pc : Int) + dflt).toNat = tp)
    (kk : Runs K l Z n0 mi tp ls st H v H') : Runs K l Z n0 mi pc ls (.int i :: st) H v H' :=
  Runs.pure (fun _ _ _ _ _ _ _ _ _ _ _ _ _ X hx hZ hc hown t h => XS.tswOut X.here hx rfl rfl (hb hc hd) rfl hout ho hp h) kk
/-! ### the heap -/
theorem OOk.ext {h h' : Heap} {a : Addr} {o : Ob} (E : Ext h h') (q : OOk K Z n0 h a o) : OOk K Z n0 h' a o := by
  cases o with
  | inl o => obtain ⟨ci, h1, h2, h3⟩ := q; exact ⟨ci, h1, h2.ext E, fun i f v a b => (h3 i f v a b).ext E⟩
  | inr o => obtain ⟨cl, h1, h2⟩ := q; exact ⟨cl, h1.ext E, h2⟩
theorem OOk.other {h h' : Heap} {a b : Addr} {sl : Nat} {x : Value} {o : Ob} (W : Wr h h' b sl x) (ne : a ≠ b) (q : OOk K Z n0 h a o) : OOk K Z n0 h' a o := by
  cases o with
  | inl o => obtain ⟨ci, h1, h2, h3⟩ := q; exact ⟨ci, h1, h2.wr W, fun i f v a b => (h3 i f v a b).other W (Or.inl ne)⟩
  | inr o => obtain ⟨cl, h1, h2⟩ := q; exact ⟨cl, h1.other W ne, h2⟩
theorem Rel.push {h h' : Heap} {o : Ob} (r : Rel K Z n0 H h) (E : Ext h h') (hs : h'.size = h.size + 1) (ho : OOk K Z n0 h' h.size o) : Rel K Z n0 (H ++ [o]) h' := by
  refine ⟨by rw [hs, r.1, List.length_append]; rfl, fun k q hk => ?_⟩
  by_cases hl : k < H.length
  · rw [List.getElem?_append_left hl] at hk; exact (r.2 k q hk).ext E
  · rw [List.getElem?_append_right (Nat.le_of_not_lt hl)] at hk
    have e : k - H.length = 0 := by
      cases hq : k - H.length with
      | zero => rfl
      | succ j => rw [hq] at hk; simp at hk
    rw [e] at hk
    simp at hk
    subst hk
    have : k = H.length := by omega
    subst this
    rw [← r.1]; exact ho
theorem Rel.put {h h' : Heap} {o : Ob} {a sl : Nat} {x : Value} (r : Rel K Z n0 H h) (W : Wr h h' (n0 + a) sl x) (ha : a < H.length) (ho : OOk K Z n0 h' (n0 + a) o) : Rel K Z n0 (H.set a o) h' := by
  refine ⟨by rw [W.size, r.1, List.length_set], fun k q hk => ?_⟩
  by_cases e : a = k
  · subst e
    rw [List.getElem?_set_self ha] at hk
    cases hk; exact ho
  · rw [List.getElem?_set_ne e] at hk
    exact (r.2 k q hk).other W (fun z => e (Nat.add_left_cancel z).symm)
theorem map_set_same {α β : Type} (f : α → β) : ∀ (H : List α) (a : Nat) (o o' : α), H[a]? = some o' → f o = f o' → (H.set a o).map f = H.map f
  | [], _, _, _, h, _ => by simp at h
  | x :: r, 0, o, o', h, e => by simp at h; subst h; simp [e]
  | x :: r, a + 1, o, o', h, e => by simp at h; simp [map_set_same f r a o o' h e]
theorem szs_set {a : Nat} {o o' : Ob} (h : H[a]? = some o') (e : osz K o = osz K o') : szs K (H.set a o) = szs K H := by unfold szs; rw [map_set_same (osz K) H a o o' h e]
theorem szs_push {o : Ob} : szs K (H ++ [o]) = szs K H + osz K o := by simp [szs]
theorem lt_of_at {α : Type} {L : List α} {a : Nat} {o : α} (h : L[a]? = some o) : a < L.length := (List.getElem?_eq_some_iff.mp h).1
theorem nar_sh {t : FieldType} {x : Value} (h : narrow t x = x) : narrow t (shV n0 x) = shV n0 x := by cases x <;> first | exact h | (cases t <;> rfl)
theorem fits_sh {t : FieldType} {x : Value} (h : fits t x = true) : fits t (shV n0 x) = true := by cases x <;> first | exact h | (cases t <;> first | rfl | cases h)
theorem sh_dflt (ty : FieldType) : shV n0 (defaultValue ty) = defaultValue ty := by cases ty <;> rfl
theorem r_getF {a cid i idx : Nat} {vs : List Value} {ci : CI} {f : FI} {x : Value} {R0 : String} (hd : decode mi.2.1 pc = .ok (.getfield idx, 3) ∧ pc + 3 = np) (w : (Jvm.Cond.fieldLink mi.1.cls idx R0 f.2.1 f.2.2.1).before a0 Z = true) (via : Via Z R0 f.1 f.2.1 f.2.2.1) (hci : K[cid]? = some ci) (hf : ci.2.2[i]? = some f)
    (ho : H[a]? = some (.inl (cid, vs))) (hv : vs[i]? = some x) (kk : Runs K l Z n0 mi np ls (x :: st) H v H') : Runs K l Z n0 mi pc ls (.ref a :: st) H v H' := by
  obtain ⟨hd, rfl⟩ := hd
  refine Runs.heap (Nat.le_refl _) (Nat.le_refl _) (fun p e R s m args below meth c T locs cells slots X hx hZ hc hml hown hnm hrel hfr hf' hlo hsz hcl hsl => ?_) kk
  obtain ⟨ci', q1, E, F⟩ := hrel.2 a _ ho
  cases hci.symm.trans q1
  obtain ⟨T1, X1, e1, st1⟩ := getF X hx hZ hown (host := "") (Or.inl w) via rfl (F i f x hf hv) (g := mkF m pc (ls.map (shS n0)).toArray (.ref (n0 + a) :: st.map (shV n0))) rfl rfl (hb hc hd)
  exact ⟨T1, _, _, _, X1, by rw [e1]; exact hrel, hfr, hsz, Nat.le_refl _, st1⟩
theorem r_putF {a cid i idx : Nat} {vs vs' : List Value} {ci : CI} {f : FI} {x : Value} {R0 : String} (hK : KOk K Z a0) (hd : decode mi.2.1 pc = .ok (.putfield idx, 3) ∧ pc + 3 = np) (w : (Jvm.Cond.fieldLink mi.1.cls idx R0 f.2.1 f.2.2.1).before a0 Z = true) (via : Via Z R0 f.1 f.2.1 f.2.2.1) (hci : K[cid]? = some ci) (hf : ci.2.2[i]? = some f)
    (L : (Jvm.Cond.lays ci.1 f.1 f.2.1 f.2.2.1).before a0 Z = true ∨ ((Jvm.Cond.laysFinal ci.1 f.1 f.2.1 f.2.2.1).before a0 Z = true ∧ mi.1.cls = f.1 ∧ mi.1.name = "<init>"))
    (ho : H[a]? = some (.inl (cid, vs))) (hi : i < vs.length) (hn : narrow f.2.2.2 x = x) (hft : fits f.2.2.2 x = true) (hvs : vs.set i x = vs') (hH : H.set a (.inl (cid, vs')) = H1) (kk : Runs K l Z n0 mi np ls st H1 v H') : Runs K l Z n0 mi pc ls (x :: .ref a :: st) H v H' := by
  obtain ⟨hd, rfl⟩ := hd
  subst hvs hH
  have ha := lt_of_at ho
  have es : szs K (H.set a (.inl (cid, vs.set i x))) = szs K H := szs_set ho rfl
  refine Runs.heap (by rw [List.length_set]; exact Nat.le_refl _) (by rw [es]; exact Nat.le_refl _) (fun p e R s m args below meth c T locs cells slots X hx hZ hc hml hown hnm hrel hfr hf' hlo hsz hcl hsl => ?_) kk
  obtain ⟨ci', q1, E, F⟩ := hrel.2 a _ ho
  cases hci.symm.trans q1
  obtain ⟨kk1, kk2, kk3⟩ := hK cid ci hci
  have hfm : f ∈ ci.2.2 := List.mem_of_getElem? hf
  obtain ⟨T1, h1, X1, e1, W1, st1⟩ := putF X hx hZ hown (host := "") (Or.inl w) via rfl (F i f _ hf (List.getElem?_eq_getElem hi)) E (L.imp id fun q => ⟨q.1, q.2.1, hnm.trans q.2.2⟩) kk1 (kk2 f hfm).2 (nar_sh hn) (fits_sh hft)
    (g := mkF m pc (ls.map (shS n0)).toArray (shV n0 x :: .ref (n0 + a) :: st.map (shV n0))) rfl rfl (hb hc hd)
  refine ⟨T1, _, _, _, X1, ?_, Fr.snoc X1 hfr (Nat.le_add_right _ _), by rw [List.length_set]; exact hsz, by rw [es]; exact Nat.le_refl _, st1⟩
  rw [e1]
  refine hrel.put W1 ha ⟨ci, hci, E.wr W1, fun j g y hg hy => ?_⟩
  by_cases ji : i = j
  · subst ji
    cases hf.symm.trans hg
    rw [List.getElem?_set_self hi] at hy
    cases hy
    exact (F i f _ hf (List.getElem?_eq_getElem hi)).same W1
  · rw [List.getElem?_set_ne ji] at hy
    have hgm : g ∈ ci.2.2 := List.mem_of_getElem? hg
    refine (F j g y hg hy).other W1 (Or.inr (slot_ne (kk2 g hgm).1 (kk2 f hfm).1 ?_ (kk2 g hgm).2 (kk2 f hfm).2))
    obtain ⟨li, ei⟩ := List.getElem?_eq_some_iff.mp hf
    obtain ⟨lj, ej⟩ := List.getElem?_eq_some_iff.mp hg
    have pw := List.pairwise_iff_getElem.mp kk3
    rcases Nat.lt_or_gt_of_ne ji with q | q
    · have := pw i j li lj q; rw [ei, ej] at this; exact fun z => this z.symm
    · have := pw j i lj li q; rw [ei, ej] at this; exact this
theorem r_new {a cid idx : Nat} {ci : CI} {o : List Value} (hK : KOk K Z a0) (hd : decode mi.2.1 pc = .ok (.new idx, 3) ∧ pc + 3 = np) (w : (Jvm.Cond.classLink mi.1.cls idx ci.1).before a0 Z = true) (wz : (Jvm.Cond.initialized ci.1).before a0 Z = true) (hci : K[cid]? = some ci)
    (ho : ci.2.2.map (fun f => defaultValue f.2.2.2) = o) (ha : H.length = a) (hH : H ++ [.inl (cid, o)] = H1) (kk : Runs K l Z n0 mi np ls (.ref a :: st) H1 v H') : Runs K l Z n0 mi pc ls st H v H' := by
  obtain ⟨hd, rfl⟩ := hd
  subst ho ha hH
  obtain ⟨kk1, kk2, kk3⟩ := hK cid ci hci
  have es : osz K (.inl (cid, ci.2.2.map (fun f => defaultValue f.2.2.2))) = ci.2.1 := by show ((K[cid]?).map (fun ci => ci.2.1)).getD 0 = _; rw [hci]; rfl
  refine Runs.heap (by simp) (by rw [szs_push]; exact Nat.le_add_right _ _) (fun p e R s m args below meth c T locs cells slots X hx hZ hc hml hown hnm hrel hfr hf' hlo hsz hcl hsl => ?_) kk
  rw [szs_push, es] at hsl
  simp only [List.length_append, List.length_cons, List.length_nil] at hcl
  obtain ⟨T1, h1, X1, e1, E1, A1, D1, -, st1⟩ := newO X hx hZ hown w kk1 wz rfl (g := mkF m pc (ls.map (shS n0)).toArray (st.map (shV n0))) rfl (hb hc hd) (by omega) (by omega)
  have hs1 := X1.heapSize
  have hlt : T.heap.size < h1.size := A1.lt
  have hh := hrel.1
  rw [e1] at hs1
  refine ⟨T1, _, _, _, X1, ?_, hfr, by simp only [List.length_append, List.length_cons, List.length_nil]; omega, by rw [szs_push, es]; omega, fun t q => st1 t ?_⟩
  · rw [e1]
    refine hrel.push E1 (by omega) ⟨ci, hci, A1, fun i f x hf hx => ?_⟩
    have hfm : f ∈ ci.2.2 := List.mem_of_getElem? hf
    rw [List.getElem?_map, hf] at hx
    cases hx
    show Fld Z h1 T.heap.size f.1 f.2.1 f.2.2.1 (shV n0 (defaultValue f.2.2.2))
    rw [sh_dflt]
    exact D1 (kk2 f hfm).1 (kk2 f hfm).2
  · show Steps _ _ _ (T1.setTop (mkF m (pc + 3) _ (.ref T.heap.size :: _))) t
    rw [hh]; exact q
theorem toNat_of {n : Int32} (h : ¬ n < 0) : n.toNatClampNeg < 2 ^ 31 := (back32 h).2
theorem r_newA {a : Nat} {n : Int32} {aty : ArrayType} {o : List Value} (hd : decode mi.2.1 pc = .ok (.newarray aty, 2) ∧ pc + 2 = np) (w : (Jvm.Cond.arrayClass (newarray.typeOf aty)).before a0 Z = true) (hn : ¬ n < 0) (hb8 : n.toNatClampNeg * 8 ≤ 536870912)
    (ho : List.replicate n.toNatClampNeg (defaultValue (newarray.typeOf aty)) = o) (ha : H.length = a) (hH : H ++ [.inr (newarray.typeOf aty, o)] = H1) (kk : Runs K l Z n0 mi np ls (.ref a :: st) H1 v H') : Runs K l Z n0 mi pc ls (.int n :: st) H v H' := by
  obtain ⟨hd, rfl⟩ := hd
  subst ho ha hH
  have es : osz K (.inr (newarray.typeOf aty, List.replicate n.toNatClampNeg (defaultValue (newarray.typeOf aty)))) = n.toNatClampNeg := by show (List.replicate _ _).length = _; simp
  refine Runs.heap (by simp) (by rw [szs_push]; exact Nat.le_add_right _ _) (fun p e R s m args below meth c T locs cells slots X hx hZ hc hml hown hnm hrel hfr hf' hlo hsz hcl hsl => ?_) kk
  rw [szs_push, es] at hsl
  simp only [List.length_append, List.length_cons, List.length_nil] at hcl
  obtain ⟨T1, h1, cA, X1, e1, E1, A1, st1⟩ := newP X hx hZ w rfl (g := mkF m pc (ls.map (shS n0)).toArray (.int n :: st.map (shV n0))) rfl (hb hc hd) rfl hn (cap := n.toNatClampNeg) (Nat.le_refl _) hb8 (by omega) (by omega)
  have hs1 := X1.heapSize
  have hlt : T.heap.size < h1.size := A1.lt
  have hh := hrel.1
  rw [e1] at hs1
  refine ⟨T1, _, _, _, X1, ?_, hfr, by simp only [List.length_append, List.length_cons, List.length_nil]; omega, by rw [szs_push, es]; omega, fun t q => st1 t ?_⟩
  · rw [e1]
    refine hrel.push E1 (by omega) ⟨_, A1, by rw [sz_new]; simp, by simpa using toNat_of hn, fun i x hx => ?_⟩
    rw [List.getElem?_replicate] at hx
    split at hx
    · rename_i hi
      cases hx
      have q1 : (newA cA (newarray.typeOf aty) n).slots[i]? = some (defaultValue (newarray.typeOf aty)) := by simp [newA, hi]
      exact ⟨by rw [q1]; cases newarray.typeOf aty <;> rfl, by cases newarray.typeOf aty <;> rfl⟩
    · cases hx
  · show Steps _ _ _ (T1.setTop (mkF m (pc + 2) _ (.ref T.heap.size :: _))) t
    rw [hh]; exact q
theorem fits_byte (x : Int32) : fits .byte (.int x.toInt8.toInt32) = true := by
  have h1 : (x.toInt8.toInt32).toInt = x.toInt8.toInt := Int8.toInt_toInt32 _
  have h2 := x.toInt8.toInt_lt
  have h3 := x.toInt8.le_toInt
  have e1 : (-128 : Int32).toInt = -128 := by decide
  have e2 : (127 : Int32).toInt = 127 := by decide
  simp only [fits, Bool.and_eq_true, decide_eq_true_eq]
  rw [Int32.le_iff_toInt_le, Int32.le_iff_toInt_le, h1, e1, e2]
  omega
/-- the int j names the place i -/
def Ix (j : Int32) (i : Nat) : Prop := ¬ j < 0 ∧ j.toNatClampNeg = i
theorem r_len {a : Nat} {ty : FieldType} {vs : List Value} {n : Int32} (hd : decode mi.2.1 pc = .ok (.arraylength, 1) ∧ pc + 1 = np) (ho : H[a]? = some (.inr (ty, vs))) (hn : vs.length.toInt32 = n) (kk : Runs K l Z n0 mi np ls (.int n :: st) H v H') : Runs K l Z n0 mi pc ls (.ref a :: st) H v H' := by
  obtain ⟨hd, rfl⟩ := hd
  subst hn
  refine Runs.heap (Nat.le_refl _) (Nat.le_refl _) (fun p e R s m args below meth c T locs cells slots X hx hZ hc hml hown hnm hrel hfr hf' hlo hsz hcl hsl => ?_) kk
  obtain ⟨cl, A, hs, hl, hv⟩ := hrel.2 a _ ho
  refine ⟨T, _, _, _, X, hrel, hfr, hsz, Nat.le_refl _, fun t q => ?_⟩
  refine X.arraylength hx A.1 (State.isArrayOf_alike hZ.alike A.2.1) (g := mkF m pc (ls.map (shS n0)).toArray (.ref (n0 + a) :: st.map (shV n0))) rfl rfl (hb hc hd) _ ?_
  rw [hs]; exact q
theorem r_iaload {a i : Nat} {vs : List Value} {j : Int32} {x : Value} (hd : decode mi.2.1 pc = .ok (.iaload, 1) ∧ pc + 1 = np) (ho : H[a]? = some (.inr (.int, vs))) (hj : Ix j i) (hv : vs[i]? = some x) (kk : Runs K l Z n0 mi np ls (x :: st) H v H') : Runs K l Z n0 mi pc ls (.int j :: .ref a :: st) H v H' := by
  obtain ⟨hd, rfl⟩ := hd
  obtain ⟨hj0, rfl⟩ := hj
  refine Runs.heap (Nat.le_refl _) (Nat.le_refl _) (fun p e R s m args below meth c T locs cells slots X hx hZ hc hml hown hnm hrel hfr hf' hlo hsz hcl hsl => ?_) kk
  obtain ⟨cl, A, hs, hl, hvs⟩ := hrel.2 a _ ho
  have hi := lt_of_at hv
  refine ⟨T, _, _, _, X, hrel, hfr, hsz, Nat.le_refl _, fun t q => ?_⟩
  exact X.iaload hx (j := j) (v := shV n0 x) A.1 (State.isArrayOf_alike hZ.alike A.2.1) A.2.2 (fun z => z.elim hj0 (fun q => by rw [hs] at q; omega)) (hvs _ _ hv).1 (g := mkF m pc (ls.map (shS n0)).toArray (.int j :: .ref (n0 + a) :: st.map (shV n0))) rfl rfl (hb hc hd) _ q
theorem r_laload {a i : Nat} {vs : List Value} {j : Int32} {x : Value} (hd : decode mi.2.1 pc = .ok (.laload, 1) ∧ pc + 1 = np) (ho : H[a]? = some (.inr (.long, vs))) (hj : Ix j i) (hv : vs[i]? = some x) (kk : Runs K l Z n0 mi np ls (x :: st) H v H') : Runs K l Z n0 mi pc ls (.int j :: .ref a :: st) H v H' := by
  obtain ⟨hd, rfl⟩ := hd
  obtain ⟨hj0, rfl⟩ := hj
  refine Runs.heap (Nat.le_refl _) (Nat.le_refl _) (fun p e R s m args below meth c T locs cells slots X hx hZ hc hml hown hnm hrel hfr hf' hlo hsz hcl hsl => ?_) kk
  obtain ⟨cl, A, hs, hl, hvs⟩ := hrel.2 a _ ho
  have hi := lt_of_at hv
  refine ⟨T, _, _, _, X, hrel, hfr, hsz, Nat.le_refl _, fun t q => ?_⟩
  exact X.laload hx (j := j) (v := shV n0 x) A.1 (State.isArrayOf_alike hZ.alike A.2.1) A.2.2 (fun z => z.elim hj0 (fun q => by rw [hs] at q; omega)) (hvs _ _ hv).1 (g := mkF m pc (ls.map (shS n0)).toArray (.int j :: .ref (n0 + a) :: st.map (shV n0))) rfl rfl (hb hc hd) _ q
theorem r_baload {a i : Nat} {vs : List Value} {j : Int32} {x : Value} (hd : decode mi.2.1 pc = .ok (.baload, 1) ∧ pc + 1 = np) (ho : H[a]? = some (.inr (.byte, vs))) (hj : Ix j i) (hv : vs[i]? = some x) (kk : Runs K l Z n0 mi np ls (x :: st) H v H') : Runs K l Z n0 mi pc ls (.int j :: .ref a :: st) H v H' := by
  obtain ⟨hd, rfl⟩ := hd
  obtain ⟨hj0, rfl⟩ := hj
  refine Runs.heap (Nat.le_refl _) (Nat.le_refl _) (fun p e R s m args below meth c T locs cells slots X hx hZ hc hml hown hnm hrel hfr hf' hlo hsz hcl hsl => ?_) kk
  obtain ⟨cl, A, hs, hl, hvs⟩ := hrel.2 a _ ho
  have hi := lt_of_at hv
  refine ⟨T, _, _, _, X, hrel, hfr, hsz, Nat.le_refl _, fun t q => ?_⟩
  exact X.baloadBytes hx (j := j) (v := shV n0 x) A.1 (State.isArrayOf_alike hZ.alike A.2.1) A.2.2 (fun z => z.elim hj0 (fun q => by rw [hs] at q; omega)) (hvs _ _ hv).1 (g := mkF m pc (ls.map (shS n0)).toArray (.int j :: .ref (n0 + a) :: st.map (shV n0))) rfl rfl (hb hc hd) _ q
theorem r_caload {a i : Nat} {vs : List Value} {j : Int32} {x : Value} (hd : decode mi.2.1 pc = .ok (.caload, 1) ∧ pc + 1 = np) (ho : H[a]? = some (.inr (.char, vs))) (hj : Ix j i) (hv : vs[i]? = some x) (kk : Runs K l Z n0 mi np ls (x :: st) H v H') : Runs K l Z n0 mi pc ls (.int j :: .ref a :: st) H v H' := by
  obtain ⟨hd, rfl⟩ := hd
  obtain ⟨hj0, rfl⟩ := hj
  refine Runs.heap (Nat.le_refl _) (Nat.le_refl _) (fun p e R s m args below meth c T locs cells slots X hx hZ hc hml hown hnm hrel hfr hf' hlo hsz hcl hsl => ?_) kk
  obtain ⟨cl, A, hs, hl, hvs⟩ := hrel.2 a _ ho
  have hi := lt_of_at hv
  refine ⟨T, _, _, _, X, hrel, hfr, hsz, Nat.le_refl _, fun t q => ?_⟩
  exact X.caload hx (j := j) (v := shV n0 x) A.1 (State.isArrayOf_alike hZ.alike A.2.1) A.2.2 (fun z => z.elim hj0 (fun q => by rw [hs] at q; omega)) (hvs _ _ hv).1 (g := mkF m pc (ls.map (shS n0)).toArray (.int j :: .ref (n0 + a) :: st.map (shV n0))) rfl rfl (hb hc hd) _ q
theorem r_iastore {a i : Nat} {vs vs' : List Value} {j : Int32} {x : Int32} (hd : decode mi.2.1 pc = .ok (.iastore, 1) ∧ pc + 1 = np) (ho : H[a]? = some (.inr (.int, vs))) (hj : Ix j i) (hi : i < vs.length) (hvs : vs.set i (.int x) = vs') (hH : H.set a (.inr (.int, vs')) = H1) (kk : Runs K l Z n0 mi np ls st H1 v H') : Runs K l Z n0 mi pc ls (.int x :: .int j :: .ref a :: st) H v H' := by
  obtain ⟨hd, rfl⟩ := hd
  obtain ⟨hj0, rfl⟩ := hj
  subst hvs hH
  have ha := lt_of_at ho
  have es : szs K (H.set a (.inr (.int, vs.set j.toNatClampNeg (.int x)))) = szs K H := szs_set ho (by show (List.set _ _ _).length = _; simp [osz])
  refine Runs.heap (by rw [List.length_set]; exact Nat.le_refl _) (by rw [es]; exact Nat.le_refl _) (fun p e R s m args below meth c T locs cells slots X hx hZ hc hml hown hnm hrel hfr hf' hlo hsz hcl hsl => ?_) kk
  obtain ⟨cl, A, hs, hl, hvs⟩ := hrel.2 a _ ho
  have hin : ¬ (j < 0 ∨ cl.slots.size ≤ j.toNatClampNeg) := fun z => z.elim hj0 (fun q => by rw [hs] at q; omega)
  obtain ⟨T1, h1, X1, e1, W1, st1⟩ := stI X hx hZ rfl A hin (g := mkF m pc (ls.map (shS n0)).toArray (.int x :: .int j :: .ref (n0 + a) :: st.map (shV n0))) rfl rfl (hb hc hd)
  refine ⟨T1, _, _, _, X1, ?_, Fr.snoc X1 hfr (Nat.le_add_right _ _), by rw [List.length_set]; exact hsz, by rw [es]; exact Nat.le_refl _, st1⟩
  rw [e1]
  refine hrel.put W1 ha ⟨_, A.same W1, by rw [sz_set, hs, List.length_set], by rw [List.length_set]; exact hl, fun k y hy => ?_⟩
  by_cases e : j.toNatClampNeg = k
  · subst e
    rw [List.getElem?_set_self hi] at hy
    cases hy
    exact ⟨by simp [Cell.setSlot, hs, hi, shV, nar], rfl⟩
  · rw [List.getElem?_set_ne e] at hy
    refine ⟨?_, (hvs k y hy).2⟩
    exact (Array.getElem?_setIfInBounds_ne e).trans (hvs k y hy).1
theorem r_lastore {a i : Nat} {vs vs' : List Value} {j : Int32} {x : Int64} (hd : decode mi.2.1 pc = .ok (.lastore, 1) ∧ pc + 1 = np) (ho : H[a]? = some (.inr (.long, vs))) (hj : Ix j i) (hi : i < vs.length) (hvs : vs.set i (.long x) = vs') (hH : H.set a (.inr (.long, vs')) = H1) (kk : Runs K l Z n0 mi np ls st H1 v H') : Runs K l Z n0 mi pc ls (.long x :: .int j :: .ref a :: st) H v H' := by
  obtain ⟨hd, rfl⟩ := hd
  obtain ⟨hj0, rfl⟩ := hj
  subst hvs hH
  have ha := lt_of_at ho
  have es : szs K (H.set a (.inr (.long, vs.set j.toNatClampNeg (.long x)))) = szs K H := szs_set ho (by show (List.set _ _ _).length = _; simp [osz])
  refine Runs.heap (by rw [List.length_set]; exact Nat.le_refl _) (by rw [es]; exact Nat.le_refl _) (fun p e R s m args below meth c T locs cells slots X hx hZ hc hml hown hnm hrel hfr hf' hlo hsz hcl hsl => ?_) kk
  obtain ⟨cl, A, hs, hl, hvs⟩ := hrel.2 a _ ho
  have hin : ¬ (j < 0 ∨ cl.slots.size ≤ j.toNatClampNeg) := fun z => z.elim hj0 (fun q => by rw [hs] at q; omega)
  obtain ⟨T1, h1, X1, e1, W1, st1⟩ := stJ X hx hZ rfl A hin (g := mkF m pc (ls.map (shS n0)).toArray (.long x :: .int j :: .ref (n0 + a) :: st.map (shV n0))) rfl rfl (hb hc hd)
  refine ⟨T1, _, _, _, X1, ?_, Fr.snoc X1 hfr (Nat.le_add_right _ _), by rw [List.length_set]; exact hsz, by rw [es]; exact Nat.le_refl _, st1⟩
  rw [e1]
  refine hrel.put W1 ha ⟨_, A.same W1, by rw [sz_set, hs, List.length_set], by rw [List.length_set]; exact hl, fun k y hy => ?_⟩
  by_cases e : j.toNatClampNeg = k
  · subst e
    rw [List.getElem?_set_self hi] at hy
    cases hy
    exact ⟨by simp [Cell.setSlot, hs, hi, shV, nar], rfl⟩
  · rw [List.getElem?_set_ne e] at hy
    refine ⟨?_, (hvs k y hy).2⟩
    exact (Array.getElem?_setIfInBounds_ne e).trans (hvs k y hy).1
theorem r_bastore {a i : Nat} {vs vs' : List Value} {j : Int32} {x : Int32} (hd : decode mi.2.1 pc = .ok (.bastore, 1) ∧ pc + 1 = np) (ho : H[a]? = some (.inr (.byte, vs))) (hj : Ix j i) (hi : i < vs.length) (hvs : vs.set i (.int x.toInt8.toInt32) = vs') (hH : H.set a (.inr (.byte, vs')) = H1) (kk : Runs K l Z n0 mi np ls st H1 v H') : Runs K l Z n0 mi pc ls (.int x :: .int j :: .ref a :: st) H v H' := by
  obtain ⟨hd, rfl⟩ := hd
  obtain ⟨hj0, rfl⟩ := hj
  subst hvs hH
  have ha := lt_of_at ho
  have es : szs K (H.set a (.inr (.byte, vs.set j.toNatClampNeg (.int x.toInt8.toInt32)))) = szs K H := szs_set ho (by show (List.set _ _ _).length = _; simp [osz])
  refine Runs.heap (by rw [List.length_set]; exact Nat.le_refl _) (by rw [es]; exact Nat.le_refl _) (fun p e R s m args below meth c T locs cells slots X hx hZ hc hml hown hnm hrel hfr hf' hlo hsz hcl hsl => ?_) kk
  obtain ⟨cl, A, hs, hl, hvs⟩ := hrel.2 a _ ho
  have hin : ¬ (j < 0 ∨ cl.slots.size ≤ j.toNatClampNeg) := fun z => z.elim hj0 (fun q => by rw [hs] at q; omega)
  obtain ⟨T1, h1, X1, e1, W1, st1⟩ := stB X hx hZ rfl A hin (g := mkF m pc (ls.map (shS n0)).toArray (.int x :: .int j :: .ref (n0 + a) :: st.map (shV n0))) rfl rfl (hb hc hd)
  refine ⟨T1, _, _, _, X1, ?_, Fr.snoc X1 hfr (Nat.le_add_right _ _), by rw [List.length_set]; exact hsz, by rw [es]; exact Nat.le_refl _, st1⟩
  rw [e1]
  refine hrel.put W1 ha ⟨_, A.same W1, by rw [sz_set, hs, List.length_set], by rw [List.length_set]; exact hl, fun k y hy => ?_⟩
  by_cases e : j.toNatClampNeg = k
  · subst e
    rw [List.getElem?_set_self hi] at hy
    cases hy
    exact ⟨by simp [Cell.setSlot, hs, hi, shV, nar], fits_byte x⟩
  · rw [List.getElem?_set_ne e] at hy
    refine ⟨?_, (hvs k y hy).2⟩
    exact (Array.getElem?_setIfInBounds_ne e).trans (hvs k y hy).1
/-! ### calls -/
theorem map_toList (w : Option Value) (rest : List Value) : ((w.toList ++ rest).map (shV n0)) = (w.map (shV n0)).toList ++ rest.map (shV n0) := by cases w <;> simp
theorem r_initO {a idx : Nat} (hd : decode mi.2.1 pc = .ok (.invokespecial idx, 3) ∧ pc + 3 = np) (w1 : (Jvm.Cond.methodLink mi.1.cls idx Lib.objectInit).before a0 Z = true) (w2 : (Jvm.Cond.instanceMethod Lib.objectInit).before a0 Z = true) (w3 : (Jvm.Cond.code Lib.objectInit ⟨#[0xb1]⟩ 1 none).before a0 Z = true)
    (hls : ls.length = mi.2.2.1) (hf : 1 ≤ mi.2.2.2.2.1) (hlo : (st.map fun v => v.category).sum + 12 ≤ mi.2.2.2.2.2) (kk : Runs K l Z n0 mi np ls st H v H') : Runs K l Z n0 mi pc ls (.ref a :: st) H v H' := by
  obtain ⟨hd, rfl⟩ := hd
  refine Runs.heap (Nat.le_refl _) (Nat.le_refl _) (fun p e R s m args below meth c T locs cells slots X hx hZ hc hml hown hnm hrel hfr hf' hlo' hsz hcl hsl => ?_) kk
  obtain ⟨T1, X1, e1, st1⟩ := initO X hx hZ hown w1 w2 w3 rfl (g := mkF m pc (ls.map (shS n0)).toArray (.ref (n0 + a) :: st.map (shV n0))) rfl (by rw [hml, ← hls]; simp) rfl (hb hc hd) (by omega) (W := (st.map fun v => v.category).sum) (by rw [cats_sh]; show 2 * 0 + _ ≤ _; omega) (by omega)
  exact ⟨T1, _, _, _, X1, by rw [e1]; exact hrel, hfr, hsz, Nat.le_refl _, st1⟩
theorem backM {mj : MI} {as : List Value} {w : Option Value} {h : Heap} {p : Program} {e : Env} {R : Room} {s : State} {args : Array Value} {below : List Frame} {len W : Nat} (M : Meets K l Z n0 mj as H w H1) (hrel : Rel K Z n0 H h) (hZ : Z.Warmed39 s.vm) (w4 : (Jvm.Cond.code mj.1 mj.2.1 mj.2.2.1 mj.2.2.2.1).before a0 Z = true) (w3 : (Jvm.Cond.initialized mj.1.cls).before a0 Z = true)
    (hf : mj.2.2.2.2.1 + 1 ≤ R.frames) (hl : W + (mj.2.2.1 + 11) + mj.2.2.2.2.2 ≤ R.locals) :
    Back l R p e below s args mj.1 len W (fun A a => a = (as.map (shV n0)).toArray ∧ A.U.heap = h ∧ A.cells + (H1.length - H.length) ≤ R.cells ∧ A.slots + (szs K H1 - szs K H) ≤ R.slots)
      (fun A _ v B => ∃ L, (v = w.map (shV n0) ∧ Rel K Z n0 H1 B.U.heap ∧ Fr n0 L) ∧ B.locs = A.locs ++ L ∧ B.cells = A.cells + (H1.length - H.length) ∧ B.slots = A.slots + (szs K H1 - szs K H)) :=
  backOf (rm := rmOf K mj H H1) (Q := fun v h L => v = w.map (shV n0) ∧ Rel K Z n0 H1 h ∧ Fr n0 L) (M.2.2 h hrel) hZ w4 w3 hf hl
theorem r_static {mj : MI} {as : List Value} {w : Option Value} {idx : Nat} (hd : decode mi.2.1 pc = .ok (.invokestatic idx, 3) ∧ pc + 3 = np) (w1 : (Jvm.Cond.methodLink mi.1.cls idx mj.1).before a0 Z = true) (w2 : (Jvm.Cond.static mj.1).before a0 Z = true) (w3 : (Jvm.Cond.initialized mj.1.cls).before a0 Z = true) (w4 : (Jvm.Cond.code mj.1 mj.2.1 mj.2.2.1 mj.2.2.2.1).before a0 Z = true)
    (hy : mj.1.cls ≠ "java/lang/invoke/MethodHandle" ∧ mj.1.cls ≠ "java/lang/invoke/VarHandle") (hlen : ∀ sig, parseMethodDescriptor mj.1.desc = some sig → as.length = sig.parameters.length) (hfr : mj.2.2.2.2.1 + 1 ≤ mi.2.2.2.2.1)
    (hst : as.reverse ++ rest = st) (hls : ls.length = mi.2.2.1) (hlo : (rest.map fun v => v.category).sum + (mj.2.2.1 + 11) + mj.2.2.2.2.2 ≤ mi.2.2.2.2.2)
    (M : Meets K l Z n0 mj as H w H1) (kk : Runs K l Z n0 mi np ls (w.toList ++ rest) H1 v H') : Runs K l Z n0 mi pc ls st H v H' := by
  obtain ⟨hd, rfl⟩ := hd
  subst hst
  have m1 := M.1
  have m2 := M.2.1
  refine Runs.heap m1 m2 (fun p e R s m args below meth c T locs cells slots X hx hZ hc hml hown hnm hrel hfr' hf' hlo' hsz hcl hsl => ?_) kk
  obtain ⟨_, _, ⟨T1, L1, k1, n1⟩, -, X1, ⟨Lc, hQ, l1, y1, z1⟩, st1⟩ := Jvm.LawKit.callS X hx (y := mj.1) hown (mvT hZ w1) (mvT hZ w2) (mvT hZ w3) (mvT hZ w4) hy
    (backM (W := (rest.map fun v => v.category).sum) M hrel hZ w4 w3 (by omega) (by omega))
    (g := mkF m pc (ls.map (shS n0)).toArray ((as.reverse ++ rest).map (shV n0))) rfl (by rw [hml, ← hls]; simp) (argsL := as.map (shV n0)) (rest := rest.map (shV n0)) (fun sig q => by rw [List.length_map]; exact hlen sig q) (by simp) (by rw [cats_sh]; show 2 * 0 + _ ≤ _; omega) (hb hc hd)
    (fun _ _ => ⟨rfl, rfl, (by show cells + (H1.length - H.length) ≤ _; omega), (by show slots + (szs K H1 - szs K H) ≤ _; omega)⟩)
  dsimp only [Pt.U, Pt.locs, Pt.cells, Pt.slots] at X1 l1 y1 z1 st1 hQ
  subst l1 y1 z1
  obtain ⟨rfl, R1, F1⟩ := hQ
  refine ⟨T1, _, _, _, X1, R1, Fr.app hfr' F1, by show s.heap.size + (cells + (H1.length - H.length)) = _; omega, by show slots + (szs K H1 - szs K H) + _ ≤ _; omega, fun t q => st1 t ?_⟩
  rw [map_toList] at q; exact q
theorem r_special {mj : MI} {as : List Value} {a idx : Nat} (hd : decode mi.2.1 pc = .ok (.invokespecial idx, 3) ∧ pc + 3 = np) (hy1 : mj.1.name = "<init>") (hr : mj.2.2.2.1 = none) (w1 : (Jvm.Cond.methodLink mi.1.cls idx mj.1).before a0 Z = true) (w2 : (Jvm.Cond.instanceMethod mj.1).before a0 Z = true) (w3 : (Jvm.Cond.initialized mj.1.cls).before a0 Z = true) (w4 : (Jvm.Cond.code mj.1 mj.2.1 mj.2.2.1 mj.2.2.2.1).before a0 Z = true)
    (hy : mj.1.cls ≠ "java/lang/invoke/MethodHandle" ∧ mj.1.cls ≠ "java/lang/invoke/VarHandle") (hlen : ∀ sig, parseMethodDescriptor mj.1.desc = some sig → as.length = sig.parameters.length) (hfr : mj.2.2.2.2.1 + 1 ≤ mi.2.2.2.2.1)
    (hst : as.reverse ++ .ref a :: rest = st) (hls : ls.length = mi.2.2.1) (hlo : (rest.map fun v => v.category).sum + (mj.2.2.1 + 11) + mj.2.2.2.2.2 ≤ mi.2.2.2.2.2)
    (M : Meets K l Z n0 mj (.ref a :: as) H none H1) (kk : Runs K l Z n0 mi np ls rest H1 v H') : Runs K l Z n0 mi pc ls st H v H' := by
  obtain ⟨hd, rfl⟩ := hd
  subst hst
  have m1 := M.1
  have m2 := M.2.1
  refine Runs.heap m1 m2 (fun p e R s m args below meth c T locs cells slots X hx hZ hc hml hown hnm hrel hfr' hf' hlo' hsz hcl hsl => ?_) kk
  have w4' := w4
  rw [hr] at w4'
  obtain ⟨_, _, ⟨T1, L1, k1, n1⟩, -, X1, ⟨Lc, hQ, l1, y1, z1⟩, st1⟩ := X.specialBack hx (y := mj.1) hy1 hown (mvT hZ w1) (mvT hZ w2) (mvT hZ w4') hy
    (backM (W := (rest.map fun v => v.category).sum) M hrel hZ w4 w3 (by omega) (by omega))
    (g := mkF m pc (ls.map (shS n0)).toArray ((as.reverse ++ .ref a :: rest).map (shV n0))) rfl (by rw [hml, ← hls]; simp) (Steps.refl _) (a := n0 + a) (argsL := as.map (shV n0)) (rest := rest.map (shV n0)) (fun sig q => by rw [List.length_map]; exact hlen sig q) (by simp [shV]) (by rw [cats_sh]; show 2 * 0 + _ ≤ _; omega) (hb hc hd)
    (fun _ _ => ⟨rfl, rfl, (by show cells + (H1.length - H.length) ≤ _; omega), (by show slots + (szs K H1 - szs K H) ≤ _; omega)⟩)
  dsimp only [Pt.U, Pt.locs, Pt.cells, Pt.slots] at X1 l1 y1 z1 st1 hQ
  subst l1 y1 z1
  obtain ⟨rfl, R1, F1⟩ := hQ
  exact ⟨T1, _, _, _, X1, R1, Fr.app hfr' F1, by show s.heap.size + (cells + (H1.length - H.length)) = _; omega, by show slots + (szs K H1 - szs K H) + _ ≤ _; omega, fun t q => st1.trans q⟩
theorem r_virtual {mj : MI} {as : List Value} {w : Option Value} {a cid idx : Nat} {ci : CI} {vs : List Value} (hd : decode mi.2.1 pc = .ok (.invokevirtual idx, 3) ∧ pc + 3 = np) (w1 : (Jvm.Cond.methodLink mi.1.cls idx mj.1).before a0 Z = true) (w2 : (Jvm.Cond.declares mj.1).before a0 Z = true) (w5 : (Jvm.Cond.selects ci.1 mj.1 mj.1).before a0 Z = true) (w6 : (Jvm.Cond.instanceMethod mj.1).before a0 Z = true) (w3 : (Jvm.Cond.initialized mj.1.cls).before a0 Z = true) (w4 : (Jvm.Cond.code mj.1 mj.2.1 mj.2.2.1 mj.2.2.2.1).before a0 Z = true)
    (hy : mj.1.cls ≠ "java/lang/invoke/MethodHandle" ∧ mj.1.cls ≠ "java/lang/invoke/VarHandle") (hlen : ∀ sig, parseMethodDescriptor mj.1.desc = some sig → as.length = sig.parameters.length) (hfr : mj.2.2.2.2.1 + 1 ≤ mi.2.2.2.2.1) (hci : K[cid]? = some ci)
    (hst : as.reverse ++ .ref a :: rest = st) (ho : H[a]? = some (.inl (cid, vs))) (hls : ls.length = mi.2.2.1) (hlo : (rest.map fun v => v.category).sum + (mj.2.2.1 + 11) + mj.2.2.2.2.2 ≤ mi.2.2.2.2.2)
    (M : Meets K l Z n0 mj (.ref a :: as) H w H1) (kk : Runs K l Z n0 mi np ls (w.toList ++ rest) H1 v H') : Runs K l Z n0 mi pc ls st H v H' := by
  obtain ⟨hd, rfl⟩ := hd
  subst hst
  have m1 := M.1
  have m2 := M.2.1
  refine Runs.heap m1 m2 (fun p e R s m args below meth c T locs cells slots X hx hZ hc hml hown hnm hrel hfr' hf' hlo' hsz hcl hsl => ?_) kk
  obtain ⟨ci', q1, E, F⟩ := hrel.2 a _ ho
  cases hci.symm.trans q1
  obtain ⟨cq, kq, qa, qb, qc⟩ := isOf hZ rfl E
  obtain ⟨_, _, ⟨T1, L1, k1, n1⟩, -, X1, ⟨Lc, hQ, l1, y1, z1⟩, st1⟩ := X.virtualBack hx (y := mj.1) (z := mj.1) hown (mvT hZ w1) (mvT hZ w2) (notFace_of_selects (args := #[]) (mvT hZ w5)) (mvT hZ w5) (mvT hZ w6) hy
    (backM (W := (rest.map fun v => v.category).sum) M hrel hZ w4 w3 (by omega) (by omega)) qa qc
    (g := mkF m pc (ls.map (shS n0)).toArray ((as.reverse ++ .ref a :: rest).map (shV n0))) rfl (by rw [hml, ← hls]; simp) (Steps.refl _) (argsL := as.map (shV n0)) (rest := rest.map (shV n0)) (fun sig q => by rw [List.length_map]; exact hlen sig q) (by simp [shV]) (by rw [cats_sh]; show 2 * 0 + _ ≤ _; omega) (hb hc hd)
    (fun _ _ => ⟨rfl, rfl, (by show cells + (H1.length - H.length) ≤ _; omega), (by show slots + (szs K H1 - szs K H) ≤ _; omega)⟩)
  dsimp only [Pt.U, Pt.locs, Pt.cells, Pt.slots] at X1 l1 y1 z1 st1 hQ
  subst l1 y1 z1
  obtain ⟨rfl, R1, F1⟩ := hQ
  refine ⟨T1, _, _, _, X1, R1, Fr.app hfr' F1, by show s.heap.size + (cells + (H1.length - H.length)) = _; omega, by show slots + (szs K H1 - szs K H) + _ ≤ _; omega, fun t q => st1.trans ?_⟩
  rw [map_toList] at q; exact q
theorem r_private {mj : MI} {as : List Value} {w : Option Value} {a cid idx : Nat} {ci : CI} {vs : List Value} (hd : decode mi.2.1 pc = .ok (.invokevirtual idx, 3) ∧ pc + 3 = np) (w1 : (Jvm.Cond.methodLink mi.1.cls idx mj.1).before a0 Z = true) (w5 : (Jvm.Cond.selects mj.1.cls mj.1 mj.1).before a0 Z = true) (w7 : (Jvm.Cond.privateMethod mj.1).before a0 Z = true) (w6 : (Jvm.Cond.instanceMethod mj.1).before a0 Z = true) (w3 : (Jvm.Cond.initialized mj.1.cls).before a0 Z = true) (w4 : (Jvm.Cond.code mj.1 mj.2.1 mj.2.2.1 mj.2.2.2.1).before a0 Z = true)
    (hy : mj.1.cls ≠ "java/lang/invoke/MethodHandle" ∧ mj.1.cls ≠ "java/lang/invoke/VarHandle") (hlen : ∀ sig, parseMethodDescriptor mj.1.desc = some sig → as.length = sig.parameters.length) (hfr : mj.2.2.2.2.1 + 1 ≤ mi.2.2.2.2.1) (hci : K[cid]? = some ci)
    (hst : as.reverse ++ .ref a :: rest = st) (ho : H[a]? = some (.inl (cid, vs))) (hls : ls.length = mi.2.2.1) (hlo : (rest.map fun v => v.category).sum + (mj.2.2.1 + 11) + mj.2.2.2.2.2 ≤ mi.2.2.2.2.2)
    (M : Meets K l Z n0 mj (.ref a :: as) H w H1) (kk : Runs K l Z n0 mi np ls (w.toList ++ rest) H1 v H') : Runs K l Z n0 mi pc ls st H v H' := by
  obtain ⟨hd, rfl⟩ := hd
  subst hst
  have m1 := M.1
  have m2 := M.2.1
  refine Runs.heap m1 m2 (fun p e R s m args below meth c T locs cells slots X hx hZ hc hml hown hnm hrel hfr' hf' hlo' hsz hcl hsl => ?_) kk
  obtain ⟨ci', q1, E, F⟩ := hrel.2 a _ ho
  cases hci.symm.trans q1
  obtain ⟨cq, qa, qc⟩ := E.cell
  obtain ⟨_, _, ⟨T1, L1, k1, n1⟩, -, X1, ⟨Lc, hQ, l1, y1, z1⟩, st1⟩ := X.privateBack hx (y := mj.1) hown (mvT hZ w1) (mvT hZ w6) (mvT hZ w5) (Cond.privateMethod_at (mvP hZ w7 (args := #[]))) (mvT hZ w4) hy
    (backM (W := (rest.map fun v => v.category).sum) M hrel hZ w4 w3 (by omega) (by omega))
    (g := mkF m pc (ls.map (shS n0)).toArray ((as.reverse ++ .ref a :: rest).map (shV n0))) rfl (by rw [hml, ← hls]; simp) (Steps.refl _) (a := n0 + a) qa qc (argsL := as.map (shV n0)) (rest := rest.map (shV n0)) (fun sig q => by rw [List.length_map]; exact hlen sig q) (by simp [shV]) (by rw [cats_sh]; show 2 * 0 + _ ≤ _; omega) (hb hc hd)
    (fun _ _ => ⟨rfl, rfl, (by show cells + (H1.length - H.length) ≤ _; omega), (by show slots + (szs K H1 - szs K H) ≤ _; omega)⟩)
  dsimp only [Pt.U, Pt.locs, Pt.cells, Pt.slots] at X1 l1 y1 z1 st1 hQ
  subst l1 y1 z1
  obtain ⟨rfl, R1, F1⟩ := hQ
  refine ⟨T1, _, _, _, X1, R1, Fr.app hfr' F1, by show s.heap.size + (cells + (H1.length - H.length)) = _; omega, by show slots + (szs K H1 - szs K H) + _ ≤ _; omega, fun t q => st1.trans ?_⟩
  rw [map_toList] at q; exact q
end Logic
/-! ### arrays by a function of the place; small naturals as ints -/
def arrF (m : Nat) (f : Nat → Int32) : List Value := (List.range m).map (fun j => Value.int (f j))
def arrJ (m : Nat) (f : Nat → Int64) : List Value := (List.range m).map (fun j => Value.long (f j))
theorem arrF_len {m : Nat} {f : Nat → Int32} : (arrF m f).length = m := by simp [arrF]
theorem arrJ_len {m : Nat} {f : Nat → Int64} : (arrJ m f).length = m := by simp [arrJ]
theorem arrF_at {m i : Nat} {f : Nat → Int32} (h : i < m) : (arrF m f)[i]? = some (.int (f i)) := by simp [arrF, h]
theorem arrJ_at {m i : Nat} {f : Nat → Int64} (h : i < m) : (arrJ m f)[i]? = some (.long (f i)) := by simp [arrJ, h]
theorem arrF_set {m i : Nat} {f : Nat → Int32} {x : Int32} : (arrF m f).set i (.int x) = arrF m (fun j => if j = i then x else f j) := by
  apply List.ext_getElem?
  intro j
  by_cases hj : j < m
  · rw [arrF_at hj]
    by_cases e : i = j
    · subst e; rw [List.getElem?_set_self (by rw [arrF_len]; exact hj), if_pos rfl]
    · rw [List.getElem?_set_ne e, arrF_at hj, if_neg (fun q => e q.symm)]
  · rw [List.getElem?_eq_none (by rw [List.length_set, arrF_len]; omega), List.getElem?_eq_none (by rw [arrF_len]; omega)]
theorem arrJ_set {m i : Nat} {f : Nat → Int64} {x : Int64} : (arrJ m f).set i (.long x) = arrJ m (fun j => if j = i then x else f j) := by
  apply List.ext_getElem?
  intro j
  by_cases hj : j < m
  · rw [arrJ_at hj]
    by_cases e : i = j
    · subst e; rw [List.getElem?_set_self (by rw [arrJ_len]; exact hj), if_pos rfl]
    · rw [List.getElem?_set_ne e, arrJ_at hj, if_neg (fun q => e q.symm)]
  · rw [List.getElem?_eq_none (by rw [List.length_set, arrJ_len]; omega), List.getElem?_eq_none (by rw [arrJ_len]; omega)]
theorem arrF_congr {m : Nat} {f g : Nat → Int32} (h : ∀ j, j < m → f j = g j) : arrF m f = arrF m g := List.map_congr_left fun j hj => by rw [h j (List.mem_range.mp hj)]
theorem arrJ_congr {m : Nat} {f g : Nat → Int64} (h : ∀ j, j < m → f j = g j) : arrJ m f = arrJ m g := List.map_congr_left fun j hj => by rw [h j (List.mem_range.mp hj)]
theorem arrF_zero {m : Nat} : List.replicate m (Value.int 0) = arrF m (fun _ => 0) := by
  apply List.ext_getElem?
  intro j
  by_cases hj : j < m
  · rw [arrF_at hj, List.getElem?_replicate, if_pos hj]
  · rw [List.getElem?_eq_none (by simp; omega), List.getElem?_eq_none (by rw [arrF_len]; omega)]
theorem arrJ_zero {m : Nat} : List.replicate m (Value.long 0) = arrJ m (fun _ => 0) := by
  apply List.ext_getElem?
  intro j
  by_cases hj : j < m
  · rw [arrJ_at hj, List.getElem?_replicate, if_pos hj]
  · rw [List.getElem?_eq_none (by simp; omega), List.getElem?_eq_none (by rw [arrJ_len]; omega)]
theorem ti_int {n : Nat} (h : n < 2 ^ 31) : n.toInt32.toInt = n := len_toInt h
theorem ti_ix {n : Nat} (h : n < 2 ^ 31) : Ix n.toInt32 n := by
  have q := ti_int h
  have e0 : (0 : Int32).toInt = 0 := by decide
  refine ⟨?_, ?_⟩
  · rw [Int32.lt_iff_toInt_lt]; omega
  · simp only [Int32.toNatClampNeg]; omega
theorem ti_lt {a b : Nat} (ha : a < 2 ^ 31) (hb : b < 2 ^ 31) : a.toInt32 < b.toInt32 ↔ a < b := by
  rw [Int32.lt_iff_toInt_lt, ti_int ha, ti_int hb]; omega
theorem ti_eq {a b : Nat} (ha : a < 2 ^ 31) (hb : b < 2 ^ 31) : a.toInt32 = b.toInt32 ↔ a = b := by
  rw [← Int32.toInt_inj, ti_int ha, ti_int hb]; omega
theorem ti_add {a b : Nat} (h : a + b < 2 ^ 31) : a.toInt32 + b.toInt32 = (a + b).toInt32 := by
  apply Int32.toInt_inj.mp
  have q := c_iadd a.toInt32 b.toInt32
  have l1 := Int32.le_toInt (a.toInt32 + b.toInt32)
  have l2 := Int32.toInt_lt (a.toInt32 + b.toInt32)
  have e1 := ti_int (show a < 2 ^ 31 by omega)
  have e2 := ti_int (show b < 2 ^ 31 by omega)
  have e3 := ti_int h
  omega
theorem ti_succ {a : Nat} (h : a + 1 < 2 ^ 31) : a.toInt32 + 1 = (a + 1).toInt32 := ti_add (b := 1) h
theorem ti_of {x : Int32} (h : 0 ≤ x.toInt) : x = x.toNatClampNeg.toInt32 := by
  have b := Int32.toInt_lt x
  apply Int32.toInt_inj.mp
  rw [ti_int (by simp only [Int32.toNatClampNeg]; omega)]
  simp only [Int32.toNatClampNeg]; omega
theorem ix_of {x : Int32} (h : 0 ≤ x.toInt) : Ix x x.toNatClampNeg := by
  refine ⟨?_, rfl⟩
  have e0 : (0 : Int32).toInt = 0 := by decide
  rw [Int32.lt_iff_toInt_lt]; omega
abbrev HW (Z : State) (a0 : Array Value) : Prop := ∀ d ∈ tables_1, d.before a0 Z = true
def K : List CI := [("com/example/alike2/alike2/search/Partition", 1, [("com/example/alike2/alike2/search/Partition", "parent", "[I", (.array .int))])]
theorem allL0 {α : Type} {P : α → Prop} : ∀ x ∈ ([] : List α), P x := fun _ q => nomatch q
theorem allLS {α : Type} {P : α → Prop} {y : α} {L : List α} (q : P y) (r : ∀ x ∈ L, P x) : ∀ x ∈ y :: L, P x := fun x z => (List.mem_cons.mp z).elim (fun u => u ▸ q) (r x)
theorem kok {Z : State} {a0 : Array Value} (hw : HW Z a0) : KOk K Z a0 := by
  intro k ci h
  match k, h with
  | 0, h => cases h; exact ⟨(hw _ (List.mem_of_getElem? (i := 2) rfl)), (allLS ⟨Or.inr (hw _ (List.mem_of_getElem? (i := 11) rfl)), by decide⟩ (allL0)), by decide⟩
  | (k + 1), h => simp [K] at h
def m0 : MI := (x, code, 16, some .boolean, 2, 30)
def m1 : MI := (⟨"com/example/alike2/alike2/search/Partition", "<init>", "(I)V"⟩, prog_57_method_1_code, 3, none, 1, 12)
def m3 : MI := (⟨"com/example/alike2/alike2/search/Partition", "join", "(II)V"⟩, prog_57_method_2_code, 3, none, 1, 16)
def m4 : MI := (⟨"com/example/alike2/alike2/search/Partition", "root", "(I)I"⟩, prog_57_method_3_code, 3, some .int, 0, 0)
def m5 : MI := (⟨"com/example/alike2/alike2/search/PartitionRootPinLaw", "merge", "([III)V"⟩, method_2_code, 5, none, 0, 0)
theorem pd0 : parseMethodDescriptor "(II)Z" = some ⟨[.int, .int], some .boolean⟩ := by decide +kernel
theorem pf0 : plainFor m0.1 = true := by first | exact plainFor_of_name (by first | (simp [m0, x, plainName, overriddenIn]; done) | decide +kernel) | decide +kernel
theorem pd1 : parseMethodDescriptor "(I)V" = some ⟨[.int], none⟩ := by decide +kernel
theorem pf1 : plainFor m1.1 = true := by first | exact plainFor_of_name (by first | (simp [m1, x, plainName, overriddenIn]; done) | decide +kernel) | decide +kernel
theorem pd3 : parseMethodDescriptor "(II)V" = some ⟨[.int, .int], none⟩ := by decide +kernel
theorem pf3 : plainFor m3.1 = true := by first | exact plainFor_of_name (by first | (simp [m3, x, plainName, overriddenIn]; done) | decide +kernel) | decide +kernel
theorem pd4 : parseMethodDescriptor "(I)I" = some ⟨[.int], some .int⟩ := by decide +kernel
theorem pf4 : plainFor m4.1 = true := by first | exact plainFor_of_name (by first | (simp [m4, x, plainName, overriddenIn]; done) | decide +kernel) | decide +kernel
theorem pd5 : parseMethodDescriptor "([III)V" = some ⟨[(.array .int), .int, .int], none⟩ := by decide +kernel
theorem pf5 : plainFor m5.1 = true := by first | exact plainFor_of_name (by first | (simp [m5, x, plainName, overriddenIn]; done) | decide +kernel) | decide +kernel
theorem i0_0 : decode m0.2.1 0 = .ok (.iconst 4, 1) ∧ 0 + 1 = 1 ∧ Int32.ofInt 4 = 4 := ⟨by decide +kernel, rfl, by decide⟩
theorem i0_1 : decode m0.2.1 1 = .ok (.newarray .int, 2) ∧ 1 + 2 = 3 := ⟨by decide +kernel, rfl⟩
theorem i0_3 : decode m0.2.1 3 = .ok (.astore_n 2, 1) ∧ 3 + 1 = 4 := ⟨by decide +kernel, rfl⟩
theorem i0_4 : decode m0.2.1 4 = .ok (.aload_n 2, 1) ∧ 4 + 1 = 5 := ⟨by decide +kernel, rfl⟩
theorem i0_5 : decode m0.2.1 5 = .ok (.iconst 0, 1) ∧ 5 + 1 = 6 ∧ Int32.ofInt 0 = 0 := ⟨by decide +kernel, rfl, by decide⟩
theorem i0_6 : decode m0.2.1 6 = .ok (.iconst 0, 1) ∧ 6 + 1 = 7 ∧ Int32.ofInt 0 = 0 := ⟨by decide +kernel, rfl, by decide⟩
theorem i0_7 : decode m0.2.1 7 = .ok (.iastore, 1) ∧ 7 + 1 = 8 := ⟨by decide +kernel, rfl⟩
theorem i0_8 : decode m0.2.1 8 = .ok (.aload_n 2, 1) ∧ 8 + 1 = 9 := ⟨by decide +kernel, rfl⟩
theorem i0_9 : decode m0.2.1 9 = .ok (.iconst 1, 1) ∧ 9 + 1 = 10 ∧ Int32.ofInt 1 = 1 := ⟨by decide +kernel, rfl, by decide⟩
theorem i0_10 : decode m0.2.1 10 = .ok (.iconst 1, 1) ∧ 10 + 1 = 11 ∧ Int32.ofInt 1 = 1 := ⟨by decide +kernel, rfl, by decide⟩
theorem i0_11 : decode m0.2.1 11 = .ok (.iastore, 1) ∧ 11 + 1 = 12 := ⟨by decide +kernel, rfl⟩
theorem i0_12 : decode m0.2.1 12 = .ok (.aload_n 2, 1) ∧ 12 + 1 = 13 := ⟨by decide +kernel, rfl⟩
theorem i0_13 : decode m0.2.1 13 = .ok (.iconst 2, 1) ∧ 13 + 1 = 14 ∧ Int32.ofInt 2 = 2 := ⟨by decide +kernel, rfl, by decide⟩
theorem i0_14 : decode m0.2.1 14 = .ok (.iconst 2, 1) ∧ 14 + 1 = 15 ∧ Int32.ofInt 2 = 2 := ⟨by decide +kernel, rfl, by decide⟩
theorem i0_15 : decode m0.2.1 15 = .ok (.iastore, 1) ∧ 15 + 1 = 16 := ⟨by decide +kernel, rfl⟩
theorem i0_16 : decode m0.2.1 16 = .ok (.aload_n 2, 1) ∧ 16 + 1 = 17 := ⟨by decide +kernel, rfl⟩
theorem i0_17 : decode m0.2.1 17 = .ok (.iconst 3, 1) ∧ 17 + 1 = 18 ∧ Int32.ofInt 3 = 3 := ⟨by decide +kernel, rfl, by decide⟩
theorem i0_18 : decode m0.2.1 18 = .ok (.iconst 3, 1) ∧ 18 + 1 = 19 ∧ Int32.ofInt 3 = 3 := ⟨by decide +kernel, rfl, by decide⟩
theorem i0_19 : decode m0.2.1 19 = .ok (.iastore, 1) ∧ 19 + 1 = 20 := ⟨by decide +kernel, rfl⟩
theorem i0_20 : decode m0.2.1 20 = .ok (.iload_n 0, 1) ∧ 20 + 1 = 21 := ⟨by decide +kernel, rfl⟩
theorem i0_21 : decode m0.2.1 21 = .ok (.iconst 3, 1) ∧ 21 + 1 = 22 ∧ Int32.ofInt 3 = 3 := ⟨by decide +kernel, rfl, by decide⟩
theorem i0_22 : decode m0.2.1 22 = .ok (.iand, 1) ∧ 22 + 1 = 23 := ⟨by decide +kernel, rfl⟩
theorem i0_23 : decode m0.2.1 23 = .ok (.istore_n 3, 1) ∧ 23 + 1 = 24 := ⟨by decide +kernel, rfl⟩
theorem i0_24 : decode m0.2.1 24 = .ok (.iload_n 0, 1) ∧ 24 + 1 = 25 := ⟨by decide +kernel, rfl⟩
theorem i0_25 : decode m0.2.1 25 = .ok (.iconst 2, 1) ∧ 25 + 1 = 26 ∧ Int32.ofInt 2 = 2 := ⟨by decide +kernel, rfl, by decide⟩
theorem i0_26 : decode m0.2.1 26 = .ok (.iushr, 1) ∧ 26 + 1 = 27 := ⟨by decide +kernel, rfl⟩
theorem i0_27 : decode m0.2.1 27 = .ok (.iconst 3, 1) ∧ 27 + 1 = 28 ∧ Int32.ofInt 3 = 3 := ⟨by decide +kernel, rfl, by decide⟩
theorem i0_28 : decode m0.2.1 28 = .ok (.iand, 1) ∧ 28 + 1 = 29 := ⟨by decide +kernel, rfl⟩
theorem i0_29 : decode m0.2.1 29 = .ok (.istore 4, 2) ∧ 29 + 2 = 31 := ⟨by decide +kernel, rfl⟩
theorem i0_31 : decode m0.2.1 31 = .ok (.iload_n 0, 1) ∧ 31 + 1 = 32 := ⟨by decide +kernel, rfl⟩
theorem i0_32 : decode m0.2.1 32 = .ok (.iconst 4, 1) ∧ 32 + 1 = 33 ∧ Int32.ofInt 4 = 4 := ⟨by decide +kernel, rfl, by decide⟩
theorem i0_33 : decode m0.2.1 33 = .ok (.iushr, 1) ∧ 33 + 1 = 34 := ⟨by decide +kernel, rfl⟩
theorem i0_34 : decode m0.2.1 34 = .ok (.iconst 3, 1) ∧ 34 + 1 = 35 ∧ Int32.ofInt 3 = 3 := ⟨by decide +kernel, rfl, by decide⟩
theorem i0_35 : decode m0.2.1 35 = .ok (.iand, 1) ∧ 35 + 1 = 36 := ⟨by decide +kernel, rfl⟩
theorem i0_36 : decode m0.2.1 36 = .ok (.istore 5, 2) ∧ 36 + 2 = 38 := ⟨by decide +kernel, rfl⟩
theorem i0_38 : decode m0.2.1 38 = .ok (.iload_n 0, 1) ∧ 38 + 1 = 39 := ⟨by decide +kernel, rfl⟩
theorem i0_39 : decode m0.2.1 39 = .ok (.bipush 6, 2) ∧ 39 + 2 = 41 ∧ (Int8.ofInt 6).toInt32 = 6 := ⟨by decide +kernel, rfl, by decide⟩
theorem i0_41 : decode m0.2.1 41 = .ok (.iushr, 1) ∧ 41 + 1 = 42 := ⟨by decide +kernel, rfl⟩
theorem i0_42 : decode m0.2.1 42 = .ok (.iconst 3, 1) ∧ 42 + 1 = 43 ∧ Int32.ofInt 3 = 3 := ⟨by decide +kernel, rfl, by decide⟩
theorem i0_43 : decode m0.2.1 43 = .ok (.iand, 1) ∧ 43 + 1 = 44 := ⟨by decide +kernel, rfl⟩
theorem i0_44 : decode m0.2.1 44 = .ok (.istore 6, 2) ∧ 44 + 2 = 46 := ⟨by decide +kernel, rfl⟩
theorem i0_46 : decode m0.2.1 46 = .ok (.iload_n 0, 1) ∧ 46 + 1 = 47 := ⟨by decide +kernel, rfl⟩
theorem i0_47 : decode m0.2.1 47 = .ok (.bipush 8, 2) ∧ 47 + 2 = 49 ∧ (Int8.ofInt 8).toInt32 = 8 := ⟨by decide +kernel, rfl, by decide⟩
theorem i0_49 : decode m0.2.1 49 = .ok (.iushr, 1) ∧ 49 + 1 = 50 := ⟨by decide +kernel, rfl⟩
theorem i0_50 : decode m0.2.1 50 = .ok (.iconst 3, 1) ∧ 50 + 1 = 51 ∧ Int32.ofInt 3 = 3 := ⟨by decide +kernel, rfl, by decide⟩
theorem i0_51 : decode m0.2.1 51 = .ok (.iand, 1) ∧ 51 + 1 = 52 := ⟨by decide +kernel, rfl⟩
theorem i0_52 : decode m0.2.1 52 = .ok (.istore 7, 2) ∧ 52 + 2 = 54 := ⟨by decide +kernel, rfl⟩
theorem i0_54 : decode m0.2.1 54 = .ok (.iload_n 0, 1) ∧ 54 + 1 = 55 := ⟨by decide +kernel, rfl⟩
theorem i0_55 : decode m0.2.1 55 = .ok (.bipush 10, 2) ∧ 55 + 2 = 57 ∧ (Int8.ofInt 10).toInt32 = 10 := ⟨by decide +kernel, rfl, by decide⟩
theorem i0_57 : decode m0.2.1 57 = .ok (.iushr, 1) ∧ 57 + 1 = 58 := ⟨by decide +kernel, rfl⟩
theorem i0_58 : decode m0.2.1 58 = .ok (.iconst 3, 1) ∧ 58 + 1 = 59 ∧ Int32.ofInt 3 = 3 := ⟨by decide +kernel, rfl, by decide⟩
theorem i0_59 : decode m0.2.1 59 = .ok (.iand, 1) ∧ 59 + 1 = 60 := ⟨by decide +kernel, rfl⟩
theorem i0_60 : decode m0.2.1 60 = .ok (.istore 8, 2) ∧ 60 + 2 = 62 := ⟨by decide +kernel, rfl⟩
theorem i0_62 : decode m0.2.1 62 = .ok (.iload_n 1, 1) ∧ 62 + 1 = 63 := ⟨by decide +kernel, rfl⟩
theorem i0_63 : decode m0.2.1 63 = .ok (.iconst 3, 1) ∧ 63 + 1 = 64 ∧ Int32.ofInt 3 = 3 := ⟨by decide +kernel, rfl, by decide⟩
theorem i0_64 : decode m0.2.1 64 = .ok (.iand, 1) ∧ 64 + 1 = 65 := ⟨by decide +kernel, rfl⟩
theorem i0_65 : decode m0.2.1 65 = .ok (.istore 9, 2) ∧ 65 + 2 = 67 := ⟨by decide +kernel, rfl⟩
theorem i0_67 : decode m0.2.1 67 = .ok (.new 7, 3) ∧ 67 + 3 = 70 := ⟨by decide +kernel, rfl⟩
theorem i0_70 : decode m0.2.1 70 = .ok (.dup, 1) ∧ 70 + 1 = 71 := ⟨by decide +kernel, rfl⟩
theorem i0_71 : decode m0.2.1 71 = .ok (.iconst 4, 1) ∧ 71 + 1 = 72 ∧ Int32.ofInt 4 = 4 := ⟨by decide +kernel, rfl, by decide⟩
theorem i0_72 : decode m0.2.1 72 = .ok (.invokespecial 9, 3) ∧ 72 + 3 = 75 := ⟨by decide +kernel, rfl⟩
theorem i0_75 : decode m0.2.1 75 = .ok (.astore 10, 2) ∧ 75 + 2 = 77 := ⟨by decide +kernel, rfl⟩
theorem i0_77 : decode m0.2.1 77 = .ok (.aload 10, 2) ∧ 77 + 2 = 79 := ⟨by decide +kernel, rfl⟩
theorem i0_79 : decode m0.2.1 79 = .ok (.iload_n 3, 1) ∧ 79 + 1 = 80 := ⟨by decide +kernel, rfl⟩
theorem i0_80 : decode m0.2.1 80 = .ok (.iload 4, 2) ∧ 80 + 2 = 82 := ⟨by decide +kernel, rfl⟩
theorem i0_82 : decode m0.2.1 82 = .ok (.invokevirtual 12, 3) ∧ 82 + 3 = 85 := ⟨by decide +kernel, rfl⟩
theorem i0_85 : decode m0.2.1 85 = .ok (.aload_n 2, 1) ∧ 85 + 1 = 86 := ⟨by decide +kernel, rfl⟩
theorem i0_86 : decode m0.2.1 86 = .ok (.iload_n 3, 1) ∧ 86 + 1 = 87 := ⟨by decide +kernel, rfl⟩
theorem i0_87 : decode m0.2.1 87 = .ok (.iload 4, 2) ∧ 87 + 2 = 89 := ⟨by decide +kernel, rfl⟩
theorem i0_89 : decode m0.2.1 89 = .ok (.invokestatic 16, 3) ∧ 89 + 3 = 92 := ⟨by decide +kernel, rfl⟩
theorem i0_92 : decode m0.2.1 92 = .ok (.aload 10, 2) ∧ 92 + 2 = 94 := ⟨by decide +kernel, rfl⟩
theorem i0_94 : decode m0.2.1 94 = .ok (.iload 5, 2) ∧ 94 + 2 = 96 := ⟨by decide +kernel, rfl⟩
theorem i0_96 : decode m0.2.1 96 = .ok (.iload 6, 2) ∧ 96 + 2 = 98 := ⟨by decide +kernel, rfl⟩
theorem i0_98 : decode m0.2.1 98 = .ok (.invokevirtual 12, 3) ∧ 98 + 3 = 101 := ⟨by decide +kernel, rfl⟩
theorem i0_101 : decode m0.2.1 101 = .ok (.aload_n 2, 1) ∧ 101 + 1 = 102 := ⟨by decide +kernel, rfl⟩
theorem i0_102 : decode m0.2.1 102 = .ok (.iload 5, 2) ∧ 102 + 2 = 104 := ⟨by decide +kernel, rfl⟩
theorem i0_104 : decode m0.2.1 104 = .ok (.iload 6, 2) ∧ 104 + 2 = 106 := ⟨by decide +kernel, rfl⟩
theorem i0_106 : decode m0.2.1 106 = .ok (.invokestatic 16, 3) ∧ 106 + 3 = 109 := ⟨by decide +kernel, rfl⟩
theorem i0_109 : decode m0.2.1 109 = .ok (.aload 10, 2) ∧ 109 + 2 = 111 := ⟨by decide +kernel, rfl⟩
theorem i0_111 : decode m0.2.1 111 = .ok (.iload 7, 2) ∧ 111 + 2 = 113 := ⟨by decide +kernel, rfl⟩
theorem i0_113 : decode m0.2.1 113 = .ok (.iload 8, 2) ∧ 113 + 2 = 115 := ⟨by decide +kernel, rfl⟩
theorem i0_115 : decode m0.2.1 115 = .ok (.invokevirtual 12, 3) ∧ 115 + 3 = 118 := ⟨by decide +kernel, rfl⟩
theorem i0_118 : decode m0.2.1 118 = .ok (.aload_n 2, 1) ∧ 118 + 1 = 119 := ⟨by decide +kernel, rfl⟩
theorem i0_119 : decode m0.2.1 119 = .ok (.iload 7, 2) ∧ 119 + 2 = 121 := ⟨by decide +kernel, rfl⟩
theorem i0_121 : decode m0.2.1 121 = .ok (.iload 8, 2) ∧ 121 + 2 = 123 := ⟨by decide +kernel, rfl⟩
theorem i0_123 : decode m0.2.1 123 = .ok (.invokestatic 16, 3) ∧ 123 + 3 = 126 := ⟨by decide +kernel, rfl⟩
theorem i0_126 : decode m0.2.1 126 = .ok (.aload 10, 2) ∧ 126 + 2 = 128 := ⟨by decide +kernel, rfl⟩
theorem i0_128 : decode m0.2.1 128 = .ok (.iload 9, 2) ∧ 128 + 2 = 130 := ⟨by decide +kernel, rfl⟩
theorem i0_130 : decode m0.2.1 130 = .ok (.invokevirtual 22, 3) ∧ 130 + 3 = 133 := ⟨by decide +kernel, rfl⟩
theorem i0_133 : decode m0.2.1 133 = .ok (.aload_n 2, 1) ∧ 133 + 1 = 134 := ⟨by decide +kernel, rfl⟩
theorem i0_134 : decode m0.2.1 134 = .ok (.iload 9, 2) ∧ 134 + 2 = 136 := ⟨by decide +kernel, rfl⟩
theorem i0_136 : decode m0.2.1 136 = .ok (.iaload, 1) ∧ 136 + 1 = 137 := ⟨by decide +kernel, rfl⟩
theorem i0_137 : decode m0.2.1 137 = .ok (.if_icmp .ne 7, 3) ∧ 137 + 3 = 140 ∧ 0 ≤ ((137 : Nat) : Int) + 7 ∧ (((137 : Nat) : Int) + 7).toNat = 144 := ⟨by decide +kernel, rfl, by decide, by decide⟩
theorem i0_140 : decode m0.2.1 140 = .ok (.iconst 1, 1) ∧ 140 + 1 = 141 ∧ Int32.ofInt 1 = 1 := ⟨by decide +kernel, rfl, by decide⟩
theorem i0_141 : decode m0.2.1 141 = .ok (.goto 4, 3) ∧ 141 + 3 = 144 ∧ 0 ≤ ((141 : Nat) : Int) + 4 ∧ (((141 : Nat) : Int) + 4).toNat = 145 := ⟨by decide +kernel, rfl, by decide, by decide⟩
theorem i0_144 : decode m0.2.1 144 = .ok (.iconst 0, 1) ∧ 144 + 1 = 145 ∧ Int32.ofInt 0 = 0 := ⟨by decide +kernel, rfl, by decide⟩
theorem i0_145 : decode m0.2.1 145 = .ok (.istore 11, 2) ∧ 145 + 2 = 147 := ⟨by decide +kernel, rfl⟩
theorem i0_147 : decode m0.2.1 147 = .ok (.aload 10, 2) ∧ 147 + 2 = 149 := ⟨by decide +kernel, rfl⟩
theorem i0_149 : decode m0.2.1 149 = .ok (.iconst 0, 1) ∧ 149 + 1 = 150 ∧ Int32.ofInt 0 = 0 := ⟨by decide +kernel, rfl, by decide⟩
theorem i0_150 : decode m0.2.1 150 = .ok (.invokevirtual 22, 3) ∧ 150 + 3 = 153 := ⟨by decide +kernel, rfl⟩
theorem i0_153 : decode m0.2.1 153 = .ok (.istore 12, 2) ∧ 153 + 2 = 155 := ⟨by decide +kernel, rfl⟩
theorem i0_155 : decode m0.2.1 155 = .ok (.aload 10, 2) ∧ 155 + 2 = 157 := ⟨by decide +kernel, rfl⟩
theorem i0_157 : decode m0.2.1 157 = .ok (.iconst 1, 1) ∧ 157 + 1 = 158 ∧ Int32.ofInt 1 = 1 := ⟨by decide +kernel, rfl, by decide⟩
theorem i0_158 : decode m0.2.1 158 = .ok (.invokevirtual 22, 3) ∧ 158 + 3 = 161 := ⟨by decide +kernel, rfl⟩
theorem i0_161 : decode m0.2.1 161 = .ok (.istore 13, 2) ∧ 161 + 2 = 163 := ⟨by decide +kernel, rfl⟩
theorem i0_163 : decode m0.2.1 163 = .ok (.aload 10, 2) ∧ 163 + 2 = 165 := ⟨by decide +kernel, rfl⟩
theorem i0_165 : decode m0.2.1 165 = .ok (.iconst 2, 1) ∧ 165 + 1 = 166 ∧ Int32.ofInt 2 = 2 := ⟨by decide +kernel, rfl, by decide⟩
theorem i0_166 : decode m0.2.1 166 = .ok (.invokevirtual 22, 3) ∧ 166 + 3 = 169 := ⟨by decide +kernel, rfl⟩
theorem i0_169 : decode m0.2.1 169 = .ok (.istore 14, 2) ∧ 169 + 2 = 171 := ⟨by decide +kernel, rfl⟩
theorem i0_171 : decode m0.2.1 171 = .ok (.aload 10, 2) ∧ 171 + 2 = 173 := ⟨by decide +kernel, rfl⟩
theorem i0_173 : decode m0.2.1 173 = .ok (.iconst 3, 1) ∧ 173 + 1 = 174 ∧ Int32.ofInt 3 = 3 := ⟨by decide +kernel, rfl, by decide⟩
theorem i0_174 : decode m0.2.1 174 = .ok (.invokevirtual 22, 3) ∧ 174 + 3 = 177 := ⟨by decide +kernel, rfl⟩
theorem i0_177 : decode m0.2.1 177 = .ok (.istore 15, 2) ∧ 177 + 2 = 179 := ⟨by decide +kernel, rfl⟩
theorem i0_179 : decode m0.2.1 179 = .ok (.iload 11, 2) ∧ 179 + 2 = 181 := ⟨by decide +kernel, rfl⟩
theorem i0_181 : decode m0.2.1 181 = .ok (.ifCond .eq 39, 3) ∧ 181 + 3 = 184 ∧ 0 ≤ ((181 : Nat) : Int) + 39 ∧ (((181 : Nat) : Int) + 39).toNat = 220 := ⟨by decide +kernel, rfl, by decide, by decide⟩
theorem i0_184 : decode m0.2.1 184 = .ok (.iload 12, 2) ∧ 184 + 2 = 186 := ⟨by decide +kernel, rfl⟩
theorem i0_186 : decode m0.2.1 186 = .ok (.aload_n 2, 1) ∧ 186 + 1 = 187 := ⟨by decide +kernel, rfl⟩
theorem i0_187 : decode m0.2.1 187 = .ok (.iconst 0, 1) ∧ 187 + 1 = 188 ∧ Int32.ofInt 0 = 0 := ⟨by decide +kernel, rfl, by decide⟩
theorem i0_188 : decode m0.2.1 188 = .ok (.iaload, 1) ∧ 188 + 1 = 189 := ⟨by decide +kernel, rfl⟩
theorem i0_189 : decode m0.2.1 189 = .ok (.if_icmp .ne 31, 3) ∧ 189 + 3 = 192 ∧ 0 ≤ ((189 : Nat) : Int) + 31 ∧ (((189 : Nat) : Int) + 31).toNat = 220 := ⟨by decide +kernel, rfl, by decide, by decide⟩
theorem i0_192 : decode m0.2.1 192 = .ok (.iload 13, 2) ∧ 192 + 2 = 194 := ⟨by decide +kernel, rfl⟩
theorem i0_194 : decode m0.2.1 194 = .ok (.aload_n 2, 1) ∧ 194 + 1 = 195 := ⟨by decide +kernel, rfl⟩
theorem i0_195 : decode m0.2.1 195 = .ok (.iconst 1, 1) ∧ 195 + 1 = 196 ∧ Int32.ofInt 1 = 1 := ⟨by decide +kernel, rfl, by decide⟩
theorem i0_196 : decode m0.2.1 196 = .ok (.iaload, 1) ∧ 196 + 1 = 197 := ⟨by decide +kernel, rfl⟩
theorem i0_197 : decode m0.2.1 197 = .ok (.if_icmp .ne 23, 3) ∧ 197 + 3 = 200 ∧ 0 ≤ ((197 : Nat) : Int) + 23 ∧ (((197 : Nat) : Int) + 23).toNat = 220 := ⟨by decide +kernel, rfl, by decide, by decide⟩
theorem i0_200 : decode m0.2.1 200 = .ok (.iload 14, 2) ∧ 200 + 2 = 202 := ⟨by decide +kernel, rfl⟩
theorem i0_202 : decode m0.2.1 202 = .ok (.aload_n 2, 1) ∧ 202 + 1 = 203 := ⟨by decide +kernel, rfl⟩
theorem i0_203 : decode m0.2.1 203 = .ok (.iconst 2, 1) ∧ 203 + 1 = 204 ∧ Int32.ofInt 2 = 2 := ⟨by decide +kernel, rfl, by decide⟩
theorem i0_204 : decode m0.2.1 204 = .ok (.iaload, 1) ∧ 204 + 1 = 205 := ⟨by decide +kernel, rfl⟩
theorem i0_205 : decode m0.2.1 205 = .ok (.if_icmp .ne 15, 3) ∧ 205 + 3 = 208 ∧ 0 ≤ ((205 : Nat) : Int) + 15 ∧ (((205 : Nat) : Int) + 15).toNat = 220 := ⟨by decide +kernel, rfl, by decide, by decide⟩
theorem i0_208 : decode m0.2.1 208 = .ok (.iload 15, 2) ∧ 208 + 2 = 210 := ⟨by decide +kernel, rfl⟩
theorem i0_210 : decode m0.2.1 210 = .ok (.aload_n 2, 1) ∧ 210 + 1 = 211 := ⟨by decide +kernel, rfl⟩
theorem i0_211 : decode m0.2.1 211 = .ok (.iconst 3, 1) ∧ 211 + 1 = 212 ∧ Int32.ofInt 3 = 3 := ⟨by decide +kernel, rfl, by decide⟩
theorem i0_212 : decode m0.2.1 212 = .ok (.iaload, 1) ∧ 212 + 1 = 213 := ⟨by decide +kernel, rfl⟩
theorem i0_213 : decode m0.2.1 213 = .ok (.if_icmp .ne 7, 3) ∧ 213 + 3 = 216 ∧ 0 ≤ ((213 : Nat) : Int) + 7 ∧ (((213 : Nat) : Int) + 7).toNat = 220 := ⟨by decide +kernel, rfl, by decide, by decide⟩
theorem i0_216 : decode m0.2.1 216 = .ok (.iconst 1, 1) ∧ 216 + 1 = 217 ∧ Int32.ofInt 1 = 1 := ⟨by decide +kernel, rfl, by decide⟩
theorem i0_217 : decode m0.2.1 217 = .ok (.goto 4, 3) ∧ 217 + 3 = 220 ∧ 0 ≤ ((217 : Nat) : Int) + 4 ∧ (((217 : Nat) : Int) + 4).toNat = 221 := ⟨by decide +kernel, rfl, by decide, by decide⟩
theorem i0_220 : decode m0.2.1 220 = .ok (.iconst 0, 1) ∧ 220 + 1 = 221 ∧ Int32.ofInt 0 = 0 := ⟨by decide +kernel, rfl, by decide⟩
theorem i0_221 : decode m0.2.1 221 = .ok (.ireturn, 1) := by decide +kernel
theorem i1_0 : decode m1.2.1 0 = .ok (.aload_n 0, 1) ∧ 0 + 1 = 1 := ⟨by decide +kernel, rfl⟩
theorem i1_1 : decode m1.2.1 1 = .ok (.invokespecial 1, 3) ∧ 1 + 3 = 4 := ⟨by decide +kernel, rfl⟩
theorem i1_4 : decode m1.2.1 4 = .ok (.aload_n 0, 1) ∧ 4 + 1 = 5 := ⟨by decide +kernel, rfl⟩
theorem i1_5 : decode m1.2.1 5 = .ok (.iload_n 1, 1) ∧ 5 + 1 = 6 := ⟨by decide +kernel, rfl⟩
theorem i1_6 : decode m1.2.1 6 = .ok (.newarray .int, 2) ∧ 6 + 2 = 8 := ⟨by decide +kernel, rfl⟩
theorem i1_8 : decode m1.2.1 8 = .ok (.putfield 7, 3) ∧ 8 + 3 = 11 := ⟨by decide +kernel, rfl⟩
theorem i1_11 : decode m1.2.1 11 = .ok (.iconst 0, 1) ∧ 11 + 1 = 12 ∧ Int32.ofInt 0 = 0 := ⟨by decide +kernel, rfl, by decide⟩
theorem i1_12 : decode m1.2.1 12 = .ok (.istore_n 2, 1) ∧ 12 + 1 = 13 := ⟨by decide +kernel, rfl⟩
theorem i1_13 : decode m1.2.1 13 = .ok (.iload_n 2, 1) ∧ 13 + 1 = 14 := ⟨by decide +kernel, rfl⟩
theorem i1_14 : decode m1.2.1 14 = .ok (.iload_n 1, 1) ∧ 14 + 1 = 15 := ⟨by decide +kernel, rfl⟩
theorem i1_15 : decode m1.2.1 15 = .ok (.if_icmp .ge 16, 3) ∧ 15 + 3 = 18 ∧ 0 ≤ ((15 : Nat) : Int) + 16 ∧ (((15 : Nat) : Int) + 16).toNat = 31 := ⟨by decide +kernel, rfl, by decide, by decide⟩
theorem i1_18 : decode m1.2.1 18 = .ok (.aload_n 0, 1) ∧ 18 + 1 = 19 := ⟨by decide +kernel, rfl⟩
theorem i1_19 : decode m1.2.1 19 = .ok (.getfield 7, 3) ∧ 19 + 3 = 22 := ⟨by decide +kernel, rfl⟩
theorem i1_22 : decode m1.2.1 22 = .ok (.iload_n 2, 1) ∧ 22 + 1 = 23 := ⟨by decide +kernel, rfl⟩
theorem i1_23 : decode m1.2.1 23 = .ok (.iload_n 2, 1) ∧ 23 + 1 = 24 := ⟨by decide +kernel, rfl⟩
theorem i1_24 : decode m1.2.1 24 = .ok (.iastore, 1) ∧ 24 + 1 = 25 := ⟨by decide +kernel, rfl⟩
theorem i1_25 : decode m1.2.1 25 = .ok (.iinc 2 1, 3) ∧ 25 + 3 = 28 ∧ Int32.ofInt 1 = 1 := ⟨by decide +kernel, rfl, by decide⟩
theorem i1_28 : decode m1.2.1 28 = .ok (.goto (-15), 3) ∧ 28 + 3 = 31 ∧ 0 ≤ ((28 : Nat) : Int) + (-15) ∧ (((28 : Nat) : Int) + (-15)).toNat = 13 := ⟨by decide +kernel, rfl, by decide, by decide⟩
theorem i1_31 : decode m1.2.1 31 = .ok (.return_, 1) := by decide +kernel
theorem i3_0 : decode m3.2.1 0 = .ok (.aload_n 0, 1) ∧ 0 + 1 = 1 := ⟨by decide +kernel, rfl⟩
theorem i3_1 : decode m3.2.1 1 = .ok (.getfield 7, 3) ∧ 1 + 3 = 4 := ⟨by decide +kernel, rfl⟩
theorem i3_4 : decode m3.2.1 4 = .ok (.aload_n 0, 1) ∧ 4 + 1 = 5 := ⟨by decide +kernel, rfl⟩
theorem i3_5 : decode m3.2.1 5 = .ok (.iload_n 1, 1) ∧ 5 + 1 = 6 := ⟨by decide +kernel, rfl⟩
theorem i3_6 : decode m3.2.1 6 = .ok (.invokevirtual 13, 3) ∧ 6 + 3 = 9 := ⟨by decide +kernel, rfl⟩
theorem i3_9 : decode m3.2.1 9 = .ok (.aload_n 0, 1) ∧ 9 + 1 = 10 := ⟨by decide +kernel, rfl⟩
theorem i3_10 : decode m3.2.1 10 = .ok (.iload_n 2, 1) ∧ 10 + 1 = 11 := ⟨by decide +kernel, rfl⟩
theorem i3_11 : decode m3.2.1 11 = .ok (.invokevirtual 13, 3) ∧ 11 + 3 = 14 := ⟨by decide +kernel, rfl⟩
theorem i3_14 : decode m3.2.1 14 = .ok (.iastore, 1) ∧ 14 + 1 = 15 := ⟨by decide +kernel, rfl⟩
theorem i3_15 : decode m3.2.1 15 = .ok (.return_, 1) := by decide +kernel
theorem i4_0 : decode m4.2.1 0 = .ok (.iload_n 1, 1) ∧ 0 + 1 = 1 := ⟨by decide +kernel, rfl⟩
theorem i4_1 : decode m4.2.1 1 = .ok (.istore_n 2, 1) ∧ 1 + 1 = 2 := ⟨by decide +kernel, rfl⟩
theorem i4_2 : decode m4.2.1 2 = .ok (.aload_n 0, 1) ∧ 2 + 1 = 3 := ⟨by decide +kernel, rfl⟩
theorem i4_3 : decode m4.2.1 3 = .ok (.getfield 7, 3) ∧ 3 + 3 = 6 := ⟨by decide +kernel, rfl⟩
theorem i4_6 : decode m4.2.1 6 = .ok (.iload_n 2, 1) ∧ 6 + 1 = 7 := ⟨by decide +kernel, rfl⟩
theorem i4_7 : decode m4.2.1 7 = .ok (.iaload, 1) ∧ 7 + 1 = 8 := ⟨by decide +kernel, rfl⟩
theorem i4_8 : decode m4.2.1 8 = .ok (.iload_n 2, 1) ∧ 8 + 1 = 9 := ⟨by decide +kernel, rfl⟩
theorem i4_9 : decode m4.2.1 9 = .ok (.if_icmp .eq 30, 3) ∧ 9 + 3 = 12 ∧ 0 ≤ ((9 : Nat) : Int) + 30 ∧ (((9 : Nat) : Int) + 30).toNat = 39 := ⟨by decide +kernel, rfl, by decide, by decide⟩
theorem i4_12 : decode m4.2.1 12 = .ok (.aload_n 0, 1) ∧ 12 + 1 = 13 := ⟨by decide +kernel, rfl⟩
theorem i4_13 : decode m4.2.1 13 = .ok (.getfield 7, 3) ∧ 13 + 3 = 16 := ⟨by decide +kernel, rfl⟩
theorem i4_16 : decode m4.2.1 16 = .ok (.iload_n 2, 1) ∧ 16 + 1 = 17 := ⟨by decide +kernel, rfl⟩
theorem i4_17 : decode m4.2.1 17 = .ok (.aload_n 0, 1) ∧ 17 + 1 = 18 := ⟨by decide +kernel, rfl⟩
theorem i4_18 : decode m4.2.1 18 = .ok (.getfield 7, 3) ∧ 18 + 3 = 21 := ⟨by decide +kernel, rfl⟩
theorem i4_21 : decode m4.2.1 21 = .ok (.aload_n 0, 1) ∧ 21 + 1 = 22 := ⟨by decide +kernel, rfl⟩
theorem i4_22 : decode m4.2.1 22 = .ok (.getfield 7, 3) ∧ 22 + 3 = 25 := ⟨by decide +kernel, rfl⟩
theorem i4_25 : decode m4.2.1 25 = .ok (.iload_n 2, 1) ∧ 25 + 1 = 26 := ⟨by decide +kernel, rfl⟩
theorem i4_26 : decode m4.2.1 26 = .ok (.iaload, 1) ∧ 26 + 1 = 27 := ⟨by decide +kernel, rfl⟩
theorem i4_27 : decode m4.2.1 27 = .ok (.iaload, 1) ∧ 27 + 1 = 28 := ⟨by decide +kernel, rfl⟩
theorem i4_28 : decode m4.2.1 28 = .ok (.iastore, 1) ∧ 28 + 1 = 29 := ⟨by decide +kernel, rfl⟩
theorem i4_29 : decode m4.2.1 29 = .ok (.aload_n 0, 1) ∧ 29 + 1 = 30 := ⟨by decide +kernel, rfl⟩
theorem i4_30 : decode m4.2.1 30 = .ok (.getfield 7, 3) ∧ 30 + 3 = 33 := ⟨by decide +kernel, rfl⟩
theorem i4_33 : decode m4.2.1 33 = .ok (.iload_n 2, 1) ∧ 33 + 1 = 34 := ⟨by decide +kernel, rfl⟩
theorem i4_34 : decode m4.2.1 34 = .ok (.iaload, 1) ∧ 34 + 1 = 35 := ⟨by decide +kernel, rfl⟩
theorem i4_35 : decode m4.2.1 35 = .ok (.istore_n 2, 1) ∧ 35 + 1 = 36 := ⟨by decide +kernel, rfl⟩
theorem i4_36 : decode m4.2.1 36 = .ok (.goto (-34), 3) ∧ 36 + 3 = 39 ∧ 0 ≤ ((36 : Nat) : Int) + (-34) ∧ (((36 : Nat) : Int) + (-34)).toNat = 2 := ⟨by decide +kernel, rfl, by decide, by decide⟩
theorem i4_39 : decode m4.2.1 39 = .ok (.iload_n 2, 1) ∧ 39 + 1 = 40 := ⟨by decide +kernel, rfl⟩
theorem i4_40 : decode m4.2.1 40 = .ok (.ireturn, 1) := by decide +kernel
theorem i5_0 : decode m5.2.1 0 = .ok (.aload_n 0, 1) ∧ 0 + 1 = 1 := ⟨by decide +kernel, rfl⟩
theorem i5_1 : decode m5.2.1 1 = .ok (.iload_n 1, 1) ∧ 1 + 1 = 2 := ⟨by decide +kernel, rfl⟩
theorem i5_2 : decode m5.2.1 2 = .ok (.iaload, 1) ∧ 2 + 1 = 3 := ⟨by decide +kernel, rfl⟩
theorem i5_3 : decode m5.2.1 3 = .ok (.istore_n 3, 1) ∧ 3 + 1 = 4 := ⟨by decide +kernel, rfl⟩
theorem i5_4 : decode m5.2.1 4 = .ok (.aload_n 0, 1) ∧ 4 + 1 = 5 := ⟨by decide +kernel, rfl⟩
theorem i5_5 : decode m5.2.1 5 = .ok (.iload_n 2, 1) ∧ 5 + 1 = 6 := ⟨by decide +kernel, rfl⟩
theorem i5_6 : decode m5.2.1 6 = .ok (.iaload, 1) ∧ 6 + 1 = 7 := ⟨by decide +kernel, rfl⟩
theorem i5_7 : decode m5.2.1 7 = .ok (.istore 4, 2) ∧ 7 + 2 = 9 := ⟨by decide +kernel, rfl⟩
theorem i5_9 : decode m5.2.1 9 = .ok (.aload_n 0, 1) ∧ 9 + 1 = 10 := ⟨by decide +kernel, rfl⟩
theorem i5_10 : decode m5.2.1 10 = .ok (.iconst 0, 1) ∧ 10 + 1 = 11 ∧ Int32.ofInt 0 = 0 := ⟨by decide +kernel, rfl, by decide⟩
theorem i5_11 : decode m5.2.1 11 = .ok (.iaload, 1) ∧ 11 + 1 = 12 := ⟨by decide +kernel, rfl⟩
theorem i5_12 : decode m5.2.1 12 = .ok (.iload_n 3, 1) ∧ 12 + 1 = 13 := ⟨by decide +kernel, rfl⟩
theorem i5_13 : decode m5.2.1 13 = .ok (.if_icmp .ne 8, 3) ∧ 13 + 3 = 16 ∧ 0 ≤ ((13 : Nat) : Int) + 8 ∧ (((13 : Nat) : Int) + 8).toNat = 21 := ⟨by decide +kernel, rfl, by decide, by decide⟩
theorem i5_16 : decode m5.2.1 16 = .ok (.aload_n 0, 1) ∧ 16 + 1 = 17 := ⟨by decide +kernel, rfl⟩
theorem i5_17 : decode m5.2.1 17 = .ok (.iconst 0, 1) ∧ 17 + 1 = 18 ∧ Int32.ofInt 0 = 0 := ⟨by decide +kernel, rfl, by decide⟩
theorem i5_18 : decode m5.2.1 18 = .ok (.iload 4, 2) ∧ 18 + 2 = 20 := ⟨by decide +kernel, rfl⟩
theorem i5_20 : decode m5.2.1 20 = .ok (.iastore, 1) ∧ 20 + 1 = 21 := ⟨by decide +kernel, rfl⟩
theorem i5_21 : decode m5.2.1 21 = .ok (.aload_n 0, 1) ∧ 21 + 1 = 22 := ⟨by decide +kernel, rfl⟩
theorem i5_22 : decode m5.2.1 22 = .ok (.iconst 1, 1) ∧ 22 + 1 = 23 ∧ Int32.ofInt 1 = 1 := ⟨by decide +kernel, rfl, by decide⟩
theorem i5_23 : decode m5.2.1 23 = .ok (.iaload, 1) ∧ 23 + 1 = 24 := ⟨by decide +kernel, rfl⟩
theorem i5_24 : decode m5.2.1 24 = .ok (.iload_n 3, 1) ∧ 24 + 1 = 25 := ⟨by decide +kernel, rfl⟩
theorem i5_25 : decode m5.2.1 25 = .ok (.if_icmp .ne 8, 3) ∧ 25 + 3 = 28 ∧ 0 ≤ ((25 : Nat) : Int) + 8 ∧ (((25 : Nat) : Int) + 8).toNat = 33 := ⟨by decide +kernel, rfl, by decide, by decide⟩
theorem i5_28 : decode m5.2.1 28 = .ok (.aload_n 0, 1) ∧ 28 + 1 = 29 := ⟨by decide +kernel, rfl⟩
theorem i5_29 : decode m5.2.1 29 = .ok (.iconst 1, 1) ∧ 29 + 1 = 30 ∧ Int32.ofInt 1 = 1 := ⟨by decide +kernel, rfl, by decide⟩
theorem i5_30 : decode m5.2.1 30 = .ok (.iload 4, 2) ∧ 30 + 2 = 32 := ⟨by decide +kernel, rfl⟩
theorem i5_32 : decode m5.2.1 32 = .ok (.iastore, 1) ∧ 32 + 1 = 33 := ⟨by decide +kernel, rfl⟩
theorem i5_33 : decode m5.2.1 33 = .ok (.aload_n 0, 1) ∧ 33 + 1 = 34 := ⟨by decide +kernel, rfl⟩
theorem i5_34 : decode m5.2.1 34 = .ok (.iconst 2, 1) ∧ 34 + 1 = 35 ∧ Int32.ofInt 2 = 2 := ⟨by decide +kernel, rfl, by decide⟩
theorem i5_35 : decode m5.2.1 35 = .ok (.iaload, 1) ∧ 35 + 1 = 36 := ⟨by decide +kernel, rfl⟩
theorem i5_36 : decode m5.2.1 36 = .ok (.iload_n 3, 1) ∧ 36 + 1 = 37 := ⟨by decide +kernel, rfl⟩
theorem i5_37 : decode m5.2.1 37 = .ok (.if_icmp .ne 8, 3) ∧ 37 + 3 = 40 ∧ 0 ≤ ((37 : Nat) : Int) + 8 ∧ (((37 : Nat) : Int) + 8).toNat = 45 := ⟨by decide +kernel, rfl, by decide, by decide⟩
theorem i5_40 : decode m5.2.1 40 = .ok (.aload_n 0, 1) ∧ 40 + 1 = 41 := ⟨by decide +kernel, rfl⟩
theorem i5_41 : decode m5.2.1 41 = .ok (.iconst 2, 1) ∧ 41 + 1 = 42 ∧ Int32.ofInt 2 = 2 := ⟨by decide +kernel, rfl, by decide⟩
theorem i5_42 : decode m5.2.1 42 = .ok (.iload 4, 2) ∧ 42 + 2 = 44 := ⟨by decide +kernel, rfl⟩
theorem i5_44 : decode m5.2.1 44 = .ok (.iastore, 1) ∧ 44 + 1 = 45 := ⟨by decide +kernel, rfl⟩
theorem i5_45 : decode m5.2.1 45 = .ok (.aload_n 0, 1) ∧ 45 + 1 = 46 := ⟨by decide +kernel, rfl⟩
theorem i5_46 : decode m5.2.1 46 = .ok (.iconst 3, 1) ∧ 46 + 1 = 47 ∧ Int32.ofInt 3 = 3 := ⟨by decide +kernel, rfl, by decide⟩
theorem i5_47 : decode m5.2.1 47 = .ok (.iaload, 1) ∧ 47 + 1 = 48 := ⟨by decide +kernel, rfl⟩
theorem i5_48 : decode m5.2.1 48 = .ok (.iload_n 3, 1) ∧ 48 + 1 = 49 := ⟨by decide +kernel, rfl⟩
theorem i5_49 : decode m5.2.1 49 = .ok (.if_icmp .ne 8, 3) ∧ 49 + 3 = 52 ∧ 0 ≤ ((49 : Nat) : Int) + 8 ∧ (((49 : Nat) : Int) + 8).toNat = 57 := ⟨by decide +kernel, rfl, by decide, by decide⟩
theorem i5_52 : decode m5.2.1 52 = .ok (.aload_n 0, 1) ∧ 52 + 1 = 53 := ⟨by decide +kernel, rfl⟩
theorem i5_53 : decode m5.2.1 53 = .ok (.iconst 3, 1) ∧ 53 + 1 = 54 ∧ Int32.ofInt 3 = 3 := ⟨by decide +kernel, rfl, by decide⟩
theorem i5_54 : decode m5.2.1 54 = .ok (.iload 4, 2) ∧ 54 + 2 = 56 := ⟨by decide +kernel, rfl⟩
theorem i5_56 : decode m5.2.1 56 = .ok (.iastore, 1) ∧ 56 + 1 = 57 := ⟨by decide +kernel, rfl⟩
theorem i5_57 : decode m5.2.1 57 = .ok (.return_, 1) := by decide +kernel
theorem s0_1 {l : Launch} {Z : State} {a0 : Array Value} {n0 : Nat} {ls : List Slot} {st : List Value} {H H' H1 : List Ob} {v : Option Value} (hw : HW Z a0) {a : Nat} {n : Int32} {o : List Value} (hn : ¬ n < 0) (h8 : n.toNatClampNeg * 8 ≤ 536870912) (ho : List.replicate n.toNatClampNeg (.int 0) = o) (ha : H.length = a) (hH : H ++ [.inr (.int, o)] = H1) (kk : Runs K l Z n0 m0 3 ls (.ref a :: st) H1 v H') : Runs K l Z n0 m0 1 ls (.int n :: st) H v H' := r_newA i0_1 (hw _ (List.mem_of_getElem? (i := 0) rfl)) hn h8 ho ha hH kk
theorem s0_67 {l : Launch} {Z : State} {a0 : Array Value} {n0 : Nat} {ls : List Slot} {st : List Value} {H H' H1 : List Ob} {v : Option Value} (hw : HW Z a0) {a : Nat} (ha : H.length = a) (hH : H ++ [.inl (0, [.null])] = H1) (kk : Runs K l Z n0 m0 70 ls (.ref a :: st) H1 v H') : Runs K l Z n0 m0 67 ls st H v H' := r_new (cid := 0) (kok hw) i0_67 (hw _ (List.mem_of_getElem? (i := 1) rfl)) (hw _ (List.mem_of_getElem? (i := 3) rfl)) rfl rfl ha hH kk
theorem s0_72 {l : Launch} {Z : State} {a0 : Array Value} {n0 : Nat} {ls : List Slot} {st : List Value} {H H' H1 : List Ob} {v : Option Value} (hw : HW Z a0) {a : Nat} {x0 : Value} (M : Meets K l Z n0 m1 [.ref a, x0] H none H1) (hls : ls.length = 16) (hlo : (st.map fun v => v.category).sum ≤ 4) (kk : Runs K l Z n0 m0 75 ls st H1 v H') : Runs K l Z n0 m0 72 ls (x0 :: .ref a :: st) H v H' := r_special (mj := m1) (as := [x0]) (rest := st) i0_72 rfl rfl (hw _ (List.mem_of_getElem? (i := 4) rfl)) (hw _ (List.mem_of_getElem? (i := 5) rfl)) (hw _ (List.mem_of_getElem? (i := 3) rfl)) (hw _ (List.mem_of_getElem? (i := 6) rfl)) (by decide) (lenOf pd1 rfl) (by decide) rfl hls (by show _ + (3 + 11) + 12 ≤ 30; omega) M kk
theorem s0_82 {l : Launch} {Z : State} {a0 : Array Value} {n0 : Nat} {ls : List Slot} {st : List Value} {H H' H1 : List Ob} {v : Option Value} (hw : HW Z a0) {a : Nat} {vs : List Value} {x0 x1 : Value} (ho : H[a]? = some (.inl (0, vs))) (M : Meets K l Z n0 m3 [.ref a, x0, x1] H none H1) (hls : ls.length = 16) (hlo : (st.map fun v => v.category).sum ≤ 0) (kk : Runs K l Z n0 m0 85 ls st H1 v H') : Runs K l Z n0 m0 82 ls (x1 :: x0 :: .ref a :: st) H v H' := r_virtual (mj := m3) (cid := 0) (as := [x0, x1]) (rest := st) i0_82 (hw _ (List.mem_of_getElem? (i := 12) rfl)) (hw _ (List.mem_of_getElem? (i := 13) rfl)) (hw _ (List.mem_of_getElem? (i := 15) rfl)) (hw _ (List.mem_of_getElem? (i := 14) rfl)) (hw _ (List.mem_of_getElem? (i := 3) rfl)) (hw _ (List.mem_of_getElem? (i := 16) rfl)) (by decide) (lenOf pd3 rfl) (by decide) rfl rfl ho hls (by show _ + (3 + 11) + 16 ≤ 30; omega) M kk
theorem s0_89 {l : Launch} {Z : State} {a0 : Array Value} {n0 : Nat} {ls : List Slot} {st : List Value} {H H' H1 : List Ob} {v : Option Value} (hw : HW Z a0) {x0 x1 x2 : Value} (M : Meets K l Z n0 m5 [x0, x1, x2] H none H1) (hls : ls.length = 16) (hlo : (st.map fun v => v.category).sum ≤ 14) (kk : Runs K l Z n0 m0 92 ls st H1 v H') : Runs K l Z n0 m0 89 ls (x2 :: x1 :: x0 :: st) H v H' := r_static (mj := m5) (as := [x0, x1, x2]) (rest := st) i0_89 (hw _ (List.mem_of_getElem? (i := 22) rfl)) (hw _ (List.mem_of_getElem? (i := 23) rfl)) (hw _ (List.mem_of_getElem? (i := 24) rfl)) (hw _ (List.mem_of_getElem? (i := 25) rfl)) (by decide) (lenOf pd5 rfl) (by decide) rfl hls (by show _ + (5 + 11) + 0 ≤ 30; omega) M kk
theorem s0_98 {l : Launch} {Z : State} {a0 : Array Value} {n0 : Nat} {ls : List Slot} {st : List Value} {H H' H1 : List Ob} {v : Option Value} (hw : HW Z a0) {a : Nat} {vs : List Value} {x0 x1 : Value} (ho : H[a]? = some (.inl (0, vs))) (M : Meets K l Z n0 m3 [.ref a, x0, x1] H none H1) (hls : ls.length = 16) (hlo : (st.map fun v => v.category).sum ≤ 0) (kk : Runs K l Z n0 m0 101 ls st H1 v H') : Runs K l Z n0 m0 98 ls (x1 :: x0 :: .ref a :: st) H v H' := r_virtual (mj := m3) (cid := 0) (as := [x0, x1]) (rest := st) i0_98 (hw _ (List.mem_of_getElem? (i := 12) rfl)) (hw _ (List.mem_of_getElem? (i := 13) rfl)) (hw _ (List.mem_of_getElem? (i := 15) rfl)) (hw _ (List.mem_of_getElem? (i := 14) rfl)) (hw _ (List.mem_of_getElem? (i := 3) rfl)) (hw _ (List.mem_of_getElem? (i := 16) rfl)) (by decide) (lenOf pd3 rfl) (by decide) rfl rfl ho hls (by show _ + (3 + 11) + 16 ≤ 30; omega) M kk
theorem s0_106 {l : Launch} {Z : State} {a0 : Array Value} {n0 : Nat} {ls : List Slot} {st : List Value} {H H' H1 : List Ob} {v : Option Value} (hw : HW Z a0) {x0 x1 x2 : Value} (M : Meets K l Z n0 m5 [x0, x1, x2] H none H1) (hls : ls.length = 16) (hlo : (st.map fun v => v.category).sum ≤ 14) (kk : Runs K l Z n0 m0 109 ls st H1 v H') : Runs K l Z n0 m0 106 ls (x2 :: x1 :: x0 :: st) H v H' := r_static (mj := m5) (as := [x0, x1, x2]) (rest := st) i0_106 (hw _ (List.mem_of_getElem? (i := 22) rfl)) (hw _ (List.mem_of_getElem? (i := 23) rfl)) (hw _ (List.mem_of_getElem? (i := 24) rfl)) (hw _ (List.mem_of_getElem? (i := 25) rfl)) (by decide) (lenOf pd5 rfl) (by decide) rfl hls (by show _ + (5 + 11) + 0 ≤ 30; omega) M kk
theorem s0_115 {l : Launch} {Z : State} {a0 : Array Value} {n0 : Nat} {ls : List Slot} {st : List Value} {H H' H1 : List Ob} {v : Option Value} (hw : HW Z a0) {a : Nat} {vs : List Value} {x0 x1 : Value} (ho : H[a]? = some (.inl (0, vs))) (M : Meets K l Z n0 m3 [.ref a, x0, x1] H none H1) (hls : ls.length = 16) (hlo : (st.map fun v => v.category).sum ≤ 0) (kk : Runs K l Z n0 m0 118 ls st H1 v H') : Runs K l Z n0 m0 115 ls (x1 :: x0 :: .ref a :: st) H v H' := r_virtual (mj := m3) (cid := 0) (as := [x0, x1]) (rest := st) i0_115 (hw _ (List.mem_of_getElem? (i := 12) rfl)) (hw _ (List.mem_of_getElem? (i := 13) rfl)) (hw _ (List.mem_of_getElem? (i := 15) rfl)) (hw _ (List.mem_of_getElem? (i := 14) rfl)) (hw _ (List.mem_of_getElem? (i := 3) rfl)) (hw _ (List.mem_of_getElem? (i := 16) rfl)) (by decide) (lenOf pd3 rfl) (by decide) rfl rfl ho hls (by show _ + (3 + 11) + 16 ≤ 30; omega) M kk
theorem s0_123 {l : Launch} {Z : State} {a0 : Array Value} {n0 : Nat} {ls : List Slot} {st : List Value} {H H' H1 : List Ob} {v : Option Value} (hw : HW Z a0) {x0 x1 x2 : Value} (M : Meets K l Z n0 m5 [x0, x1, x2] H none H1) (hls : ls.length = 16) (hlo : (st.map fun v => v.category).sum ≤ 14) (kk : Runs K l Z n0 m0 126 ls st H1 v H') : Runs K l Z n0 m0 123 ls (x2 :: x1 :: x0 :: st) H v H' := r_static (mj := m5) (as := [x0, x1, x2]) (rest := st) i0_123 (hw _ (List.mem_of_getElem? (i := 22) rfl)) (hw _ (List.mem_of_getElem? (i := 23) rfl)) (hw _ (List.mem_of_getElem? (i := 24) rfl)) (hw _ (List.mem_of_getElem? (i := 25) rfl)) (by decide) (lenOf pd5 rfl) (by decide) rfl hls (by show _ + (5 + 11) + 0 ≤ 30; omega) M kk
theorem s0_130 {l : Launch} {Z : State} {a0 : Array Value} {n0 : Nat} {ls : List Slot} {st : List Value} {H H' H1 : List Ob} {v : Option Value} (hw : HW Z a0) {a : Nat} {vs : List Value} {x0 : Value} {w : Value} (ho : H[a]? = some (.inl (0, vs))) (M : Meets K l Z n0 m4 [.ref a, x0] H (some w) H1) (hls : ls.length = 16) (hlo : (st.map fun v => v.category).sum ≤ 16) (kk : Runs K l Z n0 m0 133 ls (w :: st) H1 v H') : Runs K l Z n0 m0 130 ls (x0 :: .ref a :: st) H v H' := r_virtual (mj := m4) (cid := 0) (as := [x0]) (rest := st) i0_130 (hw _ (List.mem_of_getElem? (i := 26) rfl)) (hw _ (List.mem_of_getElem? (i := 18) rfl)) (hw _ (List.mem_of_getElem? (i := 20) rfl)) (hw _ (List.mem_of_getElem? (i := 19) rfl)) (hw _ (List.mem_of_getElem? (i := 3) rfl)) (hw _ (List.mem_of_getElem? (i := 21) rfl)) (by decide) (lenOf pd4 rfl) (by decide) rfl rfl ho hls (by show _ + (3 + 11) + 0 ≤ 30; omega) M kk
theorem s0_150 {l : Launch} {Z : State} {a0 : Array Value} {n0 : Nat} {ls : List Slot} {st : List Value} {H H' H1 : List Ob} {v : Option Value} (hw : HW Z a0) {a : Nat} {vs : List Value} {x0 : Value} {w : Value} (ho : H[a]? = some (.inl (0, vs))) (M : Meets K l Z n0 m4 [.ref a, x0] H (some w) H1) (hls : ls.length = 16) (hlo : (st.map fun v => v.category).sum ≤ 16) (kk : Runs K l Z n0 m0 153 ls (w :: st) H1 v H') : Runs K l Z n0 m0 150 ls (x0 :: .ref a :: st) H v H' := r_virtual (mj := m4) (cid := 0) (as := [x0]) (rest := st) i0_150 (hw _ (List.mem_of_getElem? (i := 26) rfl)) (hw _ (List.mem_of_getElem? (i := 18) rfl)) (hw _ (List.mem_of_getElem? (i := 20) rfl)) (hw _ (List.mem_of_getElem? (i := 19) rfl)) (hw _ (List.mem_of_getElem? (i := 3) rfl)) (hw _ (List.mem_of_getElem? (i := 21) rfl)) (by decide) (lenOf pd4 rfl) (by decide) rfl rfl ho hls (by show _ + (3 + 11) + 0 ≤ 30; omega) M kk
theorem s0_158 {l : Launch} {Z : State} {a0 : Array Value} {n0 : Nat} {ls : List Slot} {st : List Value} {H H' H1 : List Ob} {v : Option Value} (hw : HW Z a0) {a : Nat} {vs : List Value} {x0 : Value} {w : Value} (ho : H[a]? = some (.inl (0, vs))) (M : Meets K l Z n0 m4 [.ref a, x0] H (some w) H1) (hls : ls.length = 16) (hlo : (st.map fun v => v.category).sum ≤ 16) (kk : Runs K l Z n0 m0 161 ls (w :: st) H1 v H') : Runs K l Z n0 m0 158 ls (x0 :: .ref a :: st) H v H' := r_virtual (mj := m4) (cid := 0) (as := [x0]) (rest := st) i0_158 (hw _ (List.mem_of_getElem? (i := 26) rfl)) (hw _ (List.mem_of_getElem? (i := 18) rfl)) (hw _ (List.mem_of_getElem? (i := 20) rfl)) (hw _ (List.mem_of_getElem? (i := 19) rfl)) (hw _ (List.mem_of_getElem? (i := 3) rfl)) (hw _ (List.mem_of_getElem? (i := 21) rfl)) (by decide) (lenOf pd4 rfl) (by decide) rfl rfl ho hls (by show _ + (3 + 11) + 0 ≤ 30; omega) M kk
theorem s0_166 {l : Launch} {Z : State} {a0 : Array Value} {n0 : Nat} {ls : List Slot} {st : List Value} {H H' H1 : List Ob} {v : Option Value} (hw : HW Z a0) {a : Nat} {vs : List Value} {x0 : Value} {w : Value} (ho : H[a]? = some (.inl (0, vs))) (M : Meets K l Z n0 m4 [.ref a, x0] H (some w) H1) (hls : ls.length = 16) (hlo : (st.map fun v => v.category).sum ≤ 16) (kk : Runs K l Z n0 m0 169 ls (w :: st) H1 v H') : Runs K l Z n0 m0 166 ls (x0 :: .ref a :: st) H v H' := r_virtual (mj := m4) (cid := 0) (as := [x0]) (rest := st) i0_166 (hw _ (List.mem_of_getElem? (i := 26) rfl)) (hw _ (List.mem_of_getElem? (i := 18) rfl)) (hw _ (List.mem_of_getElem? (i := 20) rfl)) (hw _ (List.mem_of_getElem? (i := 19) rfl)) (hw _ (List.mem_of_getElem? (i := 3) rfl)) (hw _ (List.mem_of_getElem? (i := 21) rfl)) (by decide) (lenOf pd4 rfl) (by decide) rfl rfl ho hls (by show _ + (3 + 11) + 0 ≤ 30; omega) M kk
theorem s0_174 {l : Launch} {Z : State} {a0 : Array Value} {n0 : Nat} {ls : List Slot} {st : List Value} {H H' H1 : List Ob} {v : Option Value} (hw : HW Z a0) {a : Nat} {vs : List Value} {x0 : Value} {w : Value} (ho : H[a]? = some (.inl (0, vs))) (M : Meets K l Z n0 m4 [.ref a, x0] H (some w) H1) (hls : ls.length = 16) (hlo : (st.map fun v => v.category).sum ≤ 16) (kk : Runs K l Z n0 m0 177 ls (w :: st) H1 v H') : Runs K l Z n0 m0 174 ls (x0 :: .ref a :: st) H v H' := r_virtual (mj := m4) (cid := 0) (as := [x0]) (rest := st) i0_174 (hw _ (List.mem_of_getElem? (i := 26) rfl)) (hw _ (List.mem_of_getElem? (i := 18) rfl)) (hw _ (List.mem_of_getElem? (i := 20) rfl)) (hw _ (List.mem_of_getElem? (i := 19) rfl)) (hw _ (List.mem_of_getElem? (i := 3) rfl)) (hw _ (List.mem_of_getElem? (i := 21) rfl)) (by decide) (lenOf pd4 rfl) (by decide) rfl rfl ho hls (by show _ + (3 + 11) + 0 ≤ 30; omega) M kk
theorem s1_1 {l : Launch} {Z : State} {a0 : Array Value} {n0 : Nat} {ls : List Slot} {st : List Value} {H H' : List Ob} {v : Option Value} (hw : HW Z a0) {a : Nat} (hls : ls.length = 3) (hlo : (st.map fun v => v.category).sum ≤ 0) (kk : Runs K l Z n0 m1 4 ls st H v H') : Runs K l Z n0 m1 1 ls (.ref a :: st) H v H' := r_initO i1_1 (hw _ (List.mem_of_getElem? (i := 7) rfl)) (hw _ (List.mem_of_getElem? (i := 8) rfl)) (hw _ (List.mem_of_getElem? (i := 9) rfl)) hls (by decide) (Nat.add_le_add_right hlo 12) kk
theorem s1_6 {l : Launch} {Z : State} {a0 : Array Value} {n0 : Nat} {ls : List Slot} {st : List Value} {H H' H1 : List Ob} {v : Option Value} (hw : HW Z a0) {a : Nat} {n : Int32} {o : List Value} (hn : ¬ n < 0) (h8 : n.toNatClampNeg * 8 ≤ 536870912) (ho : List.replicate n.toNatClampNeg (.int 0) = o) (ha : H.length = a) (hH : H ++ [.inr (.int, o)] = H1) (kk : Runs K l Z n0 m1 8 ls (.ref a :: st) H1 v H') : Runs K l Z n0 m1 6 ls (.int n :: st) H v H' := r_newA i1_6 (hw _ (List.mem_of_getElem? (i := 0) rfl)) hn h8 ho ha hH kk
theorem s1_8 {l : Launch} {Z : State} {a0 : Array Value} {n0 : Nat} {ls : List Slot} {st : List Value} {H H' H1 : List Ob} {v : Option Value} (hw : HW Z a0) {a : Nat} {f0 x : Value} (ho : H[a]? = some (.inl (0, [f0]))) (hn : narrow (.array .int) x = x) (hf : fits (.array .int) x = true) (hH : H.set a (.inl (0, [x])) = H1) (kk : Runs K l Z n0 m1 11 ls st H1 v H') : Runs K l Z n0 m1 8 ls (x :: .ref a :: st) H v H' := r_putF (cid := 0) (i := 0) (kok hw) i1_8 (hw _ (List.mem_of_getElem? (i := 10) rfl)) Via.refl rfl rfl (Or.inr ⟨(hw _ (List.mem_of_getElem? (i := 11) rfl)), rfl, rfl⟩) ho (ltB rfl) hn hf rfl hH kk
theorem s1_19 {l : Launch} {Z : State} {a0 : Array Value} {n0 : Nat} {ls : List Slot} {st : List Value} {H H' : List Ob} {v : Option Value} (hw : HW Z a0) {a : Nat} {f0 : Value} (ho : H[a]? = some (.inl (0, [f0]))) (kk : Runs K l Z n0 m1 22 ls (f0 :: st) H v H') : Runs K l Z n0 m1 19 ls (.ref a :: st) H v H' := r_getF (cid := 0) (i := 0) i1_19 (hw _ (List.mem_of_getElem? (i := 10) rfl)) Via.refl rfl rfl ho rfl kk
theorem s3_1 {l : Launch} {Z : State} {a0 : Array Value} {n0 : Nat} {ls : List Slot} {st : List Value} {H H' : List Ob} {v : Option Value} (hw : HW Z a0) {a : Nat} {f0 : Value} (ho : H[a]? = some (.inl (0, [f0]))) (kk : Runs K l Z n0 m3 4 ls (f0 :: st) H v H') : Runs K l Z n0 m3 1 ls (.ref a :: st) H v H' := r_getF (cid := 0) (i := 0) i3_1 (hw _ (List.mem_of_getElem? (i := 10) rfl)) Via.refl rfl rfl ho rfl kk
theorem s3_6 {l : Launch} {Z : State} {a0 : Array Value} {n0 : Nat} {ls : List Slot} {st : List Value} {H H' H1 : List Ob} {v : Option Value} (hw : HW Z a0) {a : Nat} {vs : List Value} {x0 : Value} {w : Value} (ho : H[a]? = some (.inl (0, vs))) (M : Meets K l Z n0 m4 [.ref a, x0] H (some w) H1) (hls : ls.length = 3) (hlo : (st.map fun v => v.category).sum ≤ 2) (kk : Runs K l Z n0 m3 9 ls (w :: st) H1 v H') : Runs K l Z n0 m3 6 ls (x0 :: .ref a :: st) H v H' := r_virtual (mj := m4) (cid := 0) (as := [x0]) (rest := st) i3_6 (hw _ (List.mem_of_getElem? (i := 17) rfl)) (hw _ (List.mem_of_getElem? (i := 18) rfl)) (hw _ (List.mem_of_getElem? (i := 20) rfl)) (hw _ (List.mem_of_getElem? (i := 19) rfl)) (hw _ (List.mem_of_getElem? (i := 3) rfl)) (hw _ (List.mem_of_getElem? (i := 21) rfl)) (by decide) (lenOf pd4 rfl) (by decide) rfl rfl ho hls (by show _ + (3 + 11) + 0 ≤ 16; omega) M kk
theorem s3_11 {l : Launch} {Z : State} {a0 : Array Value} {n0 : Nat} {ls : List Slot} {st : List Value} {H H' H1 : List Ob} {v : Option Value} (hw : HW Z a0) {a : Nat} {vs : List Value} {x0 : Value} {w : Value} (ho : H[a]? = some (.inl (0, vs))) (M : Meets K l Z n0 m4 [.ref a, x0] H (some w) H1) (hls : ls.length = 3) (hlo : (st.map fun v => v.category).sum ≤ 2) (kk : Runs K l Z n0 m3 14 ls (w :: st) H1 v H') : Runs K l Z n0 m3 11 ls (x0 :: .ref a :: st) H v H' := r_virtual (mj := m4) (cid := 0) (as := [x0]) (rest := st) i3_11 (hw _ (List.mem_of_getElem? (i := 17) rfl)) (hw _ (List.mem_of_getElem? (i := 18) rfl)) (hw _ (List.mem_of_getElem? (i := 20) rfl)) (hw _ (List.mem_of_getElem? (i := 19) rfl)) (hw _ (List.mem_of_getElem? (i := 3) rfl)) (hw _ (List.mem_of_getElem? (i := 21) rfl)) (by decide) (lenOf pd4 rfl) (by decide) rfl rfl ho hls (by show _ + (3 + 11) + 0 ≤ 16; omega) M kk
theorem s4_3 {l : Launch} {Z : State} {a0 : Array Value} {n0 : Nat} {ls : List Slot} {st : List Value} {H H' : List Ob} {v : Option Value} (hw : HW Z a0) {a : Nat} {f0 : Value} (ho : H[a]? = some (.inl (0, [f0]))) (kk : Runs K l Z n0 m4 6 ls (f0 :: st) H v H') : Runs K l Z n0 m4 3 ls (.ref a :: st) H v H' := r_getF (cid := 0) (i := 0) i4_3 (hw _ (List.mem_of_getElem? (i := 10) rfl)) Via.refl rfl rfl ho rfl kk
theorem s4_13 {l : Launch} {Z : State} {a0 : Array Value} {n0 : Nat} {ls : List Slot} {st : List Value} {H H' : List Ob} {v : Option Value} (hw : HW Z a0) {a : Nat} {f0 : Value} (ho : H[a]? = some (.inl (0, [f0]))) (kk : Runs K l Z n0 m4 16 ls (f0 :: st) H v H') : Runs K l Z n0 m4 13 ls (.ref a :: st) H v H' := r_getF (cid := 0) (i := 0) i4_13 (hw _ (List.mem_of_getElem? (i := 10) rfl)) Via.refl rfl rfl ho rfl kk
theorem s4_18 {l : Launch} {Z : State} {a0 : Array Value} {n0 : Nat} {ls : List Slot} {st : List Value} {H H' : List Ob} {v : Option Value} (hw : HW Z a0) {a : Nat} {f0 : Value} (ho : H[a]? = some (.inl (0, [f0]))) (kk : Runs K l Z n0 m4 21 ls (f0 :: st) H v H') : Runs K l Z n0 m4 18 ls (.ref a :: st) H v H' := r_getF (cid := 0) (i := 0) i4_18 (hw _ (List.mem_of_getElem? (i := 10) rfl)) Via.refl rfl rfl ho rfl kk
theorem s4_22 {l : Launch} {Z : State} {a0 : Array Value} {n0 : Nat} {ls : List Slot} {st : List Value} {H H' : List Ob} {v : Option Value} (hw : HW Z a0) {a : Nat} {f0 : Value} (ho : H[a]? = some (.inl (0, [f0]))) (kk : Runs K l Z n0 m4 25 ls (f0 :: st) H v H') : Runs K l Z n0 m4 22 ls (.ref a :: st) H v H' := r_getF (cid := 0) (i := 0) i4_22 (hw _ (List.mem_of_getElem? (i := 10) rfl)) Via.refl rfl rfl ho rfl kk
theorem s4_30 {l : Launch} {Z : State} {a0 : Array Value} {n0 : Nat} {ls : List Slot} {st : List Value} {H H' : List Ob} {v : Option Value} (hw : HW Z a0) {a : Nat} {f0 : Value} (ho : H[a]? = some (.inl (0, [f0]))) (kk : Runs K l Z n0 m4 33 ls (f0 :: st) H v H') : Runs K l Z n0 m4 30 ls (.ref a :: st) H v H' := r_getF (cid := 0) (i := 0) i4_30 (hw _ (List.mem_of_getElem? (i := 10) rfl)) Via.refl rfl rfl ho rfl kk
theorem own_sz {vs ws : List Value} (h : vs.length = 4) (h2 : ws.length = 4) : szs K [.inr (.int, vs), .inl (0, [.ref 2]), .inr (.int, ws)] ≤ 128 := by
  show vs.length + (1 + (ws.length + 0)) ≤ 128
  omega
def own_g (l : List Nat) (i : Nat) : Nat := l.getD i 0
def im (l : List Nat) : List Value := l.map (fun n => Value.int n.toInt32)
theorem im_len (l : List Nat) : (im l).length = l.length := by simp [im]
theorem im_at {l : List Nat} {i : Nat} (h : i < l.length) : (im l)[i]? = some (.int (own_g l i).toInt32) := by
  simp [im, own_g, h]
theorem im_set (l : List Nat) (i x : Nat) : (im l).set i (.int x.toInt32) = im (l.set i x) := by simp [im, List.map_set]
def own_root : Nat → List Nat → Nat → Option (Nat × List Nat)
  | 0, _, _ => none
  | t + 1, l, r => if own_g l r = r then some (r, l) else own_root t (l.set r (own_g l (own_g l r))) (own_g (l.set r (own_g l (own_g l r))) r)
def own_mstep (r : List Nat) (k ra rb : Nat) : List Nat := if own_g r k = ra then r.set k rb else r
def own_merge (r : List Nat) (a b : Nat) : List Nat := own_mstep (own_mstep (own_mstep (own_mstep r 0 (own_g r a) (own_g r b)) 1 (own_g r a) (own_g r b)) 2 (own_g r a) (own_g r b)) 3 (own_g r a) (own_g r b)
def own_rl (l : List Nat) : List Nat := [0, 1, 2, 3].map (fun i => own_g l (own_g l (own_g l i)))
def own_G (l : List Nat) : Bool := l.length == 4 && l.all (fun x => decide (x < 4))
def own_ok (l : List Nat) : Bool := (own_rl l).all (fun i => own_g l i == i) && own_G (own_rl l)
def own_c1 (l : List Nat) (x y : Nat) : Bool := match own_root 8 l x with
  | some q => (match own_root 8 q.2 y with
    | some w => own_G (w.2.set q.1 w.1) && own_ok (w.2.set q.1 w.1) && own_rl (w.2.set q.1 w.1) == own_merge (own_rl l) x y
    | none => false)
  | none => false
def own_c2 (l : List Nat) (x : Nat) : Bool := match own_root 8 l x with
  | some q => decide (q.1 < 4) && own_G q.2 && own_ok q.2 && own_rl q.2 == own_rl l && q.1 == own_g (own_rl l) x
  | none => false
set_option maxRecDepth 100000 in
theorem own_chk1 : ∀ a b c d x y : Fin 4, own_ok [a.val, b.val, c.val, d.val] = true → own_c1 [a.val, b.val, c.val, d.val] x.val y.val = true := by decide +kernel
set_option maxRecDepth 100000 in
theorem own_chk2 : ∀ a b c d x : Fin 4, own_ok [a.val, b.val, c.val, d.val] = true → own_c2 [a.val, b.val, c.val, d.val] x.val = true := by decide +kernel
theorem own_cases {l : List Nat} (h : own_G l = true) : ∃ a b c d : Fin 4, l = [a.val, b.val, c.val, d.val] := by
  unfold own_G at h
  rw [Bool.and_eq_true, beq_iff_eq, List.all_eq_true] at h
  obtain ⟨h1, h2⟩ := h
  match l, h1 with
  | [a, b, c, d], _ =>
    have q : ∀ x ∈ [a, b, c, d], x < 4 := fun x hx => of_decide_eq_true (h2 x hx)
    exact ⟨⟨a, q a (by simp)⟩, ⟨b, q b (by simp)⟩, ⟨c, q c (by simp)⟩, ⟨d, q d (by simp)⟩, rfl⟩
theorem own_Gl {l : List Nat} (h : own_G l = true) : l.length = 4 ∧ ∀ i, i < 4 → own_g l i < 4 := by
  obtain ⟨a, b, c, d, rfl⟩ := own_cases h
  refine ⟨rfl, fun i hi => ?_⟩
  match i, hi with
  | 0, _ => exact a.isLt
  | 1, _ => exact b.isLt
  | 2, _ => exact c.isLt
  | 3, _ => exact d.isLt
theorem own_Gs {l : List Nat} {i x : Nat} (h : own_G l = true) (hx : x < 4) : own_G (l.set i x) = true := by
  unfold own_G at h ⊢
  rw [Bool.and_eq_true, beq_iff_eq, List.all_eq_true] at h ⊢
  refine ⟨by rw [List.length_set]; exact h.1, fun y hy => ?_⟩
  rcases List.mem_or_eq_of_mem_set hy with q | q
  · exact h.2 y q
  · subst q; exact decide_eq_true hx
theorem own_two {l : List Nat} (h : own_G l = true) (k : own_ok l = true) (x : Fin 4) : ∃ r l', own_root 8 l x.val = some (r, l') ∧ r < 4 ∧ own_G l' = true ∧ own_ok l' = true ∧ own_rl l' = own_rl l ∧ r = own_g (own_rl l) x.val := by
  obtain ⟨a, b, c, d, rfl⟩ := own_cases h
  have q := own_chk2 a b c d x k
  unfold own_c2 at q
  split at q
  · rename_i w e
    simp only [Bool.and_eq_true, beq_iff_eq, decide_eq_true_eq] at q
    obtain ⟨⟨⟨⟨q1, q2⟩, q3⟩, q4⟩, q5⟩ := q
    exact ⟨w.1, w.2, e, q1, q2, q3, q4, q5⟩
  · cases q
theorem own_one {l : List Nat} (h : own_G l = true) (k : own_ok l = true) (x y : Fin 4) : ∃ ra l1 rb l2, own_root 8 l x.val = some (ra, l1) ∧ own_root 8 l1 y.val = some (rb, l2) ∧ own_G (l2.set ra rb) = true ∧ own_ok (l2.set ra rb) = true ∧ own_rl (l2.set ra rb) = own_merge (own_rl l) x.val y.val := by
  obtain ⟨a, b, c, d, rfl⟩ := own_cases h
  have q := own_chk1 a b c d x y k
  unfold own_c1 at q
  split at q
  · rename_i w e
    split at q
    · rename_i w2 e2
      simp only [Bool.and_eq_true, beq_iff_eq] at q
      exact ⟨w.1, w.2, w2.1, w2.2, e, e2, q.1.1, q.1.2, q.2⟩
    · cases q
  · cases q
theorem root_loop {l : Launch} {Z : State} {a0 : Array Value} {n0 : Nat} (hw : HW Z a0) (q0 : Ob) (it : Int32) : ∀ (t : Nat) (l0 : List Nat) (r : Nat) (r' : Nat) (l' : List Nat), own_G l0 = true → r < 4 → own_root t l0 r = some (r', l') → Runs K l Z n0 m4 2 [.val (.ref 1), .val (.int it), .val (.int r.toInt32)] [] [q0, .inl (0, [.ref 2]), .inr (.int, im l0)] (some (.int r'.toInt32)) [q0, .inl (0, [.ref 2]), .inr (.int, im l')]
  | 0, l0, r, r', l', hG, hr, h => by cases h
  | t + 1, l0, r, r', l', hG, hr, h => by
    obtain ⟨hl, hg⟩ := own_Gl hG
    unfold own_root at h
    have v1 := im_at (l := l0) (i := r) (by omega)
    have g1 := hg r hr
    have v2 := im_at (l := l0) (i := own_g l0 r) (by omega)
    have g2 := hg _ g1
    by_cases e : own_g l0 r = r
    · rw [if_pos e] at h
      cases h
      refine r_aloadN i4_2 rfl rfl ?_
      refine s4_3 hw rfl ?_
      refine r_iloadN i4_6 rfl ?_
      refine r_iaload i4_7 rfl (ti_ix (by omega)) v1 ?_
      refine r_iloadN i4_8 rfl ?_
      refine r_icT i4_9 (XT.ii_eq_t (congrArg Nat.toInt32 e)) ?_
      refine r_iloadN i4_39 rfl ?_
      exact r_ireturn i4_40 rfl
    · rw [if_neg e] at h
      have hG' := own_Gs (i := r) hG g2
      obtain ⟨hl', hg'⟩ := own_Gl hG'
      have v3 := im_at (l := l0.set r (own_g l0 (own_g l0 r))) (i := r) (by omega)
      refine r_aloadN i4_2 rfl rfl ?_
      refine s4_3 hw rfl ?_
      refine r_iloadN i4_6 rfl ?_
      refine r_iaload i4_7 rfl (ti_ix (by omega)) v1 ?_
      refine r_iloadN i4_8 rfl ?_
      refine r_icF i4_9 (XT.ii_eq_f (fun z => e ((ti_eq (by omega) (by omega)).mp z))) ?_
      refine r_aloadN i4_12 rfl rfl ?_
      refine s4_13 hw rfl ?_
      refine r_iloadN i4_16 rfl ?_
      refine r_aloadN i4_17 rfl rfl ?_
      refine s4_18 hw rfl ?_
      refine r_aloadN i4_21 rfl rfl ?_
      refine s4_22 hw rfl ?_
      refine r_iloadN i4_25 rfl ?_
      refine r_iaload i4_26 rfl (ti_ix (by omega)) v1 ?_
      refine r_iaload i4_27 rfl (ti_ix (by omega)) v2 ?_
      refine r_iastore (H1 := [_, _, _]) i4_28 rfl (ti_ix (by omega)) (by rw [im_len]; omega) (im_set _ _ _) rfl ?_
      refine r_aloadN i4_29 rfl rfl ?_
      refine s4_30 hw rfl ?_
      refine r_iloadN i4_33 rfl ?_
      refine r_iaload i4_34 rfl (ti_ix (by omega)) v3 ?_
      refine r_istoreN (ls' := [_, _, _]) i4_35 rfl rfl ?_
      refine r_goto i4_36 ?_
      exact root_loop hw q0 it t _ _ r' l' hG' (hg' r hr) h
theorem root_m {l : Launch} {Z : State} {a0 : Array Value} {n0 : Nat} (hw : HW Z a0) {q0 : Ob} {i r : Nat} {l0 l' : List Nat} (hG : own_G l0 = true) (hi : i < 4) (h : own_root 8 l0 i = some (r, l')) : Meets K l Z n0 m4 [.ref 1, .int i.toInt32] [q0, .inl (0, [.ref 2]), .inr (.int, im l0)] (some (.int r.toInt32)) [q0, .inl (0, [.ref 2]), .inr (.int, im l')] := by
  refine meets (ls := [_, _, _]) pf4 rfl (fun h => nomatch h) ?_
  refine r_iloadN i4_0 rfl ?_
  refine r_istoreN (ls' := [_, _, _]) i4_1 rfl rfl ?_
  exact root_loop hw q0 _ 8 l0 i r l' hG hi h
theorem join_m {l : Launch} {Z : State} {a0 : Array Value} {n0 : Nat} (hw : HW Z a0) {q0 : Ob} {l0 : List Nat} (hG : own_G l0 = true) (hk : own_ok l0 = true) (x y : Fin 4) : ∃ l', Meets K l Z n0 m3 [.ref 1, .int x.val.toInt32, .int y.val.toInt32] [q0, .inl (0, [.ref 2]), .inr (.int, im l0)] none [q0, .inl (0, [.ref 2]), .inr (.int, im l')] ∧ own_G l' = true ∧ own_ok l' = true ∧ own_rl l' = own_merge (own_rl l0) x.val y.val := by
  obtain ⟨ra, l1, rb, l2, e1, e2, h1, h2, h3⟩ := own_one hG hk x y
  obtain ⟨ra', l1', e1', ha, hG1, hk1, -, -⟩ := own_two hG hk x
  cases e1.symm.trans e1'
  obtain ⟨rb', l2', e2', hb, hG2, -, -, -⟩ := own_two hG1 hk1 y
  cases e2.symm.trans e2'
  obtain ⟨hl2, -⟩ := own_Gl hG2
  refine ⟨l2.set ra rb, ?_, h1, h2, h3⟩
  refine meets (ls := [_, _, _]) pf3 rfl (fun _ => rfl) ?_
  refine r_aloadN i3_0 rfl rfl ?_
  refine s3_1 hw rfl ?_
  refine r_aloadN i3_4 rfl rfl ?_
  refine r_iloadN i3_5 rfl ?_
  refine s3_6 hw (H1 := [_, _, _]) rfl (root_m hw hG x.isLt e1) rfl (leB rfl) ?_
  refine r_aloadN i3_9 rfl rfl ?_
  refine r_iloadN i3_10 rfl ?_
  refine s3_11 hw (H1 := [_, _, _]) rfl (root_m hw hG1 y.isLt e2) rfl (leB rfl) ?_
  refine r_iastore (H1 := [_, _, _]) i3_14 rfl (ti_ix (by omega)) (by rw [im_len]; omega) (im_set _ _ _) rfl ?_
  exact r_return i3_15 rfl
theorem mstep0 {l : Launch} {Z : State} {a0 : Array Value} {n0 : Nat} (hw : HW Z a0) {q1 q2 : Ob} {a b : Int32} {ra rb : Nat} {r : List Nat} {v : Option Value} {H' : List Ob} (hG : own_G r = true) (ha : ra < 4) (hb : rb < 4) (k : Runs K l Z n0 m5 21 [.val (.ref 0), .val (.int a), .val (.int b), .val (.int ra.toInt32), .val (.int rb.toInt32)] [] [.inr (.int, im (own_mstep r 0 ra rb)), q1, q2] v H') : Runs K l Z n0 m5 9 [.val (.ref 0), .val (.int a), .val (.int b), .val (.int ra.toInt32), .val (.int rb.toInt32)] [] [.inr (.int, im r), q1, q2] v H' := by
  obtain ⟨hl, hg⟩ := own_Gl hG
  have v1 := im_at (l := r) (i := 0) (by omega)
  have g1 := hg 0 (by decide)
  unfold own_mstep at k
  by_cases e : own_g r 0 = ra
  · rw [if_pos e] at k
    refine r_aloadN i5_9 rfl rfl ?_
    refine r_iconst i5_10 ?_
    refine r_iaload i5_11 rfl ⟨by decide, by decide⟩ v1 ?_
    refine r_iloadN i5_12 rfl ?_
    refine r_icF i5_13 (XT.ii_ne_f (congrArg Nat.toInt32 e)) ?_
    refine r_aloadN i5_16 rfl rfl ?_
    refine r_iconst i5_17 ?_
    refine r_iload i5_18 rfl ?_
    refine r_iastore (i := 0) (H1 := [_, _, _]) i5_20 rfl ⟨by decide, by decide⟩ (by rw [im_len]; omega) (im_set _ _ _) rfl ?_
    exact k
  · rw [if_neg e] at k
    refine r_aloadN i5_9 rfl rfl ?_
    refine r_iconst i5_10 ?_
    refine r_iaload i5_11 rfl ⟨by decide, by decide⟩ v1 ?_
    refine r_iloadN i5_12 rfl ?_
    refine r_icT i5_13 (XT.ii_ne_t (fun z => e ((ti_eq (by omega) (by omega)).mp z))) ?_
    exact k
theorem mstep1 {l : Launch} {Z : State} {a0 : Array Value} {n0 : Nat} (hw : HW Z a0) {q1 q2 : Ob} {a b : Int32} {ra rb : Nat} {r : List Nat} {v : Option Value} {H' : List Ob} (hG : own_G r = true) (ha : ra < 4) (hb : rb < 4) (k : Runs K l Z n0 m5 33 [.val (.ref 0), .val (.int a), .val (.int b), .val (.int ra.toInt32), .val (.int rb.toInt32)] [] [.inr (.int, im (own_mstep r 1 ra rb)), q1, q2] v H') : Runs K l Z n0 m5 21 [.val (.ref 0), .val (.int a), .val (.int b), .val (.int ra.toInt32), .val (.int rb.toInt32)] [] [.inr (.int, im r), q1, q2] v H' := by
  obtain ⟨hl, hg⟩ := own_Gl hG
  have v1 := im_at (l := r) (i := 1) (by omega)
  have g1 := hg 1 (by decide)
  unfold own_mstep at k
  by_cases e : own_g r 1 = ra
  · rw [if_pos e] at k
    refine r_aloadN i5_21 rfl rfl ?_
    refine r_iconst i5_22 ?_
    refine r_iaload i5_23 rfl ⟨by decide, by decide⟩ v1 ?_
    refine r_iloadN i5_24 rfl ?_
    refine r_icF i5_25 (XT.ii_ne_f (congrArg Nat.toInt32 e)) ?_
    refine r_aloadN i5_28 rfl rfl ?_
    refine r_iconst i5_29 ?_
    refine r_iload i5_30 rfl ?_
    refine r_iastore (i := 1) (H1 := [_, _, _]) i5_32 rfl ⟨by decide, by decide⟩ (by rw [im_len]; omega) (im_set _ _ _) rfl ?_
    exact k
  · rw [if_neg e] at k
    refine r_aloadN i5_21 rfl rfl ?_
    refine r_iconst i5_22 ?_
    refine r_iaload i5_23 rfl ⟨by decide, by decide⟩ v1 ?_
    refine r_iloadN i5_24 rfl ?_
    refine r_icT i5_25 (XT.ii_ne_t (fun z => e ((ti_eq (by omega) (by omega)).mp z))) ?_
    exact k
theorem mstep2 {l : Launch} {Z : State} {a0 : Array Value} {n0 : Nat} (hw : HW Z a0) {q1 q2 : Ob} {a b : Int32} {ra rb : Nat} {r : List Nat} {v : Option Value} {H' : List Ob} (hG : own_G r = true) (ha : ra < 4) (hb : rb < 4) (k : Runs K l Z n0 m5 45 [.val (.ref 0), .val (.int a), .val (.int b), .val (.int ra.toInt32), .val (.int rb.toInt32)] [] [.inr (.int, im (own_mstep r 2 ra rb)), q1, q2] v H') : Runs K l Z n0 m5 33 [.val (.ref 0), .val (.int a), .val (.int b), .val (.int ra.toInt32), .val (.int rb.toInt32)] [] [.inr (.int, im r), q1, q2] v H' := by
  obtain ⟨hl, hg⟩ := own_Gl hG
  have v1 := im_at (l := r) (i := 2) (by omega)
  have g1 := hg 2 (by decide)
  unfold own_mstep at k
  by_cases e : own_g r 2 = ra
  · rw [if_pos e] at k
    refine r_aloadN i5_33 rfl rfl ?_
    refine r_iconst i5_34 ?_
    refine r_iaload i5_35 rfl ⟨by decide, by decide⟩ v1 ?_
    refine r_iloadN i5_36 rfl ?_
    refine r_icF i5_37 (XT.ii_ne_f (congrArg Nat.toInt32 e)) ?_
    refine r_aloadN i5_40 rfl rfl ?_
    refine r_iconst i5_41 ?_
    refine r_iload i5_42 rfl ?_
    refine r_iastore (i := 2) (H1 := [_, _, _]) i5_44 rfl ⟨by decide, by decide⟩ (by rw [im_len]; omega) (im_set _ _ _) rfl ?_
    exact k
  · rw [if_neg e] at k
    refine r_aloadN i5_33 rfl rfl ?_
    refine r_iconst i5_34 ?_
    refine r_iaload i5_35 rfl ⟨by decide, by decide⟩ v1 ?_
    refine r_iloadN i5_36 rfl ?_
    refine r_icT i5_37 (XT.ii_ne_t (fun z => e ((ti_eq (by omega) (by omega)).mp z))) ?_
    exact k
theorem mstep3 {l : Launch} {Z : State} {a0 : Array Value} {n0 : Nat} (hw : HW Z a0) {q1 q2 : Ob} {a b : Int32} {ra rb : Nat} {r : List Nat} {v : Option Value} {H' : List Ob} (hG : own_G r = true) (ha : ra < 4) (hb : rb < 4) (k : Runs K l Z n0 m5 57 [.val (.ref 0), .val (.int a), .val (.int b), .val (.int ra.toInt32), .val (.int rb.toInt32)] [] [.inr (.int, im (own_mstep r 3 ra rb)), q1, q2] v H') : Runs K l Z n0 m5 45 [.val (.ref 0), .val (.int a), .val (.int b), .val (.int ra.toInt32), .val (.int rb.toInt32)] [] [.inr (.int, im r), q1, q2] v H' := by
  obtain ⟨hl, hg⟩ := own_Gl hG
  have v1 := im_at (l := r) (i := 3) (by omega)
  have g1 := hg 3 (by decide)
  unfold own_mstep at k
  by_cases e : own_g r 3 = ra
  · rw [if_pos e] at k
    refine r_aloadN i5_45 rfl rfl ?_
    refine r_iconst i5_46 ?_
    refine r_iaload i5_47 rfl ⟨by decide, by decide⟩ v1 ?_
    refine r_iloadN i5_48 rfl ?_
    refine r_icF i5_49 (XT.ii_ne_f (congrArg Nat.toInt32 e)) ?_
    refine r_aloadN i5_52 rfl rfl ?_
    refine r_iconst i5_53 ?_
    refine r_iload i5_54 rfl ?_
    refine r_iastore (i := 3) (H1 := [_, _, _]) i5_56 rfl ⟨by decide, by decide⟩ (by rw [im_len]; omega) (im_set _ _ _) rfl ?_
    exact k
  · rw [if_neg e] at k
    refine r_aloadN i5_45 rfl rfl ?_
    refine r_iconst i5_46 ?_
    refine r_iaload i5_47 rfl ⟨by decide, by decide⟩ v1 ?_
    refine r_iloadN i5_48 rfl ?_
    refine r_icT i5_49 (XT.ii_ne_t (fun z => e ((ti_eq (by omega) (by omega)).mp z))) ?_
    exact k
theorem own_Gm {r : List Nat} {k ra rb : Nat} (h : own_G r = true) (hb : rb < 4) : own_G (own_mstep r k ra rb) = true := by
  unfold own_mstep
  split
  · exact own_Gs h hb
  · exact h
theorem merge_m {l : Launch} {Z : State} {a0 : Array Value} {n0 : Nat} (hw : HW Z a0) {q1 q2 : Ob} {r : List Nat} (hG : own_G r = true) (x y : Fin 4) : Meets K l Z n0 m5 [.ref 0, .int x.val.toInt32, .int y.val.toInt32] [.inr (.int, im r), q1, q2] none [.inr (.int, im (own_merge r x.val y.val)), q1, q2] := by
  obtain ⟨hl, hg⟩ := own_Gl hG
  have xl := x.isLt
  have yl := y.isLt
  have vx := im_at (l := r) (i := x.val) (by omega)
  have vy := im_at (l := r) (i := y.val) (by omega)
  have gx := hg x.val xl
  have gy := hg y.val yl
  refine meets (ls := [_, _, _, _, _]) pf5 rfl (fun _ => rfl) ?_
  refine r_aloadN i5_0 rfl rfl ?_
  refine r_iloadN i5_1 rfl ?_
  refine r_iaload i5_2 rfl (ti_ix (by omega)) vx ?_
  refine r_istoreN (ls' := [_, _, _, _, _]) i5_3 rfl rfl ?_
  refine r_aloadN i5_4 rfl rfl ?_
  refine r_iloadN i5_5 rfl ?_
  refine r_iaload i5_6 rfl (ti_ix (by omega)) vy ?_
  refine r_istore (ls' := [_, _, _, _, _]) i5_7 rfl rfl ?_
  have h0 := own_Gm (k := 0) (ra := own_g r x.val) hG gy
  have h1 := own_Gm (k := 1) (ra := own_g r x.val) h0 gy
  have h2 := own_Gm (k := 2) (ra := own_g r x.val) h1 gy
  refine mstep0 hw hG gx gy ?_
  refine mstep1 hw h0 gx gy ?_
  refine mstep2 hw h1 gx gy ?_
  refine mstep3 hw h2 gx gy ?_
  exact r_return i5_57 rfl
theorem init_m {l : Launch} {Z : State} {a0 : Array Value} {n0 : Nat} (hw : HW Z a0) {q0 : Ob} : Meets K l Z n0 m1 [.ref 1, .int 4] [q0, .inl (0, [.null])] none [q0, .inl (0, [.ref 2]), .inr (.int, [.int 0, .int (0 + 1), .int (0 + 1 + 1), .int (0 + 1 + 1 + 1)])] := by
  refine meets (ls := [_, _, _]) pf1 rfl (fun _ => rfl) ?_
  refine r_aloadN i1_0 rfl rfl ?_
  refine s1_1 hw rfl (leB rfl) ?_
  refine r_aloadN i1_4 rfl rfl ?_
  refine r_iloadN i1_5 rfl ?_
  refine s1_6 hw (a := 2) (o := [.int 0, .int 0, .int 0, .int 0]) (H1 := [_, _, _]) (by decide) (by decide) rfl rfl rfl ?_
  refine s1_8 hw (H1 := [_, _, _]) rfl rfl rfl rfl ?_
  refine r_iconst i1_11 ?_
  refine r_istoreN (ls' := [_, _, _]) i1_12 rfl rfl ?_
  refine r_iloadN i1_13 rfl ?_
  refine r_iloadN i1_14 rfl ?_
  refine r_icF i1_15 (XT.ii_ge_f (by decide)) ?_
  refine r_aloadN i1_18 rfl rfl ?_
  refine s1_19 hw rfl ?_
  refine r_iloadN i1_22 rfl ?_
  refine r_iloadN i1_23 rfl ?_
  refine r_iastore (i := 0) (vs' := [_, _, _, _]) (H1 := [_, _, _]) i1_24 rfl ⟨by decide, by decide⟩ (ltB rfl) rfl rfl ?_
  refine r_iinc (ls' := [_, _, _]) i1_25 rfl rfl ?_
  refine r_goto i1_28 ?_
  refine r_iloadN i1_13 rfl ?_
  refine r_iloadN i1_14 rfl ?_
  refine r_icF i1_15 (XT.ii_ge_f (by decide)) ?_
  refine r_aloadN i1_18 rfl rfl ?_
  refine s1_19 hw rfl ?_
  refine r_iloadN i1_22 rfl ?_
  refine r_iloadN i1_23 rfl ?_
  refine r_iastore (i := 1) (vs' := [_, _, _, _]) (H1 := [_, _, _]) i1_24 rfl ⟨by decide, by decide⟩ (ltB rfl) rfl rfl ?_
  refine r_iinc (ls' := [_, _, _]) i1_25 rfl rfl ?_
  refine r_goto i1_28 ?_
  refine r_iloadN i1_13 rfl ?_
  refine r_iloadN i1_14 rfl ?_
  refine r_icF i1_15 (XT.ii_ge_f (by decide)) ?_
  refine r_aloadN i1_18 rfl rfl ?_
  refine s1_19 hw rfl ?_
  refine r_iloadN i1_22 rfl ?_
  refine r_iloadN i1_23 rfl ?_
  refine r_iastore (i := 2) (vs' := [_, _, _, _]) (H1 := [_, _, _]) i1_24 rfl ⟨by decide, by decide⟩ (ltB rfl) rfl rfl ?_
  refine r_iinc (ls' := [_, _, _]) i1_25 rfl rfl ?_
  refine r_goto i1_28 ?_
  refine r_iloadN i1_13 rfl ?_
  refine r_iloadN i1_14 rfl ?_
  refine r_icF i1_15 (XT.ii_ge_f (by decide)) ?_
  refine r_aloadN i1_18 rfl rfl ?_
  refine s1_19 hw rfl ?_
  refine r_iloadN i1_22 rfl ?_
  refine r_iloadN i1_23 rfl ?_
  refine r_iastore (i := 3) (vs' := [_, _, _, _]) (H1 := [_, _, _]) i1_24 rfl ⟨by decide, by decide⟩ (ltB rfl) rfl rfl ?_
  refine r_iinc (ls' := [_, _, _]) i1_25 rfl rfl ?_
  refine r_goto i1_28 ?_
  refine r_iloadN i1_13 rfl ?_
  refine r_iloadN i1_14 rfl ?_
  refine r_icT i1_15 (XT.ii_ge_t (by decide)) ?_
  exact r_return i1_31 rfl
theorem own_4 (x : Int32) : ∃ n : Fin 4, x &&& 3 = n.val.toInt32 := by
  have h := c_mask x 3 2 (by decide) (by decide)
  refine ⟨⟨(x &&& 3).toNatClampNeg, ?_⟩, ti_of (by omega)⟩
  simp only [Int32.toNatClampNeg]; omega
set_option maxHeartbeats 4000000 in
theorem law_runs {l : Launch} {Z : State} {a0 : Array Value} {n0 : Nat} (hw : HW Z a0) (p0 : Int32) (p1 : Int32) : RunsB K l Z n0 m0 0 [.val (.int p0), .val (.int p1), .unset, .unset, .unset, .unset, .unset, .unset, .unset, .unset, .unset, .unset, .unset, .unset, .unset, .unset] [] [] (some (.int 1)) 16 128 := by
  obtain ⟨a1, e1⟩ := own_4 p0
  obtain ⟨b1, e2⟩ := own_4 (XT.ushr p0 2)
  obtain ⟨a2, e3⟩ := own_4 (XT.ushr p0 4)
  obtain ⟨b2, e4⟩ := own_4 (XT.ushr p0 6)
  obtain ⟨a3, e5⟩ := own_4 (XT.ushr p0 8)
  obtain ⟨b3, e6⟩ := own_4 (XT.ushr p0 10)
  obtain ⟨q, e7⟩ := own_4 p1
  refine lift (fun _ kk => r_iconst i0_0 kk) ?_
  refine lift (fun _ kk => s0_1 hw (a := 0) (o := [.int 0, .int 0, .int 0, .int 0]) (H1 := [_]) (by decide) (by decide) rfl rfl rfl kk) ?_
  refine lift (fun _ kk => r_astoreN (ls' := [_, _, _, _, _, _, _, _, _, _, _, _, _, _, _, _]) i0_3 rfl rfl rfl kk) ?_
  refine lift (fun _ kk => r_aloadN i0_4 rfl rfl kk) ?_
  refine lift (fun _ kk => r_iconst i0_5 kk) ?_
  refine lift (fun _ kk => r_iconst i0_6 kk) ?_
  refine lift (fun _ kk => r_iastore (i := 0) (vs' := [_, _, _, _]) (H1 := [_]) i0_7 rfl ⟨by decide, by decide⟩ (ltB rfl) rfl rfl kk) ?_
  refine lift (fun _ kk => r_aloadN i0_8 rfl rfl kk) ?_
  refine lift (fun _ kk => r_iconst i0_9 kk) ?_
  refine lift (fun _ kk => r_iconst i0_10 kk) ?_
  refine lift (fun _ kk => r_iastore (i := 1) (vs' := [_, _, _, _]) (H1 := [_]) i0_11 rfl ⟨by decide, by decide⟩ (ltB rfl) rfl rfl kk) ?_
  refine lift (fun _ kk => r_aloadN i0_12 rfl rfl kk) ?_
  refine lift (fun _ kk => r_iconst i0_13 kk) ?_
  refine lift (fun _ kk => r_iconst i0_14 kk) ?_
  refine lift (fun _ kk => r_iastore (i := 2) (vs' := [_, _, _, _]) (H1 := [_]) i0_15 rfl ⟨by decide, by decide⟩ (ltB rfl) rfl rfl kk) ?_
  refine lift (fun _ kk => r_aloadN i0_16 rfl rfl kk) ?_
  refine lift (fun _ kk => r_iconst i0_17 kk) ?_
  refine lift (fun _ kk => r_iconst i0_18 kk) ?_
  refine lift (fun _ kk => r_iastore (i := 3) (vs' := [_, _, _, _]) (H1 := [_]) i0_19 rfl ⟨by decide, by decide⟩ (ltB rfl) rfl rfl kk) ?_
  refine lift (fun _ kk => r_iloadN i0_20 rfl kk) ?_
  refine lift (fun _ kk => r_iconst i0_21 kk) ?_
  refine lift (fun _ kk => r_iand i0_22 kk) ?_
  refine lift (fun _ kk => r_istoreN (ls' := [_, _, _, _, _, _, _, _, _, _, _, _, _, _, _, _]) i0_23 rfl rfl kk) ?_
  refine lift (fun _ kk => r_iloadN i0_24 rfl kk) ?_
  refine lift (fun _ kk => r_iconst i0_25 kk) ?_
  refine lift (fun _ kk => r_iushr i0_26 kk) ?_
  refine lift (fun _ kk => r_iconst i0_27 kk) ?_
  refine lift (fun _ kk => r_iand i0_28 kk) ?_
  refine lift (fun _ kk => r_istore (ls' := [_, _, _, _, _, _, _, _, _, _, _, _, _, _, _, _]) i0_29 rfl rfl kk) ?_
  refine lift (fun _ kk => r_iloadN i0_31 rfl kk) ?_
  refine lift (fun _ kk => r_iconst i0_32 kk) ?_
  refine lift (fun _ kk => r_iushr i0_33 kk) ?_
  refine lift (fun _ kk => r_iconst i0_34 kk) ?_
  refine lift (fun _ kk => r_iand i0_35 kk) ?_
  refine lift (fun _ kk => r_istore (ls' := [_, _, _, _, _, _, _, _, _, _, _, _, _, _, _, _]) i0_36 rfl rfl kk) ?_
  refine lift (fun _ kk => r_iloadN i0_38 rfl kk) ?_
  refine lift (fun _ kk => r_bipush i0_39 kk) ?_
  refine lift (fun _ kk => r_iushr i0_41 kk) ?_
  refine lift (fun _ kk => r_iconst i0_42 kk) ?_
  refine lift (fun _ kk => r_iand i0_43 kk) ?_
  refine lift (fun _ kk => r_istore (ls' := [_, _, _, _, _, _, _, _, _, _, _, _, _, _, _, _]) i0_44 rfl rfl kk) ?_
  refine lift (fun _ kk => r_iloadN i0_46 rfl kk) ?_
  refine lift (fun _ kk => r_bipush i0_47 kk) ?_
  refine lift (fun _ kk => r_iushr i0_49 kk) ?_
  refine lift (fun _ kk => r_iconst i0_50 kk) ?_
  refine lift (fun _ kk => r_iand i0_51 kk) ?_
  refine lift (fun _ kk => r_istore (ls' := [_, _, _, _, _, _, _, _, _, _, _, _, _, _, _, _]) i0_52 rfl rfl kk) ?_
  refine lift (fun _ kk => r_iloadN i0_54 rfl kk) ?_
  refine lift (fun _ kk => r_bipush i0_55 kk) ?_
  refine lift (fun _ kk => r_iushr i0_57 kk) ?_
  refine lift (fun _ kk => r_iconst i0_58 kk) ?_
  refine lift (fun _ kk => r_iand i0_59 kk) ?_
  refine lift (fun _ kk => r_istore (ls' := [_, _, _, _, _, _, _, _, _, _, _, _, _, _, _, _]) i0_60 rfl rfl kk) ?_
  refine lift (fun _ kk => r_iloadN i0_62 rfl kk) ?_
  refine lift (fun _ kk => r_iconst i0_63 kk) ?_
  refine lift (fun _ kk => r_iand i0_64 kk) ?_
  refine lift (fun _ kk => r_istore (ls' := [_, _, _, _, _, _, _, _, _, _, _, _, _, _, _, _]) i0_65 rfl rfl kk) ?_
  refine lift (fun _ kk => s0_67 hw (a := 1) (H1 := [_, _]) rfl rfl kk) ?_
  refine lift (fun _ kk => r_dup i0_70 rfl kk) ?_
  refine lift (fun _ kk => r_iconst i0_71 kk) ?_
  refine lift (fun _ kk => s0_72 hw (H1 := [_, _, _]) (init_m hw) rfl (leB rfl) kk) ?_
  rw [e1, e2, e3, e4, e5, e6, e7]
  show RunsB K l Z n0 m0 75 _ _ [.inr (.int, im [0, 1, 2, 3]), .inl (0, [.ref 2]), .inr (.int, im [0, 1, 2, 3])] _ _ _
  obtain ⟨l1, M1, G1, k1, r1⟩ := join_m (l := l) (n0 := n0) hw (q0 := .inr (.int, im [0, 1, 2, 3])) (l0 := [0, 1, 2, 3]) (by decide) (by decide) a1 b1
  have N1 := merge_m (l := l) (n0 := n0) hw (q1 := .inl (0, [.ref 2])) (q2 := .inr (.int, im l1)) (r := [0, 1, 2, 3]) (by decide) a1 b1
  rw [show own_rl [0, 1, 2, 3] = [0, 1, 2, 3] by decide] at r1
  rw [← r1] at N1
  obtain ⟨l2, M2, G2, k2, r2⟩ := join_m (l := l) (n0 := n0) hw (q0 := .inr (.int, im (own_rl l1))) G1 k1 a2 b2
  have N2 := merge_m (l := l) (n0 := n0) hw (q1 := .inl (0, [.ref 2])) (q2 := .inr (.int, im l2)) (r := own_rl l1) (Bool.and_eq_true_iff.mp k1).2 a2 b2
  rw [← r2] at N2
  obtain ⟨l3, M3, G3, k3, r3⟩ := join_m (l := l) (n0 := n0) hw (q0 := .inr (.int, im (own_rl l2))) G2 k2 a3 b3
  have N3 := merge_m (l := l) (n0 := n0) hw (q1 := .inl (0, [.ref 2])) (q2 := .inr (.int, im l3)) (r := own_rl l2) (Bool.and_eq_true_iff.mp k2).2 a3 b3
  rw [← r3] at N3
  obtain ⟨hl, hg⟩ := own_Gl (Bool.and_eq_true_iff.mp k3).2
  generalize hR : own_rl l3 = R at *
  obtain ⟨s4, l4, t4, u4, G4, k4, x4, y4⟩ := own_two G3 k3 q
  obtain ⟨s5, l5, t5, u5, G5, k5, x5, y5⟩ := own_two G4 k4 0
  obtain ⟨s6, l6, t6, u6, G6, k6, x6, y6⟩ := own_two G5 k5 1
  obtain ⟨s7, l7, t7, u7, G7, k7, x7, y7⟩ := own_two G6 k6 2
  obtain ⟨s8, l8, t8, u8, G8, k8, x8, y8⟩ := own_two G7 k7 3
  have ql := q.isLt
  have vq := im_at (l := R) (i := q.val) (by omega)
  have v0 := im_at (l := R) (i := 0) (by omega)
  have v1 := im_at (l := R) (i := 1) (by omega)
  have v2 := im_at (l := R) (i := 2) (by omega)
  have v3 := im_at (l := R) (i := 3) (by omega)
  have z4 : s4 = own_g R q.val := y4.trans (by rw [hR])
  have z5 : s5 = own_g R 0 := y5.trans (by rw [x4, hR]; rfl)
  have z6 : s6 = own_g R 1 := y6.trans (by rw [x5, x4, hR]; rfl)
  have z7 : s7 = own_g R 2 := y7.trans (by rw [x6, x5, x4, hR]; rfl)
  have z8 : s8 = own_g R 3 := y8.trans (by rw [x7, x6, x5, x4, hR]; rfl)
  have hlen : ∀ l : List Nat, own_G l = true → (im l).length = 4 := fun l h => (im_len l).trans (own_Gl h).1
  refine lift (fun _ kk => r_astore (ls' := [_, _, _, _, _, _, _, _, _, _, _, _, _, _, _, _]) i0_75 rfl rfl rfl kk) ?_
  refine lift (fun _ kk => r_aload i0_77 rfl rfl kk) ?_
  refine lift (fun _ kk => r_iloadN i0_79 rfl kk) ?_
  refine lift (fun _ kk => r_iload i0_80 rfl kk) ?_
  refine lift (fun _ kk => s0_82 hw (H1 := [_, _, _]) rfl (M1) rfl (leB rfl) kk) ?_
  refine lift (fun _ kk => r_aloadN i0_85 rfl rfl kk) ?_
  refine lift (fun _ kk => r_iloadN i0_86 rfl kk) ?_
  refine lift (fun _ kk => r_iload i0_87 rfl kk) ?_
  refine lift (fun _ kk => s0_89 hw (H1 := [_, _, _]) (N1) rfl (leB rfl) kk) ?_
  refine lift (fun _ kk => r_aload i0_92 rfl rfl kk) ?_
  refine lift (fun _ kk => r_iload i0_94 rfl kk) ?_
  refine lift (fun _ kk => r_iload i0_96 rfl kk) ?_
  refine lift (fun _ kk => s0_98 hw (H1 := [_, _, _]) rfl (M2) rfl (leB rfl) kk) ?_
  refine lift (fun _ kk => r_aloadN i0_101 rfl rfl kk) ?_
  refine lift (fun _ kk => r_iload i0_102 rfl kk) ?_
  refine lift (fun _ kk => r_iload i0_104 rfl kk) ?_
  refine lift (fun _ kk => s0_106 hw (H1 := [_, _, _]) (N2) rfl (leB rfl) kk) ?_
  refine lift (fun _ kk => r_aload i0_109 rfl rfl kk) ?_
  refine lift (fun _ kk => r_iload i0_111 rfl kk) ?_
  refine lift (fun _ kk => r_iload i0_113 rfl kk) ?_
  refine lift (fun _ kk => s0_115 hw (H1 := [_, _, _]) rfl (M3) rfl (leB rfl) kk) ?_
  refine lift (fun _ kk => r_aloadN i0_118 rfl rfl kk) ?_
  refine lift (fun _ kk => r_iload i0_119 rfl kk) ?_
  refine lift (fun _ kk => r_iload i0_121 rfl kk) ?_
  refine lift (fun _ kk => s0_123 hw (H1 := [_, _, _]) (N3) rfl (leB rfl) kk) ?_
  refine lift (fun _ kk => r_aload i0_126 rfl rfl kk) ?_
  refine lift (fun _ kk => r_iload i0_128 rfl kk) ?_
  refine lift (fun _ kk => s0_130 hw (H1 := [_, _, _]) rfl (root_m hw G3 ql t4) rfl (leB rfl) kk) ?_
  refine lift (fun _ kk => r_aloadN i0_133 rfl rfl kk) ?_
  refine lift (fun _ kk => r_iload i0_134 rfl kk) ?_
  refine lift (fun _ kk => r_iaload i0_136 rfl (ti_ix (by omega)) vq kk) ?_
  refine lift (fun _ kk => r_icF i0_137 (XT.ii_ne_f (congrArg Nat.toInt32 z4)) kk) ?_
  refine lift (fun _ kk => r_iconst i0_140 kk) ?_
  refine lift (fun _ kk => r_goto i0_141 kk) ?_
  refine lift (fun _ kk => r_istore (ls' := [_, _, _, _, _, _, _, _, _, _, _, _, _, _, _, _]) i0_145 rfl rfl kk) ?_
  refine lift (fun _ kk => r_aload i0_147 rfl rfl kk) ?_
  refine lift (fun _ kk => r_iconst i0_149 kk) ?_
  refine lift (fun _ kk => s0_150 hw (H1 := [_, _, _]) rfl (root_m hw G4 (i := 0) (by decide) t5) rfl (leB rfl) kk) ?_
  refine lift (fun _ kk => r_istore (ls' := [_, _, _, _, _, _, _, _, _, _, _, _, _, _, _, _]) i0_153 rfl rfl kk) ?_
  refine lift (fun _ kk => r_aload i0_155 rfl rfl kk) ?_
  refine lift (fun _ kk => r_iconst i0_157 kk) ?_
  refine lift (fun _ kk => s0_158 hw (H1 := [_, _, _]) rfl (root_m hw G5 (i := 1) (by decide) t6) rfl (leB rfl) kk) ?_
  refine lift (fun _ kk => r_istore (ls' := [_, _, _, _, _, _, _, _, _, _, _, _, _, _, _, _]) i0_161 rfl rfl kk) ?_
  refine lift (fun _ kk => r_aload i0_163 rfl rfl kk) ?_
  refine lift (fun _ kk => r_iconst i0_165 kk) ?_
  refine lift (fun _ kk => s0_166 hw (H1 := [_, _, _]) rfl (root_m hw G6 (i := 2) (by decide) t7) rfl (leB rfl) kk) ?_
  refine lift (fun _ kk => r_istore (ls' := [_, _, _, _, _, _, _, _, _, _, _, _, _, _, _, _]) i0_169 rfl rfl kk) ?_
  refine lift (fun _ kk => r_aload i0_171 rfl rfl kk) ?_
  refine lift (fun _ kk => r_iconst i0_173 kk) ?_
  refine lift (fun _ kk => s0_174 hw (H1 := [_, _, _]) rfl (root_m hw G7 (i := 3) (by decide) t8) rfl (leB rfl) kk) ?_
  refine lift (fun _ kk => r_istore (ls' := [_, _, _, _, _, _, _, _, _, _, _, _, _, _, _, _]) i0_177 rfl rfl kk) ?_
  refine lift (fun _ kk => r_iload i0_179 rfl kk) ?_
  refine lift (fun _ kk => r_ifF i0_181 (XT.i0_eq_f (by decide)) kk) ?_
  refine lift (fun _ kk => r_iload i0_184 rfl kk) ?_
  refine lift (fun _ kk => r_aloadN i0_186 rfl rfl kk) ?_
  refine lift (fun _ kk => r_iconst i0_187 kk) ?_
  refine lift (fun _ kk => r_iaload i0_188 rfl ⟨by decide, by decide⟩ v0 kk) ?_
  refine lift (fun _ kk => r_icF i0_189 (XT.ii_ne_f (congrArg Nat.toInt32 z5)) kk) ?_
  refine lift (fun _ kk => r_iload i0_192 rfl kk) ?_
  refine lift (fun _ kk => r_aloadN i0_194 rfl rfl kk) ?_
  refine lift (fun _ kk => r_iconst i0_195 kk) ?_
  refine lift (fun _ kk => r_iaload i0_196 rfl ⟨by decide, by decide⟩ v1 kk) ?_
  refine lift (fun _ kk => r_icF i0_197 (XT.ii_ne_f (congrArg Nat.toInt32 z6)) kk) ?_
  refine lift (fun _ kk => r_iload i0_200 rfl kk) ?_
  refine lift (fun _ kk => r_aloadN i0_202 rfl rfl kk) ?_
  refine lift (fun _ kk => r_iconst i0_203 kk) ?_
  refine lift (fun _ kk => r_iaload i0_204 rfl ⟨by decide, by decide⟩ v2 kk) ?_
  refine lift (fun _ kk => r_icF i0_205 (XT.ii_ne_f (congrArg Nat.toInt32 z7)) kk) ?_
  refine lift (fun _ kk => r_iload i0_208 rfl kk) ?_
  refine lift (fun _ kk => r_aloadN i0_210 rfl rfl kk) ?_
  refine lift (fun _ kk => r_iconst i0_211 kk) ?_
  refine lift (fun _ kk => r_iaload i0_212 rfl ⟨by decide, by decide⟩ v3 kk) ?_
  refine lift (fun _ kk => r_icF i0_213 (XT.ii_ne_f (congrArg Nat.toInt32 z8)) kk) ?_
  refine lift (fun _ kk => r_iconst i0_216 kk) ?_
  refine lift (fun _ kk => r_goto i0_217 kk) ?_
  exact ⟨_, r_zreturn i0_221 rfl (by first | decide | simp), leB rfl, own_sz (by rw [im_len]; exact hl) (hlen _ G8)⟩
set_option maxRecDepth 65536 in
set_option maxHeartbeats 40000000 in
theorem comes_1 {Post : Tables → Env → Array Value → State → Outcome → State → Prop} (hpost : ∀ tb e args s v u, (limb_1_1.after args s (.returned v) u = true ∧ limb_1_2.after args s (.returned v) u = true ∧ True) → FrameEnd s (.returned v) u (Jvm.fieldLocs frame_1_writes args s ++ Jvm.arrayLocs frame_1_arrays args s ++ Jvm.staticLocs frame_1_statics s) 16 128 → Post tb e args s (.returned v) u) :
    ArmFor flags0 classFile x code maxLocals ret World_1 tables_1 room_1 Calls_1 rest_1 Pre_1 Post := by
  intro l hfl _ _ p e ha hc hk s m args below hf hA hF happ hP
  obtain ⟨hcalls, hrest, hpre⟩ := hP
  obtain ⟨-, -, -, hnamed, -, -, -, hat⟩ := (Spec.applies_iff hf).mp happ
  obtain ⟨hg, hn⟩ := and_e (Cond.before_iff.mp (show (Jvm.Cond.and given_1 narrow_1).before args s = true from hpre))
  obtain ⟨hcount, hk0⟩ := and_e hg
  obtain ⟨w0, w1, rfl⟩ : ∃ w0 w1 : Value, args = #[w0, w1] := by
    have hs : args.size = 2 := by simpa [Cond.value, given_1] using hcount
    obtain ⟨L⟩ := args
    match L, hs with
    | [w0, w1], _ => exact ⟨w0, w1, rfl⟩
  have hw : HW s _ := fun d (hd : d ∈ tables_1) => atoms_spec (ws := Jvm.Cond.code x code maxLocals ret :: tables_1) hat d (List.mem_cons_of_mem _ hd)
  replace hk0 := and_e hk0
  obtain ⟨p0, e0⟩ := is_v hk0.1
  obtain rfl : w0 = (.int p0) := Option.some.inj e0
  have hk1 := hk0.2
  obtain ⟨p1, e1⟩ := is_v hk1
  obtain rfl : w1 = (.int p1) := Option.some.inj e1
  obtain ⟨H', k, hcl, hsl⟩ := law_runs (l := l) (n0 := s.heap.size) hw p0 p1
  obtain ⟨n, o, h1, h2, h3, _, L, rfl, ⟨rfl, -, N⟩, hq⟩ := met_gen (mi := m0) (as := [.int p0, .int p1]) tables_1 room_1 pf0 rfl (fun h => nomatch h) k (by decide) (by decide) (by show H'.length ≤ 16 + 0; omega) (by show szs K H' ≤ 128 + 0; omega) (h := s.heap) ⟨rfl, fun k o h => by simp at h⟩ p e ha hc hk s m _ below hf ((Spec.applies_iff_loose hf).mp happ).1 ⟨rfl, State.Warmed39.refl s, rfl⟩ trivial
  refine ⟨n, _, h1, h2, h3, hpost _ _ _ _ _ _ ⟨Cond.after_iff.mpr rfl, Cond.after_iff.mpr (eq_i res_at (Term.int_eval (1)) rfl), trivial⟩ ⟨hq.1, hq.2.1, (hq.2.2.sift fun y hy => Or.inr (N y hy)).mono (by show H'.length - 0 ≤ _; omega) (by show szs K H' - 0 ≤ _; omega)⟩⟩
theorem main_1_1 : Claimed_1_1 := comes_1 fun _ _ _ _ _ _ h hF => ⟨h.1, hF⟩
theorem main_1_2 : Claimed_1_2 := comes_1 fun _ _ _ _ _ _ h hF => ⟨h.2.1, hF⟩
end Jvm.Pilot.@@N@@
namespace Jvm.Pilot.@@N@@
open Jvm Jvm.ClassFile Sem Op Lib Jvm.Free Jvm.Stand Jvm.Pilot.@@N@@.Jvm.D
/-! MADE BY PROGRAM (witnessworld.py) out of the Statement's table words and the real class files: 9 classes; the members and pool entries that the words name. The judged class is class 1, her method 2. -/
namespace start1
open Jvm.ClassFile
def u (s : String) : CpInfo := .utf8 (stringToUtf16 s)
/-- a pool by its gaps: so many unusable entries, then the entry; so many at the end -/
def gap : Nat → List CpInfo → List CpInfo
  | 0, r => r
  | n + 1, r => .unusable :: gap n r
def poolList (es : List (Nat × CpInfo)) (last : Nat) : List CpInfo := es.foldr (fun e r => gap e.1 (e.2 :: r)) (gap last [])
def pool (es : List (Nat × CpInfo)) (last : Nat) : Array CpInfo := ⟨poolList es last⟩
def fileOf (pool : Array CpInfo) (this : Nat) (attrs : Array Attribute := #[]) (ms : Array MethodInfo := #[]) (fl : Nat := 33) (sup : Nat := 0) (ifs : Array Nat := #[]) (fds : Array FieldInfo := #[]) : ClassFile where
  minorVersion := 0
  majorVersion := 65
  constantPool := pool
  accessFlags := fl
  thisClass := this
  superClass := sup
  interfaces := ifs
  fields := fds
  methods := ms
  attributes := attrs
def plain (name : String) (sup : Option ClassId) : Class where
  name := name
  kind := .ordinary
  loader := none
  accessFlags := 33
  super := sup
  interfaces := #[]
  cf := none
  fields := #[]
  methods := #[]
  instanceTypes := #[]
  staticTypes := #[]
  resolved := #[]
  callSites := []
  init := .initialized
  statics := none
  mirror := none

def pool0 : Array CpInfo := pool [(5, u "<init>"), (0, u "()V"), (1, .class_ 10), (1, u "java/lang/Object")] 113

def k0c0 : Code := { maxStack := 0, maxLocals := 1, code := object_method_1_code, exceptionTable := #[], attributes := #[] }
def k0m0 : Method := { name := "<init>", desc := "()V", sig := { parameters := [], returnType := none }, accessFlags := 1, code := some k0c0 }
/-- java/lang/Object -/
def k0 : Class := { plain "java/lang/Object" none with
  accessFlags := 33
  interfaces := #[]
  cf := some (fileOf pool0 8 #[] #[{ accessFlags := 1, nameIndex := 5, descriptorIndex := 6, attributes := #[] }] 33 0 #[] #[])
  fields := #[]
  methods := #[k0m0]
  instanceTypes := #[]
  staticTypes := #[]
  resolved := Array.replicate 124 none
  statics := none }

def pool1 : Array CpInfo := pool [(2, .class_ 4), (1, u "java/lang/Object"), (0, u "<init>"), (0, u "()V"), (0, .class_ 8), (0, u "com/example/alike2/alike2/search/Partition"), (0, .methodref 7 10), (0, .nameAndType 5 11), (0, u "(I)V"), (0, .methodref 7 13), (0, .nameAndType 14 15), (0, u "join"), (0, u "(II)V"), (0, .methodref 17 18), (0, .class_ 19), (0, .nameAndType 20 21), (0, u "com/example/alike2/alike2/search/PartitionRootPinLaw"), (0, u "merge"), (0, u "([III)V"), (0, .methodref 7 23), (0, .nameAndType 24 25), (0, u "root"), (0, u "(I)I"), (3, u "law"), (0, u "(II)Z")] 4

def k1m0 : Method := { name := "<init>", desc := "()V", sig := { parameters := [], returnType := none }, accessFlags := 1, code := none }
def k1c1 : Code := { maxStack := 3, maxLocals := 5, code := method_2_code, exceptionTable := #[], attributes := #[] }
def k1m1 : Method := { name := "merge", desc := "([III)V", sig := { parameters := [(.array .int), .int, .int], returnType := none }, accessFlags := 10, code := some k1c1 }
def k1c2 : Code := { maxStack := 3, maxLocals := 16, code := code, exceptionTable := #[], attributes := #[] }
def k1m2 : Method := { name := "law", desc := "(II)Z", sig := { parameters := [.int, .int], returnType := some .boolean }, accessFlags := 9, code := some k1c2 }
/-- com/example/alike2/alike2/search/PartitionRootPinLaw -/
def k1 : Class := { plain "com/example/alike2/alike2/search/PartitionRootPinLaw" (some 0) with
  accessFlags := 49
  interfaces := #[]
  cf := some (fileOf pool1 17 #[] #[{ accessFlags := 1, nameIndex := 5, descriptorIndex := 6, attributes := #[] }, { accessFlags := 10, nameIndex := 20, descriptorIndex := 21, attributes := #[] }, { accessFlags := 9, nameIndex := 29, descriptorIndex := 30, attributes := #[] }] 49 2 #[] #[])
  fields := #[]
  methods := #[k1m0, k1m1, k1m2]
  instanceTypes := #[]
  staticTypes := #[]
  resolved := Array.replicate 35 none
  statics := none }

def pool2 : Array CpInfo := pool [(1, .methodref 2 3), (0, .class_ 4), (0, .nameAndType 5 6), (0, u "java/lang/Object"), (0, u "<init>"), (0, u "()V"), (0, .fieldref 8 9), (0, .class_ 10), (0, .nameAndType 11 12), (0, u "com/example/alike2/alike2/search/Partition"), (0, u "parent"), (0, u "[I"), (0, .methodref 8 14), (0, .nameAndType 15 16), (0, u "root"), (0, u "(I)I"), (0, u "(I)V"), (3, u "join"), (0, u "(II)V")] 2

def k2c0 : Code := { maxStack := 3, maxLocals := 3, code := prog_57_method_1_code, exceptionTable := #[], attributes := #[] }
def k2m0 : Method := { name := "<init>", desc := "(I)V", sig := { parameters := [.int], returnType := none }, accessFlags := 0, code := some k2c0 }
def k2c1 : Code := { maxStack := 4, maxLocals := 3, code := prog_57_method_2_code, exceptionTable := #[], attributes := #[] }
def k2m1 : Method := { name := "join", desc := "(II)V", sig := { parameters := [.int, .int], returnType := none }, accessFlags := 0, code := some k2c1 }
def k2c2 : Code := { maxStack := 5, maxLocals := 3, code := prog_57_method_3_code, exceptionTable := #[], attributes := #[] }
def k2m2 : Method := { name := "root", desc := "(I)I", sig := { parameters := [.int], returnType := some .int }, accessFlags := 0, code := some k2c2 }
/-- com/example/alike2/alike2/search/Partition -/
def k2 : Class := { plain "com/example/alike2/alike2/search/Partition" (some 0) with
  accessFlags := 32
  interfaces := #[]
  cf := some (fileOf pool2 8 #[] #[{ accessFlags := 0, nameIndex := 5, descriptorIndex := 17, attributes := #[] }, { accessFlags := 0, nameIndex := 21, descriptorIndex := 22, attributes := #[] }, { accessFlags := 0, nameIndex := 15, descriptorIndex := 16, attributes := #[] }] 32 2 #[] #[{ accessFlags := 18, nameIndex := 11, descriptorIndex := 12, attributes := #[] }])
  fields := #[{ name := "parent", type := (.array .int), accessFlags := 18, slot := 0, constantValue := 0 }]
  methods := #[k2m0, k2m1, k2m2]
  instanceTypes := #[(.array .int)]
  staticTypes := #[]
  resolved := Array.replicate 25 none
  statics := none }

def pool3 : Array CpInfo := pool [(1, u "java/lang/Cloneable"), (0, .class_ 1), (0, u "java/lang/Object"), (0, .class_ 3)] 3

/-- java/lang/Cloneable -/
def k3 : Class := { plain "java/lang/Cloneable" (some 0) with
  accessFlags := 1537
  interfaces := #[]
  cf := some (fileOf pool3 2 #[] #[] 1537 4 #[] #[])
  fields := #[]
  methods := #[]
  instanceTypes := #[]
  staticTypes := #[]
  resolved := Array.replicate 8 none
  statics := none }

def pool4 : Array CpInfo := pool [(1, u "java/io/Serializable"), (0, .class_ 1), (0, u "java/lang/Object"), (0, .class_ 3)] 3

/-- java/io/Serializable -/
def k4 : Class := { plain "java/io/Serializable" (some 0) with
  accessFlags := 1537
  interfaces := #[]
  cf := some (fileOf pool4 2 #[] #[] 1537 4 #[] #[])
  fields := #[]
  methods := #[]
  instanceTypes := #[]
  staticTypes := #[]
  resolved := Array.replicate 8 none
  statics := none }

/-- the primitive byte -/
def k5 : Class := { plain "byte" none with kind := .primitive 'B', accessFlags := 0x411 }
/-- [B -/
def k6 : Class := { plain "[B" (some 0) with kind := .array 5 .byte, interfaces := #[3, 4], accessFlags := 1041 }

/-- the primitive int -/
def k7 : Class := { plain "int" none with kind := .primitive 'I', accessFlags := 0x411 }
/-- [I -/
def k8 : Class := { plain "[I" (some 0) with kind := .array 7 .int, interfaces := #[3, 4], accessFlags := 1041 }

def heap : Heap := #[]
def classes : Array Class := #[k0, k1, k2, k3, k4, k5, k6, k7, k8]
def interned : List (Array UInt16 × Addr) := []
def slotsUsed : Nat := 0
def theMethod : MethodId := ⟨1, 2⟩
def args0 : Array Value := #[.int 5, .int 300]
def aboutOver (below : List Frame) : State where
  vm := { classes := classes, interned := interned.toArray }
  heap := heap
  slotsUsed := slotsUsed
  threads := #[{ frames := .invoking theMethod args0 :: below }]
def below0 : List Frame := [.native { method := ⟨0, 0⟩, args := #[] }]
def about1 : State := aboutOver below0
def p0 : Program := .bare "" "" ""
def e0 : Env := launch0.env 0 0 0
theorem w_frames : about1.frames = Frame.invoking theMethod args0 :: below0 := rfl
set_option maxRecDepth 65536 in
theorem w_args : argsFit about1.vm theMethod args0 = true := by decide +kernel
set_option maxRecDepth 65536 in
theorem w_heap : heapFits about1 = true := by decide +kernel
set_option maxRecDepth 65536 in
theorem w_runnable : about1.curStatus? = some .runnable := by decide +kernel
set_option maxRecDepth 65536 in
theorem w_alone : about1.alone = true := by decide +kernel
set_option maxRecDepth 65536 in
theorem w_named : about1.methodNamed? x = some theMethod := by decide +kernel
set_option maxRecDepth 65536 in
theorem w_hears : about1.hears theMethod below0 = true := by decide +kernel
set_option maxRecDepth 65536 in
theorem w_ripe : about1.ripe theMethod args0 below0 = true := by decide +kernel
theorem w_running : about1.status = .running := rfl
set_option maxRecDepth 65536 in
theorem w_room : about1.hasRoom e0.platform room_1 = true :=
  launch0.hasRoom_least _ room_1 (by decide +kernel) (by decide +kernel) (by decide +kernel) (by decide +kernel) (by decide +kernel) (by decide +kernel)
theorem allAtoms_all (ts : List Jvm.Cond) (a : Array Jvm.Value) (st : Jvm.State) : (allAtoms ts).before a st = ts.all (fun c => c.before a st) := by
  induction ts with
  | nil => rfl
  | cons c t ih =>
    show (Jvm.Cond.and c (allAtoms t)).before a st = _
    rw [Jvm.Cond.before_and, ih, List.all_cons]
def words1 : List Jvm.Cond := Jvm.Cond.code x code maxLocals ret :: tables_1
/-- a 'code' word, met by the world's own term for the bytes: nothing is compared byte by byte -/
theorem code_word {y : MethodName} {bytes : ByteArray} {mx : Nat} {rt : Option FieldType} {a : Array Value} {s : State} {m : MethodId} {meth : Method} {c : Code} (h1 : s.methodNamed? y = some m) (h2 : s.vm.method? m = some meth) (h3 : meth.code = some c) (h4 : c.code = bytes)
    (h5 : (c.maxLocals == mx && c.exceptionTable.isEmpty && decide (c.maxStack ≤ mostOperands) && decide (meth.sig.returnType = rt) && !meth.locks && decide (parseMethodDescriptor y.desc = some meth.sig)) = true) : (Jvm.Cond.code y bytes mx rt).before a s = true := by
  simp only [Bool.and_eq_true, beq_iff_eq, Bool.not_eq_true', decide_eq_true_eq] at h5
  obtain ⟨⟨⟨⟨⟨g1, g2⟩, g3⟩, g4⟩, g5⟩, g6⟩ := h5
  simp [Cond.before, Cond.holds, Cond.value, h1, h2, h3, h4, g1, g2, g3, g4, g5, g6]
def isCode : Jvm.Cond → Bool
  | .code _ _ _ _ => true
  | _ => false
theorem all_split {L : List Jvm.Cond} {P : Jvm.Cond → Bool} (h1 : L.all (fun c => isCode c || P c) = true) (h2 : ∀ c ∈ L.filter isCode, P c = true) : L.all P = true := by
  refine List.all_eq_true.mpr fun c hc => ?_
  have h := List.all_eq_true.mp h1 c hc
  rcases Bool.eq_false_or_eq_true (isCode c) with hi | hi
  · exact h2 c (List.mem_filter.mpr ⟨hc, hi⟩)
  · simpa [hi] using h
set_option maxRecDepth 65536 in
theorem w_c0 : (Jvm.Cond.code x code maxLocals ret).before args0 about1 = true := code_word (m := ⟨1, 2⟩) (meth := k1m2) (c := k1c2) (by decide +kernel) rfl rfl rfl (by decide +kernel)
set_option maxRecDepth 65536 in
theorem w_c1 : (Jvm.Cond.code ({ cls := "com/example/alike2/alike2/search/Partition", name := "<init>", desc := "(I)V" } : Jvm.MethodName) prog_57_method_1_code (3 : Nat) (Option.none : Option Jvm.ClassFile.FieldType)).before args0 about1 = true := code_word (m := ⟨2, 0⟩) (meth := k2m0) (c := k2c0) (by decide +kernel) rfl rfl rfl (by decide +kernel)
set_option maxRecDepth 65536 in
theorem w_c2 : (Jvm.Cond.code ({ cls := "java/lang/Object", name := "<init>", desc := "()V" } : Jvm.MethodName) object_method_1_code (1 : Nat) (Option.none : Option Jvm.ClassFile.FieldType)).before args0 about1 = true := code_word (m := ⟨0, 0⟩) (meth := k0m0) (c := k0c0) (by decide +kernel) rfl rfl rfl (by decide +kernel)
set_option maxRecDepth 65536 in
theorem w_c3 : (Jvm.Cond.code ({ cls := "com/example/alike2/alike2/search/Partition", name := "join", desc := "(II)V" } : Jvm.MethodName) prog_57_method_2_code (3 : Nat) (Option.none : Option Jvm.ClassFile.FieldType)).before args0 about1 = true := code_word (m := ⟨2, 1⟩) (meth := k2m1) (c := k2c1) (by decide +kernel) rfl rfl rfl (by decide +kernel)
set_option maxRecDepth 65536 in
theorem w_c4 : (Jvm.Cond.code ({ cls := "com/example/alike2/alike2/search/Partition", name := "root", desc := "(I)I" } : Jvm.MethodName) prog_57_method_3_code (3 : Nat) (Option.some Jvm.ClassFile.FieldType.int)).before args0 about1 = true := code_word (m := ⟨2, 2⟩) (meth := k2m2) (c := k2c2) (by decide +kernel) rfl rfl rfl (by decide +kernel)
set_option maxRecDepth 65536 in
theorem w_c5 : (Jvm.Cond.code ({ cls := "com/example/alike2/alike2/search/PartitionRootPinLaw", name := "merge", desc := "([III)V" } : Jvm.MethodName) method_2_code (5 : Nat) (Option.none : Option Jvm.ClassFile.FieldType)).before args0 about1 = true := code_word (m := ⟨1, 1⟩) (meth := k1m1) (c := k1c1) (by decide +kernel) rfl rfl rfl (by decide +kernel)
def codes1 : List Jvm.Cond := [Jvm.Cond.code x code maxLocals ret, Jvm.Cond.code ({ cls := "com/example/alike2/alike2/search/Partition", name := "<init>", desc := "(I)V" } : Jvm.MethodName) prog_57_method_1_code (3 : Nat) (Option.none : Option Jvm.ClassFile.FieldType), Jvm.Cond.code ({ cls := "java/lang/Object", name := "<init>", desc := "()V" } : Jvm.MethodName) object_method_1_code (1 : Nat) (Option.none : Option Jvm.ClassFile.FieldType), Jvm.Cond.code ({ cls := "com/example/alike2/alike2/search/Partition", name := "join", desc := "(II)V" } : Jvm.MethodName) prog_57_method_2_code (3 : Nat) (Option.none : Option Jvm.ClassFile.FieldType), Jvm.Cond.code ({ cls := "com/example/alike2/alike2/search/Partition", name := "root", desc := "(I)I" } : Jvm.MethodName) prog_57_method_3_code (3 : Nat) (Option.some Jvm.ClassFile.FieldType.int), Jvm.Cond.code ({ cls := "com/example/alike2/alike2/search/PartitionRootPinLaw", name := "merge", desc := "([III)V" } : Jvm.MethodName) method_2_code (5 : Nat) (Option.none : Option Jvm.ClassFile.FieldType)]
set_option maxRecDepth 65536 in
theorem codes_eq : words1.filter isCode = codes1 := rfl
theorem w_codes : ∀ c ∈ words1.filter isCode, c.before args0 about1 = true := by
  rw [codes_eq]
  intro c hc
  simp only [codes1, List.mem_cons, List.not_mem_nil, or_false] at hc
  rcases hc with rfl | rfl | rfl | rfl | rfl | rfl
  · exact w_c0
  · exact w_c1
  · exact w_c2
  · exact w_c3
  · exact w_c4
  · exact w_c5
set_option maxRecDepth 65536 in
theorem w_t1 : (words1.take 24).all (fun c => isCode c || c.before args0 about1) = true := by decide +kernel
set_option maxRecDepth 65536 in
theorem w_t2 : (words1.drop 24).all (fun c => isCode c || c.before args0 about1) = true := by decide +kernel
theorem w_tables : (allAtoms (Jvm.Cond.code x code maxLocals ret :: tables_1)).before args0 about1 = true := by
  rw [allAtoms_all]
  show words1.all (fun c => c.before args0 about1) = true
  refine all_split ?_ w_codes
  rw [← List.take_append_drop 24 words1, List.all_append, w_t1, w_t2]
  rfl
set_option maxRecDepth 65536 in
theorem w_case : (Jvm.Cond.and given_1 narrow_1).before args0 about1 = true := by decide +kernel
theorem w_applies : (headSpec (Jvm.Cond.code x code maxLocals ret :: tables_1) room_1).applies x e0.platform about1 = true :=
  (Spec.applies_iff w_frames).mpr ⟨w_running, w_runnable, w_alone, w_named, w_hears, w_ripe, w_room, w_tables⟩
theorem atStart : AtStart classFile x code maxLocals ret World_1 tables_1 room_1 Calls_1 rest_1 Pre_1 launch0 p0 e0 about1 theMethod args0 below0 :=
  ⟨lists_1, trivial, launch0.admits_env _ _ _, launch0.least_env, fairChoices_fair.cas, fairChoices_fair.clock, w_frames, w_args, w_heap, w_applies, trivial, trivial, w_case⟩
end start1
theorem witness_1 : WitnessClaimed_1 := ⟨start1.p0, start1.e0, start1.about1, start1.theMethod, start1.args0, start1.below0, start1.atStart⟩
end Jvm.Pilot.@@N@@
