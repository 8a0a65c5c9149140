import JvmDerived
import JvmDerived.Pilot.@@N@@Statement
import JvmDerived.Pilot.@@N@@Code
set_option linter.unusedVariables false
set_option linter.unusedSimpArgs false
namespace Jvm.Pilot.@@N@@
open Jvm Jvm.ClassFile Sem Op Lib Jvm.Free Jvm.Stand Jvm.LawKit Jvm.RoadKit Bundle Jvm.Pilot.@@N@@.Jvm.D
/-! ## A small logic of runs over a virtual heap (own work, the same text in every proof of this seat)
References count from the first cell that the law makes (n0): `shV n0`. `Ob`: an object by its class (a place in K) and its laid fields, or an array by its component type and values.
`Runs K l Z n0 mi pc ls st H v H'`: whoever stands in the method mi at pc with locals ls, stack st and virtual heap H comes out returning v with heap H'. -/
def shV (n0 : Nat) : Value → Value
  | .ref a => .ref (n0 + a)
  | v => v
def shS (n0 : Nat) : Slot → Slot
  | .val v => .val (shV n0 v)
  | s => s
abbrev Ob : Type := (Nat × List Value) ⊕ (FieldType × List Value)
/-- a field: who declares it, its name, its descriptor, its type -/
abbrev FI : Type := String × String × String × FieldType
/-- a class: its name, the number of its slots, its fields -/
abbrev CI : Type := String × Nat × List FI
/-- a method: name, bytes, max_locals, return type; frames and words that its callees need -/
abbrev MI : Type := MethodName × ByteArray × Nat × Option FieldType × Nat × Nat
def osz (K : List CI) : Ob → Nat
  | .inl (c, _) => ((K[c]?).map (fun ci => ci.2.1)).getD 0
  | .inr (_, vs) => vs.length
def szs (K : List CI) (H : List Ob) : Nat := (H.map (osz K)).sum
def OOk (K : List CI) (Z : State) (n0 : Nat) (h : Heap) (a : Addr) : Ob → Prop
  | .inl (c, vs) => ∃ ci, K[c]? = some ci ∧ Exa Z h a ci.1 ∧ ∀ (i : Nat) (f : FI) (v : Value), ci.2.2[i]? = some f → vs[i]? = some v → Fld Z h a f.1 f.2.1 f.2.2.1 (shV n0 v)
  | .inr (ty, vs) => ∃ cl, Arr Z h a cl ty ∧ cl.slots.size = vs.length ∧ vs.length < 2 ^ 31 ∧ ∀ (i : Nat) (v : Value), vs[i]? = some v → cl.slots[i]? = some (shV n0 v) ∧ fits ty v = true
def Rel (K : List CI) (Z : State) (n0 : Nat) (H : List Ob) (h : Heap) : Prop := h.size = n0 + H.length ∧ ∀ (k : Nat) (o : Ob), H[k]? = some o → OOk K Z n0 h (n0 + k) o
def KOk (K : List CI) (Z : State) (a0 : Array Value) : Prop := ∀ (k : Nat) (ci : CI), K[k]? = some ci → (Jvm.Cond.instantiable ci.1 ci.2.1).before a0 Z = true ∧ (∀ f ∈ ci.2.2, Laid Z a0 ci.1 f.1 f.2.1 f.2.2.1 ∧ parseFieldDescriptor f.2.2.1 = some f.2.2.2) ∧ ci.2.2.Pairwise (fun f g => f.2.1 ≠ g.2.1)
theorem cat_sh (n0 : Nat) (v : Value) : (shV n0 v).category = v.category := by cases v <;> rfl
theorem cats_sh (n0 : Nat) (st : List Value) : ((st.map (shV n0)).map fun v => v.category).sum = (st.map fun v => v.category).sum := by
  rw [List.map_map]; congr 1; exact List.map_congr_left fun v _ => cat_sh n0 v
theorem laid_map (n0 : Nat) : ∀ as : List Value, Jvm.Sym.laidSlots (as.map (shV n0)) = (Jvm.Sym.laidSlots as).map (shS n0)
  | [] => rfl
  | v :: vs => by
    simp only [List.map_cons, Jvm.Sym.laidSlots, cat_sh, laid_map n0 vs]
    split <;> rfl
theorem entry_eq (n0 : Nat) (m : MethodId) (as : List Value) (n : Nat) {ls : List Slot} (h : Jvm.Sym.laidSlots as ++ List.replicate (n - (Jvm.Sym.laidSlots as).length) .unset = ls) :
    entryFrame m (as.map (shV n0)).toArray n = mkF m 0 (ls.map (shS n0)).toArray [] := by
  have e : argsToLocals (as.map (shV n0)).toArray n = (ls.map (shS n0)).toArray := Array.toList_inj.mp (by
    rw [Jvm.Sym.argsToLocals_toList]
    simp only [laid_map, List.length_map, ← h, List.map_append, List.map_replicate]
    rfl)
  show ({ method := m, pc := 0, locals := argsToLocals (as.map (shV n0)).toArray n, stack := [], locked := none } : JFrame) = _
  rw [e]
theorem loc_at {n0 : Nat} {ls : List Slot} {k : Nat} {s : Slot} (h : ls[k]? = some s) : ((ls.map (shS n0)).toArray)[k]? = some (shS n0 s) := by
  simp [h]
/-- the place k may take a value of one word -/
def P1 (ls : List Slot) (k : Nat) : Bool := match ls[k]? with | some .unset => true | some (.val w) => w.category == 1 | _ => false
/-- the places k and k + 1 may take a value of two words -/
def P2 (ls : List Slot) (k : Nat) : Bool := match ls[k]?, ls[k + 1]? with | some (.val w), some .second => w.category == 2 | _, _ => P1 ls k && P1 ls (k + 1)
theorem P1_slot {ls : List Slot} {k : Nat} (h : P1 ls k = true) : ∃ s, ls[k]? = some s ∧ (match s with | .second => False | .val old => old.category = 1 | .unset => True) := by
  unfold P1 at h
  split at h
  · rename_i e; exact ⟨_, e, trivial⟩
  · rename_i w e; exact ⟨_, e, by simpa using h⟩
  · cases h
theorem st1 {n0 : Nat} {ls ls' : List Slot} {k : Nat} {v : Value} (hp : P1 ls k = true) (hv : v.category = 1) (hs : ls.set k (.val v) = ls') : storeLocals (ls.map (shS n0)).toArray k (shV n0 v) = some (ls'.map (shS n0)).toArray := by
  obtain ⟨s, e, q⟩ := P1_slot hp
  rw [storeLocals_cat1 (loc_at (n0 := n0) e) (by rw [cat_sh]; exact hv) (by cases s <;> simp_all [shS, cat_sh]), ← hs]
  simp [List.map_set, shS]
theorem st2 {n0 : Nat} {ls ls' : List Slot} {k : Nat} {v : Value} (hp : P2 ls k = true) (hv : v.category = 2) (hs : (ls.set k (.val v)).set (k + 1) .second = ls') : storeLocals (ls.map (shS n0)).toArray k (shV n0 v) = some (ls'.map (shS n0)).toArray := by
  have key : ∃ x y, ls[k]? = some x ∧ ls[k + 1]? = some y ∧ ((Jvm.Free.Fl.Plain1 (shS n0 x) ∧ Jvm.Free.Fl.Plain1 (shS n0 y)) ∨ ((∃ old, shS n0 x = .val old ∧ old.category = 2) ∧ shS n0 y = .second)) := by
    unfold P2 at hp
    split at hp
    · rename_i w e1 e2
      exact ⟨_, _, e1, e2, Or.inr ⟨⟨_, rfl, by rw [cat_sh]; simpa using hp⟩, rfl⟩⟩
    · rw [Bool.and_eq_true] at hp
      obtain ⟨s, e, q⟩ := P1_slot hp.1
      obtain ⟨s', e', q'⟩ := P1_slot hp.2
      exact ⟨s, s', e, e', Or.inl ⟨by cases s <;> simp_all [shS, cat_sh, Jvm.Free.Fl.Plain1], by cases s' <;> simp_all [shS, cat_sh, Jvm.Free.Fl.Plain1]⟩⟩
  obtain ⟨x, y, e1, e2, q⟩ := key
  rw [Jvm.Free.Fl.storeLocals_cat2 (loc_at (n0 := n0) e1) (loc_at (n0 := n0) e2) (by rw [cat_sh]; exact hv) q, ← hs]
  simp [List.map_set, shS]
def Runs (K : List CI) (l : Launch) (Z : State) (n0 : Nat) (mi : MI) (pc : Nat) (ls : List Slot) (st : List Value) (H : List Ob) (v : Option Value) (H' : List Ob) : Prop :=
  H.length ≤ H'.length ∧ szs K H ≤ szs K H' ∧
  ∀ (p : Program) (e : Env) (R : Room) (s : State) (m : MethodId) (args : Array Value) (below : List Frame) (meth : Method) (c : Code) (T : State) (locs : List Loc) (cells slots : Nat),
    Stand p l e R s m args below meth c T locs cells slots → p.tables.exec = Jvm.exec → Z.Warmed39 s.vm → c.code = mi.2.1 → c.maxLocals = mi.2.2.1 → meth.sig.returnType = mi.2.2.2.1 → s.vm.findClass mi.1.cls = some m.cls → meth.name = mi.1.name →
    Rel K Z n0 H T.heap → Fr n0 locs → mi.2.2.2.2.1 ≤ R.frames → mi.2.2.2.2.2 ≤ R.locals → s.heap.size + cells = n0 + H.length → cells + H'.length ≤ R.cells + H.length → slots + szs K H' ≤ R.slots + szs K H →
    ∃ (T' : State) (locs' : List Loc) (cells' slots' : Nat), Stand p l e R s m args below meth c T' locs' cells' slots' ∧ Rel K Z n0 H' T'.heap ∧ Fr n0 locs' ∧ s.heap.size + cells' = n0 + H'.length ∧ slots' + szs K H ≤ slots + szs K H' ∧
      ∀ fs, (∀ (f : JFrame) (acts : List Action), f.method = m → f.locked = none → f.entered = [] → (doReturn e (T'.setTop f) acts (v.map (shV n0))).1 = T'.setFrames fs) →
        Steps p.tables e below (T.setTop (mkF m pc (ls.map (shS n0)).toArray (st.map (shV n0)))) (T'.setFrames fs)
def rmOf (K : List CI) (mi : MI) (H H' : List Ob) : Room := { frames := mi.2.2.2.2.1, cells := H'.length - H.length, slots := szs K H' - szs K H, locals := mi.2.2.2.2.2 }
def Meets (K : List CI) (l : Launch) (Z : State) (n0 : Nat) (mi : MI) (as : List Value) (H : List Ob) (v : Option Value) (H' : List Ob) : Prop :=
  H.length ≤ H'.length ∧ szs K H ≤ szs K H' ∧ ∀ h, Rel K Z n0 H h →
    MetFree l mi.1 (head1 [Jvm.Cond.code mi.1 mi.2.1 mi.2.2.1 mi.2.2.2.1] (rmOf K mi H H')) (fun a U => a = (as.map (shV n0)).toArray ∧ Z.Warmed39 U.vm ∧ U.heap = h) (fun _ _ _ _ _ => True)
      (fun _ U o U' => ∃ w L, o = .returned w ∧ (w = v.map (shV n0) ∧ Rel K Z n0 H' U'.heap ∧ Fr n0 L) ∧ FrameEnd U o U' L (rmOf K mi H H').cells (rmOf K mi H H').slots)
theorem leB {a b : Nat} (h : Nat.ble a b = true) : a ≤ b := Nat.le_of_ble_eq_true h
theorem ltB {a b : Nat} (h : Nat.ble (a + 1) b = true) : a < b := Nat.le_of_ble_eq_true h
section Logic
variable {K : List CI} {l : Launch} {Z : State} {a0 : Array Value} {n0 : Nat} {mi : MI} {pc np tp : Nat} {ls ls' : List Slot} {st rest : List Value} {H H' H1 : List Ob} {v : Option Value}
/-- from a run of the body to the method's contract, in any room that holds it -/
theorem met_gen {as : List Value} (ws : List Jvm.Cond) (R0 : Room) (hp : plainFor mi.1 = true) (hls : Jvm.Sym.laidSlots as ++ List.replicate (mi.2.2.1 - (Jvm.Sym.laidSlots as).length) .unset = ls) (hv : mi.2.2.2.1 = none → v = none)
    (k : Runs K l Z n0 mi 0 ls [] H v H') (hfr : mi.2.2.2.2.1 ≤ R0.frames) (hlo : mi.2.2.2.2.2 ≤ R0.locals) (hcl : H'.length ≤ R0.cells + H.length) (hsl : szs K H' ≤ R0.slots + szs K H) {h : Heap} (hrel : Rel K Z n0 H h) :
    MetFree l mi.1 (head1 (Jvm.Cond.code mi.1 mi.2.1 mi.2.2.1 mi.2.2.2.1 :: ws) R0) (fun a U => a = (as.map (shV n0)).toArray ∧ Z.Warmed39 U.vm ∧ U.heap = h) (fun _ _ _ _ _ => True)
      (fun _ U o U' => ∃ w L, o = .returned w ∧ (w = v.map (shV n0) ∧ Rel K Z n0 H' U'.heap ∧ Fr n0 L) ∧ FrameEnd U o U' L (H'.length - H.length) (szs K H' - szs K H)) := by
  refine MetFree.of_bodySF hp hisR ?_
  intro p e s m args below meth c s₁ Bd hml0 hP hK
  obtain ⟨rfl, hZ, hh⟩ := hP
  have hx := Bd.exec
  have hby := Bd.bytes
  have hown : s.vm.findClass mi.1.cls = some m.cls := findClass_of_methodNamed Bd.named
  have hnm := (name_of_methodNamed Bd.named Bd.method).1
  have X0 : Stand p l e R0 s m (as.map (shV n0)).toArray below meth c s₁ [] 0 0 := Stand.of_body Bd
  have e0 : s₁.heap = h := by rw [← hh, Bd.state]; rfl
  obtain ⟨T', locs', cells', slots', X', rel', fr', hc', hs', stp⟩ := k.2.2 p e R0 s m _ below meth c s₁ [] 0 0 X0 hx hZ hby hml0 Bd.returns hown hnm (e0 ▸ hrel) (Fr.nil n0) hfr hlo (by rw [hh, hrel.1]; rfl) (by omega) (by omega)
  have hsz : s.heap.size = n0 + H.length := by rw [hh, hrel.1]
  obtain ⟨fs, hr, hrun, hended, hW, hsame⟩ := X'.leave (v := v.map (shV n0)) (fun q => by rw [Bd.returns] at q; rw [hv q]; rfl)
  exact ⟨_, _, castTop (entry_eq n0 m as mi.2.2.1 hls) (stp fs hr), hrun, hended, _, _, rfl, ⟨rfl, rel', fr'⟩, ⟨_, rfl⟩, hW, hsame.mono (by omega) (by omega)⟩
theorem meets {as : List Value} (hp : plainFor mi.1 = true) (hls : Jvm.Sym.laidSlots as ++ List.replicate (mi.2.2.1 - (Jvm.Sym.laidSlots as).length) .unset = ls) (hv : mi.2.2.2.1 = none → v = none) (k : Runs K l Z n0 mi 0 ls [] H v H') : Meets K l Z n0 mi as H v H' :=
  ⟨k.1, k.2.1, fun h hrel => met_gen [] (rmOf K mi H H') hp hls hv k (Nat.le_refl _) (Nat.le_refl _) (by have := k.1; show _ ≤ (H'.length - H.length) + _; omega) (by have := k.2.1; show _ ≤ (szs K H' - szs K H) + _; omega) hrel⟩
/-- a run that ends in some heap of at most c cells and n slots -/
def RunsB (K : List CI) (l : Launch) (Z : State) (n0 : Nat) (mi : MI) (pc : Nat) (ls : List Slot) (st : List Value) (H : List Ob) (v : Option Value) (c n : Nat) : Prop := ∃ H' : List Ob, Runs K l Z n0 mi pc ls st H v H' ∧ H'.length ≤ c ∧ szs K H' ≤ n
theorem lift {st2 : List Value} {c n : Nat} (f : ∀ H' : List Ob, Runs K l Z n0 mi np ls' st2 H1 v H' → Runs K l Z n0 mi pc ls st H v H') (k : RunsB K l Z n0 mi np ls' st2 H1 v c n) : RunsB K l Z n0 mi pc ls st H v c n := by
  obtain ⟨H', k1, k2⟩ := k
  exact ⟨H', f H' k1, k2⟩
/-- a step that reads no heap -/
theorem Runs.pure {st2 : List Value} (hstep : ∀ (p : Program) (e : Env) (R : Room) (s : State) (m : MethodId) (args : Array Value) (below : List Frame) (meth : Method) (c : Code) (T : State) (locs : List Loc) (cells slots : Nat),
      Stand p l e R s m args below meth c T locs cells slots → p.tables.exec = Jvm.exec → Z.Warmed39 s.vm → c.code = mi.2.1 → s.vm.findClass mi.1.cls = some m.cls → ∀ target,
      Steps p.tables e below (T.setTop (mkF m np (ls'.map (shS n0)).toArray (st2.map (shV n0)))) target → Steps p.tables e below (T.setTop (mkF m pc (ls.map (shS n0)).toArray (st.map (shV n0)))) target)
    (k : Runs K l Z n0 mi np ls' st2 H v H') : Runs K l Z n0 mi pc ls st H v H' := by
  refine ⟨k.1, k.2.1, fun p e R s m args below meth c T locs cells slots X hx hZ hc hml hret hown hnm hrel hfr hf hlo hsz hcl hsl => ?_⟩
  obtain ⟨T', locs', cells', slots', X', rel', fr', hc', hs', stp⟩ := k.2.2 p e R s m args below meth c T locs cells slots X hx hZ hc hml hret hown hnm hrel hfr hf hlo hsz hcl hsl
  exact ⟨T', locs', cells', slots', X', rel', fr', hc', hs', fun fs hr => hstep p e R s m args below meth c T locs cells slots X hx hZ hc hown _ (stp fs hr)⟩
theorem isRef_sh {n0 : Nat} {x : Value} (h : x.isRef = true) : (shV n0 x).isRef = true := by cases x <;> first | rfl | cases h
theorem P1_int {ls : List Slot} {k : Nat} {x : Int32} (h : ls[k]? = some (.val (.int x))) : P1 ls k = true := by unfold P1; rw [h]; rfl
theorem r_iloadN {k : Fin 4} {x : Int32} (hd : decode mi.2.1 pc = .ok (.iload_n k, 1) ∧ pc + 1 = np) (hl : ls[k.val]? = some (.val (.int x))) (kk : Runs K l Z n0 mi np ls (.int x :: st) H v H') : Runs K l Z n0 mi pc ls st H v H' := by
  obtain ⟨hd, rfl⟩ := hd
  exact Runs.pure (fun _ _ _ _ _ _ _ _ _ _ _ _ _ X hx hZ hc hown t h => XS.iloadN X.here hx rfl (hb hc hd) (loc_at hl) h) kk
theorem r_iload {k : Nat} {x : Int32} (hd : decode mi.2.1 pc = .ok (.iload k, 2) ∧ pc + 2 = np) (hl : ls[k]? = some (.val (.int x))) (kk : Runs K l Z n0 mi np ls (.int x :: st) H v H') : Runs K l Z n0 mi pc ls st H v H' := by
  obtain ⟨hd, rfl⟩ := hd
  exact Runs.pure (fun _ _ _ _ _ _ _ _ _ _ _ _ _ X hx hZ hc hown t h => XS.iload X.here hx rfl (hb hc hd) (loc_at hl) h) kk
theorem r_lloadN {k : Fin 4} {x : Int64} (hd : decode mi.2.1 pc = .ok (.lload_n k, 1) ∧ pc + 1 = np) (hl : ls[k.val]? = some (.val (.long x))) (kk : Runs K l Z n0 mi np ls (.long x :: st) H v H') : Runs K l Z n0 mi pc ls st H v H' := by
  obtain ⟨hd, rfl⟩ := hd
  exact Runs.pure (fun _ _ _ _ _ _ _ _ _ _ _ _ _ X hx hZ hc hown t h => XT.lloadN X.here hx rfl (hb hc hd) (loc_at hl) h) kk
theorem r_lload {k : Nat} {x : Int64} (hd : decode mi.2.1 pc = .ok (.lload k, 2) ∧ pc + 2 = np) (hl : ls[k]? = some (.val (.long x))) (kk : Runs K l Z n0 mi np ls (.long x :: st) H v H') : Runs K l Z n0 mi pc ls st H v H' := by
  obtain ⟨hd, rfl⟩ := hd
  exact Runs.pure (fun _ _ _ _ _ _ _ _ _ _ _ _ _ X hx hZ hc hown t h => XT.lload X.here hx rfl (hb hc hd) (loc_at hl) h) kk
theorem r_aloadN {k : Fin 4} {x : Value} (hd : decode mi.2.1 pc = .ok (.aload_n k, 1) ∧ pc + 1 = np) (hl : ls[k.val]? = some (.val x)) (hv : x.isRef = true) (kk : Runs K l Z n0 mi np ls (x :: st) H v H') : Runs K l Z n0 mi pc ls st H v H' := by
  obtain ⟨hd, rfl⟩ := hd
  exact Runs.pure (fun _ _ _ _ _ _ _ _ _ _ _ _ _ X hx hZ hc hown t h => XS.aloadN X.here hx rfl (hb hc hd) (loc_at hl) (isRef_sh hv) h) kk
theorem r_aload {k : Nat} {x : Value} (hd : decode mi.2.1 pc = .ok (.aload k, 2) ∧ pc + 2 = np) (hl : ls[k]? = some (.val x)) (hv : x.isRef = true) (kk : Runs K l Z n0 mi np ls (x :: st) H v H') : Runs K l Z n0 mi pc ls st H v H' := by
  obtain ⟨hd, rfl⟩ := hd
  exact Runs.pure (fun _ _ _ _ _ _ _ _ _ _ _ _ _ X hx hZ hc hown t h => XS.aload X.here hx rfl (hb hc hd) (loc_at hl) (isRef_sh hv) h) kk
theorem r_istoreN {k : Fin 4} {x : Int32} (hd : decode mi.2.1 pc = .ok (.istore_n k, 1) ∧ pc + 1 = np) (hp : P1 ls k.val = true) (hs : ls.set k.val (.val (.int x)) = ls') (kk : Runs K l Z n0 mi np ls' st H v H') : Runs K l Z n0 mi pc ls (.int x :: st) H v H' := by
  obtain ⟨hd, rfl⟩ := hd
  exact Runs.pure (fun _ _ _ _ _ _ _ _ _ _ _ _ _ X hx hZ hc hown t h => XS.istoreN X.here hx rfl (hb hc hd) rfl (st1 hp rfl hs) h) kk
theorem r_istore {k : Nat} {x : Int32} (hd : decode mi.2.1 pc = .ok (.istore k, 2) ∧ pc + 2 = np) (hp : P1 ls k = true) (hs : ls.set k (.val (.int x)) = ls') (kk : Runs K l Z n0 mi np ls' st H v H') : Runs K l Z n0 mi pc ls (.int x :: st) H v H' := by
  obtain ⟨hd, rfl⟩ := hd
  exact Runs.pure (fun _ _ _ _ _ _ _ _ _ _ _ _ _ X hx hZ hc hown t h => XS.istore X.here hx rfl (hb hc hd) rfl (st1 hp rfl hs) h) kk
theorem r_lstoreN {k : Fin 4} {x : Int64} (hd : decode mi.2.1 pc = .ok (.lstore_n k, 1) ∧ pc + 1 = np) (hp : P2 ls k.val = true) (hs : (ls.set k.val (.val (.long x))).set (k.val + 1) .second = ls') (kk : Runs K l Z n0 mi np ls' st H v H') : Runs K l Z n0 mi pc ls (.long x :: st) H v H' := by
  obtain ⟨hd, rfl⟩ := hd
  exact Runs.pure (fun _ _ _ _ _ _ _ _ _ _ _ _ _ X hx hZ hc hown t h => XT.lstoreN X.here hx rfl (hb hc hd) rfl (st2 hp rfl hs) h) kk
theorem r_lstore {k : Nat} {x : Int64} (hd : decode mi.2.1 pc = .ok (.lstore k, 2) ∧ pc + 2 = np) (hp : P2 ls k = true) (hs : (ls.set k (.val (.long x))).set (k + 1) .second = ls') (kk : Runs K l Z n0 mi np ls' st H v H') : Runs K l Z n0 mi pc ls (.long x :: st) H v H' := by
  obtain ⟨hd, rfl⟩ := hd
  exact Runs.pure (fun _ _ _ _ _ _ _ _ _ _ _ _ _ X hx hZ hc hown t h => XT.lstore X.here hx rfl (hb hc hd) rfl (st2 hp rfl hs) h) kk
theorem r_astoreN {k : Fin 4} {x : Value} (hd : decode mi.2.1 pc = .ok (.astore_n k, 1) ∧ pc + 1 = np) (hp : P1 ls k.val = true) (hv : x.isRef = true) (hs : ls.set k.val (.val x) = ls') (kk : Runs K l Z n0 mi np ls' st H v H') : Runs K l Z n0 mi pc ls (x :: st) H v H' := by
  obtain ⟨hd, rfl⟩ := hd
  exact Runs.pure (fun _ _ _ _ _ _ _ _ _ _ _ _ _ X hx hZ hc hown t h => XS.astoreN X.here hx rfl (hb hc hd) rfl (isRef_sh hv) (st1 hp (XT.cat1 hv) hs) h) kk
theorem r_astore {k : Nat} {x : Value} (hd : decode mi.2.1 pc = .ok (.astore k, 2) ∧ pc + 2 = np) (hp : P1 ls k = true) (hv : x.isRef = true) (hs : ls.set k (.val x) = ls') (kk : Runs K l Z n0 mi np ls' st H v H') : Runs K l Z n0 mi pc ls (x :: st) H v H' := by
  obtain ⟨hd, rfl⟩ := hd
  exact Runs.pure (fun _ _ _ _ _ _ _ _ _ _ _ _ _ X hx hZ hc hown t h => XS.astore X.here hx rfl (hb hc hd) rfl (isRef_sh hv) (st1 hp (XT.cat1 hv) hs) h) kk
theorem r_iadd {x y : Int32} (hd : decode mi.2.1 pc = .ok (.iadd, 1) ∧ pc + 1 = np) (kk : Runs K l Z n0 mi np ls (.int (x + y) :: st) H v H') : Runs K l Z n0 mi pc ls (.int y :: .int x :: st) H v H' := by
  obtain ⟨hd, rfl⟩ := hd
  exact Runs.pure (fun _ _ _ _ _ _ _ _ _ _ _ _ _ X hx hZ hc hown t h => XS.iadd X.here hx rfl (hb hc hd) rfl h) kk
theorem r_isub {x y : Int32} (hd : decode mi.2.1 pc = .ok (.isub, 1) ∧ pc + 1 = np) (kk : Runs K l Z n0 mi np ls (.int (x - y) :: st) H v H') : Runs K l Z n0 mi pc ls (.int y :: .int x :: st) H v H' := by
  obtain ⟨hd, rfl⟩ := hd
  exact Runs.pure (fun _ _ _ _ _ _ _ _ _ _ _ _ _ X hx hZ hc hown t h => XS.isub X.here hx rfl (hb hc hd) rfl h) kk
theorem r_imul {x y : Int32} (hd : decode mi.2.1 pc = .ok (.imul, 1) ∧ pc + 1 = np) (kk : Runs K l Z n0 mi np ls (.int (x * y) :: st) H v H') : Runs K l Z n0 mi pc ls (.int y :: .int x :: st) H v H' := by
  obtain ⟨hd, rfl⟩ := hd
  exact Runs.pure (fun _ _ _ _ _ _ _ _ _ _ _ _ _ X hx hZ hc hown t h => XS.imul X.here hx rfl (hb hc hd) rfl h) kk
theorem r_iand {x y : Int32} (hd : decode mi.2.1 pc = .ok (.iand, 1) ∧ pc + 1 = np) (kk : Runs K l Z n0 mi np ls (.int (x &&& y) :: st) H v H') : Runs K l Z n0 mi pc ls (.int y :: .int x :: st) H v H' := by
  obtain ⟨hd, rfl⟩ := hd
  exact Runs.pure (fun _ _ _ _ _ _ _ _ _ _ _ _ _ X hx hZ hc hown t h => XS.iand X.here hx rfl (hb hc hd) rfl h) kk
theorem r_ior {x y : Int32} (hd : decode mi.2.1 pc = .ok (.ior, 1) ∧ pc + 1 = np) (kk : Runs K l Z n0 mi np ls (.int (x ||| y) :: st) H v H') : Runs K l Z n0 mi pc ls (.int y :: .int x :: st) H v H' := by
  obtain ⟨hd, rfl⟩ := hd
  exact Runs.pure (fun _ _ _ _ _ _ _ _ _ _ _ _ _ X hx hZ hc hown t h => XT.ior X.here hx rfl (hb hc hd) rfl h) kk
theorem r_ixor {x y : Int32} (hd : decode mi.2.1 pc = .ok (.ixor, 1) ∧ pc + 1 = np) (kk : Runs K l Z n0 mi np ls (.int (x ^^^ y) :: st) H v H') : Runs K l Z n0 mi pc ls (.int y :: .int x :: st) H v H' := by
  obtain ⟨hd, rfl⟩ := hd
  exact Runs.pure (fun _ _ _ _ _ _ _ _ _ _ _ _ _ X hx hZ hc hown t h => XT.ixor X.here hx rfl (hb hc hd) rfl h) kk
theorem r_ishl {x y : Int32} (hd : decode mi.2.1 pc = .ok (.ishl, 1) ∧ pc + 1 = np) (kk : Runs K l Z n0 mi np ls (.int (x <<< (y &&& 31)) :: st) H v H') : Runs K l Z n0 mi pc ls (.int y :: .int x :: st) H v H' := by
  obtain ⟨hd, rfl⟩ := hd
  exact Runs.pure (fun _ _ _ _ _ _ _ _ _ _ _ _ _ X hx hZ hc hown t h => XT.ishl X.here hx rfl (hb hc hd) rfl h) kk
theorem r_ishr {x y : Int32} (hd : decode mi.2.1 pc = .ok (.ishr, 1) ∧ pc + 1 = np) (kk : Runs K l Z n0 mi np ls (.int (x >>> (y &&& 31)) :: st) H v H') : Runs K l Z n0 mi pc ls (.int y :: .int x :: st) H v H' := by
  obtain ⟨hd, rfl⟩ := hd
  exact Runs.pure (fun _ _ _ _ _ _ _ _ _ _ _ _ _ X hx hZ hc hown t h => XT.ishr X.here hx rfl (hb hc hd) rfl h) kk
theorem r_iushr {x y : Int32} (hd : decode mi.2.1 pc = .ok (.iushr, 1) ∧ pc + 1 = np) (kk : Runs K l Z n0 mi np ls (.int (XT.ushr x y) :: st) H v H') : Runs K l Z n0 mi pc ls (.int y :: .int x :: st) H v H' := by
  obtain ⟨hd, rfl⟩ := hd
  exact Runs.pure (fun _ _ _ _ _ _ _ _ _ _ _ _ _ X hx hZ hc hown t h => XT.iushr X.here hx rfl (hb hc hd) rfl h) kk
theorem r_idiv {x y : Int32} (hd : decode mi.2.1 pc = .ok (.idiv, 1) ∧ pc + 1 = np) (hy : y ≠ 0) (kk : Runs K l Z n0 mi np ls (.int (x / y) :: st) H v H') : Runs K l Z n0 mi pc ls (.int y :: .int x :: st) H v H' := by
  obtain ⟨hd, rfl⟩ := hd
  exact Runs.pure (fun _ _ _ _ _ _ _ _ _ _ _ _ _ X hx hZ hc hown t h => XS.idiv X.here hx rfl (hb hc hd) rfl hy h) kk
theorem r_irem {x y : Int32} (hd : decode mi.2.1 pc = .ok (.irem, 1) ∧ pc + 1 = np) (hy : y ≠ 0) (kk : Runs K l Z n0 mi np ls (.int (x % y) :: st) H v H') : Runs K l Z n0 mi pc ls (.int y :: .int x :: st) H v H' := by
  obtain ⟨hd, rfl⟩ := hd
  exact Runs.pure (fun _ _ _ _ _ _ _ _ _ _ _ _ _ X hx hZ hc hown t h => iremM X hx rfl (hb hc hd) rfl hy h) kk
theorem r_ladd {x y : Int64} (hd : decode mi.2.1 pc = .ok (.ladd, 1) ∧ pc + 1 = np) (kk : Runs K l Z n0 mi np ls (.long (x + y) :: st) H v H') : Runs K l Z n0 mi pc ls (.long y :: .long x :: st) H v H' := by
  obtain ⟨hd, rfl⟩ := hd
  exact Runs.pure (fun _ _ _ _ _ _ _ _ _ _ _ _ _ X hx hZ hc hown t h => XT.ladd X.here hx rfl (hb hc hd) rfl h) kk
theorem r_lsub {x y : Int64} (hd : decode mi.2.1 pc = .ok (.lsub, 1) ∧ pc + 1 = np) (kk : Runs K l Z n0 mi np ls (.long (x - y) :: st) H v H') : Runs K l Z n0 mi pc ls (.long y :: .long x :: st) H v H' := by
  obtain ⟨hd, rfl⟩ := hd
  exact Runs.pure (fun _ _ _ _ _ _ _ _ _ _ _ _ _ X hx hZ hc hown t h => XT.lsub X.here hx rfl (hb hc hd) rfl h) kk
theorem r_lmul {x y : Int64} (hd : decode mi.2.1 pc = .ok (.lmul, 1) ∧ pc + 1 = np) (kk : Runs K l Z n0 mi np ls (.long (x * y) :: st) H v H') : Runs K l Z n0 mi pc ls (.long y :: .long x :: st) H v H' := by
  obtain ⟨hd, rfl⟩ := hd
  exact Runs.pure (fun _ _ _ _ _ _ _ _ _ _ _ _ _ X hx hZ hc hown t h => XT.lmul X.here hx rfl (hb hc hd) rfl h) kk
theorem r_land {x y : Int64} (hd : decode mi.2.1 pc = .ok (.land, 1) ∧ pc + 1 = np) (kk : Runs K l Z n0 mi np ls (.long (x &&& y) :: st) H v H') : Runs K l Z n0 mi pc ls (.long y :: .long x :: st) H v H' := by
  obtain ⟨hd, rfl⟩ := hd
  exact Runs.pure (fun _ _ _ _ _ _ _ _ _ _ _ _ _ X hx hZ hc hown t h => XT.land X.here hx rfl (hb hc hd) rfl h) kk
theorem r_lor {x y : Int64} (hd : decode mi.2.1 pc = .ok (.lor, 1) ∧ pc + 1 = np) (kk : Runs K l Z n0 mi np ls (.long (x ||| y) :: st) H v H') : Runs K l Z n0 mi pc ls (.long y :: .long x :: st) H v H' := by
  obtain ⟨hd, rfl⟩ := hd
  exact Runs.pure (fun _ _ _ _ _ _ _ _ _ _ _ _ _ X hx hZ hc hown t h => XT.lor X.here hx rfl (hb hc hd) rfl h) kk
theorem r_lxor {x y : Int64} (hd : decode mi.2.1 pc = .ok (.lxor, 1) ∧ pc + 1 = np) (kk : Runs K l Z n0 mi np ls (.long (x ^^^ y) :: st) H v H') : Runs K l Z n0 mi pc ls (.long y :: .long x :: st) H v H' := by
  obtain ⟨hd, rfl⟩ := hd
  exact Runs.pure (fun _ _ _ _ _ _ _ _ _ _ _ _ _ X hx hZ hc hown t h => XT.lxor X.here hx rfl (hb hc hd) rfl h) kk
theorem r_lshl {x : Int64} {y : Int32} (hd : decode mi.2.1 pc = .ok (.lshl, 1) ∧ pc + 1 = np) (kk : Runs K l Z n0 mi np ls (.long (x <<< (y.toInt64 &&& 63)) :: st) H v H') : Runs K l Z n0 mi pc ls (.int y :: .long x :: st) H v H' := by
  obtain ⟨hd, rfl⟩ := hd
  exact Runs.pure (fun _ _ _ _ _ _ _ _ _ _ _ _ _ X hx hZ hc hown t h => XT.lshl X.here hx rfl (hb hc hd) rfl h) kk
theorem r_lshr {x : Int64} {y : Int32} (hd : decode mi.2.1 pc = .ok (.lshr, 1) ∧ pc + 1 = np) (kk : Runs K l Z n0 mi np ls (.long (x >>> (y.toInt64 &&& 63)) :: st) H v H') : Runs K l Z n0 mi pc ls (.int y :: .long x :: st) H v H' := by
  obtain ⟨hd, rfl⟩ := hd
  exact Runs.pure (fun _ _ _ _ _ _ _ _ _ _ _ _ _ X hx hZ hc hown t h => XT.lshr X.here hx rfl (hb hc hd) rfl h) kk
theorem r_lushr {x : Int64} {y : Int32} (hd : decode mi.2.1 pc = .ok (.lushr, 1) ∧ pc + 1 = np) (kk : Runs K l Z n0 mi np ls (.long (XT.ushrL x y) :: st) H v H') : Runs K l Z n0 mi pc ls (.int y :: .long x :: st) H v H' := by
  obtain ⟨hd, rfl⟩ := hd
  exact Runs.pure (fun _ _ _ _ _ _ _ _ _ _ _ _ _ X hx hZ hc hown t h => XT.lushr X.here hx rfl (hb hc hd) rfl h) kk
theorem r_ldiv {x y : Int64} (hd : decode mi.2.1 pc = .ok (.ldiv, 1) ∧ pc + 1 = np) (hy : y ≠ 0) (kk : Runs K l Z n0 mi np ls (.long (x / y) :: st) H v H') : Runs K l Z n0 mi pc ls (.long y :: .long x :: st) H v H' := by
  obtain ⟨hd, rfl⟩ := hd
  exact Runs.pure (fun _ _ _ _ _ _ _ _ _ _ _ _ _ X hx hZ hc hown t h => XT.ldiv X.here hx rfl (hb hc hd) rfl hy h) kk
theorem r_lrem {x y : Int64} (hd : decode mi.2.1 pc = .ok (.lrem, 1) ∧ pc + 1 = np) (hy : y ≠ 0) (kk : Runs K l Z n0 mi np ls (.long (x % y) :: st) H v H') : Runs K l Z n0 mi pc ls (.long y :: .long x :: st) H v H' := by
  obtain ⟨hd, rfl⟩ := hd
  exact Runs.pure (fun _ _ _ _ _ _ _ _ _ _ _ _ _ X hx hZ hc hown t h => XT.lrem X.here hx rfl (hb hc hd) rfl hy (by rw [lrem_mod]; exact h)) kk
theorem r_lcmp {x y : Int64} (hd : decode mi.2.1 pc = .ok (.lcmp, 1) ∧ pc + 1 = np) (kk : Runs K l Z n0 mi np ls (.int (XT.cmpL x y) :: st) H v H') : Runs K l Z n0 mi pc ls (.long y :: .long x :: st) H v H' := by
  obtain ⟨hd, rfl⟩ := hd
  exact Runs.pure (fun _ _ _ _ _ _ _ _ _ _ _ _ _ X hx hZ hc hown t h => XT.lcmp X.here hx rfl (hb hc hd) rfl h) kk
theorem r_ineg {x : Int32} (hd : decode mi.2.1 pc = .ok (.ineg, 1) ∧ pc + 1 = np) (kk : Runs K l Z n0 mi np ls (.int (-x) :: st) H v H') : Runs K l Z n0 mi pc ls (.int x :: st) H v H' := by
  obtain ⟨hd, rfl⟩ := hd
  exact Runs.pure (fun _ _ _ _ _ _ _ _ _ _ _ _ _ X hx hZ hc hown t h => XS.ineg X.here hx rfl (hb hc hd) rfl h) kk
theorem r_lneg {x : Int64} (hd : decode mi.2.1 pc = .ok (.lneg, 1) ∧ pc + 1 = np) (kk : Runs K l Z n0 mi np ls (.long (-x) :: st) H v H') : Runs K l Z n0 mi pc ls (.long x :: st) H v H' := by
  obtain ⟨hd, rfl⟩ := hd
  exact Runs.pure (fun _ _ _ _ _ _ _ _ _ _ _ _ _ X hx hZ hc hown t h => XT.lneg X.here hx rfl (hb hc hd) rfl h) kk
theorem r_i2l {x : Int32} (hd : decode mi.2.1 pc = .ok (.i2l, 1) ∧ pc + 1 = np) (kk : Runs K l Z n0 mi np ls (.long x.toInt64 :: st) H v H') : Runs K l Z n0 mi pc ls (.int x :: st) H v H' := by
  obtain ⟨hd, rfl⟩ := hd
  exact Runs.pure (fun _ _ _ _ _ _ _ _ _ _ _ _ _ X hx hZ hc hown t h => XT.i2l X.here hx rfl (hb hc hd) rfl h) kk
theorem r_l2i {x : Int64} (hd : decode mi.2.1 pc = .ok (.l2i, 1) ∧ pc + 1 = np) (kk : Runs K l Z n0 mi np ls (.int x.toInt32 :: st) H v H') : Runs K l Z n0 mi pc ls (.long x :: st) H v H' := by
  obtain ⟨hd, rfl⟩ := hd
  exact Runs.pure (fun _ _ _ _ _ _ _ _ _ _ _ _ _ X hx hZ hc hown t h => XT.l2i X.here hx rfl (hb hc hd) rfl h) kk
theorem r_i2b {x : Int32} (hd : decode mi.2.1 pc = .ok (.i2b, 1) ∧ pc + 1 = np) (kk : Runs K l Z n0 mi np ls (.int x.toInt8.toInt32 :: st) H v H') : Runs K l Z n0 mi pc ls (.int x :: st) H v H' := by
  obtain ⟨hd, rfl⟩ := hd
  exact Runs.pure (fun _ _ _ _ _ _ _ _ _ _ _ _ _ X hx hZ hc hown t h => XT.i2b X.here hx rfl (hb hc hd) rfl h) kk
theorem r_i2s {x : Int32} (hd : decode mi.2.1 pc = .ok (.i2s, 1) ∧ pc + 1 = np) (kk : Runs K l Z n0 mi np ls (.int x.toInt16.toInt32 :: st) H v H') : Runs K l Z n0 mi pc ls (.int x :: st) H v H' := by
  obtain ⟨hd, rfl⟩ := hd
  exact Runs.pure (fun _ _ _ _ _ _ _ _ _ _ _ _ _ X hx hZ hc hown t h => XT.i2s X.here hx rfl (hb hc hd) rfl h) kk
theorem r_i2c {x : Int32} (hd : decode mi.2.1 pc = .ok (.i2c, 1) ∧ pc + 1 = np) (kk : Runs K l Z n0 mi np ls (.int x.toUInt32.toUInt16.toUInt32.toInt32 :: st) H v H') : Runs K l Z n0 mi pc ls (.int x :: st) H v H' := by
  obtain ⟨hd, rfl⟩ := hd
  exact Runs.pure (fun _ _ _ _ _ _ _ _ _ _ _ _ _ X hx hZ hc hown t h => XT.i2c X.here hx rfl (hb hc hd) rfl h) kk
theorem r_dup {x : Value} (hd : decode mi.2.1 pc = .ok (.dup, 1) ∧ pc + 1 = np) (hx1 : x.category = 1) (kk : Runs K l Z n0 mi np ls (x :: x :: st) H v H') : Runs K l Z n0 mi pc ls (x :: st) H v H' := by
  obtain ⟨hd, rfl⟩ := hd
  exact Runs.pure (fun _ _ _ _ _ _ _ _ _ _ _ _ _ X hx hZ hc hown t h => XS.dup X.here hx rfl (hb hc hd) rfl ((cat_sh _ _).trans hx1) h) kk
theorem r_pop {x : Value} (hd : decode mi.2.1 pc = .ok (.pop, 1) ∧ pc + 1 = np) (hx1 : x.category = 1) (kk : Runs K l Z n0 mi np ls st H v H') : Runs K l Z n0 mi pc ls (x :: st) H v H' := by
  obtain ⟨hd, rfl⟩ := hd
  exact Runs.pure (fun _ _ _ _ _ _ _ _ _ _ _ _ _ X hx hZ hc hown t h => XT.pop X.here hx rfl (hb hc hd) rfl ((cat_sh _ _).trans hx1) h) kk
theorem r_dupX1 {x y : Value} (hd : decode mi.2.1 pc = .ok (.dup_x1, 1) ∧ pc + 1 = np) (hx1 : x.category = 1) (hy1 : y.category = 1) (kk : Runs K l Z n0 mi np ls (x :: y :: x :: st) H v H') : Runs K l Z n0 mi pc ls (x :: y :: st) H v H' := by
  obtain ⟨hd, rfl⟩ := hd
  exact Runs.pure (fun _ _ _ _ _ _ _ _ _ _ _ _ _ X hx hZ hc hown t h => XT.dupX1 X.here hx rfl (hb hc hd) rfl ((cat_sh _ _).trans hx1) ((cat_sh _ _).trans hy1) h) kk
theorem r_dup2 {x y : Value} (hd : decode mi.2.1 pc = .ok (.dup2, 1) ∧ pc + 1 = np) (hx1 : x.category = 1) (hy1 : y.category = 1) (kk : Runs K l Z n0 mi np ls (x :: y :: x :: y :: st) H v H') : Runs K l Z n0 mi pc ls (x :: y :: st) H v H' := by
  obtain ⟨hd, rfl⟩ := hd
  exact Runs.pure (fun _ _ _ _ _ _ _ _ _ _ _ _ _ X hx hZ hc hown t h => XT.dup2 X.here hx rfl (hb hc hd) rfl ((cat_sh _ _).trans hx1) ((cat_sh _ _).trans hy1) h) kk
theorem r_dup2L {x : Int64} (hd : decode mi.2.1 pc = .ok (.dup2, 1) ∧ pc + 1 = np) (kk : Runs K l Z n0 mi np ls (.long x :: .long x :: st) H v H') : Runs K l Z n0 mi pc ls (.long x :: st) H v H' := by
  obtain ⟨hd, rfl⟩ := hd
  exact Runs.pure (fun _ _ _ _ _ _ _ _ _ _ _ _ _ X hx hZ hc hown t h => XT.dup2L X.here hx rfl (hb hc hd) rfl h) kk
theorem r_aconstNull  (hd : decode mi.2.1 pc = .ok (.aconst_null, 1) ∧ pc + 1 = np) (kk : Runs K l Z n0 mi np ls (.null :: st) H v H') : Runs K l Z n0 mi pc ls st H v H' := by
  obtain ⟨hd, rfl⟩ := hd
  exact Runs.pure (fun _ _ _ _ _ _ _ _ _ _ _ _ _ X hx hZ hc hown t h => XS.aconstNull X.here hx rfl (hb hc hd) h) kk
theorem r_iconst {i : Int} {x : Int32} (hd : decode mi.2.1 pc = .ok (.iconst i, 1) ∧ pc + 1 = np ∧ Int32.ofInt i = x) (kk : Runs K l Z n0 mi np ls (.int x :: st) H v H') : Runs K l Z n0 mi pc ls st H v H' := by
  obtain ⟨hd, rfl, hx0⟩ := hd
  exact Runs.pure (fun _ _ _ _ _ _ _ _ _ _ _ _ _ X hx hZ hc hown t h => XT.iconstV X.here hx rfl x (hb hc hd) hx0 h) kk
theorem r_bipush {i : Int} {x : Int32} (hd : decode mi.2.1 pc = .ok (.bipush i, 2) ∧ pc + 2 = np ∧ (Int8.ofInt i).toInt32 = x) (kk : Runs K l Z n0 mi np ls (.int x :: st) H v H') : Runs K l Z n0 mi pc ls st H v H' := by
  obtain ⟨hd, rfl, hx0⟩ := hd
  exact Runs.pure (fun _ _ _ _ _ _ _ _ _ _ _ _ _ X hx hZ hc hown t h => XT.bipushV X.here hx rfl x (hb hc hd) hx0 h) kk
theorem r_sipush {i : Int} {x : Int32} (hd : decode mi.2.1 pc = .ok (.sipush i, 3) ∧ pc + 3 = np ∧ (Int16.ofInt i).toInt32 = x) (kk : Runs K l Z n0 mi np ls (.int x :: st) H v H') : Runs K l Z n0 mi pc ls st H v H' := by
  obtain ⟨hd, rfl, hx0⟩ := hd
  exact Runs.pure (fun _ _ _ _ _ _ _ _ _ _ _ _ _ X hx hZ hc hown t h => XT.sipushV X.here hx rfl x (hb hc hd) hx0 h) kk
theorem r_lconst {i : Fin 2} {x : Int64} (hd : decode mi.2.1 pc = .ok (.lconst i, 1) ∧ pc + 1 = np ∧ Int64.ofNat i = x) (kk : Runs K l Z n0 mi np ls (.long x :: st) H v H') : Runs K l Z n0 mi pc ls st H v H' := by
  obtain ⟨hd, rfl, hx0⟩ := hd
  exact Runs.pure (fun _ _ _ _ _ _ _ _ _ _ _ _ _ X hx hZ hc hown t h => XT.lconstV X.here hx rfl x (hb hc hd) hx0 h) kk
theorem r_ldc {i : Nat} {x : Int32} (hd : decode mi.2.1 pc = .ok (.ldc i, 2) ∧ pc + 2 = np) (w : (Jvm.Cond.constant mi.1.cls i x).before a0 Z = true) (kk : Runs K l Z n0 mi np ls (.int x :: st) H v H') : Runs K l Z n0 mi pc ls st H v H' := by
  obtain ⟨hd, rfl⟩ := hd
  exact Runs.pure (fun _ _ _ _ _ _ _ _ _ _ _ _ _ X hx hZ hc hown t h => X.ldcI hx hown (mv hZ w) rfl (hb hc hd) h) kk
theorem r_ldcW {i : Nat} {x : Int32} (hd : decode mi.2.1 pc = .ok (.ldc_w i, 3) ∧ pc + 3 = np) (w : (Jvm.Cond.constant mi.1.cls i x).before a0 Z = true) (kk : Runs K l Z n0 mi np ls (.int x :: st) H v H') : Runs K l Z n0 mi pc ls st H v H' := by
  obtain ⟨hd, rfl⟩ := hd
  exact Runs.pure (fun _ _ _ _ _ _ _ _ _ _ _ _ _ X hx hZ hc hown t h => X.ldcWI hx hown (mv hZ w) rfl (hb hc hd) h) kk
theorem r_ldc2 {i : Nat} {x : Int64} (hd : decode mi.2.1 pc = .ok (.ldc2_w i, 3) ∧ pc + 3 = np) (w : (Jvm.Cond.constantLong mi.1.cls i x).before a0 Z = true) (kk : Runs K l Z n0 mi np ls (.long x :: st) H v H') : Runs K l Z n0 mi pc ls st H v H' := by
  obtain ⟨hd, rfl⟩ := hd
  exact Runs.pure (fun _ _ _ _ _ _ _ _ _ _ _ _ _ X hx hZ hc hown t h => X.ldc2J hx hown (mv hZ w) rfl (hb hc hd) h) kk
theorem r_iinc {k : Nat} {i : Int} {x y : Int32} (hd : decode mi.2.1 pc = .ok (.iinc k i, 3) ∧ pc + 3 = np ∧ Int32.ofInt i = y) (hl : ls[k]? = some (.val (.int x))) (hs : ls.set k (.val (.int (x + y))) = ls') (kk : Runs K l Z n0 mi np ls' st H v H') : Runs K l Z n0 mi pc ls st H v H' := by
  obtain ⟨hd, rfl, hx0⟩ := hd
  exact Runs.pure (fun _ _ _ _ _ _ _ _ _ _ _ _ _ X hx hZ hc hown t h => XT.iincV X.here hx rfl y (hb hc hd) hx0 (loc_at hl) (st1 (P1_int hl) rfl hs) h) kk
theorem r_goto  {o : Int} (hd : decode mi.2.1 pc = .ok (.goto o, 3) ∧ pc + 3 = np ∧ 0 ≤ (pc : Int) + o ∧ ((pc : Int) + o).toNat = tp) (kk : Runs K l Z n0 mi tp ls st H v H') : Runs K l Z n0 mi pc ls st H v H' := by
  obtain ⟨hd, hn, h1, h2⟩ := hd
  exact Runs.pure (fun _ _ _ _ _ _ _ _ _ _ _ _ _ X hx hZ hc hown t h => XS.goto X.here hx rfl rfl (hb hc hd) h1 h2 h) kk
theorem r_ifT {cd : ClassFile.Cond} {x : Int32} {o : Int} (hd : decode mi.2.1 pc = .ok (.ifCond cd o, 3) ∧ pc + 3 = np ∧ 0 ≤ (pc : Int) + o ∧ ((pc : Int) + o).toNat = tp) (hq : ifCond.holds cd x = true) (kk : Runs K l Z n0 mi tp ls st H v H') : Runs K l Z n0 mi pc ls (.int x :: st) H v H' := by
  obtain ⟨hd, hn, h1, h2⟩ := hd
  exact Runs.pure (fun _ _ _ _ _ _ _ _ _ _ _ _ _ X hx hZ hc hown t h => XS.ifYes X.here hx rfl rfl (hb hc hd) rfl hq h1 h2 h) kk
theorem r_ifF {cd : ClassFile.Cond} {x : Int32} {o : Int} (hd : decode mi.2.1 pc = .ok (.ifCond cd o, 3) ∧ pc + 3 = np ∧ 0 ≤ (pc : Int) + o ∧ ((pc : Int) + o).toNat = tp) (hq : ifCond.holds cd x = false) (kk : Runs K l Z n0 mi np ls st H v H') : Runs K l Z n0 mi pc ls (.int x :: st) H v H' := by
  obtain ⟨hd, rfl, h1, h2⟩ := hd
  exact Runs.pure (fun _ _ _ _ _ _ _ _ _ _ _ _ _ X hx hZ hc hown t h => XS.ifNo X.here hx rfl (hb hc hd) rfl hq h) kk
theorem r_icT {cd : ClassFile.Cond} {x y : Int32} {o : Int} (hd : decode mi.2.1 pc = .ok (.if_icmp cd o, 3) ∧ pc + 3 = np ∧ 0 ≤ (pc : Int) + o ∧ ((pc : Int) + o).toNat = tp) (hq : if_icmp.holds cd x y = true) (kk : Runs K l Z n0 mi tp ls st H v H') : Runs K l Z n0 mi pc ls (.int y :: .int x :: st) H v H' := by
  obtain ⟨hd, hn, h1, h2⟩ := hd
  exact Runs.pure (fun _ _ _ _ _ _ _ _ _ _ _ _ _ X hx hZ hc hown t h => XS.icmpYes X.here hx rfl rfl (hb hc hd) rfl hq h1 h2 h) kk
theorem r_icF {cd : ClassFile.Cond} {x y : Int32} {o : Int} (hd : decode mi.2.1 pc = .ok (.if_icmp cd o, 3) ∧ pc + 3 = np ∧ 0 ≤ (pc : Int) + o ∧ ((pc : Int) + o).toNat = tp) (hq : if_icmp.holds cd x y = false) (kk : Runs K l Z n0 mi np ls st H v H') : Runs K l Z n0 mi pc ls (.int y :: .int x :: st) H v H' := by
  obtain ⟨hd, rfl, h1, h2⟩ := hd
  exact Runs.pure (fun _ _ _ _ _ _ _ _ _ _ _ _ _ X hx hZ hc hown t h => XS.icmpNo X.here hx rfl (hb hc hd) rfl hq h) kk
theorem r_nullT  {o : Int} (hd : decode mi.2.1 pc = .ok (.ifnull o, 3) ∧ pc + 3 = np ∧ 0 ≤ (pc : Int) + o ∧ ((pc : Int) + o).toNat = tp) (kk : Runs K l Z n0 mi tp ls st H v H') : Runs K l Z n0 mi pc ls (.null :: st) H v H' := by
  obtain ⟨hd, hn, h1, h2⟩ := hd
  exact Runs.pure (fun _ _ _ _ _ _ _ _ _ _ _ _ _ X hx hZ hc hown t h => XS.ifnullYes X.here hx rfl rfl (hb hc hd) rfl h1 h2 h) kk
theorem r_nullF {a : Addr} {o : Int} (hd : decode mi.2.1 pc = .ok (.ifnull o, 3) ∧ pc + 3 = np ∧ 0 ≤ (pc : Int) + o ∧ ((pc : Int) + o).toNat = tp) (kk : Runs K l Z n0 mi np ls st H v H') : Runs K l Z n0 mi pc ls (.ref a :: st) H v H' := by
  obtain ⟨hd, rfl, h1, h2⟩ := hd
  exact Runs.pure (fun _ _ _ _ _ _ _ _ _ _ _ _ _ X hx hZ hc hown t h => XS.ifnullNo X.here hx rfl (hb hc hd) rfl h) kk
theorem r_nonnullT {a : Addr} {o : Int} (hd : decode mi.2.1 pc = .ok (.ifnonnull o, 3) ∧ pc + 3 = np ∧ 0 ≤ (pc : Int) + o ∧ ((pc : Int) + o).toNat = tp) (kk : Runs K l Z n0 mi tp ls st H v H') : Runs K l Z n0 mi pc ls (.ref a :: st) H v H' := by
  obtain ⟨hd, hn, h1, h2⟩ := hd
  exact Runs.pure (fun _ _ _ _ _ _ _ _ _ _ _ _ _ X hx hZ hc hown t h => XT.ifnonnullYes X.here hx rfl rfl (hb hc hd) rfl h1 h2 h) kk
theorem r_nonnullF  {o : Int} (hd : decode mi.2.1 pc = .ok (.ifnonnull o, 3) ∧ pc + 3 = np ∧ 0 ≤ (pc : Int) + o ∧ ((pc : Int) + o).toNat = tp) (kk : Runs K l Z n0 mi np ls st H v H') : Runs K l Z n0 mi pc ls (.null :: st) H v H' := by
  obtain ⟨hd, rfl, h1, h2⟩ := hd
  exact Runs.pure (fun _ _ _ _ _ _ _ _ _ _ _ _ _ X hx hZ hc hown t h => XT.ifnonnullNo X.here hx rfl (hb hc hd) rfl h) kk
/-- a step that may turn the heap -/
theorem Runs.heap {st2 : List Value} (m1 : H.length ≤ H1.length) (m2 : szs K H ≤ szs K H1) (hstep : ∀ (p : Program) (e : Env) (R : Room) (s : State) (m : MethodId) (args : Array Value) (below : List Frame) (meth : Method) (c : Code) (T : State) (locs : List Loc) (cells slots : Nat),
      Stand p l e R s m args below meth c T locs cells slots → p.tables.exec = Jvm.exec → Z.Warmed39 s.vm → c.code = mi.2.1 → c.maxLocals = mi.2.2.1 → s.vm.findClass mi.1.cls = some m.cls → meth.name = mi.1.name → Rel K Z n0 H T.heap → Fr n0 locs → mi.2.2.2.2.1 ≤ R.frames → mi.2.2.2.2.2 ≤ R.locals →
      s.heap.size + cells = n0 + H.length → cells + H1.length ≤ R.cells + H.length → slots + szs K H1 ≤ R.slots + szs K H →
      ∃ (T1 : State) (locs1 : List Loc) (cells1 slots1 : Nat), Stand p l e R s m args below meth c T1 locs1 cells1 slots1 ∧ Rel K Z n0 H1 T1.heap ∧ Fr n0 locs1 ∧ s.heap.size + cells1 = n0 + H1.length ∧ slots1 + szs K H ≤ slots + szs K H1 ∧
        ∀ target, Steps p.tables e below (T1.setTop (mkF m np (ls'.map (shS n0)).toArray (st2.map (shV n0)))) target → Steps p.tables e below (T.setTop (mkF m pc (ls.map (shS n0)).toArray (st.map (shV n0)))) target)
    (k : Runs K l Z n0 mi np ls' st2 H1 v H') : Runs K l Z n0 mi pc ls st H v H' := by
  have k1 := k.1
  have k2 := k.2.1
  refine ⟨Nat.le_trans m1 k1, Nat.le_trans m2 k2, fun p e R s m args below meth c T locs cells slots X hx hZ hc hml hret hown hnm hrel hfr hf hlo hsz hcl hsl => ?_⟩
  obtain ⟨T1, locs1, cells1, slots1, X1, rel1, fr1, hc1, hs1, st1⟩ := hstep p e R s m args below meth c T locs cells slots X hx hZ hc hml hown hnm hrel hfr hf hlo hsz (by omega) (by omega)
  obtain ⟨T', locs', cells', slots', X', rel', fr', hc', hs', stp⟩ := k.2.2 p e R s m args below meth c T1 locs1 cells1 slots1 X1 hx hZ hc hml hret hown hnm rel1 fr1 hf hlo hc1 (by omega) (by omega)
  exact ⟨T', locs', cells', slots', X', rel', fr', hc', by omega, fun fs hr => st1 _ (stp fs hr)⟩
theorem r_ret {x : Value} {t : FieldType} {i : Instr} (hd : decode mi.2.1 pc = .ok (i, 1)) (hret : mi.2.2.2.1 = some t) (hn : narrow t x = x)
    (hi : (i = .ireturn ∧ (t = .int ∨ t = .boolean ∨ t = .byte ∨ t = .char ∨ t = .short) ∧ ∃ z, x = .int z) ∨ (i = .lreturn ∧ t = .long ∧ ∃ z, x = .long z) ∨ (i = .areturn ∧ t.isReference = true ∧ x.isRef = true)) : Runs K l Z n0 mi pc ls (x :: st) H (some x) H := by
  refine ⟨Nat.le_refl _, Nat.le_refl _, fun p e R s m args below meth c T locs cells slots X hx hZ hc hml hret' hown hnm hrel hfr hf hlo hsz hcl hsl => ⟨T, locs, cells, slots, X, hrel, hfr, hsz, Nat.le_refl _, fun fs hr => ?_⟩⟩
  have hn' : narrow t (shV n0 x) = shV n0 x := by
    rcases hi with ⟨-, -, z, rfl⟩ | ⟨-, -, z, rfl⟩ | ⟨-, -, q⟩
    · exact hn
    · exact hn
    · cases x <;> first | (cases q; done) | (cases t <;> rfl)
  refine retOut X hx (hret'.trans hret) hn' ?_ (hb hc hd) hr
  rcases hi with ⟨h1, h2, z, rfl⟩ | ⟨h1, h2, z, rfl⟩ | ⟨h1, h2, q⟩
  · exact Or.inl ⟨h1, h2, z, rfl⟩
  · exact Or.inr (Or.inl ⟨h1, h2, z, rfl⟩)
  · exact Or.inr (Or.inr (Or.inr (Or.inr ⟨h1, h2, isRef_sh q⟩)))
theorem r_ireturn {z : Int32} (hd : decode mi.2.1 pc = .ok (.ireturn, 1)) (hret : mi.2.2.2.1 = some .int) : Runs K l Z n0 mi pc ls (.int z :: st) H (some (.int z)) H := r_ret hd hret rfl (Or.inl ⟨rfl, Or.inl rfl, z, rfl⟩)
theorem r_ireturnE {z z' : Int32} (hd : decode mi.2.1 pc = .ok (.ireturn, 1)) (hret : mi.2.2.2.1 = some .int) (h : z = z') : Runs K l Z n0 mi pc ls (.int z :: st) H (some (.int z')) H := h ▸ r_ireturn hd hret
theorem r_zreturn {z : Int32} (hd : decode mi.2.1 pc = .ok (.ireturn, 1)) (hret : mi.2.2.2.1 = some .boolean) (hz : z = 0 ∨ z = 1) : Runs K l Z n0 mi pc ls (.int z :: st) H (some (.int z)) H := r_ret hd hret (by rcases hz with rfl | rfl <;> rfl) (Or.inl ⟨rfl, Or.inr (Or.inl rfl), z, rfl⟩)
theorem r_lreturn {z : Int64} (hd : decode mi.2.1 pc = .ok (.lreturn, 1)) (hret : mi.2.2.2.1 = some .long) : Runs K l Z n0 mi pc ls (.long z :: st) H (some (.long z)) H := r_ret hd hret rfl (Or.inr (Or.inl ⟨rfl, rfl, z, rfl⟩))
theorem r_areturn {x : Value} {t : FieldType} (hd : decode mi.2.1 pc = .ok (.areturn, 1)) (hret : mi.2.2.2.1 = some t) (ht : t.isReference = true) (hx : x.isRef = true) : Runs K l Z n0 mi pc ls (x :: st) H (some x) H := r_ret hd hret (by cases x <;> first | (cases hx; done) | (cases t <;> rfl)) (Or.inr (Or.inr ⟨rfl, ht, hx⟩))
theorem r_return (hd : decode mi.2.1 pc = .ok (.return_, 1)) (hret : mi.2.2.2.1 = none) : Runs K l Z n0 mi pc ls [] H none H := by
  refine ⟨Nat.le_refl _, Nat.le_refl _, fun p e R s m args below meth c T locs cells slots X hx hZ hc hml hret' hown hnm hrel hfr hf hlo hsz hcl hsl => ⟨T, locs, cells, slots, X, hrel, hfr, hsz, Nat.le_refl _, fun fs hr => ?_⟩⟩
  exact X.returnOut hx (hret'.trans hret) (hb hc hd) hr
theorem r_tswIn {dflt low high o : Int} {offs : Array Int} {len : Nat} {i : Int32} (hd : decode mi.2.1 pc = .ok (.tableswitch dflt low high offs, len)) (hin : ¬ (i.toInt < low ∨ i.toInt > high)) (hoff : offs[(i.toInt - low).toNat]? = some o) (ho : 0 ≤ (pc : Int) + o) (hp : ((pc : Int) + o).toNat = tp)
    (kk : Runs K l Z n0 mi tp ls st H v H') : Runs K l Z n0 mi pc ls (.int i :: st) H v H' :=
  Runs.pure (fun _ _ _ _ _ _ _ _ _ _ _ _ _ X hx hZ hc hown t h => XS.tswIn X.here hx rfl rfl (hb hc hd) rfl hin hoff ho hp h) kk
theorem r_tswOut {dflt low high : Int} {offs : Array Int} {len : Nat} {i : Int32} (hd : decode mi.2.1 pc = .ok (.tableswitch dflt low high offs, len)) (hout : i.toInt < low ∨ i.toInt > high) (ho : 0 ≤ (pc : Int) + dflt) (hp : ((pc : Int) + dflt).toNat = tp)
    (kk : Runs K l Z n0 mi tp ls st H v H') : Runs K l Z n0 mi pc ls (.int i :: st) H v H' :=
  Runs.pure (fun _ _ _ _ _ _ _ _ _ _ _ _ _ X hx hZ hc hown t h => XS.tswOut X.here hx rfl rfl (hb hc hd) rfl hout ho hp h) kk
/-! ### the heap -/
theorem OOk.ext {h h' : Heap} {a : Addr} {o : Ob} (E : Ext h h') (q : OOk K Z n0 h a o) : OOk K Z n0 h' a o := by
  cases o with
  | inl o => obtain ⟨ci, h1, h2, h3⟩ := q; exact ⟨ci, h1, h2.ext E, fun i f v a b => (h3 i f v a b).ext E⟩
  | inr o => obtain ⟨cl, h1, h2⟩ := q; exact ⟨cl, h1.ext E, h2⟩
theorem OOk.other {h h' : Heap} {a b : Addr} {sl : Nat} {x : Value} {o : Ob} (W : Wr h h' b sl x) (ne : a ≠ b) (q : OOk K Z n0 h a o) : OOk K Z n0 h' a o := by
  cases o with
  | inl o => obtain ⟨ci, h1, h2, h3⟩ := q; exact ⟨ci, h1, h2.wr W, fun i f v a b => (h3 i f v a b).other W (Or.inl ne)⟩
  | inr o => obtain ⟨cl, h1, h2⟩ := q; exact ⟨cl, h1.other W ne, h2⟩
theorem Rel.push {h h' : Heap} {o : Ob} (r : Rel K Z n0 H h) (E : Ext h h') (hs : h'.size = h.size + 1) (ho : OOk K Z n0 h' h.size o) : Rel K Z n0 (H ++ [o]) h' := by
  refine ⟨by rw [hs, r.1, List.length_append]; rfl, fun k q hk => ?_⟩
  by_cases hl : k < H.length
  · rw [List.getElem?_append_left hl] at hk; exact (r.2 k q hk).ext E
  · rw [List.getElem?_append_right (Nat.le_of_not_lt hl)] at hk
    have e : k - H.length = 0 := by
      cases hq : k - H.length with
      | zero => rfl
      | succ j => rw [hq] at hk; simp at hk
    rw [e] at hk
    simp at hk
    subst hk
    have : k = H.length := by omega
    subst this
    rw [← r.1]; exact ho
theorem Rel.put {h h' : Heap} {o : Ob} {a sl : Nat} {x : Value} (r : Rel K Z n0 H h) (W : Wr h h' (n0 + a) sl x) (ha : a < H.length) (ho : OOk K Z n0 h' (n0 + a) o) : Rel K Z n0 (H.set a o) h' := by
  refine ⟨by rw [W.size, r.1, List.length_set], fun k q hk => ?_⟩
  by_cases e : a = k
  · subst e
    rw [List.getElem?_set_self ha] at hk
    cases hk; exact ho
  · rw [List.getElem?_set_ne e] at hk
    exact (r.2 k q hk).other W (fun z => e (Nat.add_left_cancel z).symm)
theorem map_set_same {α β : Type} (f : α → β) : ∀ (H : List α) (a : Nat) (o o' : α), H[a]? = some o' → f o = f o' → (H.set a o).map f = H.map f
  | [], _, _, _, h, _ => by simp at h
  | x :: r, 0, o, o', h, e => by simp at h; subst h; simp [e]
  | x :: r, a + 1, o, o', h, e => by simp at h; simp [map_set_same f r a o o' h e]
theorem szs_set {a : Nat} {o o' : Ob} (h : H[a]? = some o') (e : osz K o = osz K o') : szs K (H.set a o) = szs K H := by unfold szs; rw [map_set_same (osz K) H a o o' h e]
theorem szs_push {o : Ob} : szs K (H ++ [o]) = szs K H + osz K o := by simp [szs]
theorem lt_of_at {α : Type} {L : List α} {a : Nat} {o : α} (h : L[a]? = some o) : a < L.length := (List.getElem?_eq_some_iff.mp h).1
theorem nar_sh {t : FieldType} {x : Value} (h : narrow t x = x) : narrow t (shV n0 x) = shV n0 x := by cases x <;> first | exact h | (cases t <;> rfl)
theorem fits_sh {t : FieldType} {x : Value} (h : fits t x = true) : fits t (shV n0 x) = true := by cases x <;> first | exact h | (cases t <;> first | rfl | cases h)
theorem sh_dflt (ty : FieldType) : shV n0 (defaultValue ty) = defaultValue ty := by cases ty <;> rfl
theorem r_getF {a cid i idx : Nat} {vs : List Value} {ci : CI} {f : FI} {x : Value} {R0 : String} (hd : decode mi.2.1 pc = .ok (.getfield idx, 3) ∧ pc + 3 = np) (w : (Jvm.Cond.fieldLink mi.1.cls idx R0 f.2.1 f.2.2.1).before a0 Z = true) (via : Via Z R0 f.1 f.2.1 f.2.2.1) (hci : K[cid]? = some ci) (hf : ci.2.2[i]? = some f)
    (ho : H[a]? = some (.inl (cid, vs))) (hv : vs[i]? = some x) (kk : Runs K l Z n0 mi np ls (x :: st) H v H') : Runs K l Z n0 mi pc ls (.ref a :: st) H v H' := by
  obtain ⟨hd, rfl⟩ := hd
  refine Runs.heap (Nat.le_refl _) (Nat.le_refl _) (fun p e R s m args below meth c T locs cells slots X hx hZ hc hml hown hnm hrel hfr hf' hlo hsz hcl hsl => ?_) kk
  obtain ⟨ci', q1, E, F⟩ := hrel.2 a _ ho
  cases hci.symm.trans q1
  obtain ⟨T1, X1, e1, st1⟩ := getF X hx hZ hown (host := "") (Or.inl w) via rfl (F i f x hf hv) (g := mkF m pc (ls.map (shS n0)).toArray (.ref (n0 + a) :: st.map (shV n0))) rfl rfl (hb hc hd)
  exact ⟨T1, _, _, _, X1, by rw [e1]; exact hrel, hfr, hsz, Nat.le_refl _, st1⟩
theorem r_putF {a cid i idx : Nat} {vs vs' : List Value} {ci : CI} {f : FI} {x : Value} {R0 : String} (hK : KOk K Z a0) (hd : decode mi.2.1 pc = .ok (.putfield idx, 3) ∧ pc + 3 = np) (w : (Jvm.Cond.fieldLink mi.1.cls idx R0 f.2.1 f.2.2.1).before a0 Z = true) (via : Via Z R0 f.1 f.2.1 f.2.2.1) (hci : K[cid]? = some ci) (hf : ci.2.2[i]? = some f)
    (L : (Jvm.Cond.lays ci.1 f.1 f.2.1 f.2.2.1).before a0 Z = true ∨ ((Jvm.Cond.laysFinal ci.1 f.1 f.2.1 f.2.2.1).before a0 Z = true ∧ mi.1.cls = f.1 ∧ mi.1.name = "<init>"))
    (ho : H[a]? = some (.inl (cid, vs))) (hi : i < vs.length) (hn : narrow f.2.2.2 x = x) (hft : fits f.2.2.2 x = true) (hvs : vs.set i x = vs') (hH : H.set a (.inl (cid, vs')) = H1) (kk : Runs K l Z n0 mi np ls st H1 v H') : Runs K l Z n0 mi pc ls (x :: .ref a :: st) H v H' := by
  obtain ⟨hd, rfl⟩ := hd
  subst hvs hH
  have ha := lt_of_at ho
  have es : szs K (H.set a (.inl (cid, vs.set i x))) = szs K H := szs_set ho rfl
  refine Runs.heap (by rw [List.length_set]; exact Nat.le_refl _) (by rw [es]; exact Nat.le_refl _) (fun p e R s m args below meth c T locs cells slots X hx hZ hc hml hown hnm hrel hfr hf' hlo hsz hcl hsl => ?_) kk
  obtain ⟨ci', q1, E, F⟩ := hrel.2 a _ ho
  cases hci.symm.trans q1
  obtain ⟨kk1, kk2, kk3⟩ := hK cid ci hci
  have hfm : f ∈ ci.2.2 := List.mem_of_getElem? hf
  obtain ⟨T1, h1, X1, e1, W1, st1⟩ := putF X hx hZ hown (host := "") (Or.inl w) via rfl (F i f _ hf (List.getElem?_eq_getElem hi)) E (L.imp id fun q => ⟨q.1, q.2.1, hnm.trans q.2.2⟩) kk1 (kk2 f hfm).2 (nar_sh hn) (fits_sh hft)
    (g := mkF m pc (ls.map (shS n0)).toArray (shV n0 x :: .ref (n0 + a) :: st.map (shV n0))) rfl rfl (hb hc hd)
  refine ⟨T1, _, _, _, X1, ?_, Fr.snoc X1 hfr (Nat.le_add_right _ _), by rw [List.length_set]; exact hsz, by rw [es]; exact Nat.le_refl _, st1⟩
  rw [e1]
  refine hrel.put W1 ha ⟨ci, hci, E.wr W1, fun j g y hg hy => ?_⟩
  by_cases ji : i = j
  · subst ji
    cases hf.symm.trans hg
    rw [List.getElem?_set_self hi] at hy
    cases hy
    exact (F i f _ hf (List.getElem?_eq_getElem hi)).same W1
  · rw [List.getElem?_set_ne ji] at hy
    have hgm : g ∈ ci.2.2 := List.mem_of_getElem? hg
    refine (F j g y hg hy).other W1 (Or.inr (slot_ne (kk2 g hgm).1 (kk2 f hfm).1 ?_ (kk2 g hgm).2 (kk2 f hfm).2))
    obtain ⟨li, ei⟩ := List.getElem?_eq_some_iff.mp hf
    obtain ⟨lj, ej⟩ := List.getElem?_eq_some_iff.mp hg
    have pw := List.pairwise_iff_getElem.mp kk3
    rcases Nat.lt_or_gt_of_ne ji with q | q
    · have := pw i j li lj q; rw [ei, ej] at this; exact fun z => this z.symm
    · have := pw j i lj li q; rw [ei, ej] at this; exact this
theorem r_new {a cid idx : Nat} {ci : CI} {o : List Value} (hK : KOk K Z a0) (hd : decode mi.2.1 pc = .ok (.new idx, 3) ∧ pc + 3 = np) (w : (Jvm.Cond.classLink mi.1.cls idx ci.1).before a0 Z = true) (wz : (Jvm.Cond.initialized ci.1).before a0 Z = true) (hci : K[cid]? = some ci)
    (ho : ci.2.2.map (fun f => defaultValue f.2.2.2) = o) (ha : H.length = a) (hH : H ++ [.inl (cid, o)] = H1) (kk : Runs K l Z n0 mi np ls (.ref a :: st) H1 v H') : Runs K l Z n0 mi pc ls st H v H' := by
  obtain ⟨hd, rfl⟩ := hd
  subst ho ha hH
  obtain ⟨kk1, kk2, kk3⟩ := hK cid ci hci
  have es : osz K (.inl (cid, ci.2.2.map (fun f => defaultValue f.2.2.2))) = ci.2.1 := by show ((K[cid]?).map (fun ci => ci.2.1)).getD 0 = _; rw [hci]; rfl
  refine Runs.heap (by simp) (by rw [szs_push]; exact Nat.le_add_right _ _) (fun p e R s m args below meth c T locs cells slots X hx hZ hc hml hown hnm hrel hfr hf' hlo hsz hcl hsl => ?_) kk
  rw [szs_push, es] at hsl
  simp only [List.length_append, List.length_cons, List.length_nil] at hcl
  obtain ⟨T1, h1, X1, e1, E1, A1, D1, -, st1⟩ := newO X hx hZ hown w kk1 wz rfl (g := mkF m pc (ls.map (shS n0)).toArray (st.map (shV n0))) rfl (hb hc hd) (by omega) (by omega)
  have hs1 := X1.heapSize
  have hlt : T.heap.size < h1.size := A1.lt
  have hh := hrel.1
  rw [e1] at hs1
  refine ⟨T1, _, _, _, X1, ?_, hfr, by simp only [List.length_append, List.length_cons, List.length_nil]; omega, by rw [szs_push, es]; omega, fun t q => st1 t ?_⟩
  · rw [e1]
    refine hrel.push E1 (by omega) ⟨ci, hci, A1, fun i f x hf hx => ?_⟩
    have hfm : f ∈ ci.2.2 := List.mem_of_getElem? hf
    rw [List.getElem?_map, hf] at hx
    cases hx
    show Fld Z h1 T.heap.size f.1 f.2.1 f.2.2.1 (shV n0 (defaultValue f.2.2.2))
    rw [sh_dflt]
    exact D1 (kk2 f hfm).1 (kk2 f hfm).2
  · show Steps _ _ _ (T1.setTop (mkF m (pc + 3) _ (.ref T.heap.size :: _))) t
    rw [hh]; exact q
theorem toNat_of {n : Int32} (h : ¬ n < 0) : n.toNatClampNeg < 2 ^ 31 := (back32 h).2
theorem r_newA {a : Nat} {n : Int32} {aty : ArrayType} {o : List Value} (hd : decode mi.2.1 pc = .ok (.newarray aty, 2) ∧ pc + 2 = np) (w : (Jvm.Cond.arrayClass (newarray.typeOf aty)).before a0 Z = true) (hn : ¬ n < 0) (hb8 : n.toNatClampNeg * 8 ≤ 536870912)
    (ho : List.replicate n.toNatClampNeg (defaultValue (newarray.typeOf aty)) = o) (ha : H.length = a) (hH : H ++ [.inr (newarray.typeOf aty, o)] = H1) (kk : Runs K l Z n0 mi np ls (.ref a :: st) H1 v H') : Runs K l Z n0 mi pc ls (.int n :: st) H v H' := by
  obtain ⟨hd, rfl⟩ := hd
  subst ho ha hH
  have es : osz K (.inr (newarray.typeOf aty, List.replicate n.toNatClampNeg (defaultValue (newarray.typeOf aty)))) = n.toNatClampNeg := by show (List.replicate _ _).length = _; simp
  refine Runs.heap (by simp) (by rw [szs_push]; exact Nat.le_add_right _ _) (fun p e R s m args below meth c T locs cells slots X hx hZ hc hml hown hnm hrel hfr hf' hlo hsz hcl hsl => ?_) kk
  rw [szs_push, es] at hsl
  simp only [List.length_append, List.length_cons, List.length_nil] at hcl
  obtain ⟨T1, h1, cA, X1, e1, E1, A1, st1⟩ := newP X hx hZ w rfl (g := mkF m pc (ls.map (shS n0)).toArray (.int n :: st.map (shV n0))) rfl (hb hc hd) rfl hn (cap := n.toNatClampNeg) (Nat.le_refl _) hb8 (by omega) (by omega)
  have hs1 := X1.heapSize
  have hlt : T.heap.size < h1.size := A1.lt
  have hh := hrel.1
  rw [e1] at hs1
  refine ⟨T1, _, _, _, X1, ?_, hfr, by simp only [List.length_append, List.length_cons, List.length_nil]; omega, by rw [szs_push, es]; omega, fun t q => st1 t ?_⟩
  · rw [e1]
    refine hrel.push E1 (by omega) ⟨_, A1, by rw [sz_new]; simp, by simpa using toNat_of hn, fun i x hx => ?_⟩
    rw [List.getElem?_replicate] at hx
    split at hx
    · rename_i hi
      cases hx
      have q1 : (newA cA (newarray.typeOf aty) n).slots[i]? = some (defaultValue (newarray.typeOf aty)) := by simp [newA, hi]
      exact ⟨by rw [q1]; cases newarray.typeOf aty <;> rfl, by cases newarray.typeOf aty <;> rfl⟩
    · cases hx
  · show Steps _ _ _ (T1.setTop (mkF m (pc + 2) _ (.ref T.heap.size :: _))) t
    rw [hh]; exact q
theorem fits_byte (x : Int32) : fits .byte (.int x.toInt8.toInt32) = true := by
  have h1 : (x.toInt8.toInt32).toInt = x.toInt8.toInt := Int8.toInt_toInt32 _
  have h2 := x.toInt8.toInt_lt
  have h3 := x.toInt8.le_toInt
  have e1 : (-128 : Int32).toInt = -128 := by decide
  have e2 : (127 : Int32).toInt = 127 := by decide
  simp only [fits, Bool.and_eq_true, decide_eq_true_eq]
  rw [Int32.le_iff_toInt_le, Int32.le_iff_toInt_le, h1, e1, e2]
  omega
/-- the int j names the place i -/
def Ix (j : Int32) (i : Nat) : Prop := ¬ j < 0 ∧ j.toNatClampNeg = i
theorem r_len {a : Nat} {ty : FieldType} {vs : List Value} {n : Int32} (hd : decode mi.2.1 pc = .ok (.arraylength, 1) ∧ pc + 1 = np) (ho : H[a]? = some (.inr (ty, vs))) (hn : vs.length.toInt32 = n) (kk : Runs K l Z n0 mi np ls (.int n :: st) H v H') : Runs K l Z n0 mi pc ls (.ref a :: st) H v H' := by
  obtain ⟨hd, rfl⟩ := hd
  subst hn
  refine Runs.heap (Nat.le_refl _) (Nat.le_refl _) (fun p e R s m args below meth c T locs cells slots X hx hZ hc hml hown hnm hrel hfr hf' hlo hsz hcl hsl => ?_) kk
  obtain ⟨cl, A, hs, hl, hv⟩ := hrel.2 a _ ho
  refine ⟨T, _, _, _, X, hrel, hfr, hsz, Nat.le_refl _, fun t q => ?_⟩
  refine X.arraylength hx A.1 (State.isArrayOf_alike hZ.alike A.2.1) (g := mkF m pc (ls.map (shS n0)).toArray (.ref (n0 + a) :: st.map (shV n0))) rfl rfl (hb hc hd) _ ?_
  rw [hs]; exact q
theorem r_iaload {a i : Nat} {vs : List Value} {j : Int32} {x : Value} (hd : decode mi.2.1 pc = .ok (.iaload, 1) ∧ pc + 1 = np) (ho : H[a]? = some (.inr (.int, vs))) (hj : Ix j i) (hv : vs[i]? = some x) (kk : Runs K l Z n0 mi np ls (x :: st) H v H') : Runs K l Z n0 mi pc ls (.int j :: .ref a :: st) H v H' := by
  obtain ⟨hd, rfl⟩ := hd
  obtain ⟨hj0, rfl⟩ := hj
  refine Runs.heap (Nat.le_refl _) (Nat.le_refl _) (fun p e R s m args below meth c T locs cells slots X hx hZ hc hml hown hnm hrel hfr hf' hlo hsz hcl hsl => ?_) kk
  obtain ⟨cl, A, hs, hl, hvs⟩ := hrel.2 a _ ho
  have hi := lt_of_at hv
  refine ⟨T, _, _, _, X, hrel, hfr, hsz, Nat.le_refl _, fun t q => ?_⟩
  exact X.iaload hx (j := j) (v := shV n0 x) A.1 (State.isArrayOf_alike hZ.alike A.2.1) A.2.2 (fun z => z.elim hj0 (fun q => by rw [hs] at q; omega)) (hvs _ _ hv).1 (g := mkF m pc (ls.map (shS n0)).toArray (.int j :: .ref (n0 + a) :: st.map (shV n0))) rfl rfl (hb hc hd) _ q
theorem r_laload {a i : Nat} {vs : List Value} {j : Int32} {x : Value} (hd : decode mi.2.1 pc = .ok (.laload, 1) ∧ pc + 1 = np) (ho : H[a]? = some (.inr (.long, vs))) (hj : Ix j i) (hv : vs[i]? = some x) (kk : Runs K l Z n0 mi np ls (x :: st) H v H') : Runs K l Z n0 mi pc ls (.int j :: .ref a :: st) H v H' := by
  obtain ⟨hd, rfl⟩ := hd
  obtain ⟨hj0, rfl⟩ := hj
  refine Runs.heap (Nat.le_refl _) (Nat.le_refl _) (fun p e R s m args below meth c T locs cells slots X hx hZ hc hml hown hnm hrel hfr hf' hlo hsz hcl hsl => ?_) kk
  obtain ⟨cl, A, hs, hl, hvs⟩ := hrel.2 a _ ho
  have hi := lt_of_at hv
  refine ⟨T, _, _, _, X, hrel, hfr, hsz, Nat.le_refl _, fun t q => ?_⟩
  exact X.laload hx (j := j) (v := shV n0 x) A.1 (State.isArrayOf_alike hZ.alike A.2.1) A.2.2 (fun z => z.elim hj0 (fun q => by rw [hs] at q; omega)) (hvs _ _ hv).1 (g := mkF m pc (ls.map (shS n0)).toArray (.int j :: .ref (n0 + a) :: st.map (shV n0))) rfl rfl (hb hc hd) _ q
theorem r_baload {a i : Nat} {vs : List Value} {j : Int32} {x : Value} (hd : decode mi.2.1 pc = .ok (.baload, 1) ∧ pc + 1 = np) (ho : H[a]? = some (.inr (.byte, vs))) (hj : Ix j i) (hv : vs[i]? = some x) (kk : Runs K l Z n0 mi np ls (x :: st) H v H') : Runs K l Z n0 mi pc ls (.int j :: .ref a :: st) H v H' := by
  obtain ⟨hd, rfl⟩ := hd
  obtain ⟨hj0, rfl⟩ := hj
  refine Runs.heap (Nat.le_refl _) (Nat.le_refl _) (fun p e R s m args below meth c T locs cells slots X hx hZ hc hml hown hnm hrel hfr hf' hlo hsz hcl hsl => ?_) kk
  obtain ⟨cl, A, hs, hl, hvs⟩ := hrel.2 a _ ho
  have hi := lt_of_at hv
  refine ⟨T, _, _, _, X, hrel, hfr, hsz, Nat.le_refl _, fun t q => ?_⟩
  exact X.baloadBytes hx (j := j) (v := shV n0 x) A.1 (State.isArrayOf_alike hZ.alike A.2.1) A.2.2 (fun z => z.elim hj0 (fun q => by rw [hs] at q; omega)) (hvs _ _ hv).1 (g := mkF m pc (ls.map (shS n0)).toArray (.int j :: .ref (n0 + a) :: st.map (shV n0))) rfl rfl (hb hc hd) _ q
theorem r_caload {a i : Nat} {vs : List Value} {j : Int32} {x : Value} (hd : decode mi.2.1 pc = .ok (.caload, 1) ∧ pc + 1 = np) (ho : H[a]? = some (.inr (.char, vs))) (hj : Ix j i) (hv : vs[i]? = some x) (kk : Runs K l Z n0 mi np ls (x :: st) H v H') : Runs K l Z n0 mi pc ls (.int j :: .ref a :: st) H v H' := by
  obtain ⟨hd, rfl⟩ := hd
  obtain ⟨hj0, rfl⟩ := hj
  refine Runs.heap (Nat.le_refl _) (Nat.le_refl _) (fun p e R s m args below meth c T locs cells slots X hx hZ hc hml hown hnm hrel hfr hf' hlo hsz hcl hsl => ?_) kk
  obtain ⟨cl, A, hs, hl, hvs⟩ := hrel.2 a _ ho
  have hi := lt_of_at hv
  refine ⟨T, _, _, _, X, hrel, hfr, hsz, Nat.le_refl _, fun t q => ?_⟩
  exact X.caload hx (j := j) (v := shV n0 x) A.1 (State.isArrayOf_alike hZ.alike A.2.1) A.2.2 (fun z => z.elim hj0 (fun q => by rw [hs] at q; omega)) (hvs _ _ hv).1 (g := mkF m pc (ls.map (shS n0)).toArray (.int j :: .ref (n0 + a) :: st.map (shV n0))) rfl rfl (hb hc hd) _ q
theorem r_iastore {a i : Nat} {vs vs' : List Value} {j : Int32} {x : Int32} (hd : decode mi.2.1 pc = .ok (.iastore, 1) ∧ pc + 1 = np) (ho : H[a]? = some (.inr (.int, vs))) (hj : Ix j i) (hi : i < vs.length) (hvs : vs.set i (.int x) = vs') (hH : H.set a (.inr (.int, vs')) = H1) (kk : Runs K l Z n0 mi np ls st H1 v H') : Runs K l Z n0 mi pc ls (.int x :: .int j :: .ref a :: st) H v H' := by
  obtain ⟨hd, rfl⟩ := hd
  obtain ⟨hj0, rfl⟩ := hj
  subst hvs hH
  have ha := lt_of_at ho
  have es : szs K (H.set a (.inr (.int, vs.set j.toNatClampNeg (.int x)))) = szs K H := szs_set ho (by show (List.set _ _ _).length = _; simp [osz])
  refine Runs.heap (by rw [List.length_set]; exact Nat.le_refl _) (by rw [es]; exact Nat.le_refl _) (fun p e R s m args below meth c T locs cells slots X hx hZ hc hml hown hnm hrel hfr hf' hlo hsz hcl hsl => ?_) kk
  obtain ⟨cl, A, hs, hl, hvs⟩ := hrel.2 a _ ho
  have hin : ¬ (j < 0 ∨ cl.slots.size ≤ j.toNatClampNeg) := fun z => z.elim hj0 (fun q => by rw [hs] at q; omega)
  obtain ⟨T1, h1, X1, e1, W1, st1⟩ := stI X hx hZ rfl A hin (g := mkF m pc (ls.map (shS n0)).toArray (.int x :: .int j :: .ref (n0 + a) :: st.map (shV n0))) rfl rfl (hb hc hd)
  refine ⟨T1, _, _, _, X1, ?_, Fr.snoc X1 hfr (Nat.le_add_right _ _), by rw [List.length_set]; exact hsz, by rw [es]; exact Nat.le_refl _, st1⟩
  rw [e1]
  refine hrel.put W1 ha ⟨_, A.same W1, by rw [sz_set, hs, List.length_set], by rw [List.length_set]; exact hl, fun k y hy => ?_⟩
  by_cases e : j.toNatClampNeg = k
  · subst e
    rw [List.getElem?_set_self hi] at hy
    cases hy
    exact ⟨by simp [Cell.setSlot, hs, hi, shV, nar], rfl⟩
  · rw [List.getElem?_set_ne e] at hy
    refine ⟨?_, (hvs k y hy).2⟩
    exact (Array.getElem?_setIfInBounds_ne e).trans (hvs k y hy).1
theorem r_lastore {a i : Nat} {vs vs' : List Value} {j : Int32} {x : Int64} (hd : decode mi.2.1 pc = .ok (.lastore, 1) ∧ pc + 1 = np) (ho : H[a]? = some (.inr (.long, vs))) (hj : Ix j i) (hi : i < vs.length) (hvs : vs.set i (.long x) = vs') (hH : H.set a (.inr (.long, vs')) = H1) (kk : Runs K l Z n0 mi np ls st H1 v H') : Runs K l Z n0 mi pc ls (.long x :: .int j :: .ref a :: st) H v H' := by
  obtain ⟨hd, rfl⟩ := hd
  obtain ⟨hj0, rfl⟩ := hj
  subst hvs hH
  have ha := lt_of_at ho
  have es : szs K (H.set a (.inr (.long, vs.set j.toNatClampNeg (.long x)))) = szs K H := szs_set ho (by show (List.set _ _ _).length = _; simp [osz])
  refine Runs.heap (by rw [List.length_set]; exact Nat.le_refl _) (by rw [es]; exact Nat.le_refl _) (fun p e R s m args below meth c T locs cells slots X hx hZ hc hml hown hnm hrel hfr hf' hlo hsz hcl hsl => ?_) kk
  obtain ⟨cl, A, hs, hl, hvs⟩ := hrel.2 a _ ho
  have hin : ¬ (j < 0 ∨ cl.slots.size ≤ j.toNatClampNeg) := fun z => z.elim hj0 (fun q => by rw [hs] at q; omega)
  obtain ⟨T1, h1, X1, e1, W1, st1⟩ := stJ X hx hZ rfl A hin (g := mkF m pc (ls.map (shS n0)).toArray (.long x :: .int j :: .ref (n0 + a) :: st.map (shV n0))) rfl rfl (hb hc hd)
  refine ⟨T1, _, _, _, X1, ?_, Fr.snoc X1 hfr (Nat.le_add_right _ _), by rw [List.length_set]; exact hsz, by rw [es]; exact Nat.le_refl _, st1⟩
  rw [e1]
  refine hrel.put W1 ha ⟨_, A.same W1, by rw [sz_set, hs, List.length_set], by rw [List.length_set]; exact hl, fun k y hy => ?_⟩
  by_cases e : j.toNatClampNeg = k
  · subst e
    rw [List.getElem?_set_self hi] at hy
    cases hy
    exact ⟨by simp [Cell.setSlot, hs, hi, shV, nar], rfl⟩
  · rw [List.getElem?_set_ne e] at hy
    refine ⟨?_, (hvs k y hy).2⟩
    exact (Array.getElem?_setIfInBounds_ne e).trans (hvs k y hy).1
theorem r_bastore {a i : Nat} {vs vs' : List Value} {j : Int32} {x : Int32} (hd : decode mi.2.1 pc = .ok (.bastore, 1) ∧ pc + 1 = np) (ho : H[a]? = some (.inr (.byte, vs))) (hj : Ix j i) (hi : i < vs.length) (hvs : vs.set i (.int x.toInt8.toInt32) = vs') (hH : H.set a (.inr (.byte, vs')) = H1) (kk : Runs K l Z n0 mi np ls st H1 v H') : Runs K l Z n0 mi pc ls (.int x :: .int j :: .ref a :: st) H v H' := by
  obtain ⟨hd, rfl⟩ := hd
  obtain ⟨hj0, rfl⟩ := hj
  subst hvs hH
  have ha := lt_of_at ho
  have es : szs K (H.set a (.inr (.byte, vs.set j.toNatClampNeg (.int x.toInt8.toInt32)))) = szs K H := szs_set ho (by show (List.set _ _ _).length = _; simp [osz])
  refine Runs.heap (by rw [List.length_set]; exact Nat.le_refl _) (by rw [es]; exact Nat.le_refl _) (fun p e R s m args below meth c T locs cells slots X hx hZ hc hml hown hnm hrel hfr hf' hlo hsz hcl hsl => ?_) kk
  obtain ⟨cl, A, hs, hl, hvs⟩ := hrel.2 a _ ho
  have hin : ¬ (j < 0 ∨ cl.slots.size ≤ j.toNatClampNeg) := fun z => z.elim hj0 (fun q => by rw [hs] at q; omega)
  obtain ⟨T1, h1, X1, e1, W1, st1⟩ := stB X hx hZ rfl A hin (g := mkF m pc (ls.map (shS n0)).toArray (.int x :: .int j :: .ref (n0 + a) :: st.map (shV n0))) rfl rfl (hb hc hd)
  refine ⟨T1, _, _, _, X1, ?_, Fr.snoc X1 hfr (Nat.le_add_right _ _), by rw [List.length_set]; exact hsz, by rw [es]; exact Nat.le_refl _, st1⟩
  rw [e1]
  refine hrel.put W1 ha ⟨_, A.same W1, by rw [sz_set, hs, List.length_set], by rw [List.length_set]; exact hl, fun k y hy => ?_⟩
  by_cases e : j.toNatClampNeg = k
  · subst e
    rw [List.getElem?_set_self hi] at hy
    cases hy
    exact ⟨by simp [Cell.setSlot, hs, hi, shV, nar], fits_byte x⟩
  · rw [List.getElem?_set_ne e] at hy
    refine ⟨?_, (hvs k y hy).2⟩
    exact (Array.getElem?_setIfInBounds_ne e).trans (hvs k y hy).1
/-! ### calls -/
theorem map_toList (w : Option Value) (rest : List Value) : ((w.toList ++ rest).map (shV n0)) = (w.map (shV n0)).toList ++ rest.map (shV n0) := by cases w <;> simp
theorem r_initO {a idx : Nat} (hd : decode mi.2.1 pc = .ok (.invokespecial idx, 3) ∧ pc + 3 = np) (w1 : (Jvm.Cond.methodLink mi.1.cls idx Lib.objectInit).before a0 Z = true) (w2 : (Jvm.Cond.instanceMethod Lib.objectInit).before a0 Z = true) (w3 : (Jvm.Cond.code Lib.objectInit ⟨#[0xb1]⟩ 1 none).before a0 Z = true)
    (hls : ls.length = mi.2.2.1) (hf : 1 ≤ mi.2.2.2.2.1) (hlo : (st.map fun v => v.category).sum + 12 ≤ mi.2.2.2.2.2) (kk : Runs K l Z n0 mi np ls st H v H') : Runs K l Z n0 mi pc ls (.ref a :: st) H v H' := by
  obtain ⟨hd, rfl⟩ := hd
  refine Runs.heap (Nat.le_refl _) (Nat.le_refl _) (fun p e R s m args below meth c T locs cells slots X hx hZ hc hml hown hnm hrel hfr hf' hlo' hsz hcl hsl => ?_) kk
  obtain ⟨T1, X1, e1, st1⟩ := initO X hx hZ hown w1 w2 w3 rfl (g := mkF m pc (ls.map (shS n0)).toArray (.ref (n0 + a) :: st.map (shV n0))) rfl (by rw [hml, ← hls]; simp) rfl (hb hc hd) (by omega) (W := (st.map fun v => v.category).sum) (by rw [cats_sh]; show 2 * 0 + _ ≤ _; omega) (by omega)
  exact ⟨T1, _, _, _, X1, by rw [e1]; exact hrel, hfr, hsz, Nat.le_refl _, st1⟩
theorem backM {mj : MI} {as : List Value} {w : Option Value} {h : Heap} {p : Program} {e : Env} {R : Room} {s : State} {args : Array Value} {below : List Frame} {len W : Nat} (M : Meets K l Z n0 mj as H w H1) (hrel : Rel K Z n0 H h) (hZ : Z.Warmed39 s.vm) (w4 : (Jvm.Cond.code mj.1 mj.2.1 mj.2.2.1 mj.2.2.2.1).before a0 Z = true) (w3 : (Jvm.Cond.initialized mj.1.cls).before a0 Z = true)
    (hf : mj.2.2.2.2.1 + 1 ≤ R.frames) (hl : W + (mj.2.2.1 + 11) + mj.2.2.2.2.2 ≤ R.locals) :
    Back l R p e below s args mj.1 len W (fun A a => a = (as.map (shV n0)).toArray ∧ A.U.heap = h ∧ A.cells + (H1.length - H.length) ≤ R.cells ∧ A.slots + (szs K H1 - szs K H) ≤ R.slots)
      (fun A _ v B => ∃ L, (v = w.map (shV n0) ∧ Rel K Z n0 H1 B.U.heap ∧ Fr n0 L) ∧ B.locs = A.locs ++ L ∧ B.cells = A.cells + (H1.length - H.length) ∧ B.slots = A.slots + (szs K H1 - szs K H)) :=
  backOf (rm := rmOf K mj H H1) (Q := fun v h L => v = w.map (shV n0) ∧ Rel K Z n0 H1 h ∧ Fr n0 L) (M.2.2 h hrel) hZ w4 w3 hf hl
theorem r_static {mj : MI} {as : List Value} {w : Option Value} {idx : Nat} (hd : decode mi.2.1 pc = .ok (.invokestatic idx, 3) ∧ pc + 3 = np) (w1 : (Jvm.Cond.methodLink mi.1.cls idx mj.1).before a0 Z = true) (w2 : (Jvm.Cond.static mj.1).before a0 Z = true) (w3 : (Jvm.Cond.initialized mj.1.cls).before a0 Z = true) (w4 : (Jvm.Cond.code mj.1 mj.2.1 mj.2.2.1 mj.2.2.2.1).before a0 Z = true)
    (hy : mj.1.cls ≠ "java/lang/invoke/MethodHandle" ∧ mj.1.cls ≠ "java/lang/invoke/VarHandle") (hlen : ∀ sig, parseMethodDescriptor mj.1.desc = some sig → as.length = sig.parameters.length) (hfr : mj.2.2.2.2.1 + 1 ≤ mi.2.2.2.2.1)
    (hst : as.reverse ++ rest = st) (hls : ls.length = mi.2.2.1) (hlo : (rest.map fun v => v.category).sum + (mj.2.2.1 + 11) + mj.2.2.2.2.2 ≤ mi.2.2.2.2.2)
    (M : Meets K l Z n0 mj as H w H1) (kk : Runs K l Z n0 mi np ls (w.toList ++ rest) H1 v H') : Runs K l Z n0 mi pc ls st H v H' := by
  obtain ⟨hd, rfl⟩ := hd
  subst hst
  have m1 := M.1
  have m2 := M.2.1
  refine Runs.heap m1 m2 (fun p e R s m args below meth c T locs cells slots X hx hZ hc hml hown hnm hrel hfr' hf' hlo' hsz hcl hsl => ?_) kk
  obtain ⟨_, _, ⟨T1, L1, k1, n1⟩, -, X1, ⟨Lc, hQ, l1, y1, z1⟩, st1⟩ := Jvm.LawKit.callS X hx (y := mj.1) hown (mvT hZ w1) (mvT hZ w2) (mvT hZ w3) (mvT hZ w4) hy
    (backM (W := (rest.map fun v => v.category).sum) M hrel hZ w4 w3 (by omega) (by omega))
    (g := mkF m pc (ls.map (shS n0)).toArray ((as.reverse ++ rest).map (shV n0))) rfl (by rw [hml, ← hls]; simp) (argsL := as.map (shV n0)) (rest := rest.map (shV n0)) (fun sig q => by rw [List.length_map]; exact hlen sig q) (by simp) (by rw [cats_sh]; show 2 * 0 + _ ≤ _; omega) (hb hc hd)
    (fun _ _ => ⟨rfl, rfl, (by show cells + (H1.length - H.length) ≤ _; omega), (by show slots + (szs K H1 - szs K H) ≤ _; omega)⟩)
  dsimp only [Pt.U, Pt.locs, Pt.cells, Pt.slots] at X1 l1 y1 z1 st1 hQ
  subst l1 y1 z1
  obtain ⟨rfl, R1, F1⟩ := hQ
  refine ⟨T1, _, _, _, X1, R1, Fr.app hfr' F1, by show s.heap.size + (cells + (H1.length - H.length)) = _; omega, by show slots + (szs K H1 - szs K H) + _ ≤ _; omega, fun t q => st1 t ?_⟩
  rw [map_toList] at q; exact q
theorem r_special {mj : MI} {as : List Value} {a idx : Nat} (hd : decode mi.2.1 pc = .ok (.invokespecial idx, 3) ∧ pc + 3 = np) (hy1 : mj.1.name = "<init>") (hr : mj.2.2.2.1 = none) (w1 : (Jvm.Cond.methodLink mi.1.cls idx mj.1).before a0 Z = true) (w2 : (Jvm.Cond.instanceMethod mj.1).before a0 Z = true) (w3 : (Jvm.Cond.initialized mj.1.cls).before a0 Z = true) (w4 : (Jvm.Cond.code mj.1 mj.2.1 mj.2.2.1 mj.2.2.2.1).before a0 Z = true)
    (hy : mj.1.cls ≠ "java/lang/invoke/MethodHandle" ∧ mj.1.cls ≠ "java/lang/invoke/VarHandle") (hlen : ∀ sig, parseMethodDescriptor mj.1.desc = some sig → as.length = sig.parameters.length) (hfr : mj.2.2.2.2.1 + 1 ≤ mi.2.2.2.2.1)
    (hst : as.reverse ++ .ref a :: rest = st) (hls : ls.length = mi.2.2.1) (hlo : (rest.map fun v => v.category).sum + (mj.2.2.1 + 11) + mj.2.2.2.2.2 ≤ mi.2.2.2.2.2)
    (M : Meets K l Z n0 mj (.ref a :: as) H none H1) (kk : Runs K l Z n0 mi np ls rest H1 v H') : Runs K l Z n0 mi pc ls st H v H' := by
  obtain ⟨hd, rfl⟩ := hd
  subst hst
  have m1 := M.1
  have m2 := M.2.1
  refine Runs.heap m1 m2 (fun p e R s m args below meth c T locs cells slots X hx hZ hc hml hown hnm hrel hfr' hf' hlo' hsz hcl hsl => ?_) kk
  have w4' := w4
  rw [hr] at w4'
  obtain ⟨_, _, ⟨T1, L1, k1, n1⟩, -, X1, ⟨Lc, hQ, l1, y1, z1⟩, st1⟩ := X.specialBack hx (y := mj.1) hy1 hown (mvT hZ w1) (mvT hZ w2) (mvT hZ w4') hy
    (backM (W := (rest.map fun v => v.category).sum) M hrel hZ w4 w3 (by omega) (by omega))
    (g := mkF m pc (ls.map (shS n0)).toArray ((as.reverse ++ .ref a :: rest).map (shV n0))) rfl (by rw [hml, ← hls]; simp) (Steps.refl _) (a := n0 + a) (argsL := as.map (shV n0)) (rest := rest.map (shV n0)) (fun sig q => by rw [List.length_map]; exact hlen sig q) (by simp [shV]) (by rw [cats_sh]; show 2 * 0 + _ ≤ _; omega) (hb hc hd)
    (fun _ _ => ⟨rfl, rfl, (by show cells + (H1.length - H.length) ≤ _; omega), (by show slots + (szs K H1 - szs K H) ≤ _; omega)⟩)
  dsimp only [Pt.U, Pt.locs, Pt.cells, Pt.slots] at X1 l1 y1 z1 st1 hQ
  subst l1 y1 z1
  obtain ⟨rfl, R1, F1⟩ := hQ
  exact ⟨T1, _, _, _, X1, R1, Fr.app hfr' F1, by show s.heap.size + (cells + (H1.length - H.length)) = _; omega, by show slots + (szs K H1 - szs K H) + _ ≤ _; omega, fun t q => st1.trans q⟩
theorem r_virtual {mj : MI} {as : List Value} {w : Option Value} {a cid idx : Nat} {ci : CI} {vs : List Value} (hd : decode mi.2.1 pc = .ok (.invokevirtual idx, 3) ∧ pc + 3 = np) (w1 : (Jvm.Cond.methodLink mi.1.cls idx mj.1).before a0 Z = true) (w2 : (Jvm.Cond.declares mj.1).before a0 Z = true) (w5 : (Jvm.Cond.selects ci.1 mj.1 mj.1).before a0 Z = true) (w6 : (Jvm.Cond.instanceMethod mj.1).before a0 Z = true) (w3 : (Jvm.Cond.initialized mj.1.cls).before a0 Z = true) (w4 : (Jvm.Cond.code mj.1 mj.2.1 mj.2.2.1 mj.2.2.2.1).before a0 Z = true)
    (hy : mj.1.cls ≠ "java/lang/invoke/MethodHandle" ∧ mj.1.cls ≠ "java/lang/invoke/VarHandle") (hlen : ∀ sig, parseMethodDescriptor mj.1.desc = some sig → as.length = sig.parameters.length) (hfr : mj.2.2.2.2.1 + 1 ≤ mi.2.2.2.2.1) (hci : K[cid]? = some ci)
    (hst : as.reverse ++ .ref a :: rest = st) (ho : H[a]? = some (.inl (cid, vs))) (hls : ls.length = mi.2.2.1) (hlo : (rest.map fun v => v.category).sum + (mj.2.2.1 + 11) + mj.2.2.2.2.2 ≤ mi.2.2.2.2.2)
    (M : Meets K l Z n0 mj (.ref a :: as) H w H1) (kk : Runs K l Z n0 mi np ls (w.toList ++ rest) H1 v H') : Runs K l Z n0 mi pc ls st H v H' := by
  obtain ⟨hd, rfl⟩ := hd
  subst hst
  have m1 := M.1
  have m2 := M.2.1
  refine Runs.heap m1 m2 (fun p e R s m args below meth c T locs cells slots X hx hZ hc hml hown hnm hrel hfr' hf' hlo' hsz hcl hsl => ?_) kk
  obtain ⟨ci', q1, E, F⟩ := hrel.2 a _ ho
  cases hci.symm.trans q1
  obtain ⟨cq, kq, qa, qb, qc⟩ := isOf hZ rfl E
  obtain ⟨_, _, ⟨T1, L1, k1, n1⟩, -, X1, ⟨Lc, hQ, l1, y1, z1⟩, st1⟩ := X.virtualBack hx (y := mj.1) (z := mj.1) hown (mvT hZ w1) (mvT hZ w2) (notFace_of_selects (args := #[]) (mvT hZ w5)) (mvT hZ w5) (mvT hZ w6) hy
    (backM (W := (rest.map fun v => v.category).sum) M hrel hZ w4 w3 (by omega) (by omega)) qa qc
    (g := mkF m pc (ls.map (shS n0)).toArray ((as.reverse ++ .ref a :: rest).map (shV n0))) rfl (by rw [hml, ← hls]; simp) (Steps.refl _) (argsL := as.map (shV n0)) (rest := rest.map (shV n0)) (fun sig q => by rw [List.length_map]; exact hlen sig q) (by simp [shV]) (by rw [cats_sh]; show 2 * 0 + _ ≤ _; omega) (hb hc hd)
    (fun _ _ => ⟨rfl, rfl, (by show cells + (H1.length - H.length) ≤ _; omega), (by show slots + (szs K H1 - szs K H) ≤ _; omega)⟩)
  dsimp only [Pt.U, Pt.locs, Pt.cells, Pt.slots] at X1 l1 y1 z1 st1 hQ
  subst l1 y1 z1
  obtain ⟨rfl, R1, F1⟩ := hQ
  refine ⟨T1, _, _, _, X1, R1, Fr.app hfr' F1, by show s.heap.size + (cells + (H1.length - H.length)) = _; omega, by show slots + (szs K H1 - szs K H) + _ ≤ _; omega, fun t q => st1.trans ?_⟩
  rw [map_toList] at q; exact q
theorem r_private {mj : MI} {as : List Value} {w : Option Value} {a cid idx : Nat} {ci : CI} {vs : List Value} (hd : decode mi.2.1 pc = .ok (.invokevirtual idx, 3) ∧ pc + 3 = np) (w1 : (Jvm.Cond.methodLink mi.1.cls idx mj.1).before a0 Z = true) (w5 : (Jvm.Cond.selects mj.1.cls mj.1 mj.1).before a0 Z = true) (w7 : (Jvm.Cond.privateMethod mj.1).before a0 Z = true) (w6 : (Jvm.Cond.instanceMethod mj.1).before a0 Z = true) (w3 : (Jvm.Cond.initialized mj.1.cls).before a0 Z = true) (w4 : (Jvm.Cond.code mj.1 mj.2.1 mj.2.2.1 mj.2.2.2.1).before a0 Z = true)
    (hy : mj.1.cls ≠ "java/lang/invoke/MethodHandle" ∧ mj.1.cls ≠ "java/lang/invoke/VarHandle") (hlen : ∀ sig, parseMethodDescriptor mj.1.desc = some sig → as.length = sig.parameters.length) (hfr : mj.2.2.2.2.1 + 1 ≤ mi.2.2.2.2.1) (hci : K[cid]? = some ci)
    (hst : as.reverse ++ .ref a :: rest = st) (ho : H[a]? = some (.inl (cid, vs))) (hls : ls.length = mi.2.2.1) (hlo : (rest.map fun v => v.category).sum + (mj.2.2.1 + 11) + mj.2.2.2.2.2 ≤ mi.2.2.2.2.2)
    (M : Meets K l Z n0 mj (.ref a :: as) H w H1) (kk : Runs K l Z n0 mi np ls (w.toList ++ rest) H1 v H') : Runs K l Z n0 mi pc ls st H v H' := by
  obtain ⟨hd, rfl⟩ := hd
  subst hst
  have m1 := M.1
  have m2 := M.2.1
  refine Runs.heap m1 m2 (fun p e R s m args below meth c T locs cells slots X hx hZ hc hml hown hnm hrel hfr' hf' hlo' hsz hcl hsl => ?_) kk
  obtain ⟨ci', q1, E, F⟩ := hrel.2 a _ ho
  cases hci.symm.trans q1
  obtain ⟨cq, qa, qc⟩ := E.cell
  obtain ⟨_, _, ⟨T1, L1, k1, n1⟩, -, X1, ⟨Lc, hQ, l1, y1, z1⟩, st1⟩ := X.privateBack hx (y := mj.1) hown (mvT hZ w1) (mvT hZ w6) (mvT hZ w5) (Cond.privateMethod_at (mvP hZ w7 (args := #[]))) (mvT hZ w4) hy
    (backM (W := (rest.map fun v => v.category).sum) M hrel hZ w4 w3 (by omega) (by omega))
    (g := mkF m pc (ls.map (shS n0)).toArray ((as.reverse ++ .ref a :: rest).map (shV n0))) rfl (by rw [hml, ← hls]; simp) (Steps.refl _) (a := n0 + a) qa qc (argsL := as.map (shV n0)) (rest := rest.map (shV n0)) (fun sig q => by rw [List.length_map]; exact hlen sig q) (by simp [shV]) (by rw [cats_sh]; show 2 * 0 + _ ≤ _; omega) (hb hc hd)
    (fun _ _ => ⟨rfl, rfl, (by show cells + (H1.length - H.length) ≤ _; omega), (by show slots + (szs K H1 - szs K H) ≤ _; omega)⟩)
  dsimp only [Pt.U, Pt.locs, Pt.cells, Pt.slots] at X1 l1 y1 z1 st1 hQ
  subst l1 y1 z1
  obtain ⟨rfl, R1, F1⟩ := hQ
  refine ⟨T1, _, _, _, X1, R1, Fr.app hfr' F1, by show s.heap.size + (cells + (H1.length - H.length)) = _; omega, by show slots + (szs K H1 - szs K H) + _ ≤ _; omega, fun t q => st1.trans ?_⟩
  rw [map_toList] at q; exact q
end Logic
abbrev HW (Z : State) (a0 : Array Value) : Prop := ∀ d ∈ tables_1, d.before a0 Z = true
def K : List CI := []
theorem allL0 {α : Type} {P : α → Prop} : ∀ x ∈ ([] : List α), P x := fun _ q => nomatch q
theorem allLS {α : Type} {P : α → Prop} {y : α} {L : List α} (q : P y) (r : ∀ x ∈ L, P x) : ∀ x ∈ y :: L, P x := fun x z => (List.mem_cons.mp z).elim (fun u => u ▸ q) (r x)
theorem kok {Z : State} {a0 : Array Value} (hw : HW Z a0) : KOk K Z a0 := by
  intro k ci h
  simp [K] at h
def m0 : MI := (x, code, 18, some .boolean, 1, 15)
def m1 : MI := (⟨"com/example/alike2/alike2/io/FileTextStartsWithPinLaw", "value", "(IIII)I"⟩, method_3_code, 4, some .int, 0, 0)
def m2 : MI := (⟨"com/example/alike2/alike2/io/FileText", "startsWith", "([B[I)Z"⟩, prog_2_method_6_code, 3, some .boolean, 0, 0)
theorem pd0 : parseMethodDescriptor "(IIII)Z" = some ⟨[.int, .int, .int, .int], some .boolean⟩ := by decide +kernel
theorem pf0 : plainFor m0.1 = true := by first | exact plainFor_of_name (by first | (simp [m0, x, plainName, overriddenIn]; done) | decide +kernel) | decide +kernel
theorem pd1 : parseMethodDescriptor "(IIII)I" = some ⟨[.int, .int, .int, .int], some .int⟩ := by decide +kernel
theorem pf1 : plainFor m1.1 = true := by first | exact plainFor_of_name (by first | (simp [m1, x, plainName, overriddenIn]; done) | decide +kernel) | decide +kernel
theorem pd2 : parseMethodDescriptor "([B[I)Z" = some ⟨[(.array .byte), (.array .int)], some .boolean⟩ := by decide +kernel
theorem pf2 : plainFor m2.1 = true := by first | exact plainFor_of_name (by first | (simp [m2, x, plainName, overriddenIn]; done) | decide +kernel) | decide +kernel
theorem i0_0 : decode m0.2.1 0 = .ok (.iload_n 0, 1) ∧ 0 + 1 = 1 := ⟨by decide +kernel, rfl⟩
theorem i0_1 : decode m0.2.1 1 = .ok (.iconst 3, 1) ∧ 1 + 1 = 2 ∧ Int32.ofInt 3 = 3 := ⟨by decide +kernel, rfl, by decide⟩
theorem i0_2 : decode m0.2.1 2 = .ok (.iand, 1) ∧ 2 + 1 = 3 := ⟨by decide +kernel, rfl⟩
theorem i0_3 : decode m0.2.1 3 = .ok (.istore 4, 2) ∧ 3 + 2 = 5 := ⟨by decide +kernel, rfl⟩
theorem i0_5 : decode m0.2.1 5 = .ok (.iload_n 0, 1) ∧ 5 + 1 = 6 := ⟨by decide +kernel, rfl⟩
theorem i0_6 : decode m0.2.1 6 = .ok (.iconst 2, 1) ∧ 6 + 1 = 7 ∧ Int32.ofInt 2 = 2 := ⟨by decide +kernel, rfl, by decide⟩
theorem i0_7 : decode m0.2.1 7 = .ok (.iushr, 1) ∧ 7 + 1 = 8 := ⟨by decide +kernel, rfl⟩
theorem i0_8 : decode m0.2.1 8 = .ok (.iconst 3, 1) ∧ 8 + 1 = 9 ∧ Int32.ofInt 3 = 3 := ⟨by decide +kernel, rfl, by decide⟩
theorem i0_9 : decode m0.2.1 9 = .ok (.iand, 1) ∧ 9 + 1 = 10 := ⟨by decide +kernel, rfl⟩
theorem i0_10 : decode m0.2.1 10 = .ok (.istore 5, 2) ∧ 10 + 2 = 12 := ⟨by decide +kernel, rfl⟩
theorem i0_12 : decode m0.2.1 12 = .ok (.iload_n 1, 1) ∧ 12 + 1 = 13 := ⟨by decide +kernel, rfl⟩
theorem i0_13 : decode m0.2.1 13 = .ok (.sipush 255, 3) ∧ 13 + 3 = 16 ∧ (Int16.ofInt 255).toInt32 = 255 := ⟨by decide +kernel, rfl, by decide⟩
theorem i0_16 : decode m0.2.1 16 = .ok (.iand, 1) ∧ 16 + 1 = 17 := ⟨by decide +kernel, rfl⟩
theorem i0_17 : decode m0.2.1 17 = .ok (.istore 6, 2) ∧ 17 + 2 = 19 := ⟨by decide +kernel, rfl⟩
theorem i0_19 : decode m0.2.1 19 = .ok (.iload_n 1, 1) ∧ 19 + 1 = 20 := ⟨by decide +kernel, rfl⟩
theorem i0_20 : decode m0.2.1 20 = .ok (.bipush 8, 2) ∧ 20 + 2 = 22 ∧ (Int8.ofInt 8).toInt32 = 8 := ⟨by decide +kernel, rfl, by decide⟩
theorem i0_22 : decode m0.2.1 22 = .ok (.iushr, 1) ∧ 22 + 1 = 23 := ⟨by decide +kernel, rfl⟩
theorem i0_23 : decode m0.2.1 23 = .ok (.sipush 255, 3) ∧ 23 + 3 = 26 ∧ (Int16.ofInt 255).toInt32 = 255 := ⟨by decide +kernel, rfl, by decide⟩
theorem i0_26 : decode m0.2.1 26 = .ok (.iand, 1) ∧ 26 + 1 = 27 := ⟨by decide +kernel, rfl⟩
theorem i0_27 : decode m0.2.1 27 = .ok (.istore 7, 2) ∧ 27 + 2 = 29 := ⟨by decide +kernel, rfl⟩
theorem i0_29 : decode m0.2.1 29 = .ok (.iload_n 1, 1) ∧ 29 + 1 = 30 := ⟨by decide +kernel, rfl⟩
theorem i0_30 : decode m0.2.1 30 = .ok (.bipush 16, 2) ∧ 30 + 2 = 32 ∧ (Int8.ofInt 16).toInt32 = 16 := ⟨by decide +kernel, rfl, by decide⟩
theorem i0_32 : decode m0.2.1 32 = .ok (.iushr, 1) ∧ 32 + 1 = 33 := ⟨by decide +kernel, rfl⟩
theorem i0_33 : decode m0.2.1 33 = .ok (.sipush 255, 3) ∧ 33 + 3 = 36 ∧ (Int16.ofInt 255).toInt32 = 255 := ⟨by decide +kernel, rfl, by decide⟩
theorem i0_36 : decode m0.2.1 36 = .ok (.iand, 1) ∧ 36 + 1 = 37 := ⟨by decide +kernel, rfl⟩
theorem i0_37 : decode m0.2.1 37 = .ok (.istore 8, 2) ∧ 37 + 2 = 39 := ⟨by decide +kernel, rfl⟩
theorem i0_39 : decode m0.2.1 39 = .ok (.iload 4, 2) ∧ 39 + 2 = 41 := ⟨by decide +kernel, rfl⟩
theorem i0_41 : decode m0.2.1 41 = .ok (.ifCond .ne 11, 3) ∧ 41 + 3 = 44 ∧ 0 ≤ ((41 : Nat) : Int) + 11 ∧ (((41 : Nat) : Int) + 11).toNat = 52 := ⟨by decide +kernel, rfl, by decide, by decide⟩
theorem i0_44 : decode m0.2.1 44 = .ok (.iconst 0, 1) ∧ 44 + 1 = 45 ∧ Int32.ofInt 0 = 0 := ⟨by decide +kernel, rfl, by decide⟩
theorem i0_45 : decode m0.2.1 45 = .ok (.newarray .byte, 2) ∧ 45 + 2 = 47 := ⟨by decide +kernel, rfl⟩
theorem i0_47 : decode m0.2.1 47 = .ok (.astore 9, 2) ∧ 47 + 2 = 49 := ⟨by decide +kernel, rfl⟩
theorem i0_49 : decode m0.2.1 49 = .ok (.goto 72, 3) ∧ 49 + 3 = 52 ∧ 0 ≤ ((49 : Nat) : Int) + 72 ∧ (((49 : Nat) : Int) + 72).toNat = 121 := ⟨by decide +kernel, rfl, by decide, by decide⟩
theorem i0_52 : decode m0.2.1 52 = .ok (.iload 4, 2) ∧ 52 + 2 = 54 := ⟨by decide +kernel, rfl⟩
theorem i0_54 : decode m0.2.1 54 = .ok (.iconst 1, 1) ∧ 54 + 1 = 55 ∧ Int32.ofInt 1 = 1 := ⟨by decide +kernel, rfl, by decide⟩
theorem i0_55 : decode m0.2.1 55 = .ok (.if_icmp .ne 17, 3) ∧ 55 + 3 = 58 ∧ 0 ≤ ((55 : Nat) : Int) + 17 ∧ (((55 : Nat) : Int) + 17).toNat = 72 := ⟨by decide +kernel, rfl, by decide, by decide⟩
theorem i0_58 : decode m0.2.1 58 = .ok (.iconst 1, 1) ∧ 58 + 1 = 59 ∧ Int32.ofInt 1 = 1 := ⟨by decide +kernel, rfl, by decide⟩
theorem i0_59 : decode m0.2.1 59 = .ok (.newarray .byte, 2) ∧ 59 + 2 = 61 := ⟨by decide +kernel, rfl⟩
theorem i0_61 : decode m0.2.1 61 = .ok (.dup, 1) ∧ 61 + 1 = 62 := ⟨by decide +kernel, rfl⟩
theorem i0_62 : decode m0.2.1 62 = .ok (.iconst 0, 1) ∧ 62 + 1 = 63 ∧ Int32.ofInt 0 = 0 := ⟨by decide +kernel, rfl, by decide⟩
theorem i0_63 : decode m0.2.1 63 = .ok (.iload 6, 2) ∧ 63 + 2 = 65 := ⟨by decide +kernel, rfl⟩
theorem i0_65 : decode m0.2.1 65 = .ok (.i2b, 1) ∧ 65 + 1 = 66 := ⟨by decide +kernel, rfl⟩
theorem i0_66 : decode m0.2.1 66 = .ok (.bastore, 1) ∧ 66 + 1 = 67 := ⟨by decide +kernel, rfl⟩
theorem i0_67 : decode m0.2.1 67 = .ok (.astore 9, 2) ∧ 67 + 2 = 69 := ⟨by decide +kernel, rfl⟩
theorem i0_69 : decode m0.2.1 69 = .ok (.goto 52, 3) ∧ 69 + 3 = 72 ∧ 0 ≤ ((69 : Nat) : Int) + 52 ∧ (((69 : Nat) : Int) + 52).toNat = 121 := ⟨by decide +kernel, rfl, by decide, by decide⟩
theorem i0_72 : decode m0.2.1 72 = .ok (.iload 4, 2) ∧ 72 + 2 = 74 := ⟨by decide +kernel, rfl⟩
theorem i0_74 : decode m0.2.1 74 = .ok (.iconst 2, 1) ∧ 74 + 1 = 75 ∧ Int32.ofInt 2 = 2 := ⟨by decide +kernel, rfl, by decide⟩
theorem i0_75 : decode m0.2.1 75 = .ok (.if_icmp .ne 23, 3) ∧ 75 + 3 = 78 ∧ 0 ≤ ((75 : Nat) : Int) + 23 ∧ (((75 : Nat) : Int) + 23).toNat = 98 := ⟨by decide +kernel, rfl, by decide, by decide⟩
theorem i0_78 : decode m0.2.1 78 = .ok (.iconst 2, 1) ∧ 78 + 1 = 79 ∧ Int32.ofInt 2 = 2 := ⟨by decide +kernel, rfl, by decide⟩
theorem i0_79 : decode m0.2.1 79 = .ok (.newarray .byte, 2) ∧ 79 + 2 = 81 := ⟨by decide +kernel, rfl⟩
theorem i0_81 : decode m0.2.1 81 = .ok (.dup, 1) ∧ 81 + 1 = 82 := ⟨by decide +kernel, rfl⟩
theorem i0_82 : decode m0.2.1 82 = .ok (.iconst 0, 1) ∧ 82 + 1 = 83 ∧ Int32.ofInt 0 = 0 := ⟨by decide +kernel, rfl, by decide⟩
theorem i0_83 : decode m0.2.1 83 = .ok (.iload 6, 2) ∧ 83 + 2 = 85 := ⟨by decide +kernel, rfl⟩
theorem i0_85 : decode m0.2.1 85 = .ok (.i2b, 1) ∧ 85 + 1 = 86 := ⟨by decide +kernel, rfl⟩
theorem i0_86 : decode m0.2.1 86 = .ok (.bastore, 1) ∧ 86 + 1 = 87 := ⟨by decide +kernel, rfl⟩
theorem i0_87 : decode m0.2.1 87 = .ok (.dup, 1) ∧ 87 + 1 = 88 := ⟨by decide +kernel, rfl⟩
theorem i0_88 : decode m0.2.1 88 = .ok (.iconst 1, 1) ∧ 88 + 1 = 89 ∧ Int32.ofInt 1 = 1 := ⟨by decide +kernel, rfl, by decide⟩
theorem i0_89 : decode m0.2.1 89 = .ok (.iload 7, 2) ∧ 89 + 2 = 91 := ⟨by decide +kernel, rfl⟩
theorem i0_91 : decode m0.2.1 91 = .ok (.i2b, 1) ∧ 91 + 1 = 92 := ⟨by decide +kernel, rfl⟩
theorem i0_92 : decode m0.2.1 92 = .ok (.bastore, 1) ∧ 92 + 1 = 93 := ⟨by decide +kernel, rfl⟩
theorem i0_93 : decode m0.2.1 93 = .ok (.astore 9, 2) ∧ 93 + 2 = 95 := ⟨by decide +kernel, rfl⟩
theorem i0_95 : decode m0.2.1 95 = .ok (.goto 26, 3) ∧ 95 + 3 = 98 ∧ 0 ≤ ((95 : Nat) : Int) + 26 ∧ (((95 : Nat) : Int) + 26).toNat = 121 := ⟨by decide +kernel, rfl, by decide, by decide⟩
theorem i0_98 : decode m0.2.1 98 = .ok (.iconst 3, 1) ∧ 98 + 1 = 99 ∧ Int32.ofInt 3 = 3 := ⟨by decide +kernel, rfl, by decide⟩
theorem i0_99 : decode m0.2.1 99 = .ok (.newarray .byte, 2) ∧ 99 + 2 = 101 := ⟨by decide +kernel, rfl⟩
theorem i0_101 : decode m0.2.1 101 = .ok (.dup, 1) ∧ 101 + 1 = 102 := ⟨by decide +kernel, rfl⟩
theorem i0_102 : decode m0.2.1 102 = .ok (.iconst 0, 1) ∧ 102 + 1 = 103 ∧ Int32.ofInt 0 = 0 := ⟨by decide +kernel, rfl, by decide⟩
theorem i0_103 : decode m0.2.1 103 = .ok (.iload 6, 2) ∧ 103 + 2 = 105 := ⟨by decide +kernel, rfl⟩
theorem i0_105 : decode m0.2.1 105 = .ok (.i2b, 1) ∧ 105 + 1 = 106 := ⟨by decide +kernel, rfl⟩
theorem i0_106 : decode m0.2.1 106 = .ok (.bastore, 1) ∧ 106 + 1 = 107 := ⟨by decide +kernel, rfl⟩
theorem i0_107 : decode m0.2.1 107 = .ok (.dup, 1) ∧ 107 + 1 = 108 := ⟨by decide +kernel, rfl⟩
theorem i0_108 : decode m0.2.1 108 = .ok (.iconst 1, 1) ∧ 108 + 1 = 109 ∧ Int32.ofInt 1 = 1 := ⟨by decide +kernel, rfl, by decide⟩
theorem i0_109 : decode m0.2.1 109 = .ok (.iload 7, 2) ∧ 109 + 2 = 111 := ⟨by decide +kernel, rfl⟩
theorem i0_111 : decode m0.2.1 111 = .ok (.i2b, 1) ∧ 111 + 1 = 112 := ⟨by decide +kernel, rfl⟩
theorem i0_112 : decode m0.2.1 112 = .ok (.bastore, 1) ∧ 112 + 1 = 113 := ⟨by decide +kernel, rfl⟩
theorem i0_113 : decode m0.2.1 113 = .ok (.dup, 1) ∧ 113 + 1 = 114 := ⟨by decide +kernel, rfl⟩
theorem i0_114 : decode m0.2.1 114 = .ok (.iconst 2, 1) ∧ 114 + 1 = 115 ∧ Int32.ofInt 2 = 2 := ⟨by decide +kernel, rfl, by decide⟩
theorem i0_115 : decode m0.2.1 115 = .ok (.iload 8, 2) ∧ 115 + 2 = 117 := ⟨by decide +kernel, rfl⟩
theorem i0_117 : decode m0.2.1 117 = .ok (.i2b, 1) ∧ 117 + 1 = 118 := ⟨by decide +kernel, rfl⟩
theorem i0_118 : decode m0.2.1 118 = .ok (.bastore, 1) ∧ 118 + 1 = 119 := ⟨by decide +kernel, rfl⟩
theorem i0_119 : decode m0.2.1 119 = .ok (.astore 9, 2) ∧ 119 + 2 = 121 := ⟨by decide +kernel, rfl⟩
theorem i0_121 : decode m0.2.1 121 = .ok (.iload_n 3, 1) ∧ 121 + 1 = 122 := ⟨by decide +kernel, rfl⟩
theorem i0_122 : decode m0.2.1 122 = .ok (.iconst 3, 1) ∧ 122 + 1 = 123 ∧ Int32.ofInt 3 = 3 := ⟨by decide +kernel, rfl, by decide⟩
theorem i0_123 : decode m0.2.1 123 = .ok (.iand, 1) ∧ 123 + 1 = 124 := ⟨by decide +kernel, rfl⟩
theorem i0_124 : decode m0.2.1 124 = .ok (.iload 6, 2) ∧ 124 + 2 = 126 := ⟨by decide +kernel, rfl⟩
theorem i0_126 : decode m0.2.1 126 = .ok (.iload_n 2, 1) ∧ 126 + 1 = 127 := ⟨by decide +kernel, rfl⟩
theorem i0_127 : decode m0.2.1 127 = .ok (.iconst 0, 1) ∧ 127 + 1 = 128 ∧ Int32.ofInt 0 = 0 := ⟨by decide +kernel, rfl, by decide⟩
theorem i0_128 : decode m0.2.1 128 = .ok (.invokestatic 7, 3) ∧ 128 + 3 = 131 := ⟨by decide +kernel, rfl⟩
theorem i0_131 : decode m0.2.1 131 = .ok (.istore 10, 2) ∧ 131 + 2 = 133 := ⟨by decide +kernel, rfl⟩
theorem i0_133 : decode m0.2.1 133 = .ok (.iload_n 3, 1) ∧ 133 + 1 = 134 := ⟨by decide +kernel, rfl⟩
theorem i0_134 : decode m0.2.1 134 = .ok (.iconst 2, 1) ∧ 134 + 1 = 135 ∧ Int32.ofInt 2 = 2 := ⟨by decide +kernel, rfl, by decide⟩
theorem i0_135 : decode m0.2.1 135 = .ok (.iushr, 1) ∧ 135 + 1 = 136 := ⟨by decide +kernel, rfl⟩
theorem i0_136 : decode m0.2.1 136 = .ok (.iconst 3, 1) ∧ 136 + 1 = 137 ∧ Int32.ofInt 3 = 3 := ⟨by decide +kernel, rfl, by decide⟩
theorem i0_137 : decode m0.2.1 137 = .ok (.iand, 1) ∧ 137 + 1 = 138 := ⟨by decide +kernel, rfl⟩
theorem i0_138 : decode m0.2.1 138 = .ok (.iload 7, 2) ∧ 138 + 2 = 140 := ⟨by decide +kernel, rfl⟩
theorem i0_140 : decode m0.2.1 140 = .ok (.iload_n 2, 1) ∧ 140 + 1 = 141 := ⟨by decide +kernel, rfl⟩
theorem i0_141 : decode m0.2.1 141 = .ok (.bipush 8, 2) ∧ 141 + 2 = 143 ∧ (Int8.ofInt 8).toInt32 = 8 := ⟨by decide +kernel, rfl, by decide⟩
theorem i0_143 : decode m0.2.1 143 = .ok (.invokestatic 7, 3) ∧ 143 + 3 = 146 := ⟨by decide +kernel, rfl⟩
theorem i0_146 : decode m0.2.1 146 = .ok (.istore 11, 2) ∧ 146 + 2 = 148 := ⟨by decide +kernel, rfl⟩
theorem i0_148 : decode m0.2.1 148 = .ok (.iload_n 3, 1) ∧ 148 + 1 = 149 := ⟨by decide +kernel, rfl⟩
theorem i0_149 : decode m0.2.1 149 = .ok (.iconst 4, 1) ∧ 149 + 1 = 150 ∧ Int32.ofInt 4 = 4 := ⟨by decide +kernel, rfl, by decide⟩
theorem i0_150 : decode m0.2.1 150 = .ok (.iushr, 1) ∧ 150 + 1 = 151 := ⟨by decide +kernel, rfl⟩
theorem i0_151 : decode m0.2.1 151 = .ok (.iconst 3, 1) ∧ 151 + 1 = 152 ∧ Int32.ofInt 3 = 3 := ⟨by decide +kernel, rfl, by decide⟩
theorem i0_152 : decode m0.2.1 152 = .ok (.iand, 1) ∧ 152 + 1 = 153 := ⟨by decide +kernel, rfl⟩
theorem i0_153 : decode m0.2.1 153 = .ok (.iload 8, 2) ∧ 153 + 2 = 155 := ⟨by decide +kernel, rfl⟩
theorem i0_155 : decode m0.2.1 155 = .ok (.iload_n 2, 1) ∧ 155 + 1 = 156 := ⟨by decide +kernel, rfl⟩
theorem i0_156 : decode m0.2.1 156 = .ok (.bipush 16, 2) ∧ 156 + 2 = 158 ∧ (Int8.ofInt 16).toInt32 = 16 := ⟨by decide +kernel, rfl, by decide⟩
theorem i0_158 : decode m0.2.1 158 = .ok (.invokestatic 7, 3) ∧ 158 + 3 = 161 := ⟨by decide +kernel, rfl⟩
theorem i0_161 : decode m0.2.1 161 = .ok (.istore 12, 2) ∧ 161 + 2 = 163 := ⟨by decide +kernel, rfl⟩
theorem i0_163 : decode m0.2.1 163 = .ok (.iload 5, 2) ∧ 163 + 2 = 165 := ⟨by decide +kernel, rfl⟩
theorem i0_165 : decode m0.2.1 165 = .ok (.ifCond .ne 11, 3) ∧ 165 + 3 = 168 ∧ 0 ≤ ((165 : Nat) : Int) + 11 ∧ (((165 : Nat) : Int) + 11).toNat = 176 := ⟨by decide +kernel, rfl, by decide, by decide⟩
theorem i0_168 : decode m0.2.1 168 = .ok (.iconst 0, 1) ∧ 168 + 1 = 169 ∧ Int32.ofInt 0 = 0 := ⟨by decide +kernel, rfl, by decide⟩
theorem i0_169 : decode m0.2.1 169 = .ok (.newarray .int, 2) ∧ 169 + 2 = 171 := ⟨by decide +kernel, rfl⟩
theorem i0_171 : decode m0.2.1 171 = .ok (.astore 13, 2) ∧ 171 + 2 = 173 := ⟨by decide +kernel, rfl⟩
theorem i0_173 : decode m0.2.1 173 = .ok (.goto 66, 3) ∧ 173 + 3 = 176 ∧ 0 ≤ ((173 : Nat) : Int) + 66 ∧ (((173 : Nat) : Int) + 66).toNat = 239 := ⟨by decide +kernel, rfl, by decide, by decide⟩
theorem i0_176 : decode m0.2.1 176 = .ok (.iload 5, 2) ∧ 176 + 2 = 178 := ⟨by decide +kernel, rfl⟩
theorem i0_178 : decode m0.2.1 178 = .ok (.iconst 1, 1) ∧ 178 + 1 = 179 ∧ Int32.ofInt 1 = 1 := ⟨by decide +kernel, rfl, by decide⟩
theorem i0_179 : decode m0.2.1 179 = .ok (.if_icmp .ne 16, 3) ∧ 179 + 3 = 182 ∧ 0 ≤ ((179 : Nat) : Int) + 16 ∧ (((179 : Nat) : Int) + 16).toNat = 195 := ⟨by decide +kernel, rfl, by decide, by decide⟩
theorem i0_182 : decode m0.2.1 182 = .ok (.iconst 1, 1) ∧ 182 + 1 = 183 ∧ Int32.ofInt 1 = 1 := ⟨by decide +kernel, rfl, by decide⟩
theorem i0_183 : decode m0.2.1 183 = .ok (.newarray .int, 2) ∧ 183 + 2 = 185 := ⟨by decide +kernel, rfl⟩
theorem i0_185 : decode m0.2.1 185 = .ok (.dup, 1) ∧ 185 + 1 = 186 := ⟨by decide +kernel, rfl⟩
theorem i0_186 : decode m0.2.1 186 = .ok (.iconst 0, 1) ∧ 186 + 1 = 187 ∧ Int32.ofInt 0 = 0 := ⟨by decide +kernel, rfl, by decide⟩
theorem i0_187 : decode m0.2.1 187 = .ok (.iload 10, 2) ∧ 187 + 2 = 189 := ⟨by decide +kernel, rfl⟩
theorem i0_189 : decode m0.2.1 189 = .ok (.iastore, 1) ∧ 189 + 1 = 190 := ⟨by decide +kernel, rfl⟩
theorem i0_190 : decode m0.2.1 190 = .ok (.astore 13, 2) ∧ 190 + 2 = 192 := ⟨by decide +kernel, rfl⟩
theorem i0_192 : decode m0.2.1 192 = .ok (.goto 47, 3) ∧ 192 + 3 = 195 ∧ 0 ≤ ((192 : Nat) : Int) + 47 ∧ (((192 : Nat) : Int) + 47).toNat = 239 := ⟨by decide +kernel, rfl, by decide, by decide⟩
theorem i0_195 : decode m0.2.1 195 = .ok (.iload 5, 2) ∧ 195 + 2 = 197 := ⟨by decide +kernel, rfl⟩
theorem i0_197 : decode m0.2.1 197 = .ok (.iconst 2, 1) ∧ 197 + 1 = 198 ∧ Int32.ofInt 2 = 2 := ⟨by decide +kernel, rfl, by decide⟩
theorem i0_198 : decode m0.2.1 198 = .ok (.if_icmp .ne 21, 3) ∧ 198 + 3 = 201 ∧ 0 ≤ ((198 : Nat) : Int) + 21 ∧ (((198 : Nat) : Int) + 21).toNat = 219 := ⟨by decide +kernel, rfl, by decide, by decide⟩
theorem i0_201 : decode m0.2.1 201 = .ok (.iconst 2, 1) ∧ 201 + 1 = 202 ∧ Int32.ofInt 2 = 2 := ⟨by decide +kernel, rfl, by decide⟩
theorem i0_202 : decode m0.2.1 202 = .ok (.newarray .int, 2) ∧ 202 + 2 = 204 := ⟨by decide +kernel, rfl⟩
theorem i0_204 : decode m0.2.1 204 = .ok (.dup, 1) ∧ 204 + 1 = 205 := ⟨by decide +kernel, rfl⟩
theorem i0_205 : decode m0.2.1 205 = .ok (.iconst 0, 1) ∧ 205 + 1 = 206 ∧ Int32.ofInt 0 = 0 := ⟨by decide +kernel, rfl, by decide⟩
theorem i0_206 : decode m0.2.1 206 = .ok (.iload 10, 2) ∧ 206 + 2 = 208 := ⟨by decide +kernel, rfl⟩
theorem i0_208 : decode m0.2.1 208 = .ok (.iastore, 1) ∧ 208 + 1 = 209 := ⟨by decide +kernel, rfl⟩
theorem i0_209 : decode m0.2.1 209 = .ok (.dup, 1) ∧ 209 + 1 = 210 := ⟨by decide +kernel, rfl⟩
theorem i0_210 : decode m0.2.1 210 = .ok (.iconst 1, 1) ∧ 210 + 1 = 211 ∧ Int32.ofInt 1 = 1 := ⟨by decide +kernel, rfl, by decide⟩
theorem i0_211 : decode m0.2.1 211 = .ok (.iload 11, 2) ∧ 211 + 2 = 213 := ⟨by decide +kernel, rfl⟩
theorem i0_213 : decode m0.2.1 213 = .ok (.iastore, 1) ∧ 213 + 1 = 214 := ⟨by decide +kernel, rfl⟩
theorem i0_214 : decode m0.2.1 214 = .ok (.astore 13, 2) ∧ 214 + 2 = 216 := ⟨by decide +kernel, rfl⟩
theorem i0_216 : decode m0.2.1 216 = .ok (.goto 23, 3) ∧ 216 + 3 = 219 ∧ 0 ≤ ((216 : Nat) : Int) + 23 ∧ (((216 : Nat) : Int) + 23).toNat = 239 := ⟨by decide +kernel, rfl, by decide, by decide⟩
theorem i0_219 : decode m0.2.1 219 = .ok (.iconst 3, 1) ∧ 219 + 1 = 220 ∧ Int32.ofInt 3 = 3 := ⟨by decide +kernel, rfl, by decide⟩
theorem i0_220 : decode m0.2.1 220 = .ok (.newarray .int, 2) ∧ 220 + 2 = 222 := ⟨by decide +kernel, rfl⟩
theorem i0_222 : decode m0.2.1 222 = .ok (.dup, 1) ∧ 222 + 1 = 223 := ⟨by decide +kernel, rfl⟩
theorem i0_223 : decode m0.2.1 223 = .ok (.iconst 0, 1) ∧ 223 + 1 = 224 ∧ Int32.ofInt 0 = 0 := ⟨by decide +kernel, rfl, by decide⟩
theorem i0_224 : decode m0.2.1 224 = .ok (.iload 10, 2) ∧ 224 + 2 = 226 := ⟨by decide +kernel, rfl⟩
theorem i0_226 : decode m0.2.1 226 = .ok (.iastore, 1) ∧ 226 + 1 = 227 := ⟨by decide +kernel, rfl⟩
theorem i0_227 : decode m0.2.1 227 = .ok (.dup, 1) ∧ 227 + 1 = 228 := ⟨by decide +kernel, rfl⟩
theorem i0_228 : decode m0.2.1 228 = .ok (.iconst 1, 1) ∧ 228 + 1 = 229 ∧ Int32.ofInt 1 = 1 := ⟨by decide +kernel, rfl, by decide⟩
theorem i0_229 : decode m0.2.1 229 = .ok (.iload 11, 2) ∧ 229 + 2 = 231 := ⟨by decide +kernel, rfl⟩
theorem i0_231 : decode m0.2.1 231 = .ok (.iastore, 1) ∧ 231 + 1 = 232 := ⟨by decide +kernel, rfl⟩
theorem i0_232 : decode m0.2.1 232 = .ok (.dup, 1) ∧ 232 + 1 = 233 := ⟨by decide +kernel, rfl⟩
theorem i0_233 : decode m0.2.1 233 = .ok (.iconst 2, 1) ∧ 233 + 1 = 234 ∧ Int32.ofInt 2 = 2 := ⟨by decide +kernel, rfl, by decide⟩
theorem i0_234 : decode m0.2.1 234 = .ok (.iload 12, 2) ∧ 234 + 2 = 236 := ⟨by decide +kernel, rfl⟩
theorem i0_236 : decode m0.2.1 236 = .ok (.iastore, 1) ∧ 236 + 1 = 237 := ⟨by decide +kernel, rfl⟩
theorem i0_237 : decode m0.2.1 237 = .ok (.astore 13, 2) ∧ 237 + 2 = 239 := ⟨by decide +kernel, rfl⟩
theorem i0_239 : decode m0.2.1 239 = .ok (.iload 5, 2) ∧ 239 + 2 = 241 := ⟨by decide +kernel, rfl⟩
theorem i0_241 : decode m0.2.1 241 = .ok (.iconst 1, 1) ∧ 241 + 1 = 242 ∧ Int32.ofInt 1 = 1 := ⟨by decide +kernel, rfl, by decide⟩
theorem i0_242 : decode m0.2.1 242 = .ok (.if_icmp .lt 10, 3) ∧ 242 + 3 = 245 ∧ 0 ≤ ((242 : Nat) : Int) + 10 ∧ (((242 : Nat) : Int) + 10).toNat = 252 := ⟨by decide +kernel, rfl, by decide, by decide⟩
theorem i0_245 : decode m0.2.1 245 = .ok (.iload 10, 2) ∧ 245 + 2 = 247 := ⟨by decide +kernel, rfl⟩
theorem i0_247 : decode m0.2.1 247 = .ok (.iload 6, 2) ∧ 247 + 2 = 249 := ⟨by decide +kernel, rfl⟩
theorem i0_249 : decode m0.2.1 249 = .ok (.if_icmp .ne 7, 3) ∧ 249 + 3 = 252 ∧ 0 ≤ ((249 : Nat) : Int) + 7 ∧ (((249 : Nat) : Int) + 7).toNat = 256 := ⟨by decide +kernel, rfl, by decide, by decide⟩
theorem i0_252 : decode m0.2.1 252 = .ok (.iconst 1, 1) ∧ 252 + 1 = 253 ∧ Int32.ofInt 1 = 1 := ⟨by decide +kernel, rfl, by decide⟩
theorem i0_253 : decode m0.2.1 253 = .ok (.goto 4, 3) ∧ 253 + 3 = 256 ∧ 0 ≤ ((253 : Nat) : Int) + 4 ∧ (((253 : Nat) : Int) + 4).toNat = 257 := ⟨by decide +kernel, rfl, by decide, by decide⟩
theorem i0_256 : decode m0.2.1 256 = .ok (.iconst 0, 1) ∧ 256 + 1 = 257 ∧ Int32.ofInt 0 = 0 := ⟨by decide +kernel, rfl, by decide⟩
theorem i0_257 : decode m0.2.1 257 = .ok (.istore 14, 2) ∧ 257 + 2 = 259 := ⟨by decide +kernel, rfl⟩
theorem i0_259 : decode m0.2.1 259 = .ok (.iload 5, 2) ∧ 259 + 2 = 261 := ⟨by decide +kernel, rfl⟩
theorem i0_261 : decode m0.2.1 261 = .ok (.iconst 2, 1) ∧ 261 + 1 = 262 ∧ Int32.ofInt 2 = 2 := ⟨by decide +kernel, rfl, by decide⟩
theorem i0_262 : decode m0.2.1 262 = .ok (.if_icmp .lt 10, 3) ∧ 262 + 3 = 265 ∧ 0 ≤ ((262 : Nat) : Int) + 10 ∧ (((262 : Nat) : Int) + 10).toNat = 272 := ⟨by decide +kernel, rfl, by decide, by decide⟩
theorem i0_265 : decode m0.2.1 265 = .ok (.iload 11, 2) ∧ 265 + 2 = 267 := ⟨by decide +kernel, rfl⟩
theorem i0_267 : decode m0.2.1 267 = .ok (.iload 7, 2) ∧ 267 + 2 = 269 := ⟨by decide +kernel, rfl⟩
theorem i0_269 : decode m0.2.1 269 = .ok (.if_icmp .ne 7, 3) ∧ 269 + 3 = 272 ∧ 0 ≤ ((269 : Nat) : Int) + 7 ∧ (((269 : Nat) : Int) + 7).toNat = 276 := ⟨by decide +kernel, rfl, by decide, by decide⟩
theorem i0_272 : decode m0.2.1 272 = .ok (.iconst 1, 1) ∧ 272 + 1 = 273 ∧ Int32.ofInt 1 = 1 := ⟨by decide +kernel, rfl, by decide⟩
theorem i0_273 : decode m0.2.1 273 = .ok (.goto 4, 3) ∧ 273 + 3 = 276 ∧ 0 ≤ ((273 : Nat) : Int) + 4 ∧ (((273 : Nat) : Int) + 4).toNat = 277 := ⟨by decide +kernel, rfl, by decide, by decide⟩
theorem i0_276 : decode m0.2.1 276 = .ok (.iconst 0, 1) ∧ 276 + 1 = 277 ∧ Int32.ofInt 0 = 0 := ⟨by decide +kernel, rfl, by decide⟩
theorem i0_277 : decode m0.2.1 277 = .ok (.istore 15, 2) ∧ 277 + 2 = 279 := ⟨by decide +kernel, rfl⟩
theorem i0_279 : decode m0.2.1 279 = .ok (.iload 5, 2) ∧ 279 + 2 = 281 := ⟨by decide +kernel, rfl⟩
theorem i0_281 : decode m0.2.1 281 = .ok (.iconst 3, 1) ∧ 281 + 1 = 282 ∧ Int32.ofInt 3 = 3 := ⟨by decide +kernel, rfl, by decide⟩
theorem i0_282 : decode m0.2.1 282 = .ok (.if_icmp .lt 10, 3) ∧ 282 + 3 = 285 ∧ 0 ≤ ((282 : Nat) : Int) + 10 ∧ (((282 : Nat) : Int) + 10).toNat = 292 := ⟨by decide +kernel, rfl, by decide, by decide⟩
theorem i0_285 : decode m0.2.1 285 = .ok (.iload 12, 2) ∧ 285 + 2 = 287 := ⟨by decide +kernel, rfl⟩
theorem i0_287 : decode m0.2.1 287 = .ok (.iload 8, 2) ∧ 287 + 2 = 289 := ⟨by decide +kernel, rfl⟩
theorem i0_289 : decode m0.2.1 289 = .ok (.if_icmp .ne 7, 3) ∧ 289 + 3 = 292 ∧ 0 ≤ ((289 : Nat) : Int) + 7 ∧ (((289 : Nat) : Int) + 7).toNat = 296 := ⟨by decide +kernel, rfl, by decide, by decide⟩
theorem i0_292 : decode m0.2.1 292 = .ok (.iconst 1, 1) ∧ 292 + 1 = 293 ∧ Int32.ofInt 1 = 1 := ⟨by decide +kernel, rfl, by decide⟩
theorem i0_293 : decode m0.2.1 293 = .ok (.goto 4, 3) ∧ 293 + 3 = 296 ∧ 0 ≤ ((293 : Nat) : Int) + 4 ∧ (((293 : Nat) : Int) + 4).toNat = 297 := ⟨by decide +kernel, rfl, by decide, by decide⟩
theorem i0_296 : decode m0.2.1 296 = .ok (.iconst 0, 1) ∧ 296 + 1 = 297 ∧ Int32.ofInt 0 = 0 := ⟨by decide +kernel, rfl, by decide⟩
theorem i0_297 : decode m0.2.1 297 = .ok (.istore 16, 2) ∧ 297 + 2 = 299 := ⟨by decide +kernel, rfl⟩
theorem i0_299 : decode m0.2.1 299 = .ok (.iload 4, 2) ∧ 299 + 2 = 301 := ⟨by decide +kernel, rfl⟩
theorem i0_301 : decode m0.2.1 301 = .ok (.iload 5, 2) ∧ 301 + 2 = 303 := ⟨by decide +kernel, rfl⟩
theorem i0_303 : decode m0.2.1 303 = .ok (.if_icmp .lt 22, 3) ∧ 303 + 3 = 306 ∧ 0 ≤ ((303 : Nat) : Int) + 22 ∧ (((303 : Nat) : Int) + 22).toNat = 325 := ⟨by decide +kernel, rfl, by decide, by decide⟩
theorem i0_306 : decode m0.2.1 306 = .ok (.iload 14, 2) ∧ 306 + 2 = 308 := ⟨by decide +kernel, rfl⟩
theorem i0_308 : decode m0.2.1 308 = .ok (.ifCond .eq 17, 3) ∧ 308 + 3 = 311 ∧ 0 ≤ ((308 : Nat) : Int) + 17 ∧ (((308 : Nat) : Int) + 17).toNat = 325 := ⟨by decide +kernel, rfl, by decide, by decide⟩
theorem i0_311 : decode m0.2.1 311 = .ok (.iload 15, 2) ∧ 311 + 2 = 313 := ⟨by decide +kernel, rfl⟩
theorem i0_313 : decode m0.2.1 313 = .ok (.ifCond .eq 12, 3) ∧ 313 + 3 = 316 ∧ 0 ≤ ((313 : Nat) : Int) + 12 ∧ (((313 : Nat) : Int) + 12).toNat = 325 := ⟨by decide +kernel, rfl, by decide, by decide⟩
theorem i0_316 : decode m0.2.1 316 = .ok (.iload 16, 2) ∧ 316 + 2 = 318 := ⟨by decide +kernel, rfl⟩
theorem i0_318 : decode m0.2.1 318 = .ok (.ifCond .eq 7, 3) ∧ 318 + 3 = 321 ∧ 0 ≤ ((318 : Nat) : Int) + 7 ∧ (((318 : Nat) : Int) + 7).toNat = 325 := ⟨by decide +kernel, rfl, by decide, by decide⟩
theorem i0_321 : decode m0.2.1 321 = .ok (.iconst 1, 1) ∧ 321 + 1 = 322 ∧ Int32.ofInt 1 = 1 := ⟨by decide +kernel, rfl, by decide⟩
theorem i0_322 : decode m0.2.1 322 = .ok (.goto 4, 3) ∧ 322 + 3 = 325 ∧ 0 ≤ ((322 : Nat) : Int) + 4 ∧ (((322 : Nat) : Int) + 4).toNat = 326 := ⟨by decide +kernel, rfl, by decide, by decide⟩
theorem i0_325 : decode m0.2.1 325 = .ok (.iconst 0, 1) ∧ 325 + 1 = 326 ∧ Int32.ofInt 0 = 0 := ⟨by decide +kernel, rfl, by decide⟩
theorem i0_326 : decode m0.2.1 326 = .ok (.istore 17, 2) ∧ 326 + 2 = 328 := ⟨by decide +kernel, rfl⟩
theorem i0_328 : decode m0.2.1 328 = .ok (.aload 9, 2) ∧ 328 + 2 = 330 := ⟨by decide +kernel, rfl⟩
theorem i0_330 : decode m0.2.1 330 = .ok (.aload 13, 2) ∧ 330 + 2 = 332 := ⟨by decide +kernel, rfl⟩
theorem i0_332 : decode m0.2.1 332 = .ok (.invokestatic 13, 3) ∧ 332 + 3 = 335 := ⟨by decide +kernel, rfl⟩
theorem i0_335 : decode m0.2.1 335 = .ok (.iload 17, 2) ∧ 335 + 2 = 337 := ⟨by decide +kernel, rfl⟩
theorem i0_337 : decode m0.2.1 337 = .ok (.if_icmp .ne 7, 3) ∧ 337 + 3 = 340 ∧ 0 ≤ ((337 : Nat) : Int) + 7 ∧ (((337 : Nat) : Int) + 7).toNat = 344 := ⟨by decide +kernel, rfl, by decide, by decide⟩
theorem i0_340 : decode m0.2.1 340 = .ok (.iconst 1, 1) ∧ 340 + 1 = 341 ∧ Int32.ofInt 1 = 1 := ⟨by decide +kernel, rfl, by decide⟩
theorem i0_341 : decode m0.2.1 341 = .ok (.goto 4, 3) ∧ 341 + 3 = 344 ∧ 0 ≤ ((341 : Nat) : Int) + 4 ∧ (((341 : Nat) : Int) + 4).toNat = 345 := ⟨by decide +kernel, rfl, by decide, by decide⟩
theorem i0_344 : decode m0.2.1 344 = .ok (.iconst 0, 1) ∧ 344 + 1 = 345 ∧ Int32.ofInt 0 = 0 := ⟨by decide +kernel, rfl, by decide⟩
theorem i0_345 : decode m0.2.1 345 = .ok (.ireturn, 1) := by decide +kernel
theorem i1_0 : decode m1.2.1 0 = .ok (.iload_n 0, 1) ∧ 0 + 1 = 1 := ⟨by decide +kernel, rfl⟩
theorem i1_1 : decode m1.2.1 1 = .ok (.ifCond .ne 5, 3) ∧ 1 + 3 = 4 ∧ 0 ≤ ((1 : Nat) : Int) + 5 ∧ (((1 : Nat) : Int) + 5).toNat = 6 := ⟨by decide +kernel, rfl, by decide, by decide⟩
theorem i1_4 : decode m1.2.1 4 = .ok (.iload_n 1, 1) ∧ 4 + 1 = 5 := ⟨by decide +kernel, rfl⟩
theorem i1_5 : decode m1.2.1 5 = .ok (.ireturn, 1) := by decide +kernel
theorem i1_6 : decode m1.2.1 6 = .ok (.iload_n 0, 1) ∧ 6 + 1 = 7 := ⟨by decide +kernel, rfl⟩
theorem i1_7 : decode m1.2.1 7 = .ok (.iconst 1, 1) ∧ 7 + 1 = 8 ∧ Int32.ofInt 1 = 1 := ⟨by decide +kernel, rfl, by decide⟩
theorem i1_8 : decode m1.2.1 8 = .ok (.if_icmp .ne 11, 3) ∧ 8 + 3 = 11 ∧ 0 ≤ ((8 : Nat) : Int) + 11 ∧ (((8 : Nat) : Int) + 11).toNat = 19 := ⟨by decide +kernel, rfl, by decide, by decide⟩
theorem i1_11 : decode m1.2.1 11 = .ok (.iload_n 2, 1) ∧ 11 + 1 = 12 := ⟨by decide +kernel, rfl⟩
theorem i1_12 : decode m1.2.1 12 = .ok (.iload_n 3, 1) ∧ 12 + 1 = 13 := ⟨by decide +kernel, rfl⟩
theorem i1_13 : decode m1.2.1 13 = .ok (.iushr, 1) ∧ 13 + 1 = 14 := ⟨by decide +kernel, rfl⟩
theorem i1_14 : decode m1.2.1 14 = .ok (.sipush 255, 3) ∧ 14 + 3 = 17 ∧ (Int16.ofInt 255).toInt32 = 255 := ⟨by decide +kernel, rfl, by decide⟩
theorem i1_17 : decode m1.2.1 17 = .ok (.iand, 1) ∧ 17 + 1 = 18 := ⟨by decide +kernel, rfl⟩
theorem i1_18 : decode m1.2.1 18 = .ok (.ireturn, 1) := by decide +kernel
theorem i1_19 : decode m1.2.1 19 = .ok (.iload_n 0, 1) ∧ 19 + 1 = 20 := ⟨by decide +kernel, rfl⟩
theorem i1_20 : decode m1.2.1 20 = .ok (.iconst 2, 1) ∧ 20 + 1 = 21 ∧ Int32.ofInt 2 = 2 := ⟨by decide +kernel, rfl, by decide⟩
theorem i1_21 : decode m1.2.1 21 = .ok (.if_icmp .ne 5, 3) ∧ 21 + 3 = 24 ∧ 0 ≤ ((21 : Nat) : Int) + 5 ∧ (((21 : Nat) : Int) + 5).toNat = 26 := ⟨by decide +kernel, rfl, by decide, by decide⟩
theorem i1_24 : decode m1.2.1 24 = .ok (.iload_n 2, 1) ∧ 24 + 1 = 25 := ⟨by decide +kernel, rfl⟩
theorem i1_25 : decode m1.2.1 25 = .ok (.ireturn, 1) := by decide +kernel
theorem i1_26 : decode m1.2.1 26 = .ok (.iload_n 1, 1) ∧ 26 + 1 = 27 := ⟨by decide +kernel, rfl⟩
theorem i1_27 : decode m1.2.1 27 = .ok (.i2b, 1) ∧ 27 + 1 = 28 := ⟨by decide +kernel, rfl⟩
theorem i1_28 : decode m1.2.1 28 = .ok (.ireturn, 1) := by decide +kernel
theorem i2_0 : decode m2.2.1 0 = .ok (.aload_n 0, 1) ∧ 0 + 1 = 1 := ⟨by decide +kernel, rfl⟩
theorem i2_1 : decode m2.2.1 1 = .ok (.arraylength, 1) ∧ 1 + 1 = 2 := ⟨by decide +kernel, rfl⟩
theorem i2_2 : decode m2.2.1 2 = .ok (.aload_n 1, 1) ∧ 2 + 1 = 3 := ⟨by decide +kernel, rfl⟩
theorem i2_3 : decode m2.2.1 3 = .ok (.arraylength, 1) ∧ 3 + 1 = 4 := ⟨by decide +kernel, rfl⟩
theorem i2_4 : decode m2.2.1 4 = .ok (.if_icmp .ge 5, 3) ∧ 4 + 3 = 7 ∧ 0 ≤ ((4 : Nat) : Int) + 5 ∧ (((4 : Nat) : Int) + 5).toNat = 9 := ⟨by decide +kernel, rfl, by decide, by decide⟩
theorem i2_7 : decode m2.2.1 7 = .ok (.iconst 0, 1) ∧ 7 + 1 = 8 ∧ Int32.ofInt 0 = 0 := ⟨by decide +kernel, rfl, by decide⟩
theorem i2_8 : decode m2.2.1 8 = .ok (.ireturn, 1) := by decide +kernel
theorem i2_9 : decode m2.2.1 9 = .ok (.iconst 0, 1) ∧ 9 + 1 = 10 ∧ Int32.ofInt 0 = 0 := ⟨by decide +kernel, rfl, by decide⟩
theorem i2_10 : decode m2.2.1 10 = .ok (.istore_n 2, 1) ∧ 10 + 1 = 11 := ⟨by decide +kernel, rfl⟩
theorem i2_11 : decode m2.2.1 11 = .ok (.iload_n 2, 1) ∧ 11 + 1 = 12 := ⟨by decide +kernel, rfl⟩
theorem i2_12 : decode m2.2.1 12 = .ok (.aload_n 1, 1) ∧ 12 + 1 = 13 := ⟨by decide +kernel, rfl⟩
theorem i2_13 : decode m2.2.1 13 = .ok (.arraylength, 1) ∧ 13 + 1 = 14 := ⟨by decide +kernel, rfl⟩
theorem i2_14 : decode m2.2.1 14 = .ok (.if_icmp .ge 24, 3) ∧ 14 + 3 = 17 ∧ 0 ≤ ((14 : Nat) : Int) + 24 ∧ (((14 : Nat) : Int) + 24).toNat = 38 := ⟨by decide +kernel, rfl, by decide, by decide⟩
theorem i2_17 : decode m2.2.1 17 = .ok (.aload_n 0, 1) ∧ 17 + 1 = 18 := ⟨by decide +kernel, rfl⟩
theorem i2_18 : decode m2.2.1 18 = .ok (.iload_n 2, 1) ∧ 18 + 1 = 19 := ⟨by decide +kernel, rfl⟩
theorem i2_19 : decode m2.2.1 19 = .ok (.baload, 1) ∧ 19 + 1 = 20 := ⟨by decide +kernel, rfl⟩
theorem i2_20 : decode m2.2.1 20 = .ok (.sipush 255, 3) ∧ 20 + 3 = 23 ∧ (Int16.ofInt 255).toInt32 = 255 := ⟨by decide +kernel, rfl, by decide⟩
theorem i2_23 : decode m2.2.1 23 = .ok (.iand, 1) ∧ 23 + 1 = 24 := ⟨by decide +kernel, rfl⟩
theorem i2_24 : decode m2.2.1 24 = .ok (.aload_n 1, 1) ∧ 24 + 1 = 25 := ⟨by decide +kernel, rfl⟩
theorem i2_25 : decode m2.2.1 25 = .ok (.iload_n 2, 1) ∧ 25 + 1 = 26 := ⟨by decide +kernel, rfl⟩
theorem i2_26 : decode m2.2.1 26 = .ok (.iaload, 1) ∧ 26 + 1 = 27 := ⟨by decide +kernel, rfl⟩
theorem i2_27 : decode m2.2.1 27 = .ok (.if_icmp .eq 5, 3) ∧ 27 + 3 = 30 ∧ 0 ≤ ((27 : Nat) : Int) + 5 ∧ (((27 : Nat) : Int) + 5).toNat = 32 := ⟨by decide +kernel, rfl, by decide, by decide⟩
theorem i2_30 : decode m2.2.1 30 = .ok (.iconst 0, 1) ∧ 30 + 1 = 31 ∧ Int32.ofInt 0 = 0 := ⟨by decide +kernel, rfl, by decide⟩
theorem i2_31 : decode m2.2.1 31 = .ok (.ireturn, 1) := by decide +kernel
theorem i2_32 : decode m2.2.1 32 = .ok (.iinc 2 1, 3) ∧ 32 + 3 = 35 ∧ Int32.ofInt 1 = 1 := ⟨by decide +kernel, rfl, by decide⟩
theorem i2_35 : decode m2.2.1 35 = .ok (.goto (-24), 3) ∧ 35 + 3 = 38 ∧ 0 ≤ ((35 : Nat) : Int) + (-24) ∧ (((35 : Nat) : Int) + (-24)).toNat = 11 := ⟨by decide +kernel, rfl, by decide, by decide⟩
theorem i2_38 : decode m2.2.1 38 = .ok (.iconst 1, 1) ∧ 38 + 1 = 39 ∧ Int32.ofInt 1 = 1 := ⟨by decide +kernel, rfl, by decide⟩
theorem i2_39 : decode m2.2.1 39 = .ok (.ireturn, 1) := by decide +kernel
theorem s0_45 {l : Launch} {Z : State} {a0 : Array Value} {n0 : Nat} {ls : List Slot} {st : List Value} {H H' H1 : List Ob} {v : Option Value} (hw : HW Z a0) {a : Nat} {n : Int32} {o : List Value} (hn : ¬ n < 0) (h8 : n.toNatClampNeg * 8 ≤ 536870912) (ho : List.replicate n.toNatClampNeg (.int 0) = o) (ha : H.length = a) (hH : H ++ [.inr (.byte, o)] = H1) (kk : Runs K l Z n0 m0 47 ls (.ref a :: st) H1 v H') : Runs K l Z n0 m0 45 ls (.int n :: st) H v H' := r_newA i0_45 (hw _ (List.mem_of_getElem? (i := 0) rfl)) hn h8 ho ha hH kk
theorem s0_59 {l : Launch} {Z : State} {a0 : Array Value} {n0 : Nat} {ls : List Slot} {st : List Value} {H H' H1 : List Ob} {v : Option Value} (hw : HW Z a0) {a : Nat} {n : Int32} {o : List Value} (hn : ¬ n < 0) (h8 : n.toNatClampNeg * 8 ≤ 536870912) (ho : List.replicate n.toNatClampNeg (.int 0) = o) (ha : H.length = a) (hH : H ++ [.inr (.byte, o)] = H1) (kk : Runs K l Z n0 m0 61 ls (.ref a :: st) H1 v H') : Runs K l Z n0 m0 59 ls (.int n :: st) H v H' := r_newA i0_59 (hw _ (List.mem_of_getElem? (i := 0) rfl)) hn h8 ho ha hH kk
theorem s0_79 {l : Launch} {Z : State} {a0 : Array Value} {n0 : Nat} {ls : List Slot} {st : List Value} {H H' H1 : List Ob} {v : Option Value} (hw : HW Z a0) {a : Nat} {n : Int32} {o : List Value} (hn : ¬ n < 0) (h8 : n.toNatClampNeg * 8 ≤ 536870912) (ho : List.replicate n.toNatClampNeg (.int 0) = o) (ha : H.length = a) (hH : H ++ [.inr (.byte, o)] = H1) (kk : Runs K l Z n0 m0 81 ls (.ref a :: st) H1 v H') : Runs K l Z n0 m0 79 ls (.int n :: st) H v H' := r_newA i0_79 (hw _ (List.mem_of_getElem? (i := 0) rfl)) hn h8 ho ha hH kk
theorem s0_99 {l : Launch} {Z : State} {a0 : Array Value} {n0 : Nat} {ls : List Slot} {st : List Value} {H H' H1 : List Ob} {v : Option Value} (hw : HW Z a0) {a : Nat} {n : Int32} {o : List Value} (hn : ¬ n < 0) (h8 : n.toNatClampNeg * 8 ≤ 536870912) (ho : List.replicate n.toNatClampNeg (.int 0) = o) (ha : H.length = a) (hH : H ++ [.inr (.byte, o)] = H1) (kk : Runs K l Z n0 m0 101 ls (.ref a :: st) H1 v H') : Runs K l Z n0 m0 99 ls (.int n :: st) H v H' := r_newA i0_99 (hw _ (List.mem_of_getElem? (i := 0) rfl)) hn h8 ho ha hH kk
theorem s0_128 {l : Launch} {Z : State} {a0 : Array Value} {n0 : Nat} {ls : List Slot} {st : List Value} {H H' H1 : List Ob} {v : Option Value} (hw : HW Z a0) {x0 x1 x2 x3 : Value} {w : Value} (M : Meets K l Z n0 m1 [x0, x1, x2, x3] H (some w) H1) (hls : ls.length = 18) (hlo : (st.map fun v => v.category).sum ≤ 0) (kk : Runs K l Z n0 m0 131 ls (w :: st) H1 v H') : Runs K l Z n0 m0 128 ls (x3 :: x2 :: x1 :: x0 :: st) H v H' := r_static (mj := m1) (as := [x0, x1, x2, x3]) (rest := st) i0_128 (hw _ (List.mem_of_getElem? (i := 1) rfl)) (hw _ (List.mem_of_getElem? (i := 2) rfl)) (hw _ (List.mem_of_getElem? (i := 3) rfl)) (hw _ (List.mem_of_getElem? (i := 4) rfl)) (by decide) (lenOf pd1 rfl) (by decide) rfl hls (by show _ + (4 + 11) + 0 ≤ 15; omega) M kk
theorem s0_143 {l : Launch} {Z : State} {a0 : Array Value} {n0 : Nat} {ls : List Slot} {st : List Value} {H H' H1 : List Ob} {v : Option Value} (hw : HW Z a0) {x0 x1 x2 x3 : Value} {w : Value} (M : Meets K l Z n0 m1 [x0, x1, x2, x3] H (some w) H1) (hls : ls.length = 18) (hlo : (st.map fun v => v.category).sum ≤ 0) (kk : Runs K l Z n0 m0 146 ls (w :: st) H1 v H') : Runs K l Z n0 m0 143 ls (x3 :: x2 :: x1 :: x0 :: st) H v H' := r_static (mj := m1) (as := [x0, x1, x2, x3]) (rest := st) i0_143 (hw _ (List.mem_of_getElem? (i := 1) rfl)) (hw _ (List.mem_of_getElem? (i := 2) rfl)) (hw _ (List.mem_of_getElem? (i := 3) rfl)) (hw _ (List.mem_of_getElem? (i := 4) rfl)) (by decide) (lenOf pd1 rfl) (by decide) rfl hls (by show _ + (4 + 11) + 0 ≤ 15; omega) M kk
theorem s0_158 {l : Launch} {Z : State} {a0 : Array Value} {n0 : Nat} {ls : List Slot} {st : List Value} {H H' H1 : List Ob} {v : Option Value} (hw : HW Z a0) {x0 x1 x2 x3 : Value} {w : Value} (M : Meets K l Z n0 m1 [x0, x1, x2, x3] H (some w) H1) (hls : ls.length = 18) (hlo : (st.map fun v => v.category).sum ≤ 0) (kk : Runs K l Z n0 m0 161 ls (w :: st) H1 v H') : Runs K l Z n0 m0 158 ls (x3 :: x2 :: x1 :: x0 :: st) H v H' := r_static (mj := m1) (as := [x0, x1, x2, x3]) (rest := st) i0_158 (hw _ (List.mem_of_getElem? (i := 1) rfl)) (hw _ (List.mem_of_getElem? (i := 2) rfl)) (hw _ (List.mem_of_getElem? (i := 3) rfl)) (hw _ (List.mem_of_getElem? (i := 4) rfl)) (by decide) (lenOf pd1 rfl) (by decide) rfl hls (by show _ + (4 + 11) + 0 ≤ 15; omega) M kk
theorem s0_169 {l : Launch} {Z : State} {a0 : Array Value} {n0 : Nat} {ls : List Slot} {st : List Value} {H H' H1 : List Ob} {v : Option Value} (hw : HW Z a0) {a : Nat} {n : Int32} {o : List Value} (hn : ¬ n < 0) (h8 : n.toNatClampNeg * 8 ≤ 536870912) (ho : List.replicate n.toNatClampNeg (.int 0) = o) (ha : H.length = a) (hH : H ++ [.inr (.int, o)] = H1) (kk : Runs K l Z n0 m0 171 ls (.ref a :: st) H1 v H') : Runs K l Z n0 m0 169 ls (.int n :: st) H v H' := r_newA i0_169 (hw _ (List.mem_of_getElem? (i := 5) rfl)) hn h8 ho ha hH kk
theorem s0_183 {l : Launch} {Z : State} {a0 : Array Value} {n0 : Nat} {ls : List Slot} {st : List Value} {H H' H1 : List Ob} {v : Option Value} (hw : HW Z a0) {a : Nat} {n : Int32} {o : List Value} (hn : ¬ n < 0) (h8 : n.toNatClampNeg * 8 ≤ 536870912) (ho : List.replicate n.toNatClampNeg (.int 0) = o) (ha : H.length = a) (hH : H ++ [.inr (.int, o)] = H1) (kk : Runs K l Z n0 m0 185 ls (.ref a :: st) H1 v H') : Runs K l Z n0 m0 183 ls (.int n :: st) H v H' := r_newA i0_183 (hw _ (List.mem_of_getElem? (i := 5) rfl)) hn h8 ho ha hH kk
theorem s0_202 {l : Launch} {Z : State} {a0 : Array Value} {n0 : Nat} {ls : List Slot} {st : List Value} {H H' H1 : List Ob} {v : Option Value} (hw : HW Z a0) {a : Nat} {n : Int32} {o : List Value} (hn : ¬ n < 0) (h8 : n.toNatClampNeg * 8 ≤ 536870912) (ho : List.replicate n.toNatClampNeg (.int 0) = o) (ha : H.length = a) (hH : H ++ [.inr (.int, o)] = H1) (kk : Runs K l Z n0 m0 204 ls (.ref a :: st) H1 v H') : Runs K l Z n0 m0 202 ls (.int n :: st) H v H' := r_newA i0_202 (hw _ (List.mem_of_getElem? (i := 5) rfl)) hn h8 ho ha hH kk
theorem s0_220 {l : Launch} {Z : State} {a0 : Array Value} {n0 : Nat} {ls : List Slot} {st : List Value} {H H' H1 : List Ob} {v : Option Value} (hw : HW Z a0) {a : Nat} {n : Int32} {o : List Value} (hn : ¬ n < 0) (h8 : n.toNatClampNeg * 8 ≤ 536870912) (ho : List.replicate n.toNatClampNeg (.int 0) = o) (ha : H.length = a) (hH : H ++ [.inr (.int, o)] = H1) (kk : Runs K l Z n0 m0 222 ls (.ref a :: st) H1 v H') : Runs K l Z n0 m0 220 ls (.int n :: st) H v H' := r_newA i0_220 (hw _ (List.mem_of_getElem? (i := 5) rfl)) hn h8 ho ha hH kk
theorem s0_332 {l : Launch} {Z : State} {a0 : Array Value} {n0 : Nat} {ls : List Slot} {st : List Value} {H H' H1 : List Ob} {v : Option Value} (hw : HW Z a0) {x0 x1 : Value} {w : Value} (M : Meets K l Z n0 m2 [x0, x1] H (some w) H1) (hls : ls.length = 18) (hlo : (st.map fun v => v.category).sum ≤ 1) (kk : Runs K l Z n0 m0 335 ls (w :: st) H1 v H') : Runs K l Z n0 m0 332 ls (x1 :: x0 :: st) H v H' := r_static (mj := m2) (as := [x0, x1]) (rest := st) i0_332 (hw _ (List.mem_of_getElem? (i := 6) rfl)) (hw _ (List.mem_of_getElem? (i := 7) rfl)) (hw _ (List.mem_of_getElem? (i := 8) rfl)) (hw _ (List.mem_of_getElem? (i := 9) rfl)) (by decide) (lenOf pd2 rfl) (by decide) rfl hls (by show _ + (3 + 11) + 0 ≤ 15; omega) M kk
def f1_0 (x0 : Int32) (x1 : Int32) (x2 : Int32) (x3 : Int32) : Int32 := (if x0 = 0 then x1 else (if x0 = 1 then (XT.ushr x2 x3) &&& 255 else (if x0 = 2 then x2 else (x1 : Int32).toInt8.toInt32)))
set_option maxRecDepth 4000 in
theorem g1_0 {l : Launch} {Z : State} {a0 : Array Value} {n0 : Nat} (hw : HW Z a0) {H : List Ob} (x0 : Int32) (x1 : Int32) (x2 : Int32) (x3 : Int32) : Runs K l Z n0 m1 0 [.val (.int x0), .val (.int x1), .val (.int x2), .val (.int x3)] [] H (some (.int (f1_0 x0 x1 x2 x3))) H := by
  unfold f1_0
  refine r_iloadN i1_0 rfl ?_
  by_cases h1 : x0 = 0
  · rw [if_pos h1]
    refine r_ifF i1_1 (XT.i0_ne_f h1) ?_
    refine r_iloadN i1_4 rfl ?_
    exact r_ireturn i1_5 rfl
  · rw [if_neg h1]
    refine r_ifT i1_1 (XT.i0_ne_t h1) ?_
    refine r_iloadN i1_6 rfl ?_
    refine r_iconst i1_7 ?_
    by_cases h2 : x0 = 1
    · rw [if_pos h2]
      refine r_icF i1_8 (XT.ii_ne_f h2) ?_
      refine r_iloadN i1_11 rfl ?_
      refine r_iloadN i1_12 rfl ?_
      refine r_iushr i1_13 ?_
      refine r_sipush i1_14 ?_
      refine r_iand i1_17 ?_
      exact r_ireturn i1_18 rfl
    · rw [if_neg h2]
      refine r_icT i1_8 (XT.ii_ne_t h2) ?_
      refine r_iloadN i1_19 rfl ?_
      refine r_iconst i1_20 ?_
      by_cases h3 : x0 = 2
      · rw [if_pos h3]
        refine r_icF i1_21 (XT.ii_ne_f h3) ?_
        refine r_iloadN i1_24 rfl ?_
        exact r_ireturn i1_25 rfl
      · rw [if_neg h3]
        refine r_icT i1_21 (XT.ii_ne_t h3) ?_
        refine r_iloadN i1_26 rfl ?_
        refine r_i2b i1_27 ?_
        exact r_ireturn i1_28 rfl
theorem c1 {l : Launch} {Z : State} {a0 : Array Value} {n0 : Nat} (hw : HW Z a0) {H : List Ob} (x0 : Int32) (x1 : Int32) (x2 : Int32) (x3 : Int32) : Meets K l Z n0 m1 [.int x0, .int x1, .int x2, .int x3] H (some (.int (f1_0 x0 x1 x2 x3))) H := meets pf1 rfl (fun h => nomatch h) (g1_0 hw x0 x1 x2 x3)
theorem own_u {u : Int32} (h0 : 0 ≤ u.toInt) (h1 : u.toInt ≤ 255) : (u.toInt8.toInt32.toInt8.toInt32 &&& 255) = u := by
  have h := c_mask (u.toInt8.toInt32.toInt8.toInt32) 255 8 (by decide) (by decide)
  have a := c_i2b u
  have b := c_i2b u.toInt8.toInt32
  apply Int32.toInt_inj.mp
  omega
theorem own_255 (x : Int32) : 0 ≤ (x &&& 255).toInt ∧ (x &&& 255).toInt ≤ 255 := by
  have h := c_mask x 255 8 (by decide) (by decide)
  omega
theorem own_3 (x : Int32) : x &&& 3 = 0 ∨ x &&& 3 = 1 ∨ x &&& 3 = 2 ∨ x &&& 3 = 3 := by
  have h := c_mask x 3 2 (by decide) (by decide)
  generalize x &&& 3 = r at *
  have e0 : (0 : Int32).toInt = 0 := by decide
  have e1 : (1 : Int32).toInt = 1 := by decide
  have e2 : (2 : Int32).toInt = 2 := by decide
  have e3 : (3 : Int32).toInt = 3 := by decide
  simp only [← Int32.toInt_inj]
  omega
theorem sw000 {l : Launch} {Z : State} {a0 : Array Value} {n0 : Nat} (hw : HW Z a0)  : Meets K l Z n0 m2 [.ref 0, .ref 1] [.inr (.byte, []), .inr (.int, [])] (some (.int 1)) [.inr (.byte, []), .inr (.int, [])] := by
  refine meets (ls := [_, _, _]) pf2 rfl (fun h => nomatch h) ?_
  refine r_aloadN i2_0 rfl rfl ?_
  refine r_len (n := 0) i2_1 rfl rfl ?_
  refine r_aloadN i2_2 rfl rfl ?_
  refine r_len (n := 0) i2_3 rfl rfl ?_
  refine r_icT i2_4 (XT.ii_ge_t (by decide)) ?_
  refine r_iconst i2_9 ?_
  refine r_istoreN (ls' := [_, _, _]) i2_10 rfl rfl ?_
  refine r_iloadN i2_11 rfl ?_
  refine r_aloadN i2_12 rfl rfl ?_
  refine r_len (n := 0) i2_13 rfl rfl ?_
  refine r_icT i2_14 (XT.ii_ge_t (by decide)) ?_
  refine r_iconst i2_38 ?_
  exact r_zreturn i2_39 rfl (by first | decide | simp)
theorem sw01 {l : Launch} {Z : State} {a0 : Array Value} {n0 : Nat} (hw : HW Z a0) {s0 : Int32} : Meets K l Z n0 m2 [.ref 0, .ref 1] [.inr (.byte, []), .inr (.int, [.int s0])] (some (.int 0)) [.inr (.byte, []), .inr (.int, [.int s0])] := by
  refine meets (ls := [_, _, _]) pf2 rfl (fun h => nomatch h) ?_
  refine r_aloadN i2_0 rfl rfl ?_
  refine r_len (n := 0) i2_1 rfl rfl ?_
  refine r_aloadN i2_2 rfl rfl ?_
  refine r_len (n := 1) i2_3 rfl rfl ?_
  refine r_icF i2_4 (XT.ii_ge_f (by decide)) ?_
  refine r_iconst i2_7 ?_
  exact r_zreturn i2_8 rfl (by first | decide | simp)
theorem sw02 {l : Launch} {Z : State} {a0 : Array Value} {n0 : Nat} (hw : HW Z a0) {s0 s1 : Int32} : Meets K l Z n0 m2 [.ref 0, .ref 1] [.inr (.byte, []), .inr (.int, [.int s0, .int s1])] (some (.int 0)) [.inr (.byte, []), .inr (.int, [.int s0, .int s1])] := by
  refine meets (ls := [_, _, _]) pf2 rfl (fun h => nomatch h) ?_
  refine r_aloadN i2_0 rfl rfl ?_
  refine r_len (n := 0) i2_1 rfl rfl ?_
  refine r_aloadN i2_2 rfl rfl ?_
  refine r_len (n := 2) i2_3 rfl rfl ?_
  refine r_icF i2_4 (XT.ii_ge_f (by decide)) ?_
  refine r_iconst i2_7 ?_
  exact r_zreturn i2_8 rfl (by first | decide | simp)
theorem sw03 {l : Launch} {Z : State} {a0 : Array Value} {n0 : Nat} (hw : HW Z a0) {s0 s1 s2 : Int32} : Meets K l Z n0 m2 [.ref 0, .ref 1] [.inr (.byte, []), .inr (.int, [.int s0, .int s1, .int s2])] (some (.int 0)) [.inr (.byte, []), .inr (.int, [.int s0, .int s1, .int s2])] := by
  refine meets (ls := [_, _, _]) pf2 rfl (fun h => nomatch h) ?_
  refine r_aloadN i2_0 rfl rfl ?_
  refine r_len (n := 0) i2_1 rfl rfl ?_
  refine r_aloadN i2_2 rfl rfl ?_
  refine r_len (n := 3) i2_3 rfl rfl ?_
  refine r_icF i2_4 (XT.ii_ge_f (by decide)) ?_
  refine r_iconst i2_7 ?_
  exact r_zreturn i2_8 rfl (by first | decide | simp)
theorem sw100 {l : Launch} {Z : State} {a0 : Array Value} {n0 : Nat} (hw : HW Z a0) {b0 : Int32}  : Meets K l Z n0 m2 [.ref 0, .ref 1] [.inr (.byte, [.int b0]), .inr (.int, [])] (some (.int 1)) [.inr (.byte, [.int b0]), .inr (.int, [])] := by
  refine meets (ls := [_, _, _]) pf2 rfl (fun h => nomatch h) ?_
  refine r_aloadN i2_0 rfl rfl ?_
  refine r_len (n := 1) i2_1 rfl rfl ?_
  refine r_aloadN i2_2 rfl rfl ?_
  refine r_len (n := 0) i2_3 rfl rfl ?_
  refine r_icT i2_4 (XT.ii_ge_t (by decide)) ?_
  refine r_iconst i2_9 ?_
  refine r_istoreN (ls' := [_, _, _]) i2_10 rfl rfl ?_
  refine r_iloadN i2_11 rfl ?_
  refine r_aloadN i2_12 rfl rfl ?_
  refine r_len (n := 0) i2_13 rfl rfl ?_
  refine r_icT i2_14 (XT.ii_ge_t (by decide)) ?_
  refine r_iconst i2_38 ?_
  exact r_zreturn i2_39 rfl (by first | decide | simp)
theorem sw110 {l : Launch} {Z : State} {a0 : Array Value} {n0 : Nat} (hw : HW Z a0) {b0 s0 : Int32}  (h0 : ¬ b0 &&& 255 = s0) : Meets K l Z n0 m2 [.ref 0, .ref 1] [.inr (.byte, [.int b0]), .inr (.int, [.int s0])] (some (.int 0)) [.inr (.byte, [.int b0]), .inr (.int, [.int s0])] := by
  refine meets (ls := [_, _, _]) pf2 rfl (fun h => nomatch h) ?_
  refine r_aloadN i2_0 rfl rfl ?_
  refine r_len (n := 1) i2_1 rfl rfl ?_
  refine r_aloadN i2_2 rfl rfl ?_
  refine r_len (n := 1) i2_3 rfl rfl ?_
  refine r_icT i2_4 (XT.ii_ge_t (by decide)) ?_
  refine r_iconst i2_9 ?_
  refine r_istoreN (ls' := [_, _, _]) i2_10 rfl rfl ?_
  refine r_iloadN i2_11 rfl ?_
  refine r_aloadN i2_12 rfl rfl ?_
  refine r_len (n := 1) i2_13 rfl rfl ?_
  refine r_icF i2_14 (XT.ii_ge_f (by decide)) ?_
  refine r_aloadN i2_17 rfl rfl ?_
  refine r_iloadN i2_18 rfl ?_
  refine r_baload (i := 0) i2_19 rfl ⟨by decide, by decide⟩ rfl ?_
  refine r_sipush i2_20 ?_
  refine r_iand i2_23 ?_
  refine r_aloadN i2_24 rfl rfl ?_
  refine r_iloadN i2_25 rfl ?_
  refine r_iaload (i := 0) i2_26 rfl ⟨by decide, by decide⟩ rfl ?_
  refine r_icF i2_27 (XT.ii_eq_f h0) ?_
  refine r_iconst i2_30 ?_
  exact r_zreturn i2_31 rfl (by first | decide | simp)
theorem sw111 {l : Launch} {Z : State} {a0 : Array Value} {n0 : Nat} (hw : HW Z a0) {b0 s0 : Int32} (h0 : b0 &&& 255 = s0) : Meets K l Z n0 m2 [.ref 0, .ref 1] [.inr (.byte, [.int b0]), .inr (.int, [.int s0])] (some (.int 1)) [.inr (.byte, [.int b0]), .inr (.int, [.int s0])] := by
  refine meets (ls := [_, _, _]) pf2 rfl (fun h => nomatch h) ?_
  refine r_aloadN i2_0 rfl rfl ?_
  refine r_len (n := 1) i2_1 rfl rfl ?_
  refine r_aloadN i2_2 rfl rfl ?_
  refine r_len (n := 1) i2_3 rfl rfl ?_
  refine r_icT i2_4 (XT.ii_ge_t (by decide)) ?_
  refine r_iconst i2_9 ?_
  refine r_istoreN (ls' := [_, _, _]) i2_10 rfl rfl ?_
  refine r_iloadN i2_11 rfl ?_
  refine r_aloadN i2_12 rfl rfl ?_
  refine r_len (n := 1) i2_13 rfl rfl ?_
  refine r_icF i2_14 (XT.ii_ge_f (by decide)) ?_
  refine r_aloadN i2_17 rfl rfl ?_
  refine r_iloadN i2_18 rfl ?_
  refine r_baload (i := 0) i2_19 rfl ⟨by decide, by decide⟩ rfl ?_
  refine r_sipush i2_20 ?_
  refine r_iand i2_23 ?_
  refine r_aloadN i2_24 rfl rfl ?_
  refine r_iloadN i2_25 rfl ?_
  refine r_iaload (i := 0) i2_26 rfl ⟨by decide, by decide⟩ rfl ?_
  refine r_icT i2_27 (XT.ii_eq_t h0) ?_
  refine r_iinc (ls' := [_, _, _]) i2_32 rfl rfl ?_
  refine r_goto i2_35 ?_
  refine r_iloadN i2_11 rfl ?_
  refine r_aloadN i2_12 rfl rfl ?_
  refine r_len (n := 1) i2_13 rfl rfl ?_
  refine r_icT i2_14 (XT.ii_ge_t (by decide)) ?_
  refine r_iconst i2_38 ?_
  exact r_zreturn i2_39 rfl (by first | decide | simp)
theorem sw12 {l : Launch} {Z : State} {a0 : Array Value} {n0 : Nat} (hw : HW Z a0) {b0 s0 s1 : Int32} : Meets K l Z n0 m2 [.ref 0, .ref 1] [.inr (.byte, [.int b0]), .inr (.int, [.int s0, .int s1])] (some (.int 0)) [.inr (.byte, [.int b0]), .inr (.int, [.int s0, .int s1])] := by
  refine meets (ls := [_, _, _]) pf2 rfl (fun h => nomatch h) ?_
  refine r_aloadN i2_0 rfl rfl ?_
  refine r_len (n := 1) i2_1 rfl rfl ?_
  refine r_aloadN i2_2 rfl rfl ?_
  refine r_len (n := 2) i2_3 rfl rfl ?_
  refine r_icF i2_4 (XT.ii_ge_f (by decide)) ?_
  refine r_iconst i2_7 ?_
  exact r_zreturn i2_8 rfl (by first | decide | simp)
theorem sw13 {l : Launch} {Z : State} {a0 : Array Value} {n0 : Nat} (hw : HW Z a0) {b0 s0 s1 s2 : Int32} : Meets K l Z n0 m2 [.ref 0, .ref 1] [.inr (.byte, [.int b0]), .inr (.int, [.int s0, .int s1, .int s2])] (some (.int 0)) [.inr (.byte, [.int b0]), .inr (.int, [.int s0, .int s1, .int s2])] := by
  refine meets (ls := [_, _, _]) pf2 rfl (fun h => nomatch h) ?_
  refine r_aloadN i2_0 rfl rfl ?_
  refine r_len (n := 1) i2_1 rfl rfl ?_
  refine r_aloadN i2_2 rfl rfl ?_
  refine r_len (n := 3) i2_3 rfl rfl ?_
  refine r_icF i2_4 (XT.ii_ge_f (by decide)) ?_
  refine r_iconst i2_7 ?_
  exact r_zreturn i2_8 rfl (by first | decide | simp)
theorem sw200 {l : Launch} {Z : State} {a0 : Array Value} {n0 : Nat} (hw : HW Z a0) {b0 b1 : Int32}  : Meets K l Z n0 m2 [.ref 0, .ref 1] [.inr (.byte, [.int b0, .int b1]), .inr (.int, [])] (some (.int 1)) [.inr (.byte, [.int b0, .int b1]), .inr (.int, [])] := by
  refine meets (ls := [_, _, _]) pf2 rfl (fun h => nomatch h) ?_
  refine r_aloadN i2_0 rfl rfl ?_
  refine r_len (n := 2) i2_1 rfl rfl ?_
  refine r_aloadN i2_2 rfl rfl ?_
  refine r_len (n := 0) i2_3 rfl rfl ?_
  refine r_icT i2_4 (XT.ii_ge_t (by decide)) ?_
  refine r_iconst i2_9 ?_
  refine r_istoreN (ls' := [_, _, _]) i2_10 rfl rfl ?_
  refine r_iloadN i2_11 rfl ?_
  refine r_aloadN i2_12 rfl rfl ?_
  refine r_len (n := 0) i2_13 rfl rfl ?_
  refine r_icT i2_14 (XT.ii_ge_t (by decide)) ?_
  refine r_iconst i2_38 ?_
  exact r_zreturn i2_39 rfl (by first | decide | simp)
theorem sw210 {l : Launch} {Z : State} {a0 : Array Value} {n0 : Nat} (hw : HW Z a0) {b0 b1 s0 : Int32}  (h0 : ¬ b0 &&& 255 = s0) : Meets K l Z n0 m2 [.ref 0, .ref 1] [.inr (.byte, [.int b0, .int b1]), .inr (.int, [.int s0])] (some (.int 0)) [.inr (.byte, [.int b0, .int b1]), .inr (.int, [.int s0])] := by
  refine meets (ls := [_, _, _]) pf2 rfl (fun h => nomatch h) ?_
  refine r_aloadN i2_0 rfl rfl ?_
  refine r_len (n := 2) i2_1 rfl rfl ?_
  refine r_aloadN i2_2 rfl rfl ?_
  refine r_len (n := 1) i2_3 rfl rfl ?_
  refine r_icT i2_4 (XT.ii_ge_t (by decide)) ?_
  refine r_iconst i2_9 ?_
  refine r_istoreN (ls' := [_, _, _]) i2_10 rfl rfl ?_
  refine r_iloadN i2_11 rfl ?_
  refine r_aloadN i2_12 rfl rfl ?_
  refine r_len (n := 1) i2_13 rfl rfl ?_
  refine r_icF i2_14 (XT.ii_ge_f (by decide)) ?_
  refine r_aloadN i2_17 rfl rfl ?_
  refine r_iloadN i2_18 rfl ?_
  refine r_baload (i := 0) i2_19 rfl ⟨by decide, by decide⟩ rfl ?_
  refine r_sipush i2_20 ?_
  refine r_iand i2_23 ?_
  refine r_aloadN i2_24 rfl rfl ?_
  refine r_iloadN i2_25 rfl ?_
  refine r_iaload (i := 0) i2_26 rfl ⟨by decide, by decide⟩ rfl ?_
  refine r_icF i2_27 (XT.ii_eq_f h0) ?_
  refine r_iconst i2_30 ?_
  exact r_zreturn i2_31 rfl (by first | decide | simp)
theorem sw211 {l : Launch} {Z : State} {a0 : Array Value} {n0 : Nat} (hw : HW Z a0) {b0 b1 s0 : Int32} (h0 : b0 &&& 255 = s0) : Meets K l Z n0 m2 [.ref 0, .ref 1] [.inr (.byte, [.int b0, .int b1]), .inr (.int, [.int s0])] (some (.int 1)) [.inr (.byte, [.int b0, .int b1]), .inr (.int, [.int s0])] := by
  refine meets (ls := [_, _, _]) pf2 rfl (fun h => nomatch h) ?_
  refine r_aloadN i2_0 rfl rfl ?_
  refine r_len (n := 2) i2_1 rfl rfl ?_
  refine r_aloadN i2_2 rfl rfl ?_
  refine r_len (n := 1) i2_3 rfl rfl ?_
  refine r_icT i2_4 (XT.ii_ge_t (by decide)) ?_
  refine r_iconst i2_9 ?_
  refine r_istoreN (ls' := [_, _, _]) i2_10 rfl rfl ?_
  refine r_iloadN i2_11 rfl ?_
  refine r_aloadN i2_12 rfl rfl ?_
  refine r_len (n := 1) i2_13 rfl rfl ?_
  refine r_icF i2_14 (XT.ii_ge_f (by decide)) ?_
  refine r_aloadN i2_17 rfl rfl ?_
  refine r_iloadN i2_18 rfl ?_
  refine r_baload (i := 0) i2_19 rfl ⟨by decide, by decide⟩ rfl ?_
  refine r_sipush i2_20 ?_
  refine r_iand i2_23 ?_
  refine r_aloadN i2_24 rfl rfl ?_
  refine r_iloadN i2_25 rfl ?_
  refine r_iaload (i := 0) i2_26 rfl ⟨by decide, by decide⟩ rfl ?_
  refine r_icT i2_27 (XT.ii_eq_t h0) ?_
  refine r_iinc (ls' := [_, _, _]) i2_32 rfl rfl ?_
  refine r_goto i2_35 ?_
  refine r_iloadN i2_11 rfl ?_
  refine r_aloadN i2_12 rfl rfl ?_
  refine r_len (n := 1) i2_13 rfl rfl ?_
  refine r_icT i2_14 (XT.ii_ge_t (by decide)) ?_
  refine r_iconst i2_38 ?_
  exact r_zreturn i2_39 rfl (by first | decide | simp)
theorem sw220 {l : Launch} {Z : State} {a0 : Array Value} {n0 : Nat} (hw : HW Z a0) {b0 b1 s0 s1 : Int32}  (h0 : ¬ b0 &&& 255 = s0) : Meets K l Z n0 m2 [.ref 0, .ref 1] [.inr (.byte, [.int b0, .int b1]), .inr (.int, [.int s0, .int s1])] (some (.int 0)) [.inr (.byte, [.int b0, .int b1]), .inr (.int, [.int s0, .int s1])] := by
  refine meets (ls := [_, _, _]) pf2 rfl (fun h => nomatch h) ?_
  refine r_aloadN i2_0 rfl rfl ?_
  refine r_len (n := 2) i2_1 rfl rfl ?_
  refine r_aloadN i2_2 rfl rfl ?_
  refine r_len (n := 2) i2_3 rfl rfl ?_
  refine r_icT i2_4 (XT.ii_ge_t (by decide)) ?_
  refine r_iconst i2_9 ?_
  refine r_istoreN (ls' := [_, _, _]) i2_10 rfl rfl ?_
  refine r_iloadN i2_11 rfl ?_
  refine r_aloadN i2_12 rfl rfl ?_
  refine r_len (n := 2) i2_13 rfl rfl ?_
  refine r_icF i2_14 (XT.ii_ge_f (by decide)) ?_
  refine r_aloadN i2_17 rfl rfl ?_
  refine r_iloadN i2_18 rfl ?_
  refine r_baload (i := 0) i2_19 rfl ⟨by decide, by decide⟩ rfl ?_
  refine r_sipush i2_20 ?_
  refine r_iand i2_23 ?_
  refine r_aloadN i2_24 rfl rfl ?_
  refine r_iloadN i2_25 rfl ?_
  refine r_iaload (i := 0) i2_26 rfl ⟨by decide, by decide⟩ rfl ?_
  refine r_icF i2_27 (XT.ii_eq_f h0) ?_
  refine r_iconst i2_30 ?_
  exact r_zreturn i2_31 rfl (by first | decide | simp)
theorem sw221 {l : Launch} {Z : State} {a0 : Array Value} {n0 : Nat} (hw : HW Z a0) {b0 b1 s0 s1 : Int32} (h0 : b0 &&& 255 = s0) (h1 : ¬ b1 &&& 255 = s1) : Meets K l Z n0 m2 [.ref 0, .ref 1] [.inr (.byte, [.int b0, .int b1]), .inr (.int, [.int s0, .int s1])] (some (.int 0)) [.inr (.byte, [.int b0, .int b1]), .inr (.int, [.int s0, .int s1])] := by
  refine meets (ls := [_, _, _]) pf2 rfl (fun h => nomatch h) ?_
  refine r_aloadN i2_0 rfl rfl ?_
  refine r_len (n := 2) i2_1 rfl rfl ?_
  refine r_aloadN i2_2 rfl rfl ?_
  refine r_len (n := 2) i2_3 rfl rfl ?_
  refine r_icT i2_4 (XT.ii_ge_t (by decide)) ?_
  refine r_iconst i2_9 ?_
  refine r_istoreN (ls' := [_, _, _]) i2_10 rfl rfl ?_
  refine r_iloadN i2_11 rfl ?_
  refine r_aloadN i2_12 rfl rfl ?_
  refine r_len (n := 2) i2_13 rfl rfl ?_
  refine r_icF i2_14 (XT.ii_ge_f (by decide)) ?_
  refine r_aloadN i2_17 rfl rfl ?_
  refine r_iloadN i2_18 rfl ?_
  refine r_baload (i := 0) i2_19 rfl ⟨by decide, by decide⟩ rfl ?_
  refine r_sipush i2_20 ?_
  refine r_iand i2_23 ?_
  refine r_aloadN i2_24 rfl rfl ?_
  refine r_iloadN i2_25 rfl ?_
  refine r_iaload (i := 0) i2_26 rfl ⟨by decide, by decide⟩ rfl ?_
  refine r_icT i2_27 (XT.ii_eq_t h0) ?_
  refine r_iinc (ls' := [_, _, _]) i2_32 rfl rfl ?_
  refine r_goto i2_35 ?_
  refine r_iloadN i2_11 rfl ?_
  refine r_aloadN i2_12 rfl rfl ?_
  refine r_len (n := 2) i2_13 rfl rfl ?_
  refine r_icF i2_14 (XT.ii_ge_f (by decide)) ?_
  refine r_aloadN i2_17 rfl rfl ?_
  refine r_iloadN i2_18 rfl ?_
  refine r_baload (i := 1) i2_19 rfl ⟨by decide, by decide⟩ rfl ?_
  refine r_sipush i2_20 ?_
  refine r_iand i2_23 ?_
  refine r_aloadN i2_24 rfl rfl ?_
  refine r_iloadN i2_25 rfl ?_
  refine r_iaload (i := 1) i2_26 rfl ⟨by decide, by decide⟩ rfl ?_
  refine r_icF i2_27 (XT.ii_eq_f h1) ?_
  refine r_iconst i2_30 ?_
  exact r_zreturn i2_31 rfl (by first | decide | simp)
theorem sw222 {l : Launch} {Z : State} {a0 : Array Value} {n0 : Nat} (hw : HW Z a0) {b0 b1 s0 s1 : Int32} (h0 : b0 &&& 255 = s0) (h1 : b1 &&& 255 = s1) : Meets K l Z n0 m2 [.ref 0, .ref 1] [.inr (.byte, [.int b0, .int b1]), .inr (.int, [.int s0, .int s1])] (some (.int 1)) [.inr (.byte, [.int b0, .int b1]), .inr (.int, [.int s0, .int s1])] := by
  refine meets (ls := [_, _, _]) pf2 rfl (fun h => nomatch h) ?_
  refine r_aloadN i2_0 rfl rfl ?_
  refine r_len (n := 2) i2_1 rfl rfl ?_
  refine r_aloadN i2_2 rfl rfl ?_
  refine r_len (n := 2) i2_3 rfl rfl ?_
  refine r_icT i2_4 (XT.ii_ge_t (by decide)) ?_
  refine r_iconst i2_9 ?_
  refine r_istoreN (ls' := [_, _, _]) i2_10 rfl rfl ?_
  refine r_iloadN i2_11 rfl ?_
  refine r_aloadN i2_12 rfl rfl ?_
  refine r_len (n := 2) i2_13 rfl rfl ?_
  refine r_icF i2_14 (XT.ii_ge_f (by decide)) ?_
  refine r_aloadN i2_17 rfl rfl ?_
  refine r_iloadN i2_18 rfl ?_
  refine r_baload (i := 0) i2_19 rfl ⟨by decide, by decide⟩ rfl ?_
  refine r_sipush i2_20 ?_
  refine r_iand i2_23 ?_
  refine r_aloadN i2_24 rfl rfl ?_
  refine r_iloadN i2_25 rfl ?_
  refine r_iaload (i := 0) i2_26 rfl ⟨by decide, by decide⟩ rfl ?_
  refine r_icT i2_27 (XT.ii_eq_t h0) ?_
  refine r_iinc (ls' := [_, _, _]) i2_32 rfl rfl ?_
  refine r_goto i2_35 ?_
  refine r_iloadN i2_11 rfl ?_
  refine r_aloadN i2_12 rfl rfl ?_
  refine r_len (n := 2) i2_13 rfl rfl ?_
  refine r_icF i2_14 (XT.ii_ge_f (by decide)) ?_
  refine r_aloadN i2_17 rfl rfl ?_
  refine r_iloadN i2_18 rfl ?_
  refine r_baload (i := 1) i2_19 rfl ⟨by decide, by decide⟩ rfl ?_
  refine r_sipush i2_20 ?_
  refine r_iand i2_23 ?_
  refine r_aloadN i2_24 rfl rfl ?_
  refine r_iloadN i2_25 rfl ?_
  refine r_iaload (i := 1) i2_26 rfl ⟨by decide, by decide⟩ rfl ?_
  refine r_icT i2_27 (XT.ii_eq_t h1) ?_
  refine r_iinc (ls' := [_, _, _]) i2_32 rfl rfl ?_
  refine r_goto i2_35 ?_
  refine r_iloadN i2_11 rfl ?_
  refine r_aloadN i2_12 rfl rfl ?_
  refine r_len (n := 2) i2_13 rfl rfl ?_
  refine r_icT i2_14 (XT.ii_ge_t (by decide)) ?_
  refine r_iconst i2_38 ?_
  exact r_zreturn i2_39 rfl (by first | decide | simp)
theorem sw23 {l : Launch} {Z : State} {a0 : Array Value} {n0 : Nat} (hw : HW Z a0) {b0 b1 s0 s1 s2 : Int32} : Meets K l Z n0 m2 [.ref 0, .ref 1] [.inr (.byte, [.int b0, .int b1]), .inr (.int, [.int s0, .int s1, .int s2])] (some (.int 0)) [.inr (.byte, [.int b0, .int b1]), .inr (.int, [.int s0, .int s1, .int s2])] := by
  refine meets (ls := [_, _, _]) pf2 rfl (fun h => nomatch h) ?_
  refine r_aloadN i2_0 rfl rfl ?_
  refine r_len (n := 2) i2_1 rfl rfl ?_
  refine r_aloadN i2_2 rfl rfl ?_
  refine r_len (n := 3) i2_3 rfl rfl ?_
  refine r_icF i2_4 (XT.ii_ge_f (by decide)) ?_
  refine r_iconst i2_7 ?_
  exact r_zreturn i2_8 rfl (by first | decide | simp)
theorem sw300 {l : Launch} {Z : State} {a0 : Array Value} {n0 : Nat} (hw : HW Z a0) {b0 b1 b2 : Int32}  : Meets K l Z n0 m2 [.ref 0, .ref 1] [.inr (.byte, [.int b0, .int b1, .int b2]), .inr (.int, [])] (some (.int 1)) [.inr (.byte, [.int b0, .int b1, .int b2]), .inr (.int, [])] := by
  refine meets (ls := [_, _, _]) pf2 rfl (fun h => nomatch h) ?_
  refine r_aloadN i2_0 rfl rfl ?_
  refine r_len (n := 3) i2_1 rfl rfl ?_
  refine r_aloadN i2_2 rfl rfl ?_
  refine r_len (n := 0) i2_3 rfl rfl ?_
  refine r_icT i2_4 (XT.ii_ge_t (by decide)) ?_
  refine r_iconst i2_9 ?_
  refine r_istoreN (ls' := [_, _, _]) i2_10 rfl rfl ?_
  refine r_iloadN i2_11 rfl ?_
  refine r_aloadN i2_12 rfl rfl ?_
  refine r_len (n := 0) i2_13 rfl rfl ?_
  refine r_icT i2_14 (XT.ii_ge_t (by decide)) ?_
  refine r_iconst i2_38 ?_
  exact r_zreturn i2_39 rfl (by first | decide | simp)
theorem sw310 {l : Launch} {Z : State} {a0 : Array Value} {n0 : Nat} (hw : HW Z a0) {b0 b1 b2 s0 : Int32}  (h0 : ¬ b0 &&& 255 = s0) : Meets K l Z n0 m2 [.ref 0, .ref 1] [.inr (.byte, [.int b0, .int b1, .int b2]), .inr (.int, [.int s0])] (some (.int 0)) [.inr (.byte, [.int b0, .int b1, .int b2]), .inr (.int, [.int s0])] := by
  refine meets (ls := [_, _, _]) pf2 rfl (fun h => nomatch h) ?_
  refine r_aloadN i2_0 rfl rfl ?_
  refine r_len (n := 3) i2_1 rfl rfl ?_
  refine r_aloadN i2_2 rfl rfl ?_
  refine r_len (n := 1) i2_3 rfl rfl ?_
  refine r_icT i2_4 (XT.ii_ge_t (by decide)) ?_
  refine r_iconst i2_9 ?_
  refine r_istoreN (ls' := [_, _, _]) i2_10 rfl rfl ?_
  refine r_iloadN i2_11 rfl ?_
  refine r_aloadN i2_12 rfl rfl ?_
  refine r_len (n := 1) i2_13 rfl rfl ?_
  refine r_icF i2_14 (XT.ii_ge_f (by decide)) ?_
  refine r_aloadN i2_17 rfl rfl ?_
  refine r_iloadN i2_18 rfl ?_
  refine r_baload (i := 0) i2_19 rfl ⟨by decide, by decide⟩ rfl ?_
  refine r_sipush i2_20 ?_
  refine r_iand i2_23 ?_
  refine r_aloadN i2_24 rfl rfl ?_
  refine r_iloadN i2_25 rfl ?_
  refine r_iaload (i := 0) i2_26 rfl ⟨by decide, by decide⟩ rfl ?_
  refine r_icF i2_27 (XT.ii_eq_f h0) ?_
  refine r_iconst i2_30 ?_
  exact r_zreturn i2_31 rfl (by first | decide | simp)
theorem sw311 {l : Launch} {Z : State} {a0 : Array Value} {n0 : Nat} (hw : HW Z a0) {b0 b1 b2 s0 : Int32} (h0 : b0 &&& 255 = s0) : Meets K l Z n0 m2 [.ref 0, .ref 1] [.inr (.byte, [.int b0, .int b1, .int b2]), .inr (.int, [.int s0])] (some (.int 1)) [.inr (.byte, [.int b0, .int b1, .int b2]), .inr (.int, [.int s0])] := by
  refine meets (ls := [_, _, _]) pf2 rfl (fun h => nomatch h) ?_
  refine r_aloadN i2_0 rfl rfl ?_
  refine r_len (n := 3) i2_1 rfl rfl ?_
  refine r_aloadN i2_2 rfl rfl ?_
  refine r_len (n := 1) i2_3 rfl rfl ?_
  refine r_icT i2_4 (XT.ii_ge_t (by decide)) ?_
  refine r_iconst i2_9 ?_
  refine r_istoreN (ls' := [_, _, _]) i2_10 rfl rfl ?_
  refine r_iloadN i2_11 rfl ?_
  refine r_aloadN i2_12 rfl rfl ?_
  refine r_len (n := 1) i2_13 rfl rfl ?_
  refine r_icF i2_14 (XT.ii_ge_f (by decide)) ?_
  refine r_aloadN i2_17 rfl rfl ?_
  refine r_iloadN i2_18 rfl ?_
  refine r_baload (i := 0) i2_19 rfl ⟨by decide, by decide⟩ rfl ?_
  refine r_sipush i2_20 ?_
  refine r_iand i2_23 ?_
  refine r_aloadN i2_24 rfl rfl ?_
  refine r_iloadN i2_25 rfl ?_
  refine r_iaload (i := 0) i2_26 rfl ⟨by decide, by decide⟩ rfl ?_
  refine r_icT i2_27 (XT.ii_eq_t h0) ?_
  refine r_iinc (ls' := [_, _, _]) i2_32 rfl rfl ?_
  refine r_goto i2_35 ?_
  refine r_iloadN i2_11 rfl ?_
  refine r_aloadN i2_12 rfl rfl ?_
  refine r_len (n := 1) i2_13 rfl rfl ?_
  refine r_icT i2_14 (XT.ii_ge_t (by decide)) ?_
  refine r_iconst i2_38 ?_
  exact r_zreturn i2_39 rfl (by first | decide | simp)
theorem sw320 {l : Launch} {Z : State} {a0 : Array Value} {n0 : Nat} (hw : HW Z a0) {b0 b1 b2 s0 s1 : Int32}  (h0 : ¬ b0 &&& 255 = s0) : Meets K l Z n0 m2 [.ref 0, .ref 1] [.inr (.byte, [.int b0, .int b1, .int b2]), .inr (.int, [.int s0, .int s1])] (some (.int 0)) [.inr (.byte, [.int b0, .int b1, .int b2]), .inr (.int, [.int s0, .int s1])] := by
  refine meets (ls := [_, _, _]) pf2 rfl (fun h => nomatch h) ?_
  refine r_aloadN i2_0 rfl rfl ?_
  refine r_len (n := 3) i2_1 rfl rfl ?_
  refine r_aloadN i2_2 rfl rfl ?_
  refine r_len (n := 2) i2_3 rfl rfl ?_
  refine r_icT i2_4 (XT.ii_ge_t (by decide)) ?_
  refine r_iconst i2_9 ?_
  refine r_istoreN (ls' := [_, _, _]) i2_10 rfl rfl ?_
  refine r_iloadN i2_11 rfl ?_
  refine r_aloadN i2_12 rfl rfl ?_
  refine r_len (n := 2) i2_13 rfl rfl ?_
  refine r_icF i2_14 (XT.ii_ge_f (by decide)) ?_
  refine r_aloadN i2_17 rfl rfl ?_
  refine r_iloadN i2_18 rfl ?_
  refine r_baload (i := 0) i2_19 rfl ⟨by decide, by decide⟩ rfl ?_
  refine r_sipush i2_20 ?_
  refine r_iand i2_23 ?_
  refine r_aloadN i2_24 rfl rfl ?_
  refine r_iloadN i2_25 rfl ?_
  refine r_iaload (i := 0) i2_26 rfl ⟨by decide, by decide⟩ rfl ?_
  refine r_icF i2_27 (XT.ii_eq_f h0) ?_
  refine r_iconst i2_30 ?_
  exact r_zreturn i2_31 rfl (by first | decide | simp)
theorem sw321 {l : Launch} {Z : State} {a0 : Array Value} {n0 : Nat} (hw : HW Z a0) {b0 b1 b2 s0 s1 : Int32} (h0 : b0 &&& 255 = s0) (h1 : ¬ b1 &&& 255 = s1) : Meets K l Z n0 m2 [.ref 0, .ref 1] [.inr (.byte, [.int b0, .int b1, .int b2]), .inr (.int, [.int s0, .int s1])] (some (.int 0)) [.inr (.byte, [.int b0, .int b1, .int b2]), .inr (.int, [.int s0, .int s1])] := by
  refine meets (ls := [_, _, _]) pf2 rfl (fun h => nomatch h) ?_
  refine r_aloadN i2_0 rfl rfl ?_
  refine r_len (n := 3) i2_1 rfl rfl ?_
  refine r_aloadN i2_2 rfl rfl ?_
  refine r_len (n := 2) i2_3 rfl rfl ?_
  refine r_icT i2_4 (XT.ii_ge_t (by decide)) ?_
  refine r_iconst i2_9 ?_
  refine r_istoreN (ls' := [_, _, _]) i2_10 rfl rfl ?_
  refine r_iloadN i2_11 rfl ?_
  refine r_aloadN i2_12 rfl rfl ?_
  refine r_len (n := 2) i2_13 rfl rfl ?_
  refine r_icF i2_14 (XT.ii_ge_f (by decide)) ?_
  refine r_aloadN i2_17 rfl rfl ?_
  refine r_iloadN i2_18 rfl ?_
  refine r_baload (i := 0) i2_19 rfl ⟨by decide, by decide⟩ rfl ?_
  refine r_sipush i2_20 ?_
  refine r_iand i2_23 ?_
  refine r_aloadN i2_24 rfl rfl ?_
  refine r_iloadN i2_25 rfl ?_
  refine r_iaload (i := 0) i2_26 rfl ⟨by decide, by decide⟩ rfl ?_
  refine r_icT i2_27 (XT.ii_eq_t h0) ?_
  refine r_iinc (ls' := [_, _, _]) i2_32 rfl rfl ?_
  refine r_goto i2_35 ?_
  refine r_iloadN i2_11 rfl ?_
  refine r_aloadN i2_12 rfl rfl ?_
  refine r_len (n := 2) i2_13 rfl rfl ?_
  refine r_icF i2_14 (XT.ii_ge_f (by decide)) ?_
  refine r_aloadN i2_17 rfl rfl ?_
  refine r_iloadN i2_18 rfl ?_
  refine r_baload (i := 1) i2_19 rfl ⟨by decide, by decide⟩ rfl ?_
  refine r_sipush i2_20 ?_
  refine r_iand i2_23 ?_
  refine r_aloadN i2_24 rfl rfl ?_
  refine r_iloadN i2_25 rfl ?_
  refine r_iaload (i := 1) i2_26 rfl ⟨by decide, by decide⟩ rfl ?_
  refine r_icF i2_27 (XT.ii_eq_f h1) ?_
  refine r_iconst i2_30 ?_
  exact r_zreturn i2_31 rfl (by first | decide | simp)
theorem sw322 {l : Launch} {Z : State} {a0 : Array Value} {n0 : Nat} (hw : HW Z a0) {b0 b1 b2 s0 s1 : Int32} (h0 : b0 &&& 255 = s0) (h1 : b1 &&& 255 = s1) : Meets K l Z n0 m2 [.ref 0, .ref 1] [.inr (.byte, [.int b0, .int b1, .int b2]), .inr (.int, [.int s0, .int s1])] (some (.int 1)) [.inr (.byte, [.int b0, .int b1, .int b2]), .inr (.int, [.int s0, .int s1])] := by
  refine meets (ls := [_, _, _]) pf2 rfl (fun h => nomatch h) ?_
  refine r_aloadN i2_0 rfl rfl ?_
  refine r_len (n := 3) i2_1 rfl rfl ?_
  refine r_aloadN i2_2 rfl rfl ?_
  refine r_len (n := 2) i2_3 rfl rfl ?_
  refine r_icT i2_4 (XT.ii_ge_t (by decide)) ?_
  refine r_iconst i2_9 ?_
  refine r_istoreN (ls' := [_, _, _]) i2_10 rfl rfl ?_
  refine r_iloadN i2_11 rfl ?_
  refine r_aloadN i2_12 rfl rfl ?_
  refine r_len (n := 2) i2_13 rfl rfl ?_
  refine r_icF i2_14 (XT.ii_ge_f (by decide)) ?_
  refine r_aloadN i2_17 rfl rfl ?_
  refine r_iloadN i2_18 rfl ?_
  refine r_baload (i := 0) i2_19 rfl ⟨by decide, by decide⟩ rfl ?_
  refine r_sipush i2_20 ?_
  refine r_iand i2_23 ?_
  refine r_aloadN i2_24 rfl rfl ?_
  refine r_iloadN i2_25 rfl ?_
  refine r_iaload (i := 0) i2_26 rfl ⟨by decide, by decide⟩ rfl ?_
  refine r_icT i2_27 (XT.ii_eq_t h0) ?_
  refine r_iinc (ls' := [_, _, _]) i2_32 rfl rfl ?_
  refine r_goto i2_35 ?_
  refine r_iloadN i2_11 rfl ?_
  refine r_aloadN i2_12 rfl rfl ?_
  refine r_len (n := 2) i2_13 rfl rfl ?_
  refine r_icF i2_14 (XT.ii_ge_f (by decide)) ?_
  refine r_aloadN i2_17 rfl rfl ?_
  refine r_iloadN i2_18 rfl ?_
  refine r_baload (i := 1) i2_19 rfl ⟨by decide, by decide⟩ rfl ?_
  refine r_sipush i2_20 ?_
  refine r_iand i2_23 ?_
  refine r_aloadN i2_24 rfl rfl ?_
  refine r_iloadN i2_25 rfl ?_
  refine r_iaload (i := 1) i2_26 rfl ⟨by decide, by decide⟩ rfl ?_
  refine r_icT i2_27 (XT.ii_eq_t h1) ?_
  refine r_iinc (ls' := [_, _, _]) i2_32 rfl rfl ?_
  refine r_goto i2_35 ?_
  refine r_iloadN i2_11 rfl ?_
  refine r_aloadN i2_12 rfl rfl ?_
  refine r_len (n := 2) i2_13 rfl rfl ?_
  refine r_icT i2_14 (XT.ii_ge_t (by decide)) ?_
  refine r_iconst i2_38 ?_
  exact r_zreturn i2_39 rfl (by first | decide | simp)
theorem sw330 {l : Launch} {Z : State} {a0 : Array Value} {n0 : Nat} (hw : HW Z a0) {b0 b1 b2 s0 s1 s2 : Int32}  (h0 : ¬ b0 &&& 255 = s0) : Meets K l Z n0 m2 [.ref 0, .ref 1] [.inr (.byte, [.int b0, .int b1, .int b2]), .inr (.int, [.int s0, .int s1, .int s2])] (some (.int 0)) [.inr (.byte, [.int b0, .int b1, .int b2]), .inr (.int, [.int s0, .int s1, .int s2])] := by
  refine meets (ls := [_, _, _]) pf2 rfl (fun h => nomatch h) ?_
  refine r_aloadN i2_0 rfl rfl ?_
  refine r_len (n := 3) i2_1 rfl rfl ?_
  refine r_aloadN i2_2 rfl rfl ?_
  refine r_len (n := 3) i2_3 rfl rfl ?_
  refine r_icT i2_4 (XT.ii_ge_t (by decide)) ?_
  refine r_iconst i2_9 ?_
  refine r_istoreN (ls' := [_, _, _]) i2_10 rfl rfl ?_
  refine r_iloadN i2_11 rfl ?_
  refine r_aloadN i2_12 rfl rfl ?_
  refine r_len (n := 3) i2_13 rfl rfl ?_
  refine r_icF i2_14 (XT.ii_ge_f (by decide)) ?_
  refine r_aloadN i2_17 rfl rfl ?_
  refine r_iloadN i2_18 rfl ?_
  refine r_baload (i := 0) i2_19 rfl ⟨by decide, by decide⟩ rfl ?_
  refine r_sipush i2_20 ?_
  refine r_iand i2_23 ?_
  refine r_aloadN i2_24 rfl rfl ?_
  refine r_iloadN i2_25 rfl ?_
  refine r_iaload (i := 0) i2_26 rfl ⟨by decide, by decide⟩ rfl ?_
  refine r_icF i2_27 (XT.ii_eq_f h0) ?_
  refine r_iconst i2_30 ?_
  exact r_zreturn i2_31 rfl (by first | decide | simp)
theorem sw331 {l : Launch} {Z : State} {a0 : Array Value} {n0 : Nat} (hw : HW Z a0) {b0 b1 b2 s0 s1 s2 : Int32} (h0 : b0 &&& 255 = s0) (h1 : ¬ b1 &&& 255 = s1) : Meets K l Z n0 m2 [.ref 0, .ref 1] [.inr (.byte, [.int b0, .int b1, .int b2]), .inr (.int, [.int s0, .int s1, .int s2])] (some (.int 0)) [.inr (.byte, [.int b0, .int b1, .int b2]), .inr (.int, [.int s0, .int s1, .int s2])] := by
  refine meets (ls := [_, _, _]) pf2 rfl (fun h => nomatch h) ?_
  refine r_aloadN i2_0 rfl rfl ?_
  refine r_len (n := 3) i2_1 rfl rfl ?_
  refine r_aloadN i2_2 rfl rfl ?_
  refine r_len (n := 3) i2_3 rfl rfl ?_
  refine r_icT i2_4 (XT.ii_ge_t (by decide)) ?_
  refine r_iconst i2_9 ?_
  refine r_istoreN (ls' := [_, _, _]) i2_10 rfl rfl ?_
  refine r_iloadN i2_11 rfl ?_
  refine r_aloadN i2_12 rfl rfl ?_
  refine r_len (n := 3) i2_13 rfl rfl ?_
  refine r_icF i2_14 (XT.ii_ge_f (by decide)) ?_
  refine r_aloadN i2_17 rfl rfl ?_
  refine r_iloadN i2_18 rfl ?_
  refine r_baload (i := 0) i2_19 rfl ⟨by decide, by decide⟩ rfl ?_
  refine r_sipush i2_20 ?_
  refine r_iand i2_23 ?_
  refine r_aloadN i2_24 rfl rfl ?_
  refine r_iloadN i2_25 rfl ?_
  refine r_iaload (i := 0) i2_26 rfl ⟨by decide, by decide⟩ rfl ?_
  refine r_icT i2_27 (XT.ii_eq_t h0) ?_
  refine r_iinc (ls' := [_, _, _]) i2_32 rfl rfl ?_
  refine r_goto i2_35 ?_
  refine r_iloadN i2_11 rfl ?_
  refine r_aloadN i2_12 rfl rfl ?_
  refine r_len (n := 3) i2_13 rfl rfl ?_
  refine r_icF i2_14 (XT.ii_ge_f (by decide)) ?_
  refine r_aloadN i2_17 rfl rfl ?_
  refine r_iloadN i2_18 rfl ?_
  refine r_baload (i := 1) i2_19 rfl ⟨by decide, by decide⟩ rfl ?_
  refine r_sipush i2_20 ?_
  refine r_iand i2_23 ?_
  refine r_aloadN i2_24 rfl rfl ?_
  refine r_iloadN i2_25 rfl ?_
  refine r_iaload (i := 1) i2_26 rfl ⟨by decide, by decide⟩ rfl ?_
  refine r_icF i2_27 (XT.ii_eq_f h1) ?_
  refine r_iconst i2_30 ?_
  exact r_zreturn i2_31 rfl (by first | decide | simp)
theorem sw332 {l : Launch} {Z : State} {a0 : Array Value} {n0 : Nat} (hw : HW Z a0) {b0 b1 b2 s0 s1 s2 : Int32} (h0 : b0 &&& 255 = s0) (h1 : b1 &&& 255 = s1) (h2 : ¬ b2 &&& 255 = s2) : Meets K l Z n0 m2 [.ref 0, .ref 1] [.inr (.byte, [.int b0, .int b1, .int b2]), .inr (.int, [.int s0, .int s1, .int s2])] (some (.int 0)) [.inr (.byte, [.int b0, .int b1, .int b2]), .inr (.int, [.int s0, .int s1, .int s2])] := by
  refine meets (ls := [_, _, _]) pf2 rfl (fun h => nomatch h) ?_
  refine r_aloadN i2_0 rfl rfl ?_
  refine r_len (n := 3) i2_1 rfl rfl ?_
  refine r_aloadN i2_2 rfl rfl ?_
  refine r_len (n := 3) i2_3 rfl rfl ?_
  refine r_icT i2_4 (XT.ii_ge_t (by decide)) ?_
  refine r_iconst i2_9 ?_
  refine r_istoreN (ls' := [_, _, _]) i2_10 rfl rfl ?_
  refine r_iloadN i2_11 rfl ?_
  refine r_aloadN i2_12 rfl rfl ?_
  refine r_len (n := 3) i2_13 rfl rfl ?_
  refine r_icF i2_14 (XT.ii_ge_f (by decide)) ?_
  refine r_aloadN i2_17 rfl rfl ?_
  refine r_iloadN i2_18 rfl ?_
  refine r_baload (i := 0) i2_19 rfl ⟨by decide, by decide⟩ rfl ?_
  refine r_sipush i2_20 ?_
  refine r_iand i2_23 ?_
  refine r_aloadN i2_24 rfl rfl ?_
  refine r_iloadN i2_25 rfl ?_
  refine r_iaload (i := 0) i2_26 rfl ⟨by decide, by decide⟩ rfl ?_
  refine r_icT i2_27 (XT.ii_eq_t h0) ?_
  refine r_iinc (ls' := [_, _, _]) i2_32 rfl rfl ?_
  refine r_goto i2_35 ?_
  refine r_iloadN i2_11 rfl ?_
  refine r_aloadN i2_12 rfl rfl ?_
  refine r_len (n := 3) i2_13 rfl rfl ?_
  refine r_icF i2_14 (XT.ii_ge_f (by decide)) ?_
  refine r_aloadN i2_17 rfl rfl ?_
  refine r_iloadN i2_18 rfl ?_
  refine r_baload (i := 1) i2_19 rfl ⟨by decide, by decide⟩ rfl ?_
  refine r_sipush i2_20 ?_
  refine r_iand i2_23 ?_
  refine r_aloadN i2_24 rfl rfl ?_
  refine r_iloadN i2_25 rfl ?_
  refine r_iaload (i := 1) i2_26 rfl ⟨by decide, by decide⟩ rfl ?_
  refine r_icT i2_27 (XT.ii_eq_t h1) ?_
  refine r_iinc (ls' := [_, _, _]) i2_32 rfl rfl ?_
  refine r_goto i2_35 ?_
  refine r_iloadN i2_11 rfl ?_
  refine r_aloadN i2_12 rfl rfl ?_
  refine r_len (n := 3) i2_13 rfl rfl ?_
  refine r_icF i2_14 (XT.ii_ge_f (by decide)) ?_
  refine r_aloadN i2_17 rfl rfl ?_
  refine r_iloadN i2_18 rfl ?_
  refine r_baload (i := 2) i2_19 rfl ⟨by decide, by decide⟩ rfl ?_
  refine r_sipush i2_20 ?_
  refine r_iand i2_23 ?_
  refine r_aloadN i2_24 rfl rfl ?_
  refine r_iloadN i2_25 rfl ?_
  refine r_iaload (i := 2) i2_26 rfl ⟨by decide, by decide⟩ rfl ?_
  refine r_icF i2_27 (XT.ii_eq_f h2) ?_
  refine r_iconst i2_30 ?_
  exact r_zreturn i2_31 rfl (by first | decide | simp)
theorem sw333 {l : Launch} {Z : State} {a0 : Array Value} {n0 : Nat} (hw : HW Z a0) {b0 b1 b2 s0 s1 s2 : Int32} (h0 : b0 &&& 255 = s0) (h1 : b1 &&& 255 = s1) (h2 : b2 &&& 255 = s2) : Meets K l Z n0 m2 [.ref 0, .ref 1] [.inr (.byte, [.int b0, .int b1, .int b2]), .inr (.int, [.int s0, .int s1, .int s2])] (some (.int 1)) [.inr (.byte, [.int b0, .int b1, .int b2]), .inr (.int, [.int s0, .int s1, .int s2])] := by
  refine meets (ls := [_, _, _]) pf2 rfl (fun h => nomatch h) ?_
  refine r_aloadN i2_0 rfl rfl ?_
  refine r_len (n := 3) i2_1 rfl rfl ?_
  refine r_aloadN i2_2 rfl rfl ?_
  refine r_len (n := 3) i2_3 rfl rfl ?_
  refine r_icT i2_4 (XT.ii_ge_t (by decide)) ?_
  refine r_iconst i2_9 ?_
  refine r_istoreN (ls' := [_, _, _]) i2_10 rfl rfl ?_
  refine r_iloadN i2_11 rfl ?_
  refine r_aloadN i2_12 rfl rfl ?_
  refine r_len (n := 3) i2_13 rfl rfl ?_
  refine r_icF i2_14 (XT.ii_ge_f (by decide)) ?_
  refine r_aloadN i2_17 rfl rfl ?_
  refine r_iloadN i2_18 rfl ?_
  refine r_baload (i := 0) i2_19 rfl ⟨by decide, by decide⟩ rfl ?_
  refine r_sipush i2_20 ?_
  refine r_iand i2_23 ?_
  refine r_aloadN i2_24 rfl rfl ?_
  refine r_iloadN i2_25 rfl ?_
  refine r_iaload (i := 0) i2_26 rfl ⟨by decide, by decide⟩ rfl ?_
  refine r_icT i2_27 (XT.ii_eq_t h0) ?_
  refine r_iinc (ls' := [_, _, _]) i2_32 rfl rfl ?_
  refine r_goto i2_35 ?_
  refine r_iloadN i2_11 rfl ?_
  refine r_aloadN i2_12 rfl rfl ?_
  refine r_len (n := 3) i2_13 rfl rfl ?_
  refine r_icF i2_14 (XT.ii_ge_f (by decide)) ?_
  refine r_aloadN i2_17 rfl rfl ?_
  refine r_iloadN i2_18 rfl ?_
  refine r_baload (i := 1) i2_19 rfl ⟨by decide, by decide⟩ rfl ?_
  refine r_sipush i2_20 ?_
  refine r_iand i2_23 ?_
  refine r_aloadN i2_24 rfl rfl ?_
  refine r_iloadN i2_25 rfl ?_
  refine r_iaload (i := 1) i2_26 rfl ⟨by decide, by decide⟩ rfl ?_
  refine r_icT i2_27 (XT.ii_eq_t h1) ?_
  refine r_iinc (ls' := [_, _, _]) i2_32 rfl rfl ?_
  refine r_goto i2_35 ?_
  refine r_iloadN i2_11 rfl ?_
  refine r_aloadN i2_12 rfl rfl ?_
  refine r_len (n := 3) i2_13 rfl rfl ?_
  refine r_icF i2_14 (XT.ii_ge_f (by decide)) ?_
  refine r_aloadN i2_17 rfl rfl ?_
  refine r_iloadN i2_18 rfl ?_
  refine r_baload (i := 2) i2_19 rfl ⟨by decide, by decide⟩ rfl ?_
  refine r_sipush i2_20 ?_
  refine r_iand i2_23 ?_
  refine r_aloadN i2_24 rfl rfl ?_
  refine r_iloadN i2_25 rfl ?_
  refine r_iaload (i := 2) i2_26 rfl ⟨by decide, by decide⟩ rfl ?_
  refine r_icT i2_27 (XT.ii_eq_t h2) ?_
  refine r_iinc (ls' := [_, _, _]) i2_32 rfl rfl ?_
  refine r_goto i2_35 ?_
  refine r_iloadN i2_11 rfl ?_
  refine r_aloadN i2_12 rfl rfl ?_
  refine r_len (n := 3) i2_13 rfl rfl ?_
  refine r_icT i2_14 (XT.ii_ge_t (by decide)) ?_
  refine r_iconst i2_38 ?_
  exact r_zreturn i2_39 rfl (by first | decide | simp)
set_option maxHeartbeats 4000000 in
theorem fin00 {l : Launch} {Z : State} {a0 : Array Value} {n0 : Nat} (hw : HW Z a0) (p0 p1 p2 p3 u0 u1 u2 t0 t1 t2 : Int32) (h0 : 0 ≤ u0.toInt ∧ u0.toInt ≤ 255) (h1 : 0 ≤ u1.toInt ∧ u1.toInt ≤ 255) (h2 : 0 ≤ u2.toInt ∧ u2.toInt ≤ 255) : Runs K l Z n0 m0 239 [.val (.int p0), .val (.int p1), .val (.int p2), .val (.int p3), .val (.int 0), .val (.int 0), .val (.int u0), .val (.int u1), .val (.int u2), .val (.ref 0), .val (.int t0), .val (.int t1), .val (.int t2), .val (.ref 1), .unset, .unset, .unset, .unset] [] [.inr (.byte, []), .inr (.int, [])] (some (.int 1)) [.inr (.byte, []), .inr (.int, [])] := by
  have q0 := own_u h0.1 h0.2
  have q1 := own_u h1.1 h1.2
  have q2 := own_u h2.1 h2.2
  refine r_iload i0_239 rfl ?_
  refine r_iconst i0_241 ?_
  refine r_icT i0_242 (XT.ii_lt_t (by decide)) ?_
  refine r_iconst i0_252 ?_
  refine r_goto i0_253 ?_
  refine r_istore (ls' := [_, _, _, _, _, _, _, _, _, _, _, _, _, _, _, _, _, _]) i0_257 rfl rfl ?_
  refine r_iload i0_259 rfl ?_
  refine r_iconst i0_261 ?_
  refine r_icT i0_262 (XT.ii_lt_t (by decide)) ?_
  refine r_iconst i0_272 ?_
  refine r_goto i0_273 ?_
  refine r_istore (ls' := [_, _, _, _, _, _, _, _, _, _, _, _, _, _, _, _, _, _]) i0_277 rfl rfl ?_
  refine r_iload i0_279 rfl ?_
  refine r_iconst i0_281 ?_
  refine r_icT i0_282 (XT.ii_lt_t (by decide)) ?_
  refine r_iconst i0_292 ?_
  refine r_goto i0_293 ?_
  refine r_istore (ls' := [_, _, _, _, _, _, _, _, _, _, _, _, _, _, _, _, _, _]) i0_297 rfl rfl ?_
  refine r_iload i0_299 rfl ?_
  refine r_iload i0_301 rfl ?_
  refine r_icF i0_303 (XT.ii_lt_f (by decide)) ?_
  refine r_iload i0_306 rfl ?_
  refine r_ifF i0_308 (XT.i0_eq_f (by decide)) ?_
  refine r_iload i0_311 rfl ?_
  refine r_ifF i0_313 (XT.i0_eq_f (by decide)) ?_
  refine r_iload i0_316 rfl ?_
  refine r_ifF i0_318 (XT.i0_eq_f (by decide)) ?_
  refine r_iconst i0_321 ?_
  refine r_goto i0_322 ?_
  refine r_istore (ls' := [_, _, _, _, _, _, _, _, _, _, _, _, _, _, _, _, _, _]) i0_326 rfl rfl ?_
  refine r_aload i0_328 rfl rfl ?_
  refine r_aload i0_330 rfl rfl ?_
  refine s0_332 hw (H1 := [_, _]) (sw000 hw ) rfl (leB rfl) ?_
  refine r_iload i0_335 rfl ?_
  refine r_icF i0_337 (XT.ii_ne_f rfl) ?_
  refine r_iconst i0_340 ?_
  refine r_goto i0_341 ?_
  exact r_zreturn i0_345 rfl (by first | decide | simp)
set_option maxHeartbeats 4000000 in
theorem fin01 {l : Launch} {Z : State} {a0 : Array Value} {n0 : Nat} (hw : HW Z a0) (p0 p1 p2 p3 u0 u1 u2 t0 t1 t2 : Int32) (h0 : 0 ≤ u0.toInt ∧ u0.toInt ≤ 255) (h1 : 0 ≤ u1.toInt ∧ u1.toInt ≤ 255) (h2 : 0 ≤ u2.toInt ∧ u2.toInt ≤ 255) : Runs K l Z n0 m0 239 [.val (.int p0), .val (.int p1), .val (.int p2), .val (.int p3), .val (.int 0), .val (.int 1), .val (.int u0), .val (.int u1), .val (.int u2), .val (.ref 0), .val (.int t0), .val (.int t1), .val (.int t2), .val (.ref 1), .unset, .unset, .unset, .unset] [] [.inr (.byte, []), .inr (.int, [.int t0])] (some (.int 1)) [.inr (.byte, []), .inr (.int, [.int t0])] := by
  have q0 := own_u h0.1 h0.2
  have q1 := own_u h1.1 h1.2
  have q2 := own_u h2.1 h2.2
  by_cases e0 : t0 = u0
  · skip
    refine r_iload i0_239 rfl ?_
    refine r_iconst i0_241 ?_
    refine r_icF i0_242 (XT.ii_lt_f (by decide)) ?_
    refine r_iload i0_245 rfl ?_
    refine r_iload i0_247 rfl ?_
    refine r_icF i0_249 (XT.ii_ne_f e0) ?_
    refine r_iconst i0_252 ?_
    refine r_goto i0_253 ?_
    refine r_istore (ls' := [_, _, _, _, _, _, _, _, _, _, _, _, _, _, _, _, _, _]) i0_257 rfl rfl ?_
    refine r_iload i0_259 rfl ?_
    refine r_iconst i0_261 ?_
    refine r_icT i0_262 (XT.ii_lt_t (by decide)) ?_
    refine r_iconst i0_272 ?_
    refine r_goto i0_273 ?_
    refine r_istore (ls' := [_, _, _, _, _, _, _, _, _, _, _, _, _, _, _, _, _, _]) i0_277 rfl rfl ?_
    refine r_iload i0_279 rfl ?_
    refine r_iconst i0_281 ?_
    refine r_icT i0_282 (XT.ii_lt_t (by decide)) ?_
    refine r_iconst i0_292 ?_
    refine r_goto i0_293 ?_
    refine r_istore (ls' := [_, _, _, _, _, _, _, _, _, _, _, _, _, _, _, _, _, _]) i0_297 rfl rfl ?_
    refine r_iload i0_299 rfl ?_
    refine r_iload i0_301 rfl ?_
    refine r_icT i0_303 (XT.ii_lt_t (by decide)) ?_
    refine r_iconst i0_325 ?_
    refine r_istore (ls' := [_, _, _, _, _, _, _, _, _, _, _, _, _, _, _, _, _, _]) i0_326 rfl rfl ?_
    refine r_aload i0_328 rfl rfl ?_
    refine r_aload i0_330 rfl rfl ?_
    refine s0_332 hw (H1 := [_, _]) (sw01 hw) rfl (leB rfl) ?_
    refine r_iload i0_335 rfl ?_
    refine r_icF i0_337 (XT.ii_ne_f rfl) ?_
    refine r_iconst i0_340 ?_
    refine r_goto i0_341 ?_
    exact r_zreturn i0_345 rfl (by first | decide | simp)
  · skip
    refine r_iload i0_239 rfl ?_
    refine r_iconst i0_241 ?_
    refine r_icF i0_242 (XT.ii_lt_f (by decide)) ?_
    refine r_iload i0_245 rfl ?_
    refine r_iload i0_247 rfl ?_
    refine r_icT i0_249 (XT.ii_ne_t e0) ?_
    refine r_iconst i0_256 ?_
    refine r_istore (ls' := [_, _, _, _, _, _, _, _, _, _, _, _, _, _, _, _, _, _]) i0_257 rfl rfl ?_
    refine r_iload i0_259 rfl ?_
    refine r_iconst i0_261 ?_
    refine r_icT i0_262 (XT.ii_lt_t (by decide)) ?_
    refine r_iconst i0_272 ?_
    refine r_goto i0_273 ?_
    refine r_istore (ls' := [_, _, _, _, _, _, _, _, _, _, _, _, _, _, _, _, _, _]) i0_277 rfl rfl ?_
    refine r_iload i0_279 rfl ?_
    refine r_iconst i0_281 ?_
    refine r_icT i0_282 (XT.ii_lt_t (by decide)) ?_
    refine r_iconst i0_292 ?_
    refine r_goto i0_293 ?_
    refine r_istore (ls' := [_, _, _, _, _, _, _, _, _, _, _, _, _, _, _, _, _, _]) i0_297 rfl rfl ?_
    refine r_iload i0_299 rfl ?_
    refine r_iload i0_301 rfl ?_
    refine r_icT i0_303 (XT.ii_lt_t (by decide)) ?_
    refine r_iconst i0_325 ?_
    refine r_istore (ls' := [_, _, _, _, _, _, _, _, _, _, _, _, _, _, _, _, _, _]) i0_326 rfl rfl ?_
    refine r_aload i0_328 rfl rfl ?_
    refine r_aload i0_330 rfl rfl ?_
    refine s0_332 hw (H1 := [_, _]) (sw01 hw) rfl (leB rfl) ?_
    refine r_iload i0_335 rfl ?_
    refine r_icF i0_337 (XT.ii_ne_f rfl) ?_
    refine r_iconst i0_340 ?_
    refine r_goto i0_341 ?_
    exact r_zreturn i0_345 rfl (by first | decide | simp)
set_option maxHeartbeats 4000000 in
theorem fin02 {l : Launch} {Z : State} {a0 : Array Value} {n0 : Nat} (hw : HW Z a0) (p0 p1 p2 p3 u0 u1 u2 t0 t1 t2 : Int32) (h0 : 0 ≤ u0.toInt ∧ u0.toInt ≤ 255) (h1 : 0 ≤ u1.toInt ∧ u1.toInt ≤ 255) (h2 : 0 ≤ u2.toInt ∧ u2.toInt ≤ 255) : Runs K l Z n0 m0 239 [.val (.int p0), .val (.int p1), .val (.int p2), .val (.int p3), .val (.int 0), .val (.int 2), .val (.int u0), .val (.int u1), .val (.int u2), .val (.ref 0), .val (.int t0), .val (.int t1), .val (.int t2), .val (.ref 1), .unset, .unset, .unset, .unset] [] [.inr (.byte, []), .inr (.int, [.int t0, .int t1])] (some (.int 1)) [.inr (.byte, []), .inr (.int, [.int t0, .int t1])] := by
  have q0 := own_u h0.1 h0.2
  have q1 := own_u h1.1 h1.2
  have q2 := own_u h2.1 h2.2
  by_cases e0 : t0 = u0
  · skip
    by_cases e1 : t1 = u1
    · skip
      refine r_iload i0_239 rfl ?_
      refine r_iconst i0_241 ?_
      refine r_icF i0_242 (XT.ii_lt_f (by decide)) ?_
      refine r_iload i0_245 rfl ?_
      refine r_iload i0_247 rfl ?_
      refine r_icF i0_249 (XT.ii_ne_f e0) ?_
      refine r_iconst i0_252 ?_
      refine r_goto i0_253 ?_
      refine r_istore (ls' := [_, _, _, _, _, _, _, _, _, _, _, _, _, _, _, _, _, _]) i0_257 rfl rfl ?_
      refine r_iload i0_259 rfl ?_
      refine r_iconst i0_261 ?_
      refine r_icF i0_262 (XT.ii_lt_f (by decide)) ?_
      refine r_iload i0_265 rfl ?_
      refine r_iload i0_267 rfl ?_
      refine r_icF i0_269 (XT.ii_ne_f e1) ?_
      refine r_iconst i0_272 ?_
      refine r_goto i0_273 ?_
      refine r_istore (ls' := [_, _, _, _, _, _, _, _, _, _, _, _, _, _, _, _, _, _]) i0_277 rfl rfl ?_
      refine r_iload i0_279 rfl ?_
      refine r_iconst i0_281 ?_
      refine r_icT i0_282 (XT.ii_lt_t (by decide)) ?_
      refine r_iconst i0_292 ?_
      refine r_goto i0_293 ?_
      refine r_istore (ls' := [_, _, _, _, _, _, _, _, _, _, _, _, _, _, _, _, _, _]) i0_297 rfl rfl ?_
      refine r_iload i0_299 rfl ?_
      refine r_iload i0_301 rfl ?_
      refine r_icT i0_303 (XT.ii_lt_t (by decide)) ?_
      refine r_iconst i0_325 ?_
      refine r_istore (ls' := [_, _, _, _, _, _, _, _, _, _, _, _, _, _, _, _, _, _]) i0_326 rfl rfl ?_
      refine r_aload i0_328 rfl rfl ?_
      refine r_aload i0_330 rfl rfl ?_
      refine s0_332 hw (H1 := [_, _]) (sw02 hw) rfl (leB rfl) ?_
      refine r_iload i0_335 rfl ?_
      refine r_icF i0_337 (XT.ii_ne_f rfl) ?_
      refine r_iconst i0_340 ?_
      refine r_goto i0_341 ?_
      exact r_zreturn i0_345 rfl (by first | decide | simp)
    · skip
      refine r_iload i0_239 rfl ?_
      refine r_iconst i0_241 ?_
      refine r_icF i0_242 (XT.ii_lt_f (by decide)) ?_
      refine r_iload i0_245 rfl ?_
      refine r_iload i0_247 rfl ?_
      refine r_icF i0_249 (XT.ii_ne_f e0) ?_
      refine r_iconst i0_252 ?_
      refine r_goto i0_253 ?_
      refine r_istore (ls' := [_, _, _, _, _, _, _, _, _, _, _, _, _, _, _, _, _, _]) i0_257 rfl rfl ?_
      refine r_iload i0_259 rfl ?_
      refine r_iconst i0_261 ?_
      refine r_icF i0_262 (XT.ii_lt_f (by decide)) ?_
      refine r_iload i0_265 rfl ?_
      refine r_iload i0_267 rfl ?_
      refine r_icT i0_269 (XT.ii_ne_t e1) ?_
      refine r_iconst i0_276 ?_
      refine r_istore (ls' := [_, _, _, _, _, _, _, _, _, _, _, _, _, _, _, _, _, _]) i0_277 rfl rfl ?_
      refine r_iload i0_279 rfl ?_
      refine r_iconst i0_281 ?_
      refine r_icT i0_282 (XT.ii_lt_t (by decide)) ?_
      refine r_iconst i0_292 ?_
      refine r_goto i0_293 ?_
      refine r_istore (ls' := [_, _, _, _, _, _, _, _, _, _, _, _, _, _, _, _, _, _]) i0_297 rfl rfl ?_
      refine r_iload i0_299 rfl ?_
      refine r_iload i0_301 rfl ?_
      refine r_icT i0_303 (XT.ii_lt_t (by decide)) ?_
      refine r_iconst i0_325 ?_
      refine r_istore (ls' := [_, _, _, _, _, _, _, _, _, _, _, _, _, _, _, _, _, _]) i0_326 rfl rfl ?_
      refine r_aload i0_328 rfl rfl ?_
      refine r_aload i0_330 rfl rfl ?_
      refine s0_332 hw (H1 := [_, _]) (sw02 hw) rfl (leB rfl) ?_
      refine r_iload i0_335 rfl ?_
      refine r_icF i0_337 (XT.ii_ne_f rfl) ?_
      refine r_iconst i0_340 ?_
      refine r_goto i0_341 ?_
      exact r_zreturn i0_345 rfl (by first | decide | simp)
  · skip
    by_cases e1 : t1 = u1
    · skip
      refine r_iload i0_239 rfl ?_
      refine r_iconst i0_241 ?_
      refine r_icF i0_242 (XT.ii_lt_f (by decide)) ?_
      refine r_iload i0_245 rfl ?_
      refine r_iload i0_247 rfl ?_
      refine r_icT i0_249 (XT.ii_ne_t e0) ?_
      refine r_iconst i0_256 ?_
      refine r_istore (ls' := [_, _, _, _, _, _, _, _, _, _, _, _, _, _, _, _, _, _]) i0_257 rfl rfl ?_
      refine r_iload i0_259 rfl ?_
      refine r_iconst i0_261 ?_
      refine r_icF i0_262 (XT.ii_lt_f (by decide)) ?_
      refine r_iload i0_265 rfl ?_
      refine r_iload i0_267 rfl ?_
      refine r_icF i0_269 (XT.ii_ne_f e1) ?_
      refine r_iconst i0_272 ?_
      refine r_goto i0_273 ?_
      refine r_istore (ls' := [_, _, _, _, _, _, _, _, _, _, _, _, _, _, _, _, _, _]) i0_277 rfl rfl ?_
      refine r_iload i0_279 rfl ?_
      refine r_iconst i0_281 ?_
      refine r_icT i0_282 (XT.ii_lt_t (by decide)) ?_
      refine r_iconst i0_292 ?_
      refine r_goto i0_293 ?_
      refine r_istore (ls' := [_, _, _, _, _, _, _, _, _, _, _, _, _, _, _, _, _, _]) i0_297 rfl rfl ?_
      refine r_iload i0_299 rfl ?_
      refine r_iload i0_301 rfl ?_
      refine r_icT i0_303 (XT.ii_lt_t (by decide)) ?_
      refine r_iconst i0_325 ?_
      refine r_istore (ls' := [_, _, _, _, _, _, _, _, _, _, _, _, _, _, _, _, _, _]) i0_326 rfl rfl ?_
      refine r_aload i0_328 rfl rfl ?_
      refine r_aload i0_330 rfl rfl ?_
      refine s0_332 hw (H1 := [_, _]) (sw02 hw) rfl (leB rfl) ?_
      refine r_iload i0_335 rfl ?_
      refine r_icF i0_337 (XT.ii_ne_f rfl) ?_
      refine r_iconst i0_340 ?_
      refine r_goto i0_341 ?_
      exact r_zreturn i0_345 rfl (by first | decide | simp)
    · skip
      refine r_iload i0_239 rfl ?_
      refine r_iconst i0_241 ?_
      refine r_icF i0_242 (XT.ii_lt_f (by decide)) ?_
      refine r_iload i0_245 rfl ?_
      refine r_iload i0_247 rfl ?_
      refine r_icT i0_249 (XT.ii_ne_t e0) ?_
      refine r_iconst i0_256 ?_
      refine r_istore (ls' := [_, _, _, _, _, _, _, _, _, _, _, _, _, _, _, _, _, _]) i0_257 rfl rfl ?_
      refine r_iload i0_259 rfl ?_
      refine r_iconst i0_261 ?_
      refine r_icF i0_262 (XT.ii_lt_f (by decide)) ?_
      refine r_iload i0_265 rfl ?_
      refine r_iload i0_267 rfl ?_
      refine r_icT i0_269 (XT.ii_ne_t e1) ?_
      refine r_iconst i0_276 ?_
      refine r_istore (ls' := [_, _, _, _, _, _, _, _, _, _, _, _, _, _, _, _, _, _]) i0_277 rfl rfl ?_
      refine r_iload i0_279 rfl ?_
      refine r_iconst i0_281 ?_
      refine r_icT i0_282 (XT.ii_lt_t (by decide)) ?_
      refine r_iconst i0_292 ?_
      refine r_goto i0_293 ?_
      refine r_istore (ls' := [_, _, _, _, _, _, _, _, _, _, _, _, _, _, _, _, _, _]) i0_297 rfl rfl ?_
      refine r_iload i0_299 rfl ?_
      refine r_iload i0_301 rfl ?_
      refine r_icT i0_303 (XT.ii_lt_t (by decide)) ?_
      refine r_iconst i0_325 ?_
      refine r_istore (ls' := [_, _, _, _, _, _, _, _, _, _, _, _, _, _, _, _, _, _]) i0_326 rfl rfl ?_
      refine r_aload i0_328 rfl rfl ?_
      refine r_aload i0_330 rfl rfl ?_
      refine s0_332 hw (H1 := [_, _]) (sw02 hw) rfl (leB rfl) ?_
      refine r_iload i0_335 rfl ?_
      refine r_icF i0_337 (XT.ii_ne_f rfl) ?_
      refine r_iconst i0_340 ?_
      refine r_goto i0_341 ?_
      exact r_zreturn i0_345 rfl (by first | decide | simp)
set_option maxHeartbeats 4000000 in
theorem fin03 {l : Launch} {Z : State} {a0 : Array Value} {n0 : Nat} (hw : HW Z a0) (p0 p1 p2 p3 u0 u1 u2 t0 t1 t2 : Int32) (h0 : 0 ≤ u0.toInt ∧ u0.toInt ≤ 255) (h1 : 0 ≤ u1.toInt ∧ u1.toInt ≤ 255) (h2 : 0 ≤ u2.toInt ∧ u2.toInt ≤ 255) : Runs K l Z n0 m0 239 [.val (.int p0), .val (.int p1), .val (.int p2), .val (.int p3), .val (.int 0), .val (.int 3), .val (.int u0), .val (.int u1), .val (.int u2), .val (.ref 0), .val (.int t0), .val (.int t1), .val (.int t2), .val (.ref 1), .unset, .unset, .unset, .unset] [] [.inr (.byte, []), .inr (.int, [.int t0, .int t1, .int t2])] (some (.int 1)) [.inr (.byte, []), .inr (.int, [.int t0, .int t1, .int t2])] := by
  have q0 := own_u h0.1 h0.2
  have q1 := own_u h1.1 h1.2
  have q2 := own_u h2.1 h2.2
  by_cases e0 : t0 = u0
  · skip
    by_cases e1 : t1 = u1
    · skip
      by_cases e2 : t2 = u2
      · skip
        refine r_iload i0_239 rfl ?_
        refine r_iconst i0_241 ?_
        refine r_icF i0_242 (XT.ii_lt_f (by decide)) ?_
        refine r_iload i0_245 rfl ?_
        refine r_iload i0_247 rfl ?_
        refine r_icF i0_249 (XT.ii_ne_f e0) ?_
        refine r_iconst i0_252 ?_
        refine r_goto i0_253 ?_
        refine r_istore (ls' := [_, _, _, _, _, _, _, _, _, _, _, _, _, _, _, _, _, _]) i0_257 rfl rfl ?_
        refine r_iload i0_259 rfl ?_
        refine r_iconst i0_261 ?_
        refine r_icF i0_262 (XT.ii_lt_f (by decide)) ?_
        refine r_iload i0_265 rfl ?_
        refine r_iload i0_267 rfl ?_
        refine r_icF i0_269 (XT.ii_ne_f e1) ?_
        refine r_iconst i0_272 ?_
        refine r_goto i0_273 ?_
        refine r_istore (ls' := [_, _, _, _, _, _, _, _, _, _, _, _, _, _, _, _, _, _]) i0_277 rfl rfl ?_
        refine r_iload i0_279 rfl ?_
        refine r_iconst i0_281 ?_
        refine r_icF i0_282 (XT.ii_lt_f (by decide)) ?_
        refine r_iload i0_285 rfl ?_
        refine r_iload i0_287 rfl ?_
        refine r_icF i0_289 (XT.ii_ne_f e2) ?_
        refine r_iconst i0_292 ?_
        refine r_goto i0_293 ?_
        refine r_istore (ls' := [_, _, _, _, _, _, _, _, _, _, _, _, _, _, _, _, _, _]) i0_297 rfl rfl ?_
        refine r_iload i0_299 rfl ?_
        refine r_iload i0_301 rfl ?_
        refine r_icT i0_303 (XT.ii_lt_t (by decide)) ?_
        refine r_iconst i0_325 ?_
        refine r_istore (ls' := [_, _, _, _, _, _, _, _, _, _, _, _, _, _, _, _, _, _]) i0_326 rfl rfl ?_
        refine r_aload i0_328 rfl rfl ?_
        refine r_aload i0_330 rfl rfl ?_
        refine s0_332 hw (H1 := [_, _]) (sw03 hw) rfl (leB rfl) ?_
        refine r_iload i0_335 rfl ?_
        refine r_icF i0_337 (XT.ii_ne_f rfl) ?_
        refine r_iconst i0_340 ?_
        refine r_goto i0_341 ?_
        exact r_zreturn i0_345 rfl (by first | decide | simp)
      · skip
        refine r_iload i0_239 rfl ?_
        refine r_iconst i0_241 ?_
        refine r_icF i0_242 (XT.ii_lt_f (by decide)) ?_
        refine r_iload i0_245 rfl ?_
        refine r_iload i0_247 rfl ?_
        refine r_icF i0_249 (XT.ii_ne_f e0) ?_
        refine r_iconst i0_252 ?_
        refine r_goto i0_253 ?_
        refine r_istore (ls' := [_, _, _, _, _, _, _, _, _, _, _, _, _, _, _, _, _, _]) i0_257 rfl rfl ?_
        refine r_iload i0_259 rfl ?_
        refine r_iconst i0_261 ?_
        refine r_icF i0_262 (XT.ii_lt_f (by decide)) ?_
        refine r_iload i0_265 rfl ?_
        refine r_iload i0_267 rfl ?_
        refine r_icF i0_269 (XT.ii_ne_f e1) ?_
        refine r_iconst i0_272 ?_
        refine r_goto i0_273 ?_
        refine r_istore (ls' := [_, _, _, _, _, _, _, _, _, _, _, _, _, _, _, _, _, _]) i0_277 rfl rfl ?_
        refine r_iload i0_279 rfl ?_
        refine r_iconst i0_281 ?_
        refine r_icF i0_282 (XT.ii_lt_f (by decide)) ?_
        refine r_iload i0_285 rfl ?_
        refine r_iload i0_287 rfl ?_
        refine r_icT i0_289 (XT.ii_ne_t e2) ?_
        refine r_iconst i0_296 ?_
        refine r_istore (ls' := [_, _, _, _, _, _, _, _, _, _, _, _, _, _, _, _, _, _]) i0_297 rfl rfl ?_
        refine r_iload i0_299 rfl ?_
        refine r_iload i0_301 rfl ?_
        refine r_icT i0_303 (XT.ii_lt_t (by decide)) ?_
        refine r_iconst i0_325 ?_
        refine r_istore (ls' := [_, _, _, _, _, _, _, _, _, _, _, _, _, _, _, _, _, _]) i0_326 rfl rfl ?_
        refine r_aload i0_328 rfl rfl ?_
        refine r_aload i0_330 rfl rfl ?_
        refine s0_332 hw (H1 := [_, _]) (sw03 hw) rfl (leB rfl) ?_
        refine r_iload i0_335 rfl ?_
        refine r_icF i0_337 (XT.ii_ne_f rfl) ?_
        refine r_iconst i0_340 ?_
        refine r_goto i0_341 ?_
        exact r_zreturn i0_345 rfl (by first | decide | simp)
    · skip
      by_cases e2 : t2 = u2
      · skip
        refine r_iload i0_239 rfl ?_
        refine r_iconst i0_241 ?_
        refine r_icF i0_242 (XT.ii_lt_f (by decide)) ?_
        refine r_iload i0_245 rfl ?_
        refine r_iload i0_247 rfl ?_
        refine r_icF i0_249 (XT.ii_ne_f e0) ?_
        refine r_iconst i0_252 ?_
        refine r_goto i0_253 ?_
        refine r_istore (ls' := [_, _, _, _, _, _, _, _, _, _, _, _, _, _, _, _, _, _]) i0_257 rfl rfl ?_
        refine r_iload i0_259 rfl ?_
        refine r_iconst i0_261 ?_
        refine r_icF i0_262 (XT.ii_lt_f (by decide)) ?_
        refine r_iload i0_265 rfl ?_
        refine r_iload i0_267 rfl ?_
        refine r_icT i0_269 (XT.ii_ne_t e1) ?_
        refine r_iconst i0_276 ?_
        refine r_istore (ls' := [_, _, _, _, _, _, _, _, _, _, _, _, _, _, _, _, _, _]) i0_277 rfl rfl ?_
        refine r_iload i0_279 rfl ?_
        refine r_iconst i0_281 ?_
        refine r_icF i0_282 (XT.ii_lt_f (by decide)) ?_
        refine r_iload i0_285 rfl ?_
        refine r_iload i0_287 rfl ?_
        refine r_icF i0_289 (XT.ii_ne_f e2) ?_
        refine r_iconst i0_292 ?_
        refine r_goto i0_293 ?_
        refine r_istore (ls' := [_, _, _, _, _, _, _, _, _, _, _, _, _, _, _, _, _, _]) i0_297 rfl rfl ?_
        refine r_iload i0_299 rfl ?_
        refine r_iload i0_301 rfl ?_
        refine r_icT i0_303 (XT.ii_lt_t (by decide)) ?_
        refine r_iconst i0_325 ?_
        refine r_istore (ls' := [_, _, _, _, _, _, _, _, _, _, _, _, _, _, _, _, _, _]) i0_326 rfl rfl ?_
        refine r_aload i0_328 rfl rfl ?_
        refine r_aload i0_330 rfl rfl ?_
        refine s0_332 hw (H1 := [_, _]) (sw03 hw) rfl (leB rfl) ?_
        refine r_iload i0_335 rfl ?_
        refine r_icF i0_337 (XT.ii_ne_f rfl) ?_
        refine r_iconst i0_340 ?_
        refine r_goto i0_341 ?_
        exact r_zreturn i0_345 rfl (by first | decide | simp)
      · skip
        refine r_iload i0_239 rfl ?_
        refine r_iconst i0_241 ?_
        refine r_icF i0_242 (XT.ii_lt_f (by decide)) ?_
        refine r_iload i0_245 rfl ?_
        refine r_iload i0_247 rfl ?_
        refine r_icF i0_249 (XT.ii_ne_f e0) ?_
        refine r_iconst i0_252 ?_
        refine r_goto i0_253 ?_
        refine r_istore (ls' := [_, _, _, _, _, _, _, _, _, _, _, _, _, _, _, _, _, _]) i0_257 rfl rfl ?_
        refine r_iload i0_259 rfl ?_
        refine r_iconst i0_261 ?_
        refine r_icF i0_262 (XT.ii_lt_f (by decide)) ?_
        refine r_iload i0_265 rfl ?_
        refine r_iload i0_267 rfl ?_
        refine r_icT i0_269 (XT.ii_ne_t e1) ?_
        refine r_iconst i0_276 ?_
        refine r_istore (ls' := [_, _, _, _, _, _, _, _, _, _, _, _, _, _, _, _, _, _]) i0_277 rfl rfl ?_
        refine r_iload i0_279 rfl ?_
        refine r_iconst i0_281 ?_
        refine r_icF i0_282 (XT.ii_lt_f (by decide)) ?_
        refine r_iload i0_285 rfl ?_
        refine r_iload i0_287 rfl ?_
        refine r_icT i0_289 (XT.ii_ne_t e2) ?_
        refine r_iconst i0_296 ?_
        refine r_istore (ls' := [_, _, _, _, _, _, _, _, _, _, _, _, _, _, _, _, _, _]) i0_297 rfl rfl ?_
        refine r_iload i0_299 rfl ?_
        refine r_iload i0_301 rfl ?_
        refine r_icT i0_303 (XT.ii_lt_t (by decide)) ?_
        refine r_iconst i0_325 ?_
        refine r_istore (ls' := [_, _, _, _, _, _, _, _, _, _, _, _, _, _, _, _, _, _]) i0_326 rfl rfl ?_
        refine r_aload i0_328 rfl rfl ?_
        refine r_aload i0_330 rfl rfl ?_
        refine s0_332 hw (H1 := [_, _]) (sw03 hw) rfl (leB rfl) ?_
        refine r_iload i0_335 rfl ?_
        refine r_icF i0_337 (XT.ii_ne_f rfl) ?_
        refine r_iconst i0_340 ?_
        refine r_goto i0_341 ?_
        exact r_zreturn i0_345 rfl (by first | decide | simp)
  · skip
    by_cases e1 : t1 = u1
    · skip
      by_cases e2 : t2 = u2
      · skip
        refine r_iload i0_239 rfl ?_
        refine r_iconst i0_241 ?_
        refine r_icF i0_242 (XT.ii_lt_f (by decide)) ?_
        refine r_iload i0_245 rfl ?_
        refine r_iload i0_247 rfl ?_
        refine r_icT i0_249 (XT.ii_ne_t e0) ?_
        refine r_iconst i0_256 ?_
        refine r_istore (ls' := [_, _, _, _, _, _, _, _, _, _, _, _, _, _, _, _, _, _]) i0_257 rfl rfl ?_
        refine r_iload i0_259 rfl ?_
        refine r_iconst i0_261 ?_
        refine r_icF i0_262 (XT.ii_lt_f (by decide)) ?_
        refine r_iload i0_265 rfl ?_
        refine r_iload i0_267 rfl ?_
        refine r_icF i0_269 (XT.ii_ne_f e1) ?_
        refine r_iconst i0_272 ?_
        refine r_goto i0_273 ?_
        refine r_istore (ls' := [_, _, _, _, _, _, _, _, _, _, _, _, _, _, _, _, _, _]) i0_277 rfl rfl ?_
        refine r_iload i0_279 rfl ?_
        refine r_iconst i0_281 ?_
        refine r_icF i0_282 (XT.ii_lt_f (by decide)) ?_
        refine r_iload i0_285 rfl ?_
        refine r_iload i0_287 rfl ?_
        refine r_icF i0_289 (XT.ii_ne_f e2) ?_
        refine r_iconst i0_292 ?_
        refine r_goto i0_293 ?_
        refine r_istore (ls' := [_, _, _, _, _, _, _, _, _, _, _, _, _, _, _, _, _, _]) i0_297 rfl rfl ?_
        refine r_iload i0_299 rfl ?_
        refine r_iload i0_301 rfl ?_
        refine r_icT i0_303 (XT.ii_lt_t (by decide)) ?_
        refine r_iconst i0_325 ?_
        refine r_istore (ls' := [_, _, _, _, _, _, _, _, _, _, _, _, _, _, _, _, _, _]) i0_326 rfl rfl ?_
        refine r_aload i0_328 rfl rfl ?_
        refine r_aload i0_330 rfl rfl ?_
        refine s0_332 hw (H1 := [_, _]) (sw03 hw) rfl (leB rfl) ?_
        refine r_iload i0_335 rfl ?_
        refine r_icF i0_337 (XT.ii_ne_f rfl) ?_
        refine r_iconst i0_340 ?_
        refine r_goto i0_341 ?_
        exact r_zreturn i0_345 rfl (by first | decide | simp)
      · skip
        refine r_iload i0_239 rfl ?_
        refine r_iconst i0_241 ?_
        refine r_icF i0_242 (XT.ii_lt_f (by decide)) ?_
        refine r_iload i0_245 rfl ?_
        refine r_iload i0_247 rfl ?_
        refine r_icT i0_249 (XT.ii_ne_t e0) ?_
        refine r_iconst i0_256 ?_
        refine r_istore (ls' := [_, _, _, _, _, _, _, _, _, _, _, _, _, _, _, _, _, _]) i0_257 rfl rfl ?_
        refine r_iload i0_259 rfl ?_
        refine r_iconst i0_261 ?_
        refine r_icF i0_262 (XT.ii_lt_f (by decide)) ?_
        refine r_iload i0_265 rfl ?_
        refine r_iload i0_267 rfl ?_
        refine r_icF i0_269 (XT.ii_ne_f e1) ?_
        refine r_iconst i0_272 ?_
        refine r_goto i0_273 ?_
        refine r_istore (ls' := [_, _, _, _, _, _, _, _, _, _, _, _, _, _, _, _, _, _]) i0_277 rfl rfl ?_
        refine r_iload i0_279 rfl ?_
        refine r_iconst i0_281 ?_
        refine r_icF i0_282 (XT.ii_lt_f (by decide)) ?_
        refine r_iload i0_285 rfl ?_
        refine r_iload i0_287 rfl ?_
        refine r_icT i0_289 (XT.ii_ne_t e2) ?_
        refine r_iconst i0_296 ?_
        refine r_istore (ls' := [_, _, _, _, _, _, _, _, _, _, _, _, _, _, _, _, _, _]) i0_297 rfl rfl ?_
        refine r_iload i0_299 rfl ?_
        refine r_iload i0_301 rfl ?_
        refine r_icT i0_303 (XT.ii_lt_t (by decide)) ?_
        refine r_iconst i0_325 ?_
        refine r_istore (ls' := [_, _, _, _, _, _, _, _, _, _, _, _, _, _, _, _, _, _]) i0_326 rfl rfl ?_
        refine r_aload i0_328 rfl rfl ?_
        refine r_aload i0_330 rfl rfl ?_
        refine s0_332 hw (H1 := [_, _]) (sw03 hw) rfl (leB rfl) ?_
        refine r_iload i0_335 rfl ?_
        refine r_icF i0_337 (XT.ii_ne_f rfl) ?_
        refine r_iconst i0_340 ?_
        refine r_goto i0_341 ?_
        exact r_zreturn i0_345 rfl (by first | decide | simp)
    · skip
      by_cases e2 : t2 = u2
      · skip
        refine r_iload i0_239 rfl ?_
        refine r_iconst i0_241 ?_
        refine r_icF i0_242 (XT.ii_lt_f (by decide)) ?_
        refine r_iload i0_245 rfl ?_
        refine r_iload i0_247 rfl ?_
        refine r_icT i0_249 (XT.ii_ne_t e0) ?_
        refine r_iconst i0_256 ?_
        refine r_istore (ls' := [_, _, _, _, _, _, _, _, _, _, _, _, _, _, _, _, _, _]) i0_257 rfl rfl ?_
        refine r_iload i0_259 rfl ?_
        refine r_iconst i0_261 ?_
        refine r_icF i0_262 (XT.ii_lt_f (by decide)) ?_
        refine r_iload i0_265 rfl ?_
        refine r_iload i0_267 rfl ?_
        refine r_icT i0_269 (XT.ii_ne_t e1) ?_
        refine r_iconst i0_276 ?_
        refine r_istore (ls' := [_, _, _, _, _, _, _, _, _, _, _, _, _, _, _, _, _, _]) i0_277 rfl rfl ?_
        refine r_iload i0_279 rfl ?_
        refine r_iconst i0_281 ?_
        refine r_icF i0_282 (XT.ii_lt_f (by decide)) ?_
        refine r_iload i0_285 rfl ?_
        refine r_iload i0_287 rfl ?_
        refine r_icF i0_289 (XT.ii_ne_f e2) ?_
        refine r_iconst i0_292 ?_
        refine r_goto i0_293 ?_
        refine r_istore (ls' := [_, _, _, _, _, _, _, _, _, _, _, _, _, _, _, _, _, _]) i0_297 rfl rfl ?_
        refine r_iload i0_299 rfl ?_
        refine r_iload i0_301 rfl ?_
        refine r_icT i0_303 (XT.ii_lt_t (by decide)) ?_
        refine r_iconst i0_325 ?_
        refine r_istore (ls' := [_, _, _, _, _, _, _, _, _, _, _, _, _, _, _, _, _, _]) i0_326 rfl rfl ?_
        refine r_aload i0_328 rfl rfl ?_
        refine r_aload i0_330 rfl rfl ?_
        refine s0_332 hw (H1 := [_, _]) (sw03 hw) rfl (leB rfl) ?_
        refine r_iload i0_335 rfl ?_
        refine r_icF i0_337 (XT.ii_ne_f rfl) ?_
        refine r_iconst i0_340 ?_
        refine r_goto i0_341 ?_
        exact r_zreturn i0_345 rfl (by first | decide | simp)
      · skip
        refine r_iload i0_239 rfl ?_
        refine r_iconst i0_241 ?_
        refine r_icF i0_242 (XT.ii_lt_f (by decide)) ?_
        refine r_iload i0_245 rfl ?_
        refine r_iload i0_247 rfl ?_
        refine r_icT i0_249 (XT.ii_ne_t e0) ?_
        refine r_iconst i0_256 ?_
        refine r_istore (ls' := [_, _, _, _, _, _, _, _, _, _, _, _, _, _, _, _, _, _]) i0_257 rfl rfl ?_
        refine r_iload i0_259 rfl ?_
        refine r_iconst i0_261 ?_
        refine r_icF i0_262 (XT.ii_lt_f (by decide)) ?_
        refine r_iload i0_265 rfl ?_
        refine r_iload i0_267 rfl ?_
        refine r_icT i0_269 (XT.ii_ne_t e1) ?_
        refine r_iconst i0_276 ?_
        refine r_istore (ls' := [_, _, _, _, _, _, _, _, _, _, _, _, _, _, _, _, _, _]) i0_277 rfl rfl ?_
        refine r_iload i0_279 rfl ?_
        refine r_iconst i0_281 ?_
        refine r_icF i0_282 (XT.ii_lt_f (by decide)) ?_
        refine r_iload i0_285 rfl ?_
        refine r_iload i0_287 rfl ?_
        refine r_icT i0_289 (XT.ii_ne_t e2) ?_
        refine r_iconst i0_296 ?_
        refine r_istore (ls' := [_, _, _, _, _, _, _, _, _, _, _, _, _, _, _, _, _, _]) i0_297 rfl rfl ?_
        refine r_iload i0_299 rfl ?_
        refine r_iload i0_301 rfl ?_
        refine r_icT i0_303 (XT.ii_lt_t (by decide)) ?_
        refine r_iconst i0_325 ?_
        refine r_istore (ls' := [_, _, _, _, _, _, _, _, _, _, _, _, _, _, _, _, _, _]) i0_326 rfl rfl ?_
        refine r_aload i0_328 rfl rfl ?_
        refine r_aload i0_330 rfl rfl ?_
        refine s0_332 hw (H1 := [_, _]) (sw03 hw) rfl (leB rfl) ?_
        refine r_iload i0_335 rfl ?_
        refine r_icF i0_337 (XT.ii_ne_f rfl) ?_
        refine r_iconst i0_340 ?_
        refine r_goto i0_341 ?_
        exact r_zreturn i0_345 rfl (by first | decide | simp)
set_option maxHeartbeats 4000000 in
theorem fin10 {l : Launch} {Z : State} {a0 : Array Value} {n0 : Nat} (hw : HW Z a0) (p0 p1 p2 p3 u0 u1 u2 t0 t1 t2 : Int32) (h0 : 0 ≤ u0.toInt ∧ u0.toInt ≤ 255) (h1 : 0 ≤ u1.toInt ∧ u1.toInt ≤ 255) (h2 : 0 ≤ u2.toInt ∧ u2.toInt ≤ 255) : Runs K l Z n0 m0 239 [.val (.int p0), .val (.int p1), .val (.int p2), .val (.int p3), .val (.int 1), .val (.int 0), .val (.int u0), .val (.int u1), .val (.int u2), .val (.ref 0), .val (.int t0), .val (.int t1), .val (.int t2), .val (.ref 1), .unset, .unset, .unset, .unset] [] [.inr (.byte, [.int u0.toInt8.toInt32.toInt8.toInt32]), .inr (.int, [])] (some (.int 1)) [.inr (.byte, [.int u0.toInt8.toInt32.toInt8.toInt32]), .inr (.int, [])] := by
  have q0 := own_u h0.1 h0.2
  have q1 := own_u h1.1 h1.2
  have q2 := own_u h2.1 h2.2
  refine r_iload i0_239 rfl ?_
  refine r_iconst i0_241 ?_
  refine r_icT i0_242 (XT.ii_lt_t (by decide)) ?_
  refine r_iconst i0_252 ?_
  refine r_goto i0_253 ?_
  refine r_istore (ls' := [_, _, _, _, _, _, _, _, _, _, _, _, _, _, _, _, _, _]) i0_257 rfl rfl ?_
  refine r_iload i0_259 rfl ?_
  refine r_iconst i0_261 ?_
  refine r_icT i0_262 (XT.ii_lt_t (by decide)) ?_
  refine r_iconst i0_272 ?_
  refine r_goto i0_273 ?_
  refine r_istore (ls' := [_, _, _, _, _, _, _, _, _, _, _, _, _, _, _, _, _, _]) i0_277 rfl rfl ?_
  refine r_iload i0_279 rfl ?_
  refine r_iconst i0_281 ?_
  refine r_icT i0_282 (XT.ii_lt_t (by decide)) ?_
  refine r_iconst i0_292 ?_
  refine r_goto i0_293 ?_
  refine r_istore (ls' := [_, _, _, _, _, _, _, _, _, _, _, _, _, _, _, _, _, _]) i0_297 rfl rfl ?_
  refine r_iload i0_299 rfl ?_
  refine r_iload i0_301 rfl ?_
  refine r_icF i0_303 (XT.ii_lt_f (by decide)) ?_
  refine r_iload i0_306 rfl ?_
  refine r_ifF i0_308 (XT.i0_eq_f (by decide)) ?_
  refine r_iload i0_311 rfl ?_
  refine r_ifF i0_313 (XT.i0_eq_f (by decide)) ?_
  refine r_iload i0_316 rfl ?_
  refine r_ifF i0_318 (XT.i0_eq_f (by decide)) ?_
  refine r_iconst i0_321 ?_
  refine r_goto i0_322 ?_
  refine r_istore (ls' := [_, _, _, _, _, _, _, _, _, _, _, _, _, _, _, _, _, _]) i0_326 rfl rfl ?_
  refine r_aload i0_328 rfl rfl ?_
  refine r_aload i0_330 rfl rfl ?_
  refine s0_332 hw (H1 := [_, _]) (sw100 hw ) rfl (leB rfl) ?_
  refine r_iload i0_335 rfl ?_
  refine r_icF i0_337 (XT.ii_ne_f rfl) ?_
  refine r_iconst i0_340 ?_
  refine r_goto i0_341 ?_
  exact r_zreturn i0_345 rfl (by first | decide | simp)
set_option maxHeartbeats 4000000 in
theorem fin11 {l : Launch} {Z : State} {a0 : Array Value} {n0 : Nat} (hw : HW Z a0) (p0 p1 p2 p3 u0 u1 u2 t0 t1 t2 : Int32) (h0 : 0 ≤ u0.toInt ∧ u0.toInt ≤ 255) (h1 : 0 ≤ u1.toInt ∧ u1.toInt ≤ 255) (h2 : 0 ≤ u2.toInt ∧ u2.toInt ≤ 255) : Runs K l Z n0 m0 239 [.val (.int p0), .val (.int p1), .val (.int p2), .val (.int p3), .val (.int 1), .val (.int 1), .val (.int u0), .val (.int u1), .val (.int u2), .val (.ref 0), .val (.int t0), .val (.int t1), .val (.int t2), .val (.ref 1), .unset, .unset, .unset, .unset] [] [.inr (.byte, [.int u0.toInt8.toInt32.toInt8.toInt32]), .inr (.int, [.int t0])] (some (.int 1)) [.inr (.byte, [.int u0.toInt8.toInt32.toInt8.toInt32]), .inr (.int, [.int t0])] := by
  have q0 := own_u h0.1 h0.2
  have q1 := own_u h1.1 h1.2
  have q2 := own_u h2.1 h2.2
  by_cases e0 : t0 = u0
  · skip
    refine r_iload i0_239 rfl ?_
    refine r_iconst i0_241 ?_
    refine r_icF i0_242 (XT.ii_lt_f (by decide)) ?_
    refine r_iload i0_245 rfl ?_
    refine r_iload i0_247 rfl ?_
    refine r_icF i0_249 (XT.ii_ne_f e0) ?_
    refine r_iconst i0_252 ?_
    refine r_goto i0_253 ?_
    refine r_istore (ls' := [_, _, _, _, _, _, _, _, _, _, _, _, _, _, _, _, _, _]) i0_257 rfl rfl ?_
    refine r_iload i0_259 rfl ?_
    refine r_iconst i0_261 ?_
    refine r_icT i0_262 (XT.ii_lt_t (by decide)) ?_
    refine r_iconst i0_272 ?_
    refine r_goto i0_273 ?_
    refine r_istore (ls' := [_, _, _, _, _, _, _, _, _, _, _, _, _, _, _, _, _, _]) i0_277 rfl rfl ?_
    refine r_iload i0_279 rfl ?_
    refine r_iconst i0_281 ?_
    refine r_icT i0_282 (XT.ii_lt_t (by decide)) ?_
    refine r_iconst i0_292 ?_
    refine r_goto i0_293 ?_
    refine r_istore (ls' := [_, _, _, _, _, _, _, _, _, _, _, _, _, _, _, _, _, _]) i0_297 rfl rfl ?_
    refine r_iload i0_299 rfl ?_
    refine r_iload i0_301 rfl ?_
    refine r_icF i0_303 (XT.ii_lt_f (by decide)) ?_
    refine r_iload i0_306 rfl ?_
    refine r_ifF i0_308 (XT.i0_eq_f (by decide)) ?_
    refine r_iload i0_311 rfl ?_
    refine r_ifF i0_313 (XT.i0_eq_f (by decide)) ?_
    refine r_iload i0_316 rfl ?_
    refine r_ifF i0_318 (XT.i0_eq_f (by decide)) ?_
    refine r_iconst i0_321 ?_
    refine r_goto i0_322 ?_
    refine r_istore (ls' := [_, _, _, _, _, _, _, _, _, _, _, _, _, _, _, _, _, _]) i0_326 rfl rfl ?_
    refine r_aload i0_328 rfl rfl ?_
    refine r_aload i0_330 rfl rfl ?_
    refine s0_332 hw (H1 := [_, _]) (sw111 hw (h0 := q0.trans e0.symm)) rfl (leB rfl) ?_
    refine r_iload i0_335 rfl ?_
    refine r_icF i0_337 (XT.ii_ne_f rfl) ?_
    refine r_iconst i0_340 ?_
    refine r_goto i0_341 ?_
    exact r_zreturn i0_345 rfl (by first | decide | simp)
  · skip
    refine r_iload i0_239 rfl ?_
    refine r_iconst i0_241 ?_
    refine r_icF i0_242 (XT.ii_lt_f (by decide)) ?_
    refine r_iload i0_245 rfl ?_
    refine r_iload i0_247 rfl ?_
    refine r_icT i0_249 (XT.ii_ne_t e0) ?_
    refine r_iconst i0_256 ?_
    refine r_istore (ls' := [_, _, _, _, _, _, _, _, _, _, _, _, _, _, _, _, _, _]) i0_257 rfl rfl ?_
    refine r_iload i0_259 rfl ?_
    refine r_iconst i0_261 ?_
    refine r_icT i0_262 (XT.ii_lt_t (by decide)) ?_
    refine r_iconst i0_272 ?_
    refine r_goto i0_273 ?_
    refine r_istore (ls' := [_, _, _, _, _, _, _, _, _, _, _, _, _, _, _, _, _, _]) i0_277 rfl rfl ?_
    refine r_iload i0_279 rfl ?_
    refine r_iconst i0_281 ?_
    refine r_icT i0_282 (XT.ii_lt_t (by decide)) ?_
    refine r_iconst i0_292 ?_
    refine r_goto i0_293 ?_
    refine r_istore (ls' := [_, _, _, _, _, _, _, _, _, _, _, _, _, _, _, _, _, _]) i0_297 rfl rfl ?_
    refine r_iload i0_299 rfl ?_
    refine r_iload i0_301 rfl ?_
    refine r_icF i0_303 (XT.ii_lt_f (by decide)) ?_
    refine r_iload i0_306 rfl ?_
    refine r_ifT i0_308 (XT.i0_eq_t rfl) ?_
    refine r_iconst i0_325 ?_
    refine r_istore (ls' := [_, _, _, _, _, _, _, _, _, _, _, _, _, _, _, _, _, _]) i0_326 rfl rfl ?_
    refine r_aload i0_328 rfl rfl ?_
    refine r_aload i0_330 rfl rfl ?_
    refine s0_332 hw (H1 := [_, _]) (sw110 hw  (h0 := fun z => e0 (z.symm.trans q0))) rfl (leB rfl) ?_
    refine r_iload i0_335 rfl ?_
    refine r_icF i0_337 (XT.ii_ne_f rfl) ?_
    refine r_iconst i0_340 ?_
    refine r_goto i0_341 ?_
    exact r_zreturn i0_345 rfl (by first | decide | simp)
set_option maxHeartbeats 4000000 in
theorem fin12 {l : Launch} {Z : State} {a0 : Array Value} {n0 : Nat} (hw : HW Z a0) (p0 p1 p2 p3 u0 u1 u2 t0 t1 t2 : Int32) (h0 : 0 ≤ u0.toInt ∧ u0.toInt ≤ 255) (h1 : 0 ≤ u1.toInt ∧ u1.toInt ≤ 255) (h2 : 0 ≤ u2.toInt ∧ u2.toInt ≤ 255) : Runs K l Z n0 m0 239 [.val (.int p0), .val (.int p1), .val (.int p2), .val (.int p3), .val (.int 1), .val (.int 2), .val (.int u0), .val (.int u1), .val (.int u2), .val (.ref 0), .val (.int t0), .val (.int t1), .val (.int t2), .val (.ref 1), .unset, .unset, .unset, .unset] [] [.inr (.byte, [.int u0.toInt8.toInt32.toInt8.toInt32]), .inr (.int, [.int t0, .int t1])] (some (.int 1)) [.inr (.byte, [.int u0.toInt8.toInt32.toInt8.toInt32]), .inr (.int, [.int t0, .int t1])] := by
  have q0 := own_u h0.1 h0.2
  have q1 := own_u h1.1 h1.2
  have q2 := own_u h2.1 h2.2
  by_cases e0 : t0 = u0
  · skip
    by_cases e1 : t1 = u1
    · skip
      refine r_iload i0_239 rfl ?_
      refine r_iconst i0_241 ?_
      refine r_icF i0_242 (XT.ii_lt_f (by decide)) ?_
      refine r_iload i0_245 rfl ?_
      refine r_iload i0_247 rfl ?_
      refine r_icF i0_249 (XT.ii_ne_f e0) ?_
      refine r_iconst i0_252 ?_
      refine r_goto i0_253 ?_
      refine r_istore (ls' := [_, _, _, _, _, _, _, _, _, _, _, _, _, _, _, _, _, _]) i0_257 rfl rfl ?_
      refine r_iload i0_259 rfl ?_
      refine r_iconst i0_261 ?_
      refine r_icF i0_262 (XT.ii_lt_f (by decide)) ?_
      refine r_iload i0_265 rfl ?_
      refine r_iload i0_267 rfl ?_
      refine r_icF i0_269 (XT.ii_ne_f e1) ?_
      refine r_iconst i0_272 ?_
      refine r_goto i0_273 ?_
      refine r_istore (ls' := [_, _, _, _, _, _, _, _, _, _, _, _, _, _, _, _, _, _]) i0_277 rfl rfl ?_
      refine r_iload i0_279 rfl ?_
      refine r_iconst i0_281 ?_
      refine r_icT i0_282 (XT.ii_lt_t (by decide)) ?_
      refine r_iconst i0_292 ?_
      refine r_goto i0_293 ?_
      refine r_istore (ls' := [_, _, _, _, _, _, _, _, _, _, _, _, _, _, _, _, _, _]) i0_297 rfl rfl ?_
      refine r_iload i0_299 rfl ?_
      refine r_iload i0_301 rfl ?_
      refine r_icT i0_303 (XT.ii_lt_t (by decide)) ?_
      refine r_iconst i0_325 ?_
      refine r_istore (ls' := [_, _, _, _, _, _, _, _, _, _, _, _, _, _, _, _, _, _]) i0_326 rfl rfl ?_
      refine r_aload i0_328 rfl rfl ?_
      refine r_aload i0_330 rfl rfl ?_
      refine s0_332 hw (H1 := [_, _]) (sw12 hw) rfl (leB rfl) ?_
      refine r_iload i0_335 rfl ?_
      refine r_icF i0_337 (XT.ii_ne_f rfl) ?_
      refine r_iconst i0_340 ?_
      refine r_goto i0_341 ?_
      exact r_zreturn i0_345 rfl (by first | decide | simp)
    · skip
      refine r_iload i0_239 rfl ?_
      refine r_iconst i0_241 ?_
      refine r_icF i0_242 (XT.ii_lt_f (by decide)) ?_
      refine r_iload i0_245 rfl ?_
      refine r_iload i0_247 rfl ?_
      refine r_icF i0_249 (XT.ii_ne_f e0) ?_
      refine r_iconst i0_252 ?_
      refine r_goto i0_253 ?_
      refine r_istore (ls' := [_, _, _, _, _, _, _, _, _, _, _, _, _, _, _, _, _, _]) i0_257 rfl rfl ?_
      refine r_iload i0_259 rfl ?_
      refine r_iconst i0_261 ?_
      refine r_icF i0_262 (XT.ii_lt_f (by decide)) ?_
      refine r_iload i0_265 rfl ?_
      refine r_iload i0_267 rfl ?_
      refine r_icT i0_269 (XT.ii_ne_t e1) ?_
      refine r_iconst i0_276 ?_
      refine r_istore (ls' := [_, _, _, _, _, _, _, _, _, _, _, _, _, _, _, _, _, _]) i0_277 rfl rfl ?_
      refine r_iload i0_279 rfl ?_
      refine r_iconst i0_281 ?_
      refine r_icT i0_282 (XT.ii_lt_t (by decide)) ?_
      refine r_iconst i0_292 ?_
      refine r_goto i0_293 ?_
      refine r_istore (ls' := [_, _, _, _, _, _, _, _, _, _, _, _, _, _, _, _, _, _]) i0_297 rfl rfl ?_
      refine r_iload i0_299 rfl ?_
      refine r_iload i0_301 rfl ?_
      refine r_icT i0_303 (XT.ii_lt_t (by decide)) ?_
      refine r_iconst i0_325 ?_
      refine r_istore (ls' := [_, _, _, _, _, _, _, _, _, _, _, _, _, _, _, _, _, _]) i0_326 rfl rfl ?_
      refine r_aload i0_328 rfl rfl ?_
      refine r_aload i0_330 rfl rfl ?_
      refine s0_332 hw (H1 := [_, _]) (sw12 hw) rfl (leB rfl) ?_
      refine r_iload i0_335 rfl ?_
      refine r_icF i0_337 (XT.ii_ne_f rfl) ?_
      refine r_iconst i0_340 ?_
      refine r_goto i0_341 ?_
      exact r_zreturn i0_345 rfl (by first | decide | simp)
  · skip
    by_cases e1 : t1 = u1
    · skip
      refine r_iload i0_239 rfl ?_
      refine r_iconst i0_241 ?_
      refine r_icF i0_242 (XT.ii_lt_f (by decide)) ?_
      refine r_iload i0_245 rfl ?_
      refine r_iload i0_247 rfl ?_
      refine r_icT i0_249 (XT.ii_ne_t e0) ?_
      refine r_iconst i0_256 ?_
      refine r_istore (ls' := [_, _, _, _, _, _, _, _, _, _, _, _, _, _, _, _, _, _]) i0_257 rfl rfl ?_
      refine r_iload i0_259 rfl ?_
      refine r_iconst i0_261 ?_
      refine r_icF i0_262 (XT.ii_lt_f (by decide)) ?_
      refine r_iload i0_265 rfl ?_
      refine r_iload i0_267 rfl ?_
      refine r_icF i0_269 (XT.ii_ne_f e1) ?_
      refine r_iconst i0_272 ?_
      refine r_goto i0_273 ?_
      refine r_istore (ls' := [_, _, _, _, _, _, _, _, _, _, _, _, _, _, _, _, _, _]) i0_277 rfl rfl ?_
      refine r_iload i0_279 rfl ?_
      refine r_iconst i0_281 ?_
      refine r_icT i0_282 (XT.ii_lt_t (by decide)) ?_
      refine r_iconst i0_292 ?_
      refine r_goto i0_293 ?_
      refine r_istore (ls' := [_, _, _, _, _, _, _, _, _, _, _, _, _, _, _, _, _, _]) i0_297 rfl rfl ?_
      refine r_iload i0_299 rfl ?_
      refine r_iload i0_301 rfl ?_
      refine r_icT i0_303 (XT.ii_lt_t (by decide)) ?_
      refine r_iconst i0_325 ?_
      refine r_istore (ls' := [_, _, _, _, _, _, _, _, _, _, _, _, _, _, _, _, _, _]) i0_326 rfl rfl ?_
      refine r_aload i0_328 rfl rfl ?_
      refine r_aload i0_330 rfl rfl ?_
      refine s0_332 hw (H1 := [_, _]) (sw12 hw) rfl (leB rfl) ?_
      refine r_iload i0_335 rfl ?_
      refine r_icF i0_337 (XT.ii_ne_f rfl) ?_
      refine r_iconst i0_340 ?_
      refine r_goto i0_341 ?_
      exact r_zreturn i0_345 rfl (by first | decide | simp)
    · skip
      refine r_iload i0_239 rfl ?_
      refine r_iconst i0_241 ?_
      refine r_icF i0_242 (XT.ii_lt_f (by decide)) ?_
      refine r_iload i0_245 rfl ?_
      refine r_iload i0_247 rfl ?_
      refine r_icT i0_249 (XT.ii_ne_t e0) ?_
      refine r_iconst i0_256 ?_
      refine r_istore (ls' := [_, _, _, _, _, _, _, _, _, _, _, _, _, _, _, _, _, _]) i0_257 rfl rfl ?_
      refine r_iload i0_259 rfl ?_
      refine r_iconst i0_261 ?_
      refine r_icF i0_262 (XT.ii_lt_f (by decide)) ?_
      refine r_iload i0_265 rfl ?_
      refine r_iload i0_267 rfl ?_
      refine r_icT i0_269 (XT.ii_ne_t e1) ?_
      refine r_iconst i0_276 ?_
      refine r_istore (ls' := [_, _, _, _, _, _, _, _, _, _, _, _, _, _, _, _, _, _]) i0_277 rfl rfl ?_
      refine r_iload i0_279 rfl ?_
      refine r_iconst i0_281 ?_
      refine r_icT i0_282 (XT.ii_lt_t (by decide)) ?_
      refine r_iconst i0_292 ?_
      refine r_goto i0_293 ?_
      refine r_istore (ls' := [_, _, _, _, _, _, _, _, _, _, _, _, _, _, _, _, _, _]) i0_297 rfl rfl ?_
      refine r_iload i0_299 rfl ?_
      refine r_iload i0_301 rfl ?_
      refine r_icT i0_303 (XT.ii_lt_t (by decide)) ?_
      refine r_iconst i0_325 ?_
      refine r_istore (ls' := [_, _, _, _, _, _, _, _, _, _, _, _, _, _, _, _, _, _]) i0_326 rfl rfl ?_
      refine r_aload i0_328 rfl rfl ?_
      refine r_aload i0_330 rfl rfl ?_
      refine s0_332 hw (H1 := [_, _]) (sw12 hw) rfl (leB rfl) ?_
      refine r_iload i0_335 rfl ?_
      refine r_icF i0_337 (XT.ii_ne_f rfl) ?_
      refine r_iconst i0_340 ?_
      refine r_goto i0_341 ?_
      exact r_zreturn i0_345 rfl (by first | decide | simp)
set_option maxHeartbeats 4000000 in
theorem fin13 {l : Launch} {Z : State} {a0 : Array Value} {n0 : Nat} (hw : HW Z a0) (p0 p1 p2 p3 u0 u1 u2 t0 t1 t2 : Int32) (h0 : 0 ≤ u0.toInt ∧ u0.toInt ≤ 255) (h1 : 0 ≤ u1.toInt ∧ u1.toInt ≤ 255) (h2 : 0 ≤ u2.toInt ∧ u2.toInt ≤ 255) : Runs K l Z n0 m0 239 [.val (.int p0), .val (.int p1), .val (.int p2), .val (.int p3), .val (.int 1), .val (.int 3), .val (.int u0), .val (.int u1), .val (.int u2), .val (.ref 0), .val (.int t0), .val (.int t1), .val (.int t2), .val (.ref 1), .unset, .unset, .unset, .unset] [] [.inr (.byte, [.int u0.toInt8.toInt32.toInt8.toInt32]), .inr (.int, [.int t0, .int t1, .int t2])] (some (.int 1)) [.inr (.byte, [.int u0.toInt8.toInt32.toInt8.toInt32]), .inr (.int, [.int t0, .int t1, .int t2])] := by
  have q0 := own_u h0.1 h0.2
  have q1 := own_u h1.1 h1.2
  have q2 := own_u h2.1 h2.2
  by_cases e0 : t0 = u0
  · skip
    by_cases e1 : t1 = u1
    · skip
      by_cases e2 : t2 = u2
      · skip
        refine r_iload i0_239 rfl ?_
        refine r_iconst i0_241 ?_
        refine r_icF i0_242 (XT.ii_lt_f (by decide)) ?_
        refine r_iload i0_245 rfl ?_
        refine r_iload i0_247 rfl ?_
        refine r_icF i0_249 (XT.ii_ne_f e0) ?_
        refine r_iconst i0_252 ?_
        refine r_goto i0_253 ?_
        refine r_istore (ls' := [_, _, _, _, _, _, _, _, _, _, _, _, _, _, _, _, _, _]) i0_257 rfl rfl ?_
        refine r_iload i0_259 rfl ?_
        refine r_iconst i0_261 ?_
        refine r_icF i0_262 (XT.ii_lt_f (by decide)) ?_
        refine r_iload i0_265 rfl ?_
        refine r_iload i0_267 rfl ?_
        refine r_icF i0_269 (XT.ii_ne_f e1) ?_
        refine r_iconst i0_272 ?_
        refine r_goto i0_273 ?_
        refine r_istore (ls' := [_, _, _, _, _, _, _, _, _, _, _, _, _, _, _, _, _, _]) i0_277 rfl rfl ?_
        refine r_iload i0_279 rfl ?_
        refine r_iconst i0_281 ?_
        refine r_icF i0_282 (XT.ii_lt_f (by decide)) ?_
        refine r_iload i0_285 rfl ?_
        refine r_iload i0_287 rfl ?_
        refine r_icF i0_289 (XT.ii_ne_f e2) ?_
        refine r_iconst i0_292 ?_
        refine r_goto i0_293 ?_
        refine r_istore (ls' := [_, _, _, _, _, _, _, _, _, _, _, _, _, _, _, _, _, _]) i0_297 rfl rfl ?_
        refine r_iload i0_299 rfl ?_
        refine r_iload i0_301 rfl ?_
        refine r_icT i0_303 (XT.ii_lt_t (by decide)) ?_
        refine r_iconst i0_325 ?_
        refine r_istore (ls' := [_, _, _, _, _, _, _, _, _, _, _, _, _, _, _, _, _, _]) i0_326 rfl rfl ?_
        refine r_aload i0_328 rfl rfl ?_
        refine r_aload i0_330 rfl rfl ?_
        refine s0_332 hw (H1 := [_, _]) (sw13 hw) rfl (leB rfl) ?_
        refine r_iload i0_335 rfl ?_
        refine r_icF i0_337 (XT.ii_ne_f rfl) ?_
        refine r_iconst i0_340 ?_
        refine r_goto i0_341 ?_
        exact r_zreturn i0_345 rfl (by first | decide | simp)
      · skip
        refine r_iload i0_239 rfl ?_
        refine r_iconst i0_241 ?_
        refine r_icF i0_242 (XT.ii_lt_f (by decide)) ?_
        refine r_iload i0_245 rfl ?_
        refine r_iload i0_247 rfl ?_
        refine r_icF i0_249 (XT.ii_ne_f e0) ?_
        refine r_iconst i0_252 ?_
        refine r_goto i0_253 ?_
        refine r_istore (ls' := [_, _, _, _, _, _, _, _, _, _, _, _, _, _, _, _, _, _]) i0_257 rfl rfl ?_
        refine r_iload i0_259 rfl ?_
        refine r_iconst i0_261 ?_
        refine r_icF i0_262 (XT.ii_lt_f (by decide)) ?_
        refine r_iload i0_265 rfl ?_
        refine r_iload i0_267 rfl ?_
        refine r_icF i0_269 (XT.ii_ne_f e1) ?_
        refine r_iconst i0_272 ?_
        refine r_goto i0_273 ?_
        refine r_istore (ls' := [_, _, _, _, _, _, _, _, _, _, _, _, _, _, _, _, _, _]) i0_277 rfl rfl ?_
        refine r_iload i0_279 rfl ?_
        refine r_iconst i0_281 ?_
        refine r_icF i0_282 (XT.ii_lt_f (by decide)) ?_
        refine r_iload i0_285 rfl ?_
        refine r_iload i0_287 rfl ?_
        refine r_icT i0_289 (XT.ii_ne_t e2) ?_
        refine r_iconst i0_296 ?_
        refine r_istore (ls' := [_, _, _, _, _, _, _, _, _, _, _, _, _, _, _, _, _, _]) i0_297 rfl rfl ?_
        refine r_iload i0_299 rfl ?_
        refine r_iload i0_301 rfl ?_
        refine r_icT i0_303 (XT.ii_lt_t (by decide)) ?_
        refine r_iconst i0_325 ?_
        refine r_istore (ls' := [_, _, _, _, _, _, _, _, _, _, _, _, _, _, _, _, _, _]) i0_326 rfl rfl ?_
        refine r_aload i0_328 rfl rfl ?_
        refine r_aload i0_330 rfl rfl ?_
        refine s0_332 hw (H1 := [_, _]) (sw13 hw) rfl (leB rfl) ?_
        refine r_iload i0_335 rfl ?_
        refine r_icF i0_337 (XT.ii_ne_f rfl) ?_
        refine r_iconst i0_340 ?_
        refine r_goto i0_341 ?_
        exact r_zreturn i0_345 rfl (by first | decide | simp)
    · skip
      by_cases e2 : t2 = u2
      · skip
        refine r_iload i0_239 rfl ?_
        refine r_iconst i0_241 ?_
        refine r_icF i0_242 (XT.ii_lt_f (by decide)) ?_
        refine r_iload i0_245 rfl ?_
        refine r_iload i0_247 rfl ?_
        refine r_icF i0_249 (XT.ii_ne_f e0) ?_
        refine r_iconst i0_252 ?_
        refine r_goto i0_253 ?_
        refine r_istore (ls' := [_, _, _, _, _, _, _, _, _, _, _, _, _, _, _, _, _, _]) i0_257 rfl rfl ?_
        refine r_iload i0_259 rfl ?_
        refine r_iconst i0_261 ?_
        refine r_icF i0_262 (XT.ii_lt_f (by decide)) ?_
        refine r_iload i0_265 rfl ?_
        refine r_iload i0_267 rfl ?_
        refine r_icT i0_269 (XT.ii_ne_t e1) ?_
        refine r_iconst i0_276 ?_
        refine r_istore (ls' := [_, _, _, _, _, _, _, _, _, _, _, _, _, _, _, _, _, _]) i0_277 rfl rfl ?_
        refine r_iload i0_279 rfl ?_
        refine r_iconst i0_281 ?_
        refine r_icF i0_282 (XT.ii_lt_f (by decide)) ?_
        refine r_iload i0_285 rfl ?_
        refine r_iload i0_287 rfl ?_
        refine r_icF i0_289 (XT.ii_ne_f e2) ?_
        refine r_iconst i0_292 ?_
        refine r_goto i0_293 ?_
        refine r_istore (ls' := [_, _, _, _, _, _, _, _, _, _, _, _, _, _, _, _, _, _]) i0_297 rfl rfl ?_
        refine r_iload i0_299 rfl ?_
        refine r_iload i0_301 rfl ?_
        refine r_icT i0_303 (XT.ii_lt_t (by decide)) ?_
        refine r_iconst i0_325 ?_
        refine r_istore (ls' := [_, _, _, _, _, _, _, _, _, _, _, _, _, _, _, _, _, _]) i0_326 rfl rfl ?_
        refine r_aload i0_328 rfl rfl ?_
        refine r_aload i0_330 rfl rfl ?_
        refine s0_332 hw (H1 := [_, _]) (sw13 hw) rfl (leB rfl) ?_
        refine r_iload i0_335 rfl ?_
        refine r_icF i0_337 (XT.ii_ne_f rfl) ?_
        refine r_iconst i0_340 ?_
        refine r_goto i0_341 ?_
        exact r_zreturn i0_345 rfl (by first | decide | simp)
      · skip
        refine r_iload i0_239 rfl ?_
        refine r_iconst i0_241 ?_
        refine r_icF i0_242 (XT.ii_lt_f (by decide)) ?_
        refine r_iload i0_245 rfl ?_
        refine r_iload i0_247 rfl ?_
        refine r_icF i0_249 (XT.ii_ne_f e0) ?_
        refine r_iconst i0_252 ?_
        refine r_goto i0_253 ?_
        refine r_istore (ls' := [_, _, _, _, _, _, _, _, _, _, _, _, _, _, _, _, _, _]) i0_257 rfl rfl ?_
        refine r_iload i0_259 rfl ?_
        refine r_iconst i0_261 ?_
        refine r_icF i0_262 (XT.ii_lt_f (by decide)) ?_
        refine r_iload i0_265 rfl ?_
        refine r_iload i0_267 rfl ?_
        refine r_icT i0_269 (XT.ii_ne_t e1) ?_
        refine r_iconst i0_276 ?_
        refine r_istore (ls' := [_, _, _, _, _, _, _, _, _, _, _, _, _, _, _, _, _, _]) i0_277 rfl rfl ?_
        refine r_iload i0_279 rfl ?_
        refine r_iconst i0_281 ?_
        refine r_icF i0_282 (XT.ii_lt_f (by decide)) ?_
        refine r_iload i0_285 rfl ?_
        refine r_iload i0_287 rfl ?_
        refine r_icT i0_289 (XT.ii_ne_t e2) ?_
        refine r_iconst i0_296 ?_
        refine r_istore (ls' := [_, _, _, _, _, _, _, _, _, _, _, _, _, _, _, _, _, _]) i0_297 rfl rfl ?_
        refine r_iload i0_299 rfl ?_
        refine r_iload i0_301 rfl ?_
        refine r_icT i0_303 (XT.ii_lt_t (by decide)) ?_
        refine r_iconst i0_325 ?_
        refine r_istore (ls' := [_, _, _, _, _, _, _, _, _, _, _, _, _, _, _, _, _, _]) i0_326 rfl rfl ?_
        refine r_aload i0_328 rfl rfl ?_
        refine r_aload i0_330 rfl rfl ?_
        refine s0_332 hw (H1 := [_, _]) (sw13 hw) rfl (leB rfl) ?_
        refine r_iload i0_335 rfl ?_
        refine r_icF i0_337 (XT.ii_ne_f rfl) ?_
        refine r_iconst i0_340 ?_
        refine r_goto i0_341 ?_
        exact r_zreturn i0_345 rfl (by first | decide | simp)
  · skip
    by_cases e1 : t1 = u1
    · skip
      by_cases e2 : t2 = u2
      · skip
        refine r_iload i0_239 rfl ?_
        refine r_iconst i0_241 ?_
        refine r_icF i0_242 (XT.ii_lt_f (by decide)) ?_
        refine r_iload i0_245 rfl ?_
        refine r_iload i0_247 rfl ?_
        refine r_icT i0_249 (XT.ii_ne_t e0) ?_
        refine r_iconst i0_256 ?_
        refine r_istore (ls' := [_, _, _, _, _, _, _, _, _, _, _, _, _, _, _, _, _, _]) i0_257 rfl rfl ?_
        refine r_iload i0_259 rfl ?_
        refine r_iconst i0_261 ?_
        refine r_icF i0_262 (XT.ii_lt_f (by decide)) ?_
        refine r_iload i0_265 rfl ?_
        refine r_iload i0_267 rfl ?_
        refine r_icF i0_269 (XT.ii_ne_f e1) ?_
        refine r_iconst i0_272 ?_
        refine r_goto i0_273 ?_
        refine r_istore (ls' := [_, _, _, _, _, _, _, _, _, _, _, _, _, _, _, _, _, _]) i0_277 rfl rfl ?_
        refine r_iload i0_279 rfl ?_
        refine r_iconst i0_281 ?_
        refine r_icF i0_282 (XT.ii_lt_f (by decide)) ?_
        refine r_iload i0_285 rfl ?_
        refine r_iload i0_287 rfl ?_
        refine r_icF i0_289 (XT.ii_ne_f e2) ?_
        refine r_iconst i0_292 ?_
        refine r_goto i0_293 ?_
        refine r_istore (ls' := [_, _, _, _, _, _, _, _, _, _, _, _, _, _, _, _, _, _]) i0_297 rfl rfl ?_
        refine r_iload i0_299 rfl ?_
        refine r_iload i0_301 rfl ?_
        refine r_icT i0_303 (XT.ii_lt_t (by decide)) ?_
        refine r_iconst i0_325 ?_
        refine r_istore (ls' := [_, _, _, _, _, _, _, _, _, _, _, _, _, _, _, _, _, _]) i0_326 rfl rfl ?_
        refine r_aload i0_328 rfl rfl ?_
        refine r_aload i0_330 rfl rfl ?_
        refine s0_332 hw (H1 := [_, _]) (sw13 hw) rfl (leB rfl) ?_
        refine r_iload i0_335 rfl ?_
        refine r_icF i0_337 (XT.ii_ne_f rfl) ?_
        refine r_iconst i0_340 ?_
        refine r_goto i0_341 ?_
        exact r_zreturn i0_345 rfl (by first | decide | simp)
      · skip
        refine r_iload i0_239 rfl ?_
        refine r_iconst i0_241 ?_
        refine r_icF i0_242 (XT.ii_lt_f (by decide)) ?_
        refine r_iload i0_245 rfl ?_
        refine r_iload i0_247 rfl ?_
        refine r_icT i0_249 (XT.ii_ne_t e0) ?_
        refine r_iconst i0_256 ?_
        refine r_istore (ls' := [_, _, _, _, _, _, _, _, _, _, _, _, _, _, _, _, _, _]) i0_257 rfl rfl ?_
        refine r_iload i0_259 rfl ?_
        refine r_iconst i0_261 ?_
        refine r_icF i0_262 (XT.ii_lt_f (by decide)) ?_
        refine r_iload i0_265 rfl ?_
        refine r_iload i0_267 rfl ?_
        refine r_icF i0_269 (XT.ii_ne_f e1) ?_
        refine r_iconst i0_272 ?_
        refine r_goto i0_273 ?_
        refine r_istore (ls' := [_, _, _, _, _, _, _, _, _, _, _, _, _, _, _, _, _, _]) i0_277 rfl rfl ?_
        refine r_iload i0_279 rfl ?_
        refine r_iconst i0_281 ?_
        refine r_icF i0_282 (XT.ii_lt_f (by decide)) ?_
        refine r_iload i0_285 rfl ?_
        refine r_iload i0_287 rfl ?_
        refine r_icT i0_289 (XT.ii_ne_t e2) ?_
        refine r_iconst i0_296 ?_
        refine r_istore (ls' := [_, _, _, _, _, _, _, _, _, _, _, _, _, _, _, _, _, _]) i0_297 rfl rfl ?_
        refine r_iload i0_299 rfl ?_
        refine r_iload i0_301 rfl ?_
        refine r_icT i0_303 (XT.ii_lt_t (by decide)) ?_
        refine r_iconst i0_325 ?_
        refine r_istore (ls' := [_, _, _, _, _, _, _, _, _, _, _, _, _, _, _, _, _, _]) i0_326 rfl rfl ?_
        refine r_aload i0_328 rfl rfl ?_
        refine r_aload i0_330 rfl rfl ?_
        refine s0_332 hw (H1 := [_, _]) (sw13 hw) rfl (leB rfl) ?_
        refine r_iload i0_335 rfl ?_
        refine r_icF i0_337 (XT.ii_ne_f rfl) ?_
        refine r_iconst i0_340 ?_
        refine r_goto i0_341 ?_
        exact r_zreturn i0_345 rfl (by first | decide | simp)
    · skip
      by_cases e2 : t2 = u2
      · skip
        refine r_iload i0_239 rfl ?_
        refine r_iconst i0_241 ?_
        refine r_icF i0_242 (XT.ii_lt_f (by decide)) ?_
        refine r_iload i0_245 rfl ?_
        refine r_iload i0_247 rfl ?_
        refine r_icT i0_249 (XT.ii_ne_t e0) ?_
        refine r_iconst i0_256 ?_
        refine r_istore (ls' := [_, _, _, _, _, _, _, _, _, _, _, _, _, _, _, _, _, _]) i0_257 rfl rfl ?_
        refine r_iload i0_259 rfl ?_
        refine r_iconst i0_261 ?_
        refine r_icF i0_262 (XT.ii_lt_f (by decide)) ?_
        refine r_iload i0_265 rfl ?_
        refine r_iload i0_267 rfl ?_
        refine r_icT i0_269 (XT.ii_ne_t e1) ?_
        refine r_iconst i0_276 ?_
        refine r_istore (ls' := [_, _, _, _, _, _, _, _, _, _, _, _, _, _, _, _, _, _]) i0_277 rfl rfl ?_
        refine r_iload i0_279 rfl ?_
        refine r_iconst i0_281 ?_
        refine r_icF i0_282 (XT.ii_lt_f (by decide)) ?_
        refine r_iload i0_285 rfl ?_
        refine r_iload i0_287 rfl ?_
        refine r_icF i0_289 (XT.ii_ne_f e2) ?_
        refine r_iconst i0_292 ?_
        refine r_goto i0_293 ?_
        refine r_istore (ls' := [_, _, _, _, _, _, _, _, _, _, _, _, _, _, _, _, _, _]) i0_297 rfl rfl ?_
        refine r_iload i0_299 rfl ?_
        refine r_iload i0_301 rfl ?_
        refine r_icT i0_303 (XT.ii_lt_t (by decide)) ?_
        refine r_iconst i0_325 ?_
        refine r_istore (ls' := [_, _, _, _, _, _, _, _, _, _, _, _, _, _, _, _, _, _]) i0_326 rfl rfl ?_
        refine r_aload i0_328 rfl rfl ?_
        refine r_aload i0_330 rfl rfl ?_
        refine s0_332 hw (H1 := [_, _]) (sw13 hw) rfl (leB rfl) ?_
        refine r_iload i0_335 rfl ?_
        refine r_icF i0_337 (XT.ii_ne_f rfl) ?_
        refine r_iconst i0_340 ?_
        refine r_goto i0_341 ?_
        exact r_zreturn i0_345 rfl (by first | decide | simp)
      · skip
        refine r_iload i0_239 rfl ?_
        refine r_iconst i0_241 ?_
        refine r_icF i0_242 (XT.ii_lt_f (by decide)) ?_
        refine r_iload i0_245 rfl ?_
        refine r_iload i0_247 rfl ?_
        refine r_icT i0_249 (XT.ii_ne_t e0) ?_
        refine r_iconst i0_256 ?_
        refine r_istore (ls' := [_, _, _, _, _, _, _, _, _, _, _, _, _, _, _, _, _, _]) i0_257 rfl rfl ?_
        refine r_iload i0_259 rfl ?_
        refine r_iconst i0_261 ?_
        refine r_icF i0_262 (XT.ii_lt_f (by decide)) ?_
        refine r_iload i0_265 rfl ?_
        refine r_iload i0_267 rfl ?_
        refine r_icT i0_269 (XT.ii_ne_t e1) ?_
        refine r_iconst i0_276 ?_
        refine r_istore (ls' := [_, _, _, _, _, _, _, _, _, _, _, _, _, _, _, _, _, _]) i0_277 rfl rfl ?_
        refine r_iload i0_279 rfl ?_
        refine r_iconst i0_281 ?_
        refine r_icF i0_282 (XT.ii_lt_f (by decide)) ?_
        refine r_iload i0_285 rfl ?_
        refine r_iload i0_287 rfl ?_
        refine r_icT i0_289 (XT.ii_ne_t e2) ?_
        refine r_iconst i0_296 ?_
        refine r_istore (ls' := [_, _, _, _, _, _, _, _, _, _, _, _, _, _, _, _, _, _]) i0_297 rfl rfl ?_
        refine r_iload i0_299 rfl ?_
        refine r_iload i0_301 rfl ?_
        refine r_icT i0_303 (XT.ii_lt_t (by decide)) ?_
        refine r_iconst i0_325 ?_
        refine r_istore (ls' := [_, _, _, _, _, _, _, _, _, _, _, _, _, _, _, _, _, _]) i0_326 rfl rfl ?_
        refine r_aload i0_328 rfl rfl ?_
        refine r_aload i0_330 rfl rfl ?_
        refine s0_332 hw (H1 := [_, _]) (sw13 hw) rfl (leB rfl) ?_
        refine r_iload i0_335 rfl ?_
        refine r_icF i0_337 (XT.ii_ne_f rfl) ?_
        refine r_iconst i0_340 ?_
        refine r_goto i0_341 ?_
        exact r_zreturn i0_345 rfl (by first | decide | simp)
set_option maxHeartbeats 4000000 in
theorem fin20 {l : Launch} {Z : State} {a0 : Array Value} {n0 : Nat} (hw : HW Z a0) (p0 p1 p2 p3 u0 u1 u2 t0 t1 t2 : Int32) (h0 : 0 ≤ u0.toInt ∧ u0.toInt ≤ 255) (h1 : 0 ≤ u1.toInt ∧ u1.toInt ≤ 255) (h2 : 0 ≤ u2.toInt ∧ u2.toInt ≤ 255) : Runs K l Z n0 m0 239 [.val (.int p0), .val (.int p1), .val (.int p2), .val (.int p3), .val (.int 2), .val (.int 0), .val (.int u0), .val (.int u1), .val (.int u2), .val (.ref 0), .val (.int t0), .val (.int t1), .val (.int t2), .val (.ref 1), .unset, .unset, .unset, .unset] [] [.inr (.byte, [.int u0.toInt8.toInt32.toInt8.toInt32, .int u1.toInt8.toInt32.toInt8.toInt32]), .inr (.int, [])] (some (.int 1)) [.inr (.byte, [.int u0.toInt8.toInt32.toInt8.toInt32, .int u1.toInt8.toInt32.toInt8.toInt32]), .inr (.int, [])] := by
  have q0 := own_u h0.1 h0.2
  have q1 := own_u h1.1 h1.2
  have q2 := own_u h2.1 h2.2
  refine r_iload i0_239 rfl ?_
  refine r_iconst i0_241 ?_
  refine r_icT i0_242 (XT.ii_lt_t (by decide)) ?_
  refine r_iconst i0_252 ?_
  refine r_goto i0_253 ?_
  refine r_istore (ls' := [_, _, _, _, _, _, _, _, _, _, _, _, _, _, _, _, _, _]) i0_257 rfl rfl ?_
  refine r_iload i0_259 rfl ?_
  refine r_iconst i0_261 ?_
  refine r_icT i0_262 (XT.ii_lt_t (by decide)) ?_
  refine r_iconst i0_272 ?_
  refine r_goto i0_273 ?_
  refine r_istore (ls' := [_, _, _, _, _, _, _, _, _, _, _, _, _, _, _, _, _, _]) i0_277 rfl rfl ?_
  refine r_iload i0_279 rfl ?_
  refine r_iconst i0_281 ?_
  refine r_icT i0_282 (XT.ii_lt_t (by decide)) ?_
  refine r_iconst i0_292 ?_
  refine r_goto i0_293 ?_
  refine r_istore (ls' := [_, _, _, _, _, _, _, _, _, _, _, _, _, _, _, _, _, _]) i0_297 rfl rfl ?_
  refine r_iload i0_299 rfl ?_
  refine r_iload i0_301 rfl ?_
  refine r_icF i0_303 (XT.ii_lt_f (by decide)) ?_
  refine r_iload i0_306 rfl ?_
  refine r_ifF i0_308 (XT.i0_eq_f (by decide)) ?_
  refine r_iload i0_311 rfl ?_
  refine r_ifF i0_313 (XT.i0_eq_f (by decide)) ?_
  refine r_iload i0_316 rfl ?_
  refine r_ifF i0_318 (XT.i0_eq_f (by decide)) ?_
  refine r_iconst i0_321 ?_
  refine r_goto i0_322 ?_
  refine r_istore (ls' := [_, _, _, _, _, _, _, _, _, _, _, _, _, _, _, _, _, _]) i0_326 rfl rfl ?_
  refine r_aload i0_328 rfl rfl ?_
  refine r_aload i0_330 rfl rfl ?_
  refine s0_332 hw (H1 := [_, _]) (sw200 hw ) rfl (leB rfl) ?_
  refine r_iload i0_335 rfl ?_
  refine r_icF i0_337 (XT.ii_ne_f rfl) ?_
  refine r_iconst i0_340 ?_
  refine r_goto i0_341 ?_
  exact r_zreturn i0_345 rfl (by first | decide | simp)
set_option maxHeartbeats 4000000 in
theorem fin21 {l : Launch} {Z : State} {a0 : Array Value} {n0 : Nat} (hw : HW Z a0) (p0 p1 p2 p3 u0 u1 u2 t0 t1 t2 : Int32) (h0 : 0 ≤ u0.toInt ∧ u0.toInt ≤ 255) (h1 : 0 ≤ u1.toInt ∧ u1.toInt ≤ 255) (h2 : 0 ≤ u2.toInt ∧ u2.toInt ≤ 255) : Runs K l Z n0 m0 239 [.val (.int p0), .val (.int p1), .val (.int p2), .val (.int p3), .val (.int 2), .val (.int 1), .val (.int u0), .val (.int u1), .val (.int u2), .val (.ref 0), .val (.int t0), .val (.int t1), .val (.int t2), .val (.ref 1), .unset, .unset, .unset, .unset] [] [.inr (.byte, [.int u0.toInt8.toInt32.toInt8.toInt32, .int u1.toInt8.toInt32.toInt8.toInt32]), .inr (.int, [.int t0])] (some (.int 1)) [.inr (.byte, [.int u0.toInt8.toInt32.toInt8.toInt32, .int u1.toInt8.toInt32.toInt8.toInt32]), .inr (.int, [.int t0])] := by
  have q0 := own_u h0.1 h0.2
  have q1 := own_u h1.1 h1.2
  have q2 := own_u h2.1 h2.2
  by_cases e0 : t0 = u0
  · skip
    refine r_iload i0_239 rfl ?_
    refine r_iconst i0_241 ?_
    refine r_icF i0_242 (XT.ii_lt_f (by decide)) ?_
    refine r_iload i0_245 rfl ?_
    refine r_iload i0_247 rfl ?_
    refine r_icF i0_249 (XT.ii_ne_f e0) ?_
    refine r_iconst i0_252 ?_
    refine r_goto i0_253 ?_
    refine r_istore (ls' := [_, _, _, _, _, _, _, _, _, _, _, _, _, _, _, _, _, _]) i0_257 rfl rfl ?_
    refine r_iload i0_259 rfl ?_
    refine r_iconst i0_261 ?_
    refine r_icT i0_262 (XT.ii_lt_t (by decide)) ?_
    refine r_iconst i0_272 ?_
    refine r_goto i0_273 ?_
    refine r_istore (ls' := [_, _, _, _, _, _, _, _, _, _, _, _, _, _, _, _, _, _]) i0_277 rfl rfl ?_
    refine r_iload i0_279 rfl ?_
    refine r_iconst i0_281 ?_
    refine r_icT i0_282 (XT.ii_lt_t (by decide)) ?_
    refine r_iconst i0_292 ?_
    refine r_goto i0_293 ?_
    refine r_istore (ls' := [_, _, _, _, _, _, _, _, _, _, _, _, _, _, _, _, _, _]) i0_297 rfl rfl ?_
    refine r_iload i0_299 rfl ?_
    refine r_iload i0_301 rfl ?_
    refine r_icF i0_303 (XT.ii_lt_f (by decide)) ?_
    refine r_iload i0_306 rfl ?_
    refine r_ifF i0_308 (XT.i0_eq_f (by decide)) ?_
    refine r_iload i0_311 rfl ?_
    refine r_ifF i0_313 (XT.i0_eq_f (by decide)) ?_
    refine r_iload i0_316 rfl ?_
    refine r_ifF i0_318 (XT.i0_eq_f (by decide)) ?_
    refine r_iconst i0_321 ?_
    refine r_goto i0_322 ?_
    refine r_istore (ls' := [_, _, _, _, _, _, _, _, _, _, _, _, _, _, _, _, _, _]) i0_326 rfl rfl ?_
    refine r_aload i0_328 rfl rfl ?_
    refine r_aload i0_330 rfl rfl ?_
    refine s0_332 hw (H1 := [_, _]) (sw211 hw (h0 := q0.trans e0.symm)) rfl (leB rfl) ?_
    refine r_iload i0_335 rfl ?_
    refine r_icF i0_337 (XT.ii_ne_f rfl) ?_
    refine r_iconst i0_340 ?_
    refine r_goto i0_341 ?_
    exact r_zreturn i0_345 rfl (by first | decide | simp)
  · skip
    refine r_iload i0_239 rfl ?_
    refine r_iconst i0_241 ?_
    refine r_icF i0_242 (XT.ii_lt_f (by decide)) ?_
    refine r_iload i0_245 rfl ?_
    refine r_iload i0_247 rfl ?_
    refine r_icT i0_249 (XT.ii_ne_t e0) ?_
    refine r_iconst i0_256 ?_
    refine r_istore (ls' := [_, _, _, _, _, _, _, _, _, _, _, _, _, _, _, _, _, _]) i0_257 rfl rfl ?_
    refine r_iload i0_259 rfl ?_
    refine r_iconst i0_261 ?_
    refine r_icT i0_262 (XT.ii_lt_t (by decide)) ?_
    refine r_iconst i0_272 ?_
    refine r_goto i0_273 ?_
    refine r_istore (ls' := [_, _, _, _, _, _, _, _, _, _, _, _, _, _, _, _, _, _]) i0_277 rfl rfl ?_
    refine r_iload i0_279 rfl ?_
    refine r_iconst i0_281 ?_
    refine r_icT i0_282 (XT.ii_lt_t (by decide)) ?_
    refine r_iconst i0_292 ?_
    refine r_goto i0_293 ?_
    refine r_istore (ls' := [_, _, _, _, _, _, _, _, _, _, _, _, _, _, _, _, _, _]) i0_297 rfl rfl ?_
    refine r_iload i0_299 rfl ?_
    refine r_iload i0_301 rfl ?_
    refine r_icF i0_303 (XT.ii_lt_f (by decide)) ?_
    refine r_iload i0_306 rfl ?_
    refine r_ifT i0_308 (XT.i0_eq_t rfl) ?_
    refine r_iconst i0_325 ?_
    refine r_istore (ls' := [_, _, _, _, _, _, _, _, _, _, _, _, _, _, _, _, _, _]) i0_326 rfl rfl ?_
    refine r_aload i0_328 rfl rfl ?_
    refine r_aload i0_330 rfl rfl ?_
    refine s0_332 hw (H1 := [_, _]) (sw210 hw  (h0 := fun z => e0 (z.symm.trans q0))) rfl (leB rfl) ?_
    refine r_iload i0_335 rfl ?_
    refine r_icF i0_337 (XT.ii_ne_f rfl) ?_
    refine r_iconst i0_340 ?_
    refine r_goto i0_341 ?_
    exact r_zreturn i0_345 rfl (by first | decide | simp)
set_option maxHeartbeats 4000000 in
theorem fin22 {l : Launch} {Z : State} {a0 : Array Value} {n0 : Nat} (hw : HW Z a0) (p0 p1 p2 p3 u0 u1 u2 t0 t1 t2 : Int32) (h0 : 0 ≤ u0.toInt ∧ u0.toInt ≤ 255) (h1 : 0 ≤ u1.toInt ∧ u1.toInt ≤ 255) (h2 : 0 ≤ u2.toInt ∧ u2.toInt ≤ 255) : Runs K l Z n0 m0 239 [.val (.int p0), .val (.int p1), .val (.int p2), .val (.int p3), .val (.int 2), .val (.int 2), .val (.int u0), .val (.int u1), .val (.int u2), .val (.ref 0), .val (.int t0), .val (.int t1), .val (.int t2), .val (.ref 1), .unset, .unset, .unset, .unset] [] [.inr (.byte, [.int u0.toInt8.toInt32.toInt8.toInt32, .int u1.toInt8.toInt32.toInt8.toInt32]), .inr (.int, [.int t0, .int t1])] (some (.int 1)) [.inr (.byte, [.int u0.toInt8.toInt32.toInt8.toInt32, .int u1.toInt8.toInt32.toInt8.toInt32]), .inr (.int, [.int t0, .int t1])] := by
  have q0 := own_u h0.1 h0.2
  have q1 := own_u h1.1 h1.2
  have q2 := own_u h2.1 h2.2
  by_cases e0 : t0 = u0
  · skip
    by_cases e1 : t1 = u1
    · skip
      refine r_iload i0_239 rfl ?_
      refine r_iconst i0_241 ?_
      refine r_icF i0_242 (XT.ii_lt_f (by decide)) ?_
      refine r_iload i0_245 rfl ?_
      refine r_iload i0_247 rfl ?_
      refine r_icF i0_249 (XT.ii_ne_f e0) ?_
      refine r_iconst i0_252 ?_
      refine r_goto i0_253 ?_
      refine r_istore (ls' := [_, _, _, _, _, _, _, _, _, _, _, _, _, _, _, _, _, _]) i0_257 rfl rfl ?_
      refine r_iload i0_259 rfl ?_
      refine r_iconst i0_261 ?_
      refine r_icF i0_262 (XT.ii_lt_f (by decide)) ?_
      refine r_iload i0_265 rfl ?_
      refine r_iload i0_267 rfl ?_
      refine r_icF i0_269 (XT.ii_ne_f e1) ?_
      refine r_iconst i0_272 ?_
      refine r_goto i0_273 ?_
      refine r_istore (ls' := [_, _, _, _, _, _, _, _, _, _, _, _, _, _, _, _, _, _]) i0_277 rfl rfl ?_
      refine r_iload i0_279 rfl ?_
      refine r_iconst i0_281 ?_
      refine r_icT i0_282 (XT.ii_lt_t (by decide)) ?_
      refine r_iconst i0_292 ?_
      refine r_goto i0_293 ?_
      refine r_istore (ls' := [_, _, _, _, _, _, _, _, _, _, _, _, _, _, _, _, _, _]) i0_297 rfl rfl ?_
      refine r_iload i0_299 rfl ?_
      refine r_iload i0_301 rfl ?_
      refine r_icF i0_303 (XT.ii_lt_f (by decide)) ?_
      refine r_iload i0_306 rfl ?_
      refine r_ifF i0_308 (XT.i0_eq_f (by decide)) ?_
      refine r_iload i0_311 rfl ?_
      refine r_ifF i0_313 (XT.i0_eq_f (by decide)) ?_
      refine r_iload i0_316 rfl ?_
      refine r_ifF i0_318 (XT.i0_eq_f (by decide)) ?_
      refine r_iconst i0_321 ?_
      refine r_goto i0_322 ?_
      refine r_istore (ls' := [_, _, _, _, _, _, _, _, _, _, _, _, _, _, _, _, _, _]) i0_326 rfl rfl ?_
      refine r_aload i0_328 rfl rfl ?_
      refine r_aload i0_330 rfl rfl ?_
      refine s0_332 hw (H1 := [_, _]) (sw222 hw (h0 := q0.trans e0.symm) (h1 := q1.trans e1.symm)) rfl (leB rfl) ?_
      refine r_iload i0_335 rfl ?_
      refine r_icF i0_337 (XT.ii_ne_f rfl) ?_
      refine r_iconst i0_340 ?_
      refine r_goto i0_341 ?_
      exact r_zreturn i0_345 rfl (by first | decide | simp)
    · skip
      refine r_iload i0_239 rfl ?_
      refine r_iconst i0_241 ?_
      refine r_icF i0_242 (XT.ii_lt_f (by decide)) ?_
      refine r_iload i0_245 rfl ?_
      refine r_iload i0_247 rfl ?_
      refine r_icF i0_249 (XT.ii_ne_f e0) ?_
      refine r_iconst i0_252 ?_
      refine r_goto i0_253 ?_
      refine r_istore (ls' := [_, _, _, _, _, _, _, _, _, _, _, _, _, _, _, _, _, _]) i0_257 rfl rfl ?_
      refine r_iload i0_259 rfl ?_
      refine r_iconst i0_261 ?_
      refine r_icF i0_262 (XT.ii_lt_f (by decide)) ?_
      refine r_iload i0_265 rfl ?_
      refine r_iload i0_267 rfl ?_
      refine r_icT i0_269 (XT.ii_ne_t e1) ?_
      refine r_iconst i0_276 ?_
      refine r_istore (ls' := [_, _, _, _, _, _, _, _, _, _, _, _, _, _, _, _, _, _]) i0_277 rfl rfl ?_
      refine r_iload i0_279 rfl ?_
      refine r_iconst i0_281 ?_
      refine r_icT i0_282 (XT.ii_lt_t (by decide)) ?_
      refine r_iconst i0_292 ?_
      refine r_goto i0_293 ?_
      refine r_istore (ls' := [_, _, _, _, _, _, _, _, _, _, _, _, _, _, _, _, _, _]) i0_297 rfl rfl ?_
      refine r_iload i0_299 rfl ?_
      refine r_iload i0_301 rfl ?_
      refine r_icF i0_303 (XT.ii_lt_f (by decide)) ?_
      refine r_iload i0_306 rfl ?_
      refine r_ifF i0_308 (XT.i0_eq_f (by decide)) ?_
      refine r_iload i0_311 rfl ?_
      refine r_ifT i0_313 (XT.i0_eq_t rfl) ?_
      refine r_iconst i0_325 ?_
      refine r_istore (ls' := [_, _, _, _, _, _, _, _, _, _, _, _, _, _, _, _, _, _]) i0_326 rfl rfl ?_
      refine r_aload i0_328 rfl rfl ?_
      refine r_aload i0_330 rfl rfl ?_
      refine s0_332 hw (H1 := [_, _]) (sw221 hw (h0 := q0.trans e0.symm) (h1 := fun z => e1 (z.symm.trans q1))) rfl (leB rfl) ?_
      refine r_iload i0_335 rfl ?_
      refine r_icF i0_337 (XT.ii_ne_f rfl) ?_
      refine r_iconst i0_340 ?_
      refine r_goto i0_341 ?_
      exact r_zreturn i0_345 rfl (by first | decide | simp)
  · skip
    by_cases e1 : t1 = u1
    · skip
      refine r_iload i0_239 rfl ?_
      refine r_iconst i0_241 ?_
      refine r_icF i0_242 (XT.ii_lt_f (by decide)) ?_
      refine r_iload i0_245 rfl ?_
      refine r_iload i0_247 rfl ?_
      refine r_icT i0_249 (XT.ii_ne_t e0) ?_
      refine r_iconst i0_256 ?_
      refine r_istore (ls' := [_, _, _, _, _, _, _, _, _, _, _, _, _, _, _, _, _, _]) i0_257 rfl rfl ?_
      refine r_iload i0_259 rfl ?_
      refine r_iconst i0_261 ?_
      refine r_icF i0_262 (XT.ii_lt_f (by decide)) ?_
      refine r_iload i0_265 rfl ?_
      refine r_iload i0_267 rfl ?_
      refine r_icF i0_269 (XT.ii_ne_f e1) ?_
      refine r_iconst i0_272 ?_
      refine r_goto i0_273 ?_
      refine r_istore (ls' := [_, _, _, _, _, _, _, _, _, _, _, _, _, _, _, _, _, _]) i0_277 rfl rfl ?_
      refine r_iload i0_279 rfl ?_
      refine r_iconst i0_281 ?_
      refine r_icT i0_282 (XT.ii_lt_t (by decide)) ?_
      refine r_iconst i0_292 ?_
      refine r_goto i0_293 ?_
      refine r_istore (ls' := [_, _, _, _, _, _, _, _, _, _, _, _, _, _, _, _, _, _]) i0_297 rfl rfl ?_
      refine r_iload i0_299 rfl ?_
      refine r_iload i0_301 rfl ?_
      refine r_icF i0_303 (XT.ii_lt_f (by decide)) ?_
      refine r_iload i0_306 rfl ?_
      refine r_ifT i0_308 (XT.i0_eq_t rfl) ?_
      refine r_iconst i0_325 ?_
      refine r_istore (ls' := [_, _, _, _, _, _, _, _, _, _, _, _, _, _, _, _, _, _]) i0_326 rfl rfl ?_
      refine r_aload i0_328 rfl rfl ?_
      refine r_aload i0_330 rfl rfl ?_
      refine s0_332 hw (H1 := [_, _]) (sw220 hw  (h0 := fun z => e0 (z.symm.trans q0))) rfl (leB rfl) ?_
      refine r_iload i0_335 rfl ?_
      refine r_icF i0_337 (XT.ii_ne_f rfl) ?_
      refine r_iconst i0_340 ?_
      refine r_goto i0_341 ?_
      exact r_zreturn i0_345 rfl (by first | decide | simp)
    · skip
      refine r_iload i0_239 rfl ?_
      refine r_iconst i0_241 ?_
      refine r_icF i0_242 (XT.ii_lt_f (by decide)) ?_
      refine r_iload i0_245 rfl ?_
      refine r_iload i0_247 rfl ?_
      refine r_icT i0_249 (XT.ii_ne_t e0) ?_
      refine r_iconst i0_256 ?_
      refine r_istore (ls' := [_, _, _, _, _, _, _, _, _, _, _, _, _, _, _, _, _, _]) i0_257 rfl rfl ?_
      refine r_iload i0_259 rfl ?_
      refine r_iconst i0_261 ?_
      refine r_icF i0_262 (XT.ii_lt_f (by decide)) ?_
      refine r_iload i0_265 rfl ?_
      refine r_iload i0_267 rfl ?_
      refine r_icT i0_269 (XT.ii_ne_t e1) ?_
      refine r_iconst i0_276 ?_
      refine r_istore (ls' := [_, _, _, _, _, _, _, _, _, _, _, _, _, _, _, _, _, _]) i0_277 rfl rfl ?_
      refine r_iload i0_279 rfl ?_
      refine r_iconst i0_281 ?_
      refine r_icT i0_282 (XT.ii_lt_t (by decide)) ?_
      refine r_iconst i0_292 ?_
      refine r_goto i0_293 ?_
      refine r_istore (ls' := [_, _, _, _, _, _, _, _, _, _, _, _, _, _, _, _, _, _]) i0_297 rfl rfl ?_
      refine r_iload i0_299 rfl ?_
      refine r_iload i0_301 rfl ?_
      refine r_icF i0_303 (XT.ii_lt_f (by decide)) ?_
      refine r_iload i0_306 rfl ?_
      refine r_ifT i0_308 (XT.i0_eq_t rfl) ?_
      refine r_iconst i0_325 ?_
      refine r_istore (ls' := [_, _, _, _, _, _, _, _, _, _, _, _, _, _, _, _, _, _]) i0_326 rfl rfl ?_
      refine r_aload i0_328 rfl rfl ?_
      refine r_aload i0_330 rfl rfl ?_
      refine s0_332 hw (H1 := [_, _]) (sw220 hw  (h0 := fun z => e0 (z.symm.trans q0))) rfl (leB rfl) ?_
      refine r_iload i0_335 rfl ?_
      refine r_icF i0_337 (XT.ii_ne_f rfl) ?_
      refine r_iconst i0_340 ?_
      refine r_goto i0_341 ?_
      exact r_zreturn i0_345 rfl (by first | decide | simp)
set_option maxHeartbeats 4000000 in
theorem fin23 {l : Launch} {Z : State} {a0 : Array Value} {n0 : Nat} (hw : HW Z a0) (p0 p1 p2 p3 u0 u1 u2 t0 t1 t2 : Int32) (h0 : 0 ≤ u0.toInt ∧ u0.toInt ≤ 255) (h1 : 0 ≤ u1.toInt ∧ u1.toInt ≤ 255) (h2 : 0 ≤ u2.toInt ∧ u2.toInt ≤ 255) : Runs K l Z n0 m0 239 [.val (.int p0), .val (.int p1), .val (.int p2), .val (.int p3), .val (.int 2), .val (.int 3), .val (.int u0), .val (.int u1), .val (.int u2), .val (.ref 0), .val (.int t0), .val (.int t1), .val (.int t2), .val (.ref 1), .unset, .unset, .unset, .unset] [] [.inr (.byte, [.int u0.toInt8.toInt32.toInt8.toInt32, .int u1.toInt8.toInt32.toInt8.toInt32]), .inr (.int, [.int t0, .int t1, .int t2])] (some (.int 1)) [.inr (.byte, [.int u0.toInt8.toInt32.toInt8.toInt32, .int u1.toInt8.toInt32.toInt8.toInt32]), .inr (.int, [.int t0, .int t1, .int t2])] := by
  have q0 := own_u h0.1 h0.2
  have q1 := own_u h1.1 h1.2
  have q2 := own_u h2.1 h2.2
  by_cases e0 : t0 = u0
  · skip
    by_cases e1 : t1 = u1
    · skip
      by_cases e2 : t2 = u2
      · skip
        refine r_iload i0_239 rfl ?_
        refine r_iconst i0_241 ?_
        refine r_icF i0_242 (XT.ii_lt_f (by decide)) ?_
        refine r_iload i0_245 rfl ?_
        refine r_iload i0_247 rfl ?_
        refine r_icF i0_249 (XT.ii_ne_f e0) ?_
        refine r_iconst i0_252 ?_
        refine r_goto i0_253 ?_
        refine r_istore (ls' := [_, _, _, _, _, _, _, _, _, _, _, _, _, _, _, _, _, _]) i0_257 rfl rfl ?_
        refine r_iload i0_259 rfl ?_
        refine r_iconst i0_261 ?_
        refine r_icF i0_262 (XT.ii_lt_f (by decide)) ?_
        refine r_iload i0_265 rfl ?_
        refine r_iload i0_267 rfl ?_
        refine r_icF i0_269 (XT.ii_ne_f e1) ?_
        refine r_iconst i0_272 ?_
        refine r_goto i0_273 ?_
        refine r_istore (ls' := [_, _, _, _, _, _, _, _, _, _, _, _, _, _, _, _, _, _]) i0_277 rfl rfl ?_
        refine r_iload i0_279 rfl ?_
        refine r_iconst i0_281 ?_
        refine r_icF i0_282 (XT.ii_lt_f (by decide)) ?_
        refine r_iload i0_285 rfl ?_
        refine r_iload i0_287 rfl ?_
        refine r_icF i0_289 (XT.ii_ne_f e2) ?_
        refine r_iconst i0_292 ?_
        refine r_goto i0_293 ?_
        refine r_istore (ls' := [_, _, _, _, _, _, _, _, _, _, _, _, _, _, _, _, _, _]) i0_297 rfl rfl ?_
        refine r_iload i0_299 rfl ?_
        refine r_iload i0_301 rfl ?_
        refine r_icT i0_303 (XT.ii_lt_t (by decide)) ?_
        refine r_iconst i0_325 ?_
        refine r_istore (ls' := [_, _, _, _, _, _, _, _, _, _, _, _, _, _, _, _, _, _]) i0_326 rfl rfl ?_
        refine r_aload i0_328 rfl rfl ?_
        refine r_aload i0_330 rfl rfl ?_
        refine s0_332 hw (H1 := [_, _]) (sw23 hw) rfl (leB rfl) ?_
        refine r_iload i0_335 rfl ?_
        refine r_icF i0_337 (XT.ii_ne_f rfl) ?_
        refine r_iconst i0_340 ?_
        refine r_goto i0_341 ?_
        exact r_zreturn i0_345 rfl (by first | decide | simp)
      · skip
        refine r_iload i0_239 rfl ?_
        refine r_iconst i0_241 ?_
        refine r_icF i0_242 (XT.ii_lt_f (by decide)) ?_
        refine r_iload i0_245 rfl ?_
        refine r_iload i0_247 rfl ?_
        refine r_icF i0_249 (XT.ii_ne_f e0) ?_
        refine r_iconst i0_252 ?_
        refine r_goto i0_253 ?_
        refine r_istore (ls' := [_, _, _, _, _, _, _, _, _, _, _, _, _, _, _, _, _, _]) i0_257 rfl rfl ?_
        refine r_iload i0_259 rfl ?_
        refine r_iconst i0_261 ?_
        refine r_icF i0_262 (XT.ii_lt_f (by decide)) ?_
        refine r_iload i0_265 rfl ?_
        refine r_iload i0_267 rfl ?_
        refine r_icF i0_269 (XT.ii_ne_f e1) ?_
        refine r_iconst i0_272 ?_
        refine r_goto i0_273 ?_
        refine r_istore (ls' := [_, _, _, _, _, _, _, _, _, _, _, _, _, _, _, _, _, _]) i0_277 rfl rfl ?_
        refine r_iload i0_279 rfl ?_
        refine r_iconst i0_281 ?_
        refine r_icF i0_282 (XT.ii_lt_f (by decide)) ?_
        refine r_iload i0_285 rfl ?_
        refine r_iload i0_287 rfl ?_
        refine r_icT i0_289 (XT.ii_ne_t e2) ?_
        refine r_iconst i0_296 ?_
        refine r_istore (ls' := [_, _, _, _, _, _, _, _, _, _, _, _, _, _, _, _, _, _]) i0_297 rfl rfl ?_
        refine r_iload i0_299 rfl ?_
        refine r_iload i0_301 rfl ?_
        refine r_icT i0_303 (XT.ii_lt_t (by decide)) ?_
        refine r_iconst i0_325 ?_
        refine r_istore (ls' := [_, _, _, _, _, _, _, _, _, _, _, _, _, _, _, _, _, _]) i0_326 rfl rfl ?_
        refine r_aload i0_328 rfl rfl ?_
        refine r_aload i0_330 rfl rfl ?_
        refine s0_332 hw (H1 := [_, _]) (sw23 hw) rfl (leB rfl) ?_
        refine r_iload i0_335 rfl ?_
        refine r_icF i0_337 (XT.ii_ne_f rfl) ?_
        refine r_iconst i0_340 ?_
        refine r_goto i0_341 ?_
        exact r_zreturn i0_345 rfl (by first | decide | simp)
    · skip
      by_cases e2 : t2 = u2
      · skip
        refine r_iload i0_239 rfl ?_
        refine r_iconst i0_241 ?_
        refine r_icF i0_242 (XT.ii_lt_f (by decide)) ?_
        refine r_iload i0_245 rfl ?_
        refine r_iload i0_247 rfl ?_
        refine r_icF i0_249 (XT.ii_ne_f e0) ?_
        refine r_iconst i0_252 ?_
        refine r_goto i0_253 ?_
        refine r_istore (ls' := [_, _, _, _, _, _, _, _, _, _, _, _, _, _, _, _, _, _]) i0_257 rfl rfl ?_
        refine r_iload i0_259 rfl ?_
        refine r_iconst i0_261 ?_
        refine r_icF i0_262 (XT.ii_lt_f (by decide)) ?_
        refine r_iload i0_265 rfl ?_
        refine r_iload i0_267 rfl ?_
        refine r_icT i0_269 (XT.ii_ne_t e1) ?_
        refine r_iconst i0_276 ?_
        refine r_istore (ls' := [_, _, _, _, _, _, _, _, _, _, _, _, _, _, _, _, _, _]) i0_277 rfl rfl ?_
        refine r_iload i0_279 rfl ?_
        refine r_iconst i0_281 ?_
        refine r_icF i0_282 (XT.ii_lt_f (by decide)) ?_
        refine r_iload i0_285 rfl ?_
        refine r_iload i0_287 rfl ?_
        refine r_icF i0_289 (XT.ii_ne_f e2) ?_
        refine r_iconst i0_292 ?_
        refine r_goto i0_293 ?_
        refine r_istore (ls' := [_, _, _, _, _, _, _, _, _, _, _, _, _, _, _, _, _, _]) i0_297 rfl rfl ?_
        refine r_iload i0_299 rfl ?_
        refine r_iload i0_301 rfl ?_
        refine r_icT i0_303 (XT.ii_lt_t (by decide)) ?_
        refine r_iconst i0_325 ?_
        refine r_istore (ls' := [_, _, _, _, _, _, _, _, _, _, _, _, _, _, _, _, _, _]) i0_326 rfl rfl ?_
        refine r_aload i0_328 rfl rfl ?_
        refine r_aload i0_330 rfl rfl ?_
        refine s0_332 hw (H1 := [_, _]) (sw23 hw) rfl (leB rfl) ?_
        refine r_iload i0_335 rfl ?_
        refine r_icF i0_337 (XT.ii_ne_f rfl) ?_
        refine r_iconst i0_340 ?_
        refine r_goto i0_341 ?_
        exact r_zreturn i0_345 rfl (by first | decide | simp)
      · skip
        refine r_iload i0_239 rfl ?_
        refine r_iconst i0_241 ?_
        refine r_icF i0_242 (XT.ii_lt_f (by decide)) ?_
        refine r_iload i0_245 rfl ?_
        refine r_iload i0_247 rfl ?_
        refine r_icF i0_249 (XT.ii_ne_f e0) ?_
        refine r_iconst i0_252 ?_
        refine r_goto i0_253 ?_
        refine r_istore (ls' := [_, _, _, _, _, _, _, _, _, _, _, _, _, _, _, _, _, _]) i0_257 rfl rfl ?_
        refine r_iload i0_259 rfl ?_
        refine r_iconst i0_261 ?_
        refine r_icF i0_262 (XT.ii_lt_f (by decide)) ?_
        refine r_iload i0_265 rfl ?_
        refine r_iload i0_267 rfl ?_
        refine r_icT i0_269 (XT.ii_ne_t e1) ?_
        refine r_iconst i0_276 ?_
        refine r_istore (ls' := [_, _, _, _, _, _, _, _, _, _, _, _, _, _, _, _, _, _]) i0_277 rfl rfl ?_
        refine r_iload i0_279 rfl ?_
        refine r_iconst i0_281 ?_
        refine r_icF i0_282 (XT.ii_lt_f (by decide)) ?_
        refine r_iload i0_285 rfl ?_
        refine r_iload i0_287 rfl ?_
        refine r_icT i0_289 (XT.ii_ne_t e2) ?_
        refine r_iconst i0_296 ?_
        refine r_istore (ls' := [_, _, _, _, _, _, _, _, _, _, _, _, _, _, _, _, _, _]) i0_297 rfl rfl ?_
        refine r_iload i0_299 rfl ?_
        refine r_iload i0_301 rfl ?_
        refine r_icT i0_303 (XT.ii_lt_t (by decide)) ?_
        refine r_iconst i0_325 ?_
        refine r_istore (ls' := [_, _, _, _, _, _, _, _, _, _, _, _, _, _, _, _, _, _]) i0_326 rfl rfl ?_
        refine r_aload i0_328 rfl rfl ?_
        refine r_aload i0_330 rfl rfl ?_
        refine s0_332 hw (H1 := [_, _]) (sw23 hw) rfl (leB rfl) ?_
        refine r_iload i0_335 rfl ?_
        refine r_icF i0_337 (XT.ii_ne_f rfl) ?_
        refine r_iconst i0_340 ?_
        refine r_goto i0_341 ?_
        exact r_zreturn i0_345 rfl (by first | decide | simp)
  · skip
    by_cases e1 : t1 = u1
    · skip
      by_cases e2 : t2 = u2
      · skip
        refine r_iload i0_239 rfl ?_
        refine r_iconst i0_241 ?_
        refine r_icF i0_242 (XT.ii_lt_f (by decide)) ?_
        refine r_iload i0_245 rfl ?_
        refine r_iload i0_247 rfl ?_
        refine r_icT i0_249 (XT.ii_ne_t e0) ?_
        refine r_iconst i0_256 ?_
        refine r_istore (ls' := [_, _, _, _, _, _, _, _, _, _, _, _, _, _, _, _, _, _]) i0_257 rfl rfl ?_
        refine r_iload i0_259 rfl ?_
        refine r_iconst i0_261 ?_
        refine r_icF i0_262 (XT.ii_lt_f (by decide)) ?_
        refine r_iload i0_265 rfl ?_
        refine r_iload i0_267 rfl ?_
        refine r_icF i0_269 (XT.ii_ne_f e1) ?_
        refine r_iconst i0_272 ?_
        refine r_goto i0_273 ?_
        refine r_istore (ls' := [_, _, _, _, _, _, _, _, _, _, _, _, _, _, _, _, _, _]) i0_277 rfl rfl ?_
        refine r_iload i0_279 rfl ?_
        refine r_iconst i0_281 ?_
        refine r_icF i0_282 (XT.ii_lt_f (by decide)) ?_
        refine r_iload i0_285 rfl ?_
        refine r_iload i0_287 rfl ?_
        refine r_icF i0_289 (XT.ii_ne_f e2) ?_
        refine r_iconst i0_292 ?_
        refine r_goto i0_293 ?_
        refine r_istore (ls' := [_, _, _, _, _, _, _, _, _, _, _, _, _, _, _, _, _, _]) i0_297 rfl rfl ?_
        refine r_iload i0_299 rfl ?_
        refine r_iload i0_301 rfl ?_
        refine r_icT i0_303 (XT.ii_lt_t (by decide)) ?_
        refine r_iconst i0_325 ?_
        refine r_istore (ls' := [_, _, _, _, _, _, _, _, _, _, _, _, _, _, _, _, _, _]) i0_326 rfl rfl ?_
        refine r_aload i0_328 rfl rfl ?_
        refine r_aload i0_330 rfl rfl ?_
        refine s0_332 hw (H1 := [_, _]) (sw23 hw) rfl (leB rfl) ?_
        refine r_iload i0_335 rfl ?_
        refine r_icF i0_337 (XT.ii_ne_f rfl) ?_
        refine r_iconst i0_340 ?_
        refine r_goto i0_341 ?_
        exact r_zreturn i0_345 rfl (by first | decide | simp)
      · skip
        refine r_iload i0_239 rfl ?_
        refine r_iconst i0_241 ?_
        refine r_icF i0_242 (XT.ii_lt_f (by decide)) ?_
        refine r_iload i0_245 rfl ?_
        refine r_iload i0_247 rfl ?_
        refine r_icT i0_249 (XT.ii_ne_t e0) ?_
        refine r_iconst i0_256 ?_
        refine r_istore (ls' := [_, _, _, _, _, _, _, _, _, _, _, _, _, _, _, _, _, _]) i0_257 rfl rfl ?_
        refine r_iload i0_259 rfl ?_
        refine r_iconst i0_261 ?_
        refine r_icF i0_262 (XT.ii_lt_f (by decide)) ?_
        refine r_iload i0_265 rfl ?_
        refine r_iload i0_267 rfl ?_
        refine r_icF i0_269 (XT.ii_ne_f e1) ?_
        refine r_iconst i0_272 ?_
        refine r_goto i0_273 ?_
        refine r_istore (ls' := [_, _, _, _, _, _, _, _, _, _, _, _, _, _, _, _, _, _]) i0_277 rfl rfl ?_
        refine r_iload i0_279 rfl ?_
        refine r_iconst i0_281 ?_
        refine r_icF i0_282 (XT.ii_lt_f (by decide)) ?_
        refine r_iload i0_285 rfl ?_
        refine r_iload i0_287 rfl ?_
        refine r_icT i0_289 (XT.ii_ne_t e2) ?_
        refine r_iconst i0_296 ?_
        refine r_istore (ls' := [_, _, _, _, _, _, _, _, _, _, _, _, _, _, _, _, _, _]) i0_297 rfl rfl ?_
        refine r_iload i0_299 rfl ?_
        refine r_iload i0_301 rfl ?_
        refine r_icT i0_303 (XT.ii_lt_t (by decide)) ?_
        refine r_iconst i0_325 ?_
        refine r_istore (ls' := [_, _, _, _, _, _, _, _, _, _, _, _, _, _, _, _, _, _]) i0_326 rfl rfl ?_
        refine r_aload i0_328 rfl rfl ?_
        refine r_aload i0_330 rfl rfl ?_
        refine s0_332 hw (H1 := [_, _]) (sw23 hw) rfl (leB rfl) ?_
        refine r_iload i0_335 rfl ?_
        refine r_icF i0_337 (XT.ii_ne_f rfl) ?_
        refine r_iconst i0_340 ?_
        refine r_goto i0_341 ?_
        exact r_zreturn i0_345 rfl (by first | decide | simp)
    · skip
      by_cases e2 : t2 = u2
      · skip
        refine r_iload i0_239 rfl ?_
        refine r_iconst i0_241 ?_
        refine r_icF i0_242 (XT.ii_lt_f (by decide)) ?_
        refine r_iload i0_245 rfl ?_
        refine r_iload i0_247 rfl ?_
        refine r_icT i0_249 (XT.ii_ne_t e0) ?_
        refine r_iconst i0_256 ?_
        refine r_istore (ls' := [_, _, _, _, _, _, _, _, _, _, _, _, _, _, _, _, _, _]) i0_257 rfl rfl ?_
        refine r_iload i0_259 rfl ?_
        refine r_iconst i0_261 ?_
        refine r_icF i0_262 (XT.ii_lt_f (by decide)) ?_
        refine r_iload i0_265 rfl ?_
        refine r_iload i0_267 rfl ?_
        refine r_icT i0_269 (XT.ii_ne_t e1) ?_
        refine r_iconst i0_276 ?_
        refine r_istore (ls' := [_, _, _, _, _, _, _, _, _, _, _, _, _, _, _, _, _, _]) i0_277 rfl rfl ?_
        refine r_iload i0_279 rfl ?_
        refine r_iconst i0_281 ?_
        refine r_icF i0_282 (XT.ii_lt_f (by decide)) ?_
        refine r_iload i0_285 rfl ?_
        refine r_iload i0_287 rfl ?_
        refine r_icF i0_289 (XT.ii_ne_f e2) ?_
        refine r_iconst i0_292 ?_
        refine r_goto i0_293 ?_
        refine r_istore (ls' := [_, _, _, _, _, _, _, _, _, _, _, _, _, _, _, _, _, _]) i0_297 rfl rfl ?_
        refine r_iload i0_299 rfl ?_
        refine r_iload i0_301 rfl ?_
        refine r_icT i0_303 (XT.ii_lt_t (by decide)) ?_
        refine r_iconst i0_325 ?_
        refine r_istore (ls' := [_, _, _, _, _, _, _, _, _, _, _, _, _, _, _, _, _, _]) i0_326 rfl rfl ?_
        refine r_aload i0_328 rfl rfl ?_
        refine r_aload i0_330 rfl rfl ?_
        refine s0_332 hw (H1 := [_, _]) (sw23 hw) rfl (leB rfl) ?_
        refine r_iload i0_335 rfl ?_
        refine r_icF i0_337 (XT.ii_ne_f rfl) ?_
        refine r_iconst i0_340 ?_
        refine r_goto i0_341 ?_
        exact r_zreturn i0_345 rfl (by first | decide | simp)
      · skip
        refine r_iload i0_239 rfl ?_
        refine r_iconst i0_241 ?_
        refine r_icF i0_242 (XT.ii_lt_f (by decide)) ?_
        refine r_iload i0_245 rfl ?_
        refine r_iload i0_247 rfl ?_
        refine r_icT i0_249 (XT.ii_ne_t e0) ?_
        refine r_iconst i0_256 ?_
        refine r_istore (ls' := [_, _, _, _, _, _, _, _, _, _, _, _, _, _, _, _, _, _]) i0_257 rfl rfl ?_
        refine r_iload i0_259 rfl ?_
        refine r_iconst i0_261 ?_
        refine r_icF i0_262 (XT.ii_lt_f (by decide)) ?_
        refine r_iload i0_265 rfl ?_
        refine r_iload i0_267 rfl ?_
        refine r_icT i0_269 (XT.ii_ne_t e1) ?_
        refine r_iconst i0_276 ?_
        refine r_istore (ls' := [_, _, _, _, _, _, _, _, _, _, _, _, _, _, _, _, _, _]) i0_277 rfl rfl ?_
        refine r_iload i0_279 rfl ?_
        refine r_iconst i0_281 ?_
        refine r_icF i0_282 (XT.ii_lt_f (by decide)) ?_
        refine r_iload i0_285 rfl ?_
        refine r_iload i0_287 rfl ?_
        refine r_icT i0_289 (XT.ii_ne_t e2) ?_
        refine r_iconst i0_296 ?_
        refine r_istore (ls' := [_, _, _, _, _, _, _, _, _, _, _, _, _, _, _, _, _, _]) i0_297 rfl rfl ?_
        refine r_iload i0_299 rfl ?_
        refine r_iload i0_301 rfl ?_
        refine r_icT i0_303 (XT.ii_lt_t (by decide)) ?_
        refine r_iconst i0_325 ?_
        refine r_istore (ls' := [_, _, _, _, _, _, _, _, _, _, _, _, _, _, _, _, _, _]) i0_326 rfl rfl ?_
        refine r_aload i0_328 rfl rfl ?_
        refine r_aload i0_330 rfl rfl ?_
        refine s0_332 hw (H1 := [_, _]) (sw23 hw) rfl (leB rfl) ?_
        refine r_iload i0_335 rfl ?_
        refine r_icF i0_337 (XT.ii_ne_f rfl) ?_
        refine r_iconst i0_340 ?_
        refine r_goto i0_341 ?_
        exact r_zreturn i0_345 rfl (by first | decide | simp)
set_option maxHeartbeats 4000000 in
theorem fin30 {l : Launch} {Z : State} {a0 : Array Value} {n0 : Nat} (hw : HW Z a0) (p0 p1 p2 p3 u0 u1 u2 t0 t1 t2 : Int32) (h0 : 0 ≤ u0.toInt ∧ u0.toInt ≤ 255) (h1 : 0 ≤ u1.toInt ∧ u1.toInt ≤ 255) (h2 : 0 ≤ u2.toInt ∧ u2.toInt ≤ 255) : Runs K l Z n0 m0 239 [.val (.int p0), .val (.int p1), .val (.int p2), .val (.int p3), .val (.int 3), .val (.int 0), .val (.int u0), .val (.int u1), .val (.int u2), .val (.ref 0), .val (.int t0), .val (.int t1), .val (.int t2), .val (.ref 1), .unset, .unset, .unset, .unset] [] [.inr (.byte, [.int u0.toInt8.toInt32.toInt8.toInt32, .int u1.toInt8.toInt32.toInt8.toInt32, .int u2.toInt8.toInt32.toInt8.toInt32]), .inr (.int, [])] (some (.int 1)) [.inr (.byte, [.int u0.toInt8.toInt32.toInt8.toInt32, .int u1.toInt8.toInt32.toInt8.toInt32, .int u2.toInt8.toInt32.toInt8.toInt32]), .inr (.int, [])] := by
  have q0 := own_u h0.1 h0.2
  have q1 := own_u h1.1 h1.2
  have q2 := own_u h2.1 h2.2
  refine r_iload i0_239 rfl ?_
  refine r_iconst i0_241 ?_
  refine r_icT i0_242 (XT.ii_lt_t (by decide)) ?_
  refine r_iconst i0_252 ?_
  refine r_goto i0_253 ?_
  refine r_istore (ls' := [_, _, _, _, _, _, _, _, _, _, _, _, _, _, _, _, _, _]) i0_257 rfl rfl ?_
  refine r_iload i0_259 rfl ?_
  refine r_iconst i0_261 ?_
  refine r_icT i0_262 (XT.ii_lt_t (by decide)) ?_
  refine r_iconst i0_272 ?_
  refine r_goto i0_273 ?_
  refine r_istore (ls' := [_, _, _, _, _, _, _, _, _, _, _, _, _, _, _, _, _, _]) i0_277 rfl rfl ?_
  refine r_iload i0_279 rfl ?_
  refine r_iconst i0_281 ?_
  refine r_icT i0_282 (XT.ii_lt_t (by decide)) ?_
  refine r_iconst i0_292 ?_
  refine r_goto i0_293 ?_
  refine r_istore (ls' := [_, _, _, _, _, _, _, _, _, _, _, _, _, _, _, _, _, _]) i0_297 rfl rfl ?_
  refine r_iload i0_299 rfl ?_
  refine r_iload i0_301 rfl ?_
  refine r_icF i0_303 (XT.ii_lt_f (by decide)) ?_
  refine r_iload i0_306 rfl ?_
  refine r_ifF i0_308 (XT.i0_eq_f (by decide)) ?_
  refine r_iload i0_311 rfl ?_
  refine r_ifF i0_313 (XT.i0_eq_f (by decide)) ?_
  refine r_iload i0_316 rfl ?_
  refine r_ifF i0_318 (XT.i0_eq_f (by decide)) ?_
  refine r_iconst i0_321 ?_
  refine r_goto i0_322 ?_
  refine r_istore (ls' := [_, _, _, _, _, _, _, _, _, _, _, _, _, _, _, _, _, _]) i0_326 rfl rfl ?_
  refine r_aload i0_328 rfl rfl ?_
  refine r_aload i0_330 rfl rfl ?_
  refine s0_332 hw (H1 := [_, _]) (sw300 hw ) rfl (leB rfl) ?_
  refine r_iload i0_335 rfl ?_
  refine r_icF i0_337 (XT.ii_ne_f rfl) ?_
  refine r_iconst i0_340 ?_
  refine r_goto i0_341 ?_
  exact r_zreturn i0_345 rfl (by first | decide | simp)
set_option maxHeartbeats 4000000 in
theorem fin31 {l : Launch} {Z : State} {a0 : Array Value} {n0 : Nat} (hw : HW Z a0) (p0 p1 p2 p3 u0 u1 u2 t0 t1 t2 : Int32) (h0 : 0 ≤ u0.toInt ∧ u0.toInt ≤ 255) (h1 : 0 ≤ u1.toInt ∧ u1.toInt ≤ 255) (h2 : 0 ≤ u2.toInt ∧ u2.toInt ≤ 255) : Runs K l Z n0 m0 239 [.val (.int p0), .val (.int p1), .val (.int p2), .val (.int p3), .val (.int 3), .val (.int 1), .val (.int u0), .val (.int u1), .val (.int u2), .val (.ref 0), .val (.int t0), .val (.int t1), .val (.int t2), .val (.ref 1), .unset, .unset, .unset, .unset] [] [.inr (.byte, [.int u0.toInt8.toInt32.toInt8.toInt32, .int u1.toInt8.toInt32.toInt8.toInt32, .int u2.toInt8.toInt32.toInt8.toInt32]), .inr (.int, [.int t0])] (some (.int 1)) [.inr (.byte, [.int u0.toInt8.toInt32.toInt8.toInt32, .int u1.toInt8.toInt32.toInt8.toInt32, .int u2.toInt8.toInt32.toInt8.toInt32]), .inr (.int, [.int t0])] := by
  have q0 := own_u h0.1 h0.2
  have q1 := own_u h1.1 h1.2
  have q2 := own_u h2.1 h2.2
  by_cases e0 : t0 = u0
  · skip
    refine r_iload i0_239 rfl ?_
    refine r_iconst i0_241 ?_
    refine r_icF i0_242 (XT.ii_lt_f (by decide)) ?_
    refine r_iload i0_245 rfl ?_
    refine r_iload i0_247 rfl ?_
    refine r_icF i0_249 (XT.ii_ne_f e0) ?_
    refine r_iconst i0_252 ?_
    refine r_goto i0_253 ?_
    refine r_istore (ls' := [_, _, _, _, _, _, _, _, _, _, _, _, _, _, _, _, _, _]) i0_257 rfl rfl ?_
    refine r_iload i0_259 rfl ?_
    refine r_iconst i0_261 ?_
    refine r_icT i0_262 (XT.ii_lt_t (by decide)) ?_
    refine r_iconst i0_272 ?_
    refine r_goto i0_273 ?_
    refine r_istore (ls' := [_, _, _, _, _, _, _, _, _, _, _, _, _, _, _, _, _, _]) i0_277 rfl rfl ?_
    refine r_iload i0_279 rfl ?_
    refine r_iconst i0_281 ?_
    refine r_icT i0_282 (XT.ii_lt_t (by decide)) ?_
    refine r_iconst i0_292 ?_
    refine r_goto i0_293 ?_
    refine r_istore (ls' := [_, _, _, _, _, _, _, _, _, _, _, _, _, _, _, _, _, _]) i0_297 rfl rfl ?_
    refine r_iload i0_299 rfl ?_
    refine r_iload i0_301 rfl ?_
    refine r_icF i0_303 (XT.ii_lt_f (by decide)) ?_
    refine r_iload i0_306 rfl ?_
    refine r_ifF i0_308 (XT.i0_eq_f (by decide)) ?_
    refine r_iload i0_311 rfl ?_
    refine r_ifF i0_313 (XT.i0_eq_f (by decide)) ?_
    refine r_iload i0_316 rfl ?_
    refine r_ifF i0_318 (XT.i0_eq_f (by decide)) ?_
    refine r_iconst i0_321 ?_
    refine r_goto i0_322 ?_
    refine r_istore (ls' := [_, _, _, _, _, _, _, _, _, _, _, _, _, _, _, _, _, _]) i0_326 rfl rfl ?_
    refine r_aload i0_328 rfl rfl ?_
    refine r_aload i0_330 rfl rfl ?_
    refine s0_332 hw (H1 := [_, _]) (sw311 hw (h0 := q0.trans e0.symm)) rfl (leB rfl) ?_
    refine r_iload i0_335 rfl ?_
    refine r_icF i0_337 (XT.ii_ne_f rfl) ?_
    refine r_iconst i0_340 ?_
    refine r_goto i0_341 ?_
    exact r_zreturn i0_345 rfl (by first | decide | simp)
  · skip
    refine r_iload i0_239 rfl ?_
    refine r_iconst i0_241 ?_
    refine r_icF i0_242 (XT.ii_lt_f (by decide)) ?_
    refine r_iload i0_245 rfl ?_
    refine r_iload i0_247 rfl ?_
    refine r_icT i0_249 (XT.ii_ne_t e0) ?_
    refine r_iconst i0_256 ?_
    refine r_istore (ls' := [_, _, _, _, _, _, _, _, _, _, _, _, _, _, _, _, _, _]) i0_257 rfl rfl ?_
    refine r_iload i0_259 rfl ?_
    refine r_iconst i0_261 ?_
    refine r_icT i0_262 (XT.ii_lt_t (by decide)) ?_
    refine r_iconst i0_272 ?_
    refine r_goto i0_273 ?_
    refine r_istore (ls' := [_, _, _, _, _, _, _, _, _, _, _, _, _, _, _, _, _, _]) i0_277 rfl rfl ?_
    refine r_iload i0_279 rfl ?_
    refine r_iconst i0_281 ?_
    refine r_icT i0_282 (XT.ii_lt_t (by decide)) ?_
    refine r_iconst i0_292 ?_
    refine r_goto i0_293 ?_
    refine r_istore (ls' := [_, _, _, _, _, _, _, _, _, _, _, _, _, _, _, _, _, _]) i0_297 rfl rfl ?_
    refine r_iload i0_299 rfl ?_
    refine r_iload i0_301 rfl ?_
    refine r_icF i0_303 (XT.ii_lt_f (by decide)) ?_
    refine r_iload i0_306 rfl ?_
    refine r_ifT i0_308 (XT.i0_eq_t rfl) ?_
    refine r_iconst i0_325 ?_
    refine r_istore (ls' := [_, _, _, _, _, _, _, _, _, _, _, _, _, _, _, _, _, _]) i0_326 rfl rfl ?_
    refine r_aload i0_328 rfl rfl ?_
    refine r_aload i0_330 rfl rfl ?_
    refine s0_332 hw (H1 := [_, _]) (sw310 hw  (h0 := fun z => e0 (z.symm.trans q0))) rfl (leB rfl) ?_
    refine r_iload i0_335 rfl ?_
    refine r_icF i0_337 (XT.ii_ne_f rfl) ?_
    refine r_iconst i0_340 ?_
    refine r_goto i0_341 ?_
    exact r_zreturn i0_345 rfl (by first | decide | simp)
set_option maxHeartbeats 4000000 in
theorem fin32 {l : Launch} {Z : State} {a0 : Array Value} {n0 : Nat} (hw : HW Z a0) (p0 p1 p2 p3 u0 u1 u2 t0 t1 t2 : Int32) (h0 : 0 ≤ u0.toInt ∧ u0.toInt ≤ 255) (h1 : 0 ≤ u1.toInt ∧ u1.toInt ≤ 255) (h2 : 0 ≤ u2.toInt ∧ u2.toInt ≤ 255) : Runs K l Z n0 m0 239 [.val (.int p0), .val (.int p1), .val (.int p2), .val (.int p3), .val (.int 3), .val (.int 2), .val (.int u0), .val (.int u1), .val (.int u2), .val (.ref 0), .val (.int t0), .val (.int t1), .val (.int t2), .val (.ref 1), .unset, .unset, .unset, .unset] [] [.inr (.byte, [.int u0.toInt8.toInt32.toInt8.toInt32, .int u1.toInt8.toInt32.toInt8.toInt32, .int u2.toInt8.toInt32.toInt8.toInt32]), .inr (.int, [.int t0, .int t1])] (some (.int 1)) [.inr (.byte, [.int u0.toInt8.toInt32.toInt8.toInt32, .int u1.toInt8.toInt32.toInt8.toInt32, .int u2.toInt8.toInt32.toInt8.toInt32]), .inr (.int, [.int t0, .int t1])] := by
  have q0 := own_u h0.1 h0.2
  have q1 := own_u h1.1 h1.2
  have q2 := own_u h2.1 h2.2
  by_cases e0 : t0 = u0
  · skip
    by_cases e1 : t1 = u1
    · skip
      refine r_iload i0_239 rfl ?_
      refine r_iconst i0_241 ?_
      refine r_icF i0_242 (XT.ii_lt_f (by decide)) ?_
      refine r_iload i0_245 rfl ?_
      refine r_iload i0_247 rfl ?_
      refine r_icF i0_249 (XT.ii_ne_f e0) ?_
      refine r_iconst i0_252 ?_
      refine r_goto i0_253 ?_
      refine r_istore (ls' := [_, _, _, _, _, _, _, _, _, _, _, _, _, _, _, _, _, _]) i0_257 rfl rfl ?_
      refine r_iload i0_259 rfl ?_
      refine r_iconst i0_261 ?_
      refine r_icF i0_262 (XT.ii_lt_f (by decide)) ?_
      refine r_iload i0_265 rfl ?_
      refine r_iload i0_267 rfl ?_
      refine r_icF i0_269 (XT.ii_ne_f e1) ?_
      refine r_iconst i0_272 ?_
      refine r_goto i0_273 ?_
      refine r_istore (ls' := [_, _, _, _, _, _, _, _, _, _, _, _, _, _, _, _, _, _]) i0_277 rfl rfl ?_
      refine r_iload i0_279 rfl ?_
      refine r_iconst i0_281 ?_
      refine r_icT i0_282 (XT.ii_lt_t (by decide)) ?_
      refine r_iconst i0_292 ?_
      refine r_goto i0_293 ?_
      refine r_istore (ls' := [_, _, _, _, _, _, _, _, _, _, _, _, _, _, _, _, _, _]) i0_297 rfl rfl ?_
      refine r_iload i0_299 rfl ?_
      refine r_iload i0_301 rfl ?_
      refine r_icF i0_303 (XT.ii_lt_f (by decide)) ?_
      refine r_iload i0_306 rfl ?_
      refine r_ifF i0_308 (XT.i0_eq_f (by decide)) ?_
      refine r_iload i0_311 rfl ?_
      refine r_ifF i0_313 (XT.i0_eq_f (by decide)) ?_
      refine r_iload i0_316 rfl ?_
      refine r_ifF i0_318 (XT.i0_eq_f (by decide)) ?_
      refine r_iconst i0_321 ?_
      refine r_goto i0_322 ?_
      refine r_istore (ls' := [_, _, _, _, _, _, _, _, _, _, _, _, _, _, _, _, _, _]) i0_326 rfl rfl ?_
      refine r_aload i0_328 rfl rfl ?_
      refine r_aload i0_330 rfl rfl ?_
      refine s0_332 hw (H1 := [_, _]) (sw322 hw (h0 := q0.trans e0.symm) (h1 := q1.trans e1.symm)) rfl (leB rfl) ?_
      refine r_iload i0_335 rfl ?_
      refine r_icF i0_337 (XT.ii_ne_f rfl) ?_
      refine r_iconst i0_340 ?_
      refine r_goto i0_341 ?_
      exact r_zreturn i0_345 rfl (by first | decide | simp)
    · skip
      refine r_iload i0_239 rfl ?_
      refine r_iconst i0_241 ?_
      refine r_icF i0_242 (XT.ii_lt_f (by decide)) ?_
      refine r_iload i0_245 rfl ?_
      refine r_iload i0_247 rfl ?_
      refine r_icF i0_249 (XT.ii_ne_f e0) ?_
      refine r_iconst i0_252 ?_
      refine r_goto i0_253 ?_
      refine r_istore (ls' := [_, _, _, _, _, _, _, _, _, _, _, _, _, _, _, _, _, _]) i0_257 rfl rfl ?_
      refine r_iload i0_259 rfl ?_
      refine r_iconst i0_261 ?_
      refine r_icF i0_262 (XT.ii_lt_f (by decide)) ?_
      refine r_iload i0_265 rfl ?_
      refine r_iload i0_267 rfl ?_
      refine r_icT i0_269 (XT.ii_ne_t e1) ?_
      refine r_iconst i0_276 ?_
      refine r_istore (ls' := [_, _, _, _, _, _, _, _, _, _, _, _, _, _, _, _, _, _]) i0_277 rfl rfl ?_
      refine r_iload i0_279 rfl ?_
      refine r_iconst i0_281 ?_
      refine r_icT i0_282 (XT.ii_lt_t (by decide)) ?_
      refine r_iconst i0_292 ?_
      refine r_goto i0_293 ?_
      refine r_istore (ls' := [_, _, _, _, _, _, _, _, _, _, _, _, _, _, _, _, _, _]) i0_297 rfl rfl ?_
      refine r_iload i0_299 rfl ?_
      refine r_iload i0_301 rfl ?_
      refine r_icF i0_303 (XT.ii_lt_f (by decide)) ?_
      refine r_iload i0_306 rfl ?_
      refine r_ifF i0_308 (XT.i0_eq_f (by decide)) ?_
      refine r_iload i0_311 rfl ?_
      refine r_ifT i0_313 (XT.i0_eq_t rfl) ?_
      refine r_iconst i0_325 ?_
      refine r_istore (ls' := [_, _, _, _, _, _, _, _, _, _, _, _, _, _, _, _, _, _]) i0_326 rfl rfl ?_
      refine r_aload i0_328 rfl rfl ?_
      refine r_aload i0_330 rfl rfl ?_
      refine s0_332 hw (H1 := [_, _]) (sw321 hw (h0 := q0.trans e0.symm) (h1 := fun z => e1 (z.symm.trans q1))) rfl (leB rfl) ?_
      refine r_iload i0_335 rfl ?_
      refine r_icF i0_337 (XT.ii_ne_f rfl) ?_
      refine r_iconst i0_340 ?_
      refine r_goto i0_341 ?_
      exact r_zreturn i0_345 rfl (by first | decide | simp)
  · skip
    by_cases e1 : t1 = u1
    · skip
      refine r_iload i0_239 rfl ?_
      refine r_iconst i0_241 ?_
      refine r_icF i0_242 (XT.ii_lt_f (by decide)) ?_
      refine r_iload i0_245 rfl ?_
      refine r_iload i0_247 rfl ?_
      refine r_icT i0_249 (XT.ii_ne_t e0) ?_
      refine r_iconst i0_256 ?_
      refine r_istore (ls' := [_, _, _, _, _, _, _, _, _, _, _, _, _, _, _, _, _, _]) i0_257 rfl rfl ?_
      refine r_iload i0_259 rfl ?_
      refine r_iconst i0_261 ?_
      refine r_icF i0_262 (XT.ii_lt_f (by decide)) ?_
      refine r_iload i0_265 rfl ?_
      refine r_iload i0_267 rfl ?_
      refine r_icF i0_269 (XT.ii_ne_f e1) ?_
      refine r_iconst i0_272 ?_
      refine r_goto i0_273 ?_
      refine r_istore (ls' := [_, _, _, _, _, _, _, _, _, _, _, _, _, _, _, _, _, _]) i0_277 rfl rfl ?_
      refine r_iload i0_279 rfl ?_
      refine r_iconst i0_281 ?_
      refine r_icT i0_282 (XT.ii_lt_t (by decide)) ?_
      refine r_iconst i0_292 ?_
      refine r_goto i0_293 ?_
      refine r_istore (ls' := [_, _, _, _, _, _, _, _, _, _, _, _, _, _, _, _, _, _]) i0_297 rfl rfl ?_
      refine r_iload i0_299 rfl ?_
      refine r_iload i0_301 rfl ?_
      refine r_icF i0_303 (XT.ii_lt_f (by decide)) ?_
      refine r_iload i0_306 rfl ?_
      refine r_ifT i0_308 (XT.i0_eq_t rfl) ?_
      refine r_iconst i0_325 ?_
      refine r_istore (ls' := [_, _, _, _, _, _, _, _, _, _, _, _, _, _, _, _, _, _]) i0_326 rfl rfl ?_
      refine r_aload i0_328 rfl rfl ?_
      refine r_aload i0_330 rfl rfl ?_
      refine s0_332 hw (H1 := [_, _]) (sw320 hw  (h0 := fun z => e0 (z.symm.trans q0))) rfl (leB rfl) ?_
      refine r_iload i0_335 rfl ?_
      refine r_icF i0_337 (XT.ii_ne_f rfl) ?_
      refine r_iconst i0_340 ?_
      refine r_goto i0_341 ?_
      exact r_zreturn i0_345 rfl (by first | decide | simp)
    · skip
      refine r_iload i0_239 rfl ?_
      refine r_iconst i0_241 ?_
      refine r_icF i0_242 (XT.ii_lt_f (by decide)) ?_
      refine r_iload i0_245 rfl ?_
      refine r_iload i0_247 rfl ?_
      refine r_icT i0_249 (XT.ii_ne_t e0) ?_
      refine r_iconst i0_256 ?_
      refine r_istore (ls' := [_, _, _, _, _, _, _, _, _, _, _, _, _, _, _, _, _, _]) i0_257 rfl rfl ?_
      refine r_iload i0_259 rfl ?_
      refine r_iconst i0_261 ?_
      refine r_icF i0_262 (XT.ii_lt_f (by decide)) ?_
      refine r_iload i0_265 rfl ?_
      refine r_iload i0_267 rfl ?_
      refine r_icT i0_269 (XT.ii_ne_t e1) ?_
      refine r_iconst i0_276 ?_
      refine r_istore (ls' := [_, _, _, _, _, _, _, _, _, _, _, _, _, _, _, _, _, _]) i0_277 rfl rfl ?_
      refine r_iload i0_279 rfl ?_
      refine r_iconst i0_281 ?_
      refine r_icT i0_282 (XT.ii_lt_t (by decide)) ?_
      refine r_iconst i0_292 ?_
      refine r_goto i0_293 ?_
      refine r_istore (ls' := [_, _, _, _, _, _, _, _, _, _, _, _, _, _, _, _, _, _]) i0_297 rfl rfl ?_
      refine r_iload i0_299 rfl ?_
      refine r_iload i0_301 rfl ?_
      refine r_icF i0_303 (XT.ii_lt_f (by decide)) ?_
      refine r_iload i0_306 rfl ?_
      refine r_ifT i0_308 (XT.i0_eq_t rfl) ?_
      refine r_iconst i0_325 ?_
      refine r_istore (ls' := [_, _, _, _, _, _, _, _, _, _, _, _, _, _, _, _, _, _]) i0_326 rfl rfl ?_
      refine r_aload i0_328 rfl rfl ?_
      refine r_aload i0_330 rfl rfl ?_
      refine s0_332 hw (H1 := [_, _]) (sw320 hw  (h0 := fun z => e0 (z.symm.trans q0))) rfl (leB rfl) ?_
      refine r_iload i0_335 rfl ?_
      refine r_icF i0_337 (XT.ii_ne_f rfl) ?_
      refine r_iconst i0_340 ?_
      refine r_goto i0_341 ?_
      exact r_zreturn i0_345 rfl (by first | decide | simp)
set_option maxHeartbeats 4000000 in
theorem fin33 {l : Launch} {Z : State} {a0 : Array Value} {n0 : Nat} (hw : HW Z a0) (p0 p1 p2 p3 u0 u1 u2 t0 t1 t2 : Int32) (h0 : 0 ≤ u0.toInt ∧ u0.toInt ≤ 255) (h1 : 0 ≤ u1.toInt ∧ u1.toInt ≤ 255) (h2 : 0 ≤ u2.toInt ∧ u2.toInt ≤ 255) : Runs K l Z n0 m0 239 [.val (.int p0), .val (.int p1), .val (.int p2), .val (.int p3), .val (.int 3), .val (.int 3), .val (.int u0), .val (.int u1), .val (.int u2), .val (.ref 0), .val (.int t0), .val (.int t1), .val (.int t2), .val (.ref 1), .unset, .unset, .unset, .unset] [] [.inr (.byte, [.int u0.toInt8.toInt32.toInt8.toInt32, .int u1.toInt8.toInt32.toInt8.toInt32, .int u2.toInt8.toInt32.toInt8.toInt32]), .inr (.int, [.int t0, .int t1, .int t2])] (some (.int 1)) [.inr (.byte, [.int u0.toInt8.toInt32.toInt8.toInt32, .int u1.toInt8.toInt32.toInt8.toInt32, .int u2.toInt8.toInt32.toInt8.toInt32]), .inr (.int, [.int t0, .int t1, .int t2])] := by
  have q0 := own_u h0.1 h0.2
  have q1 := own_u h1.1 h1.2
  have q2 := own_u h2.1 h2.2
  by_cases e0 : t0 = u0
  · skip
    by_cases e1 : t1 = u1
    · skip
      by_cases e2 : t2 = u2
      · skip
        refine r_iload i0_239 rfl ?_
        refine r_iconst i0_241 ?_
        refine r_icF i0_242 (XT.ii_lt_f (by decide)) ?_
        refine r_iload i0_245 rfl ?_
        refine r_iload i0_247 rfl ?_
        refine r_icF i0_249 (XT.ii_ne_f e0) ?_
        refine r_iconst i0_252 ?_
        refine r_goto i0_253 ?_
        refine r_istore (ls' := [_, _, _, _, _, _, _, _, _, _, _, _, _, _, _, _, _, _]) i0_257 rfl rfl ?_
        refine r_iload i0_259 rfl ?_
        refine r_iconst i0_261 ?_
        refine r_icF i0_262 (XT.ii_lt_f (by decide)) ?_
        refine r_iload i0_265 rfl ?_
        refine r_iload i0_267 rfl ?_
        refine r_icF i0_269 (XT.ii_ne_f e1) ?_
        refine r_iconst i0_272 ?_
        refine r_goto i0_273 ?_
        refine r_istore (ls' := [_, _, _, _, _, _, _, _, _, _, _, _, _, _, _, _, _, _]) i0_277 rfl rfl ?_
        refine r_iload i0_279 rfl ?_
        refine r_iconst i0_281 ?_
        refine r_icF i0_282 (XT.ii_lt_f (by decide)) ?_
        refine r_iload i0_285 rfl ?_
        refine r_iload i0_287 rfl ?_
        refine r_icF i0_289 (XT.ii_ne_f e2) ?_
        refine r_iconst i0_292 ?_
        refine r_goto i0_293 ?_
        refine r_istore (ls' := [_, _, _, _, _, _, _, _, _, _, _, _, _, _, _, _, _, _]) i0_297 rfl rfl ?_
        refine r_iload i0_299 rfl ?_
        refine r_iload i0_301 rfl ?_
        refine r_icF i0_303 (XT.ii_lt_f (by decide)) ?_
        refine r_iload i0_306 rfl ?_
        refine r_ifF i0_308 (XT.i0_eq_f (by decide)) ?_
        refine r_iload i0_311 rfl ?_
        refine r_ifF i0_313 (XT.i0_eq_f (by decide)) ?_
        refine r_iload i0_316 rfl ?_
        refine r_ifF i0_318 (XT.i0_eq_f (by decide)) ?_
        refine r_iconst i0_321 ?_
        refine r_goto i0_322 ?_
        refine r_istore (ls' := [_, _, _, _, _, _, _, _, _, _, _, _, _, _, _, _, _, _]) i0_326 rfl rfl ?_
        refine r_aload i0_328 rfl rfl ?_
        refine r_aload i0_330 rfl rfl ?_
        refine s0_332 hw (H1 := [_, _]) (sw333 hw (h0 := q0.trans e0.symm) (h1 := q1.trans e1.symm) (h2 := q2.trans e2.symm)) rfl (leB rfl) ?_
        refine r_iload i0_335 rfl ?_
        refine r_icF i0_337 (XT.ii_ne_f rfl) ?_
        refine r_iconst i0_340 ?_
        refine r_goto i0_341 ?_
        exact r_zreturn i0_345 rfl (by first | decide | simp)
      · skip
        refine r_iload i0_239 rfl ?_
        refine r_iconst i0_241 ?_
        refine r_icF i0_242 (XT.ii_lt_f (by decide)) ?_
        refine r_iload i0_245 rfl ?_
        refine r_iload i0_247 rfl ?_
        refine r_icF i0_249 (XT.ii_ne_f e0) ?_
        refine r_iconst i0_252 ?_
        refine r_goto i0_253 ?_
        refine r_istore (ls' := [_, _, _, _, _, _, _, _, _, _, _, _, _, _, _, _, _, _]) i0_257 rfl rfl ?_
        refine r_iload i0_259 rfl ?_
        refine r_iconst i0_261 ?_
        refine r_icF i0_262 (XT.ii_lt_f (by decide)) ?_
        refine r_iload i0_265 rfl ?_
        refine r_iload i0_267 rfl ?_
        refine r_icF i0_269 (XT.ii_ne_f e1) ?_
        refine r_iconst i0_272 ?_
        refine r_goto i0_273 ?_
        refine r_istore (ls' := [_, _, _, _, _, _, _, _, _, _, _, _, _, _, _, _, _, _]) i0_277 rfl rfl ?_
        refine r_iload i0_279 rfl ?_
        refine r_iconst i0_281 ?_
        refine r_icF i0_282 (XT.ii_lt_f (by decide)) ?_
        refine r_iload i0_285 rfl ?_
        refine r_iload i0_287 rfl ?_
        refine r_icT i0_289 (XT.ii_ne_t e2) ?_
        refine r_iconst i0_296 ?_
        refine r_istore (ls' := [_, _, _, _, _, _, _, _, _, _, _, _, _, _, _, _, _, _]) i0_297 rfl rfl ?_
        refine r_iload i0_299 rfl ?_
        refine r_iload i0_301 rfl ?_
        refine r_icF i0_303 (XT.ii_lt_f (by decide)) ?_
        refine r_iload i0_306 rfl ?_
        refine r_ifF i0_308 (XT.i0_eq_f (by decide)) ?_
        refine r_iload i0_311 rfl ?_
        refine r_ifF i0_313 (XT.i0_eq_f (by decide)) ?_
        refine r_iload i0_316 rfl ?_
        refine r_ifT i0_318 (XT.i0_eq_t rfl) ?_
        refine r_iconst i0_325 ?_
        refine r_istore (ls' := [_, _, _, _, _, _, _, _, _, _, _, _, _, _, _, _, _, _]) i0_326 rfl rfl ?_
        refine r_aload i0_328 rfl rfl ?_
        refine r_aload i0_330 rfl rfl ?_
        refine s0_332 hw (H1 := [_, _]) (sw332 hw (h0 := q0.trans e0.symm) (h1 := q1.trans e1.symm) (h2 := fun z => e2 (z.symm.trans q2))) rfl (leB rfl) ?_
        refine r_iload i0_335 rfl ?_
        refine r_icF i0_337 (XT.ii_ne_f rfl) ?_
        refine r_iconst i0_340 ?_
        refine r_goto i0_341 ?_
        exact r_zreturn i0_345 rfl (by first | decide | simp)
    · skip
      by_cases e2 : t2 = u2
      · skip
        refine r_iload i0_239 rfl ?_
        refine r_iconst i0_241 ?_
        refine r_icF i0_242 (XT.ii_lt_f (by decide)) ?_
        refine r_iload i0_245 rfl ?_
        refine r_iload i0_247 rfl ?_
        refine r_icF i0_249 (XT.ii_ne_f e0) ?_
        refine r_iconst i0_252 ?_
        refine r_goto i0_253 ?_
        refine r_istore (ls' := [_, _, _, _, _, _, _, _, _, _, _, _, _, _, _, _, _, _]) i0_257 rfl rfl ?_
        refine r_iload i0_259 rfl ?_
        refine r_iconst i0_261 ?_
        refine r_icF i0_262 (XT.ii_lt_f (by decide)) ?_
        refine r_iload i0_265 rfl ?_
        refine r_iload i0_267 rfl ?_
        refine r_icT i0_269 (XT.ii_ne_t e1) ?_
        refine r_iconst i0_276 ?_
        refine r_istore (ls' := [_, _, _, _, _, _, _, _, _, _, _, _, _, _, _, _, _, _]) i0_277 rfl rfl ?_
        refine r_iload i0_279 rfl ?_
        refine r_iconst i0_281 ?_
        refine r_icF i0_282 (XT.ii_lt_f (by decide)) ?_
        refine r_iload i0_285 rfl ?_
        refine r_iload i0_287 rfl ?_
        refine r_icF i0_289 (XT.ii_ne_f e2) ?_
        refine r_iconst i0_292 ?_
        refine r_goto i0_293 ?_
        refine r_istore (ls' := [_, _, _, _, _, _, _, _, _, _, _, _, _, _, _, _, _, _]) i0_297 rfl rfl ?_
        refine r_iload i0_299 rfl ?_
        refine r_iload i0_301 rfl ?_
        refine r_icF i0_303 (XT.ii_lt_f (by decide)) ?_
        refine r_iload i0_306 rfl ?_
        refine r_ifF i0_308 (XT.i0_eq_f (by decide)) ?_
        refine r_iload i0_311 rfl ?_
        refine r_ifT i0_313 (XT.i0_eq_t rfl) ?_
        refine r_iconst i0_325 ?_
        refine r_istore (ls' := [_, _, _, _, _, _, _, _, _, _, _, _, _, _, _, _, _, _]) i0_326 rfl rfl ?_
        refine r_aload i0_328 rfl rfl ?_
        refine r_aload i0_330 rfl rfl ?_
        refine s0_332 hw (H1 := [_, _]) (sw331 hw (h0 := q0.trans e0.symm) (h1 := fun z => e1 (z.symm.trans q1))) rfl (leB rfl) ?_
        refine r_iload i0_335 rfl ?_
        refine r_icF i0_337 (XT.ii_ne_f rfl) ?_
        refine r_iconst i0_340 ?_
        refine r_goto i0_341 ?_
        exact r_zreturn i0_345 rfl (by first | decide | simp)
      · skip
        refine r_iload i0_239 rfl ?_
        refine r_iconst i0_241 ?_
        refine r_icF i0_242 (XT.ii_lt_f (by decide)) ?_
        refine r_iload i0_245 rfl ?_
        refine r_iload i0_247 rfl ?_
        refine r_icF i0_249 (XT.ii_ne_f e0) ?_
        refine r_iconst i0_252 ?_
        refine r_goto i0_253 ?_
        refine r_istore (ls' := [_, _, _, _, _, _, _, _, _, _, _, _, _, _, _, _, _, _]) i0_257 rfl rfl ?_
        refine r_iload i0_259 rfl ?_
        refine r_iconst i0_261 ?_
        refine r_icF i0_262 (XT.ii_lt_f (by decide)) ?_
        refine r_iload i0_265 rfl ?_
        refine r_iload i0_267 rfl ?_
        refine r_icT i0_269 (XT.ii_ne_t e1) ?_
        refine r_iconst i0_276 ?_
        refine r_istore (ls' := [_, _, _, _, _, _, _, _, _, _, _, _, _, _, _, _, _, _]) i0_277 rfl rfl ?_
        refine r_iload i0_279 rfl ?_
        refine r_iconst i0_281 ?_
        refine r_icF i0_282 (XT.ii_lt_f (by decide)) ?_
        refine r_iload i0_285 rfl ?_
        refine r_iload i0_287 rfl ?_
        refine r_icT i0_289 (XT.ii_ne_t e2) ?_
        refine r_iconst i0_296 ?_
        refine r_istore (ls' := [_, _, _, _, _, _, _, _, _, _, _, _, _, _, _, _, _, _]) i0_297 rfl rfl ?_
        refine r_iload i0_299 rfl ?_
        refine r_iload i0_301 rfl ?_
        refine r_icF i0_303 (XT.ii_lt_f (by decide)) ?_
        refine r_iload i0_306 rfl ?_
        refine r_ifF i0_308 (XT.i0_eq_f (by decide)) ?_
        refine r_iload i0_311 rfl ?_
        refine r_ifT i0_313 (XT.i0_eq_t rfl) ?_
        refine r_iconst i0_325 ?_
        refine r_istore (ls' := [_, _, _, _, _, _, _, _, _, _, _, _, _, _, _, _, _, _]) i0_326 rfl rfl ?_
        refine r_aload i0_328 rfl rfl ?_
        refine r_aload i0_330 rfl rfl ?_
        refine s0_332 hw (H1 := [_, _]) (sw331 hw (h0 := q0.trans e0.symm) (h1 := fun z => e1 (z.symm.trans q1))) rfl (leB rfl) ?_
        refine r_iload i0_335 rfl ?_
        refine r_icF i0_337 (XT.ii_ne_f rfl) ?_
        refine r_iconst i0_340 ?_
        refine r_goto i0_341 ?_
        exact r_zreturn i0_345 rfl (by first | decide | simp)
  · skip
    by_cases e1 : t1 = u1
    · skip
      by_cases e2 : t2 = u2
      · skip
        refine r_iload i0_239 rfl ?_
        refine r_iconst i0_241 ?_
        refine r_icF i0_242 (XT.ii_lt_f (by decide)) ?_
        refine r_iload i0_245 rfl ?_
        refine r_iload i0_247 rfl ?_
        refine r_icT i0_249 (XT.ii_ne_t e0) ?_
        refine r_iconst i0_256 ?_
        refine r_istore (ls' := [_, _, _, _, _, _, _, _, _, _, _, _, _, _, _, _, _, _]) i0_257 rfl rfl ?_
        refine r_iload i0_259 rfl ?_
        refine r_iconst i0_261 ?_
        refine r_icF i0_262 (XT.ii_lt_f (by decide)) ?_
        refine r_iload i0_265 rfl ?_
        refine r_iload i0_267 rfl ?_
        refine r_icF i0_269 (XT.ii_ne_f e1) ?_
        refine r_iconst i0_272 ?_
        refine r_goto i0_273 ?_
        refine r_istore (ls' := [_, _, _, _, _, _, _, _, _, _, _, _, _, _, _, _, _, _]) i0_277 rfl rfl ?_
        refine r_iload i0_279 rfl ?_
        refine r_iconst i0_281 ?_
        refine r_icF i0_282 (XT.ii_lt_f (by decide)) ?_
        refine r_iload i0_285 rfl ?_
        refine r_iload i0_287 rfl ?_
        refine r_icF i0_289 (XT.ii_ne_f e2) ?_
        refine r_iconst i0_292 ?_
        refine r_goto i0_293 ?_
        refine r_istore (ls' := [_, _, _, _, _, _, _, _, _, _, _, _, _, _, _, _, _, _]) i0_297 rfl rfl ?_
        refine r_iload i0_299 rfl ?_
        refine r_iload i0_301 rfl ?_
        refine r_icF i0_303 (XT.ii_lt_f (by decide)) ?_
        refine r_iload i0_306 rfl ?_
        refine r_ifT i0_308 (XT.i0_eq_t rfl) ?_
        refine r_iconst i0_325 ?_
        refine r_istore (ls' := [_, _, _, _, _, _, _, _, _, _, _, _, _, _, _, _, _, _]) i0_326 rfl rfl ?_
        refine r_aload i0_328 rfl rfl ?_
        refine r_aload i0_330 rfl rfl ?_
        refine s0_332 hw (H1 := [_, _]) (sw330 hw  (h0 := fun z => e0 (z.symm.trans q0))) rfl (leB rfl) ?_
        refine r_iload i0_335 rfl ?_
        refine r_icF i0_337 (XT.ii_ne_f rfl) ?_
        refine r_iconst i0_340 ?_
        refine r_goto i0_341 ?_
        exact r_zreturn i0_345 rfl (by first | decide | simp)
      · skip
        refine r_iload i0_239 rfl ?_
        refine r_iconst i0_241 ?_
        refine r_icF i0_242 (XT.ii_lt_f (by decide)) ?_
        refine r_iload i0_245 rfl ?_
        refine r_iload i0_247 rfl ?_
        refine r_icT i0_249 (XT.ii_ne_t e0) ?_
        refine r_iconst i0_256 ?_
        refine r_istore (ls' := [_, _, _, _, _, _, _, _, _, _, _, _, _, _, _, _, _, _]) i0_257 rfl rfl ?_
        refine r_iload i0_259 rfl ?_
        refine r_iconst i0_261 ?_
        refine r_icF i0_262 (XT.ii_lt_f (by decide)) ?_
        refine r_iload i0_265 rfl ?_
        refine r_iload i0_267 rfl ?_
        refine r_icF i0_269 (XT.ii_ne_f e1) ?_
        refine r_iconst i0_272 ?_
        refine r_goto i0_273 ?_
        refine r_istore (ls' := [_, _, _, _, _, _, _, _, _, _, _, _, _, _, _, _, _, _]) i0_277 rfl rfl ?_
        refine r_iload i0_279 rfl ?_
        refine r_iconst i0_281 ?_
        refine r_icF i0_282 (XT.ii_lt_f (by decide)) ?_
        refine r_iload i0_285 rfl ?_
        refine r_iload i0_287 rfl ?_
        refine r_icT i0_289 (XT.ii_ne_t e2) ?_
        refine r_iconst i0_296 ?_
        refine r_istore (ls' := [_, _, _, _, _, _, _, _, _, _, _, _, _, _, _, _, _, _]) i0_297 rfl rfl ?_
        refine r_iload i0_299 rfl ?_
        refine r_iload i0_301 rfl ?_
        refine r_icF i0_303 (XT.ii_lt_f (by decide)) ?_
        refine r_iload i0_306 rfl ?_
        refine r_ifT i0_308 (XT.i0_eq_t rfl) ?_
        refine r_iconst i0_325 ?_
        refine r_istore (ls' := [_, _, _, _, _, _, _, _, _, _, _, _, _, _, _, _, _, _]) i0_326 rfl rfl ?_
        refine r_aload i0_328 rfl rfl ?_
        refine r_aload i0_330 rfl rfl ?_
        refine s0_332 hw (H1 := [_, _]) (sw330 hw  (h0 := fun z => e0 (z.symm.trans q0))) rfl (leB rfl) ?_
        refine r_iload i0_335 rfl ?_
        refine r_icF i0_337 (XT.ii_ne_f rfl) ?_
        refine r_iconst i0_340 ?_
        refine r_goto i0_341 ?_
        exact r_zreturn i0_345 rfl (by first | decide | simp)
    · skip
      by_cases e2 : t2 = u2
      · skip
        refine r_iload i0_239 rfl ?_
        refine r_iconst i0_241 ?_
        refine r_icF i0_242 (XT.ii_lt_f (by decide)) ?_
        refine r_iload i0_245 rfl ?_
        refine r_iload i0_247 rfl ?_
        refine r_icT i0_249 (XT.ii_ne_t e0) ?_
        refine r_iconst i0_256 ?_
        refine r_istore (ls' := [_, _, _, _, _, _, _, _, _, _, _, _, _, _, _, _, _, _]) i0_257 rfl rfl ?_
        refine r_iload i0_259 rfl ?_
        refine r_iconst i0_261 ?_
        refine r_icF i0_262 (XT.ii_lt_f (by decide)) ?_
        refine r_iload i0_265 rfl ?_
        refine r_iload i0_267 rfl ?_
        refine r_icT i0_269 (XT.ii_ne_t e1) ?_
        refine r_iconst i0_276 ?_
        refine r_istore (ls' := [_, _, _, _, _, _, _, _, _, _, _, _, _, _, _, _, _, _]) i0_277 rfl rfl ?_
        refine r_iload i0_279 rfl ?_
        refine r_iconst i0_281 ?_
        refine r_icF i0_282 (XT.ii_lt_f (by decide)) ?_
        refine r_iload i0_285 rfl ?_
        refine r_iload i0_287 rfl ?_
        refine r_icF i0_289 (XT.ii_ne_f e2) ?_
        refine r_iconst i0_292 ?_
        refine r_goto i0_293 ?_
        refine r_istore (ls' := [_, _, _, _, _, _, _, _, _, _, _, _, _, _, _, _, _, _]) i0_297 rfl rfl ?_
        refine r_iload i0_299 rfl ?_
        refine r_iload i0_301 rfl ?_
        refine r_icF i0_303 (XT.ii_lt_f (by decide)) ?_
        refine r_iload i0_306 rfl ?_
        refine r_ifT i0_308 (XT.i0_eq_t rfl) ?_
        refine r_iconst i0_325 ?_
        refine r_istore (ls' := [_, _, _, _, _, _, _, _, _, _, _, _, _, _, _, _, _, _]) i0_326 rfl rfl ?_
        refine r_aload i0_328 rfl rfl ?_
        refine r_aload i0_330 rfl rfl ?_
        refine s0_332 hw (H1 := [_, _]) (sw330 hw  (h0 := fun z => e0 (z.symm.trans q0))) rfl (leB rfl) ?_
        refine r_iload i0_335 rfl ?_
        refine r_icF i0_337 (XT.ii_ne_f rfl) ?_
        refine r_iconst i0_340 ?_
        refine r_goto i0_341 ?_
        exact r_zreturn i0_345 rfl (by first | decide | simp)
      · skip
        refine r_iload i0_239 rfl ?_
        refine r_iconst i0_241 ?_
        refine r_icF i0_242 (XT.ii_lt_f (by decide)) ?_
        refine r_iload i0_245 rfl ?_
        refine r_iload i0_247 rfl ?_
        refine r_icT i0_249 (XT.ii_ne_t e0) ?_
        refine r_iconst i0_256 ?_
        refine r_istore (ls' := [_, _, _, _, _, _, _, _, _, _, _, _, _, _, _, _, _, _]) i0_257 rfl rfl ?_
        refine r_iload i0_259 rfl ?_
        refine r_iconst i0_261 ?_
        refine r_icF i0_262 (XT.ii_lt_f (by decide)) ?_
        refine r_iload i0_265 rfl ?_
        refine r_iload i0_267 rfl ?_
        refine r_icT i0_269 (XT.ii_ne_t e1) ?_
        refine r_iconst i0_276 ?_
        refine r_istore (ls' := [_, _, _, _, _, _, _, _, _, _, _, _, _, _, _, _, _, _]) i0_277 rfl rfl ?_
        refine r_iload i0_279 rfl ?_
        refine r_iconst i0_281 ?_
        refine r_icF i0_282 (XT.ii_lt_f (by decide)) ?_
        refine r_iload i0_285 rfl ?_
        refine r_iload i0_287 rfl ?_
        refine r_icT i0_289 (XT.ii_ne_t e2) ?_
        refine r_iconst i0_296 ?_
        refine r_istore (ls' := [_, _, _, _, _, _, _, _, _, _, _, _, _, _, _, _, _, _]) i0_297 rfl rfl ?_
        refine r_iload i0_299 rfl ?_
        refine r_iload i0_301 rfl ?_
        refine r_icF i0_303 (XT.ii_lt_f (by decide)) ?_
        refine r_iload i0_306 rfl ?_
        refine r_ifT i0_308 (XT.i0_eq_t rfl) ?_
        refine r_iconst i0_325 ?_
        refine r_istore (ls' := [_, _, _, _, _, _, _, _, _, _, _, _, _, _, _, _, _, _]) i0_326 rfl rfl ?_
        refine r_aload i0_328 rfl rfl ?_
        refine r_aload i0_330 rfl rfl ?_
        refine s0_332 hw (H1 := [_, _]) (sw330 hw  (h0 := fun z => e0 (z.symm.trans q0))) rfl (leB rfl) ?_
        refine r_iload i0_335 rfl ?_
        refine r_icF i0_337 (XT.ii_ne_f rfl) ?_
        refine r_iconst i0_340 ?_
        refine r_goto i0_341 ?_
        exact r_zreturn i0_345 rfl (by first | decide | simp)
set_option maxHeartbeats 4000000 in
theorem law_runs {l : Launch} {Z : State} {a0 : Array Value} {n0 : Nat} (hw : HW Z a0) (p0 : Int32) (p1 : Int32) (p2 : Int32) (p3 : Int32) : RunsB K l Z n0 m0 0 [.val (.int p0), .val (.int p1), .val (.int p2), .val (.int p3), .unset, .unset, .unset, .unset, .unset, .unset, .unset, .unset, .unset, .unset, .unset, .unset, .unset, .unset] [] [] (some (.int 1)) 16 128 := by
  refine lift (fun _ kk => r_iloadN i0_0 rfl kk) ?_
  refine lift (fun _ kk => r_iconst i0_1 kk) ?_
  refine lift (fun _ kk => r_iand i0_2 kk) ?_
  refine lift (fun _ kk => r_istore (ls' := [_, _, _, _, _, _, _, _, _, _, _, _, _, _, _, _, _, _]) i0_3 rfl rfl kk) ?_
  refine lift (fun _ kk => r_iloadN i0_5 rfl kk) ?_
  refine lift (fun _ kk => r_iconst i0_6 kk) ?_
  refine lift (fun _ kk => r_iushr i0_7 kk) ?_
  refine lift (fun _ kk => r_iconst i0_8 kk) ?_
  refine lift (fun _ kk => r_iand i0_9 kk) ?_
  refine lift (fun _ kk => r_istore (ls' := [_, _, _, _, _, _, _, _, _, _, _, _, _, _, _, _, _, _]) i0_10 rfl rfl kk) ?_
  refine lift (fun _ kk => r_iloadN i0_12 rfl kk) ?_
  refine lift (fun _ kk => r_sipush i0_13 kk) ?_
  refine lift (fun _ kk => r_iand i0_16 kk) ?_
  refine lift (fun _ kk => r_istore (ls' := [_, _, _, _, _, _, _, _, _, _, _, _, _, _, _, _, _, _]) i0_17 rfl rfl kk) ?_
  refine lift (fun _ kk => r_iloadN i0_19 rfl kk) ?_
  refine lift (fun _ kk => r_bipush i0_20 kk) ?_
  refine lift (fun _ kk => r_iushr i0_22 kk) ?_
  refine lift (fun _ kk => r_sipush i0_23 kk) ?_
  refine lift (fun _ kk => r_iand i0_26 kk) ?_
  refine lift (fun _ kk => r_istore (ls' := [_, _, _, _, _, _, _, _, _, _, _, _, _, _, _, _, _, _]) i0_27 rfl rfl kk) ?_
  refine lift (fun _ kk => r_iloadN i0_29 rfl kk) ?_
  refine lift (fun _ kk => r_bipush i0_30 kk) ?_
  refine lift (fun _ kk => r_iushr i0_32 kk) ?_
  refine lift (fun _ kk => r_sipush i0_33 kk) ?_
  refine lift (fun _ kk => r_iand i0_36 kk) ?_
  refine lift (fun _ kk => r_istore (ls' := [_, _, _, _, _, _, _, _, _, _, _, _, _, _, _, _, _, _]) i0_37 rfl rfl kk) ?_
  rcases own_3 p0 with h | h | h | h
  · rw [h]
    refine lift (fun _ kk => r_iload i0_39 rfl kk) ?_
    refine lift (fun _ kk => r_ifF i0_41 (XT.i0_ne_f (by decide)) kk) ?_
    refine lift (fun _ kk => r_iconst i0_44 kk) ?_
    refine lift (fun _ kk => s0_45 hw (a := 0) (o := []) (H1 := [_]) (by decide) (by decide) rfl rfl rfl kk) ?_
    refine lift (fun _ kk => r_astore (ls' := [_, _, _, _, _, _, _, _, _, _, _, _, _, _, _, _, _, _]) i0_47 rfl rfl rfl kk) ?_
    refine lift (fun _ kk => r_goto i0_49 kk) ?_
    refine lift (fun _ kk => r_iloadN i0_121 rfl kk) ?_
    refine lift (fun _ kk => r_iconst i0_122 kk) ?_
    refine lift (fun _ kk => r_iand i0_123 kk) ?_
    refine lift (fun _ kk => r_iload i0_124 rfl kk) ?_
    refine lift (fun _ kk => r_iloadN i0_126 rfl kk) ?_
    refine lift (fun _ kk => r_iconst i0_127 kk) ?_
    refine lift (fun _ kk => s0_128 hw (H1 := [_]) (c1 hw _ _ _ _) rfl (leB rfl) kk) ?_
    refine lift (fun _ kk => r_istore (ls' := [_, _, _, _, _, _, _, _, _, _, _, _, _, _, _, _, _, _]) i0_131 rfl rfl kk) ?_
    refine lift (fun _ kk => r_iloadN i0_133 rfl kk) ?_
    refine lift (fun _ kk => r_iconst i0_134 kk) ?_
    refine lift (fun _ kk => r_iushr i0_135 kk) ?_
    refine lift (fun _ kk => r_iconst i0_136 kk) ?_
    refine lift (fun _ kk => r_iand i0_137 kk) ?_
    refine lift (fun _ kk => r_iload i0_138 rfl kk) ?_
    refine lift (fun _ kk => r_iloadN i0_140 rfl kk) ?_
    refine lift (fun _ kk => r_bipush i0_141 kk) ?_
    refine lift (fun _ kk => s0_143 hw (H1 := [_]) (c1 hw _ _ _ _) rfl (leB rfl) kk) ?_
    refine lift (fun _ kk => r_istore (ls' := [_, _, _, _, _, _, _, _, _, _, _, _, _, _, _, _, _, _]) i0_146 rfl rfl kk) ?_
    refine lift (fun _ kk => r_iloadN i0_148 rfl kk) ?_
    refine lift (fun _ kk => r_iconst i0_149 kk) ?_
    refine lift (fun _ kk => r_iushr i0_150 kk) ?_
    refine lift (fun _ kk => r_iconst i0_151 kk) ?_
    refine lift (fun _ kk => r_iand i0_152 kk) ?_
    refine lift (fun _ kk => r_iload i0_153 rfl kk) ?_
    refine lift (fun _ kk => r_iloadN i0_155 rfl kk) ?_
    refine lift (fun _ kk => r_bipush i0_156 kk) ?_
    refine lift (fun _ kk => s0_158 hw (H1 := [_]) (c1 hw _ _ _ _) rfl (leB rfl) kk) ?_
    refine lift (fun _ kk => r_istore (ls' := [_, _, _, _, _, _, _, _, _, _, _, _, _, _, _, _, _, _]) i0_161 rfl rfl kk) ?_
    rcases own_3 (XT.ushr p0 2) with g | g | g | g
    · rw [g]
      refine lift (fun _ kk => r_iload i0_163 rfl kk) ?_
      refine lift (fun _ kk => r_ifF i0_165 (XT.i0_ne_f (by decide)) kk) ?_
      refine lift (fun _ kk => r_iconst i0_168 kk) ?_
      refine lift (fun _ kk => s0_169 hw (a := 1) (o := []) (H1 := [_, _]) (by decide) (by decide) rfl rfl rfl kk) ?_
      refine lift (fun _ kk => r_astore (ls' := [_, _, _, _, _, _, _, _, _, _, _, _, _, _, _, _, _, _]) i0_171 rfl rfl rfl kk) ?_
      refine lift (fun _ kk => r_goto i0_173 kk) ?_
      exact ⟨_, fin00 hw p0 p1 p2 p3 _ _ _ _ _ _ (own_255 _) (own_255 _) (own_255 _), leB rfl, leB rfl⟩
    · rw [g]
      refine lift (fun _ kk => r_iload i0_163 rfl kk) ?_
      refine lift (fun _ kk => r_ifT i0_165 (XT.i0_ne_t (by decide)) kk) ?_
      refine lift (fun _ kk => r_iload i0_176 rfl kk) ?_
      refine lift (fun _ kk => r_iconst i0_178 kk) ?_
      refine lift (fun _ kk => r_icF i0_179 (XT.ii_ne_f (by decide)) kk) ?_
      refine lift (fun _ kk => r_iconst i0_182 kk) ?_
      refine lift (fun _ kk => s0_183 hw (a := 1) (o := [.int 0]) (H1 := [_, _]) (by decide) (by decide) rfl rfl rfl kk) ?_
      refine lift (fun _ kk => r_dup i0_185 rfl kk) ?_
      refine lift (fun _ kk => r_iconst i0_186 kk) ?_
      refine lift (fun _ kk => r_iload i0_187 rfl kk) ?_
      refine lift (fun _ kk => r_iastore (i := 0) (vs' := [_]) (H1 := [_, _]) i0_189 rfl ⟨by decide, by decide⟩ (ltB rfl) rfl rfl kk) ?_
      refine lift (fun _ kk => r_astore (ls' := [_, _, _, _, _, _, _, _, _, _, _, _, _, _, _, _, _, _]) i0_190 rfl rfl rfl kk) ?_
      refine lift (fun _ kk => r_goto i0_192 kk) ?_
      exact ⟨_, fin01 hw p0 p1 p2 p3 _ _ _ _ _ _ (own_255 _) (own_255 _) (own_255 _), leB rfl, leB rfl⟩
    · rw [g]
      refine lift (fun _ kk => r_iload i0_163 rfl kk) ?_
      refine lift (fun _ kk => r_ifT i0_165 (XT.i0_ne_t (by decide)) kk) ?_
      refine lift (fun _ kk => r_iload i0_176 rfl kk) ?_
      refine lift (fun _ kk => r_iconst i0_178 kk) ?_
      refine lift (fun _ kk => r_icT i0_179 (XT.ii_ne_t (by decide)) kk) ?_
      refine lift (fun _ kk => r_iload i0_195 rfl kk) ?_
      refine lift (fun _ kk => r_iconst i0_197 kk) ?_
      refine lift (fun _ kk => r_icF i0_198 (XT.ii_ne_f (by decide)) kk) ?_
      refine lift (fun _ kk => r_iconst i0_201 kk) ?_
      refine lift (fun _ kk => s0_202 hw (a := 1) (o := [.int 0, .int 0]) (H1 := [_, _]) (by decide) (by decide) rfl rfl rfl kk) ?_
      refine lift (fun _ kk => r_dup i0_204 rfl kk) ?_
      refine lift (fun _ kk => r_iconst i0_205 kk) ?_
      refine lift (fun _ kk => r_iload i0_206 rfl kk) ?_
      refine lift (fun _ kk => r_iastore (i := 0) (vs' := [_, _]) (H1 := [_, _]) i0_208 rfl ⟨by decide, by decide⟩ (ltB rfl) rfl rfl kk) ?_
      refine lift (fun _ kk => r_dup i0_209 rfl kk) ?_
      refine lift (fun _ kk => r_iconst i0_210 kk) ?_
      refine lift (fun _ kk => r_iload i0_211 rfl kk) ?_
      refine lift (fun _ kk => r_iastore (i := 1) (vs' := [_, _]) (H1 := [_, _]) i0_213 rfl ⟨by decide, by decide⟩ (ltB rfl) rfl rfl kk) ?_
      refine lift (fun _ kk => r_astore (ls' := [_, _, _, _, _, _, _, _, _, _, _, _, _, _, _, _, _, _]) i0_214 rfl rfl rfl kk) ?_
      refine lift (fun _ kk => r_goto i0_216 kk) ?_
      exact ⟨_, fin02 hw p0 p1 p2 p3 _ _ _ _ _ _ (own_255 _) (own_255 _) (own_255 _), leB rfl, leB rfl⟩
    · rw [g]
      refine lift (fun _ kk => r_iload i0_163 rfl kk) ?_
      refine lift (fun _ kk => r_ifT i0_165 (XT.i0_ne_t (by decide)) kk) ?_
      refine lift (fun _ kk => r_iload i0_176 rfl kk) ?_
      refine lift (fun _ kk => r_iconst i0_178 kk) ?_
      refine lift (fun _ kk => r_icT i0_179 (XT.ii_ne_t (by decide)) kk) ?_
      refine lift (fun _ kk => r_iload i0_195 rfl kk) ?_
      refine lift (fun _ kk => r_iconst i0_197 kk) ?_
      refine lift (fun _ kk => r_icT i0_198 (XT.ii_ne_t (by decide)) kk) ?_
      refine lift (fun _ kk => r_iconst i0_219 kk) ?_
      refine lift (fun _ kk => s0_220 hw (a := 1) (o := [.int 0, .int 0, .int 0]) (H1 := [_, _]) (by decide) (by decide) rfl rfl rfl kk) ?_
      refine lift (fun _ kk => r_dup i0_222 rfl kk) ?_
      refine lift (fun _ kk => r_iconst i0_223 kk) ?_
      refine lift (fun _ kk => r_iload i0_224 rfl kk) ?_
      refine lift (fun _ kk => r_iastore (i := 0) (vs' := [_, _, _]) (H1 := [_, _]) i0_226 rfl ⟨by decide, by decide⟩ (ltB rfl) rfl rfl kk) ?_
      refine lift (fun _ kk => r_dup i0_227 rfl kk) ?_
      refine lift (fun _ kk => r_iconst i0_228 kk) ?_
      refine lift (fun _ kk => r_iload i0_229 rfl kk) ?_
      refine lift (fun _ kk => r_iastore (i := 1) (vs' := [_, _, _]) (H1 := [_, _]) i0_231 rfl ⟨by decide, by decide⟩ (ltB rfl) rfl rfl kk) ?_
      refine lift (fun _ kk => r_dup i0_232 rfl kk) ?_
      refine lift (fun _ kk => r_iconst i0_233 kk) ?_
      refine lift (fun _ kk => r_iload i0_234 rfl kk) ?_
      refine lift (fun _ kk => r_iastore (i := 2) (vs' := [_, _, _]) (H1 := [_, _]) i0_236 rfl ⟨by decide, by decide⟩ (ltB rfl) rfl rfl kk) ?_
      refine lift (fun _ kk => r_astore (ls' := [_, _, _, _, _, _, _, _, _, _, _, _, _, _, _, _, _, _]) i0_237 rfl rfl rfl kk) ?_
      exact ⟨_, fin03 hw p0 p1 p2 p3 _ _ _ _ _ _ (own_255 _) (own_255 _) (own_255 _), leB rfl, leB rfl⟩
  · rw [h]
    refine lift (fun _ kk => r_iload i0_39 rfl kk) ?_
    refine lift (fun _ kk => r_ifT i0_41 (XT.i0_ne_t (by decide)) kk) ?_
    refine lift (fun _ kk => r_iload i0_52 rfl kk) ?_
    refine lift (fun _ kk => r_iconst i0_54 kk) ?_
    refine lift (fun _ kk => r_icF i0_55 (XT.ii_ne_f (by decide)) kk) ?_
    refine lift (fun _ kk => r_iconst i0_58 kk) ?_
    refine lift (fun _ kk => s0_59 hw (a := 0) (o := [.int 0]) (H1 := [_]) (by decide) (by decide) rfl rfl rfl kk) ?_
    refine lift (fun _ kk => r_dup i0_61 rfl kk) ?_
    refine lift (fun _ kk => r_iconst i0_62 kk) ?_
    refine lift (fun _ kk => r_iload i0_63 rfl kk) ?_
    refine lift (fun _ kk => r_i2b i0_65 kk) ?_
    refine lift (fun _ kk => r_bastore (i := 0) (vs' := [_]) (H1 := [_]) i0_66 rfl ⟨by decide, by decide⟩ (ltB rfl) rfl rfl kk) ?_
    refine lift (fun _ kk => r_astore (ls' := [_, _, _, _, _, _, _, _, _, _, _, _, _, _, _, _, _, _]) i0_67 rfl rfl rfl kk) ?_
    refine lift (fun _ kk => r_goto i0_69 kk) ?_
    refine lift (fun _ kk => r_iloadN i0_121 rfl kk) ?_
    refine lift (fun _ kk => r_iconst i0_122 kk) ?_
    refine lift (fun _ kk => r_iand i0_123 kk) ?_
    refine lift (fun _ kk => r_iload i0_124 rfl kk) ?_
    refine lift (fun _ kk => r_iloadN i0_126 rfl kk) ?_
    refine lift (fun _ kk => r_iconst i0_127 kk) ?_
    refine lift (fun _ kk => s0_128 hw (H1 := [_]) (c1 hw _ _ _ _) rfl (leB rfl) kk) ?_
    refine lift (fun _ kk => r_istore (ls' := [_, _, _, _, _, _, _, _, _, _, _, _, _, _, _, _, _, _]) i0_131 rfl rfl kk) ?_
    refine lift (fun _ kk => r_iloadN i0_133 rfl kk) ?_
    refine lift (fun _ kk => r_iconst i0_134 kk) ?_
    refine lift (fun _ kk => r_iushr i0_135 kk) ?_
    refine lift (fun _ kk => r_iconst i0_136 kk) ?_
    refine lift (fun _ kk => r_iand i0_137 kk) ?_
    refine lift (fun _ kk => r_iload i0_138 rfl kk) ?_
    refine lift (fun _ kk => r_iloadN i0_140 rfl kk) ?_
    refine lift (fun _ kk => r_bipush i0_141 kk) ?_
    refine lift (fun _ kk => s0_143 hw (H1 := [_]) (c1 hw _ _ _ _) rfl (leB rfl) kk) ?_
    refine lift (fun _ kk => r_istore (ls' := [_, _, _, _, _, _, _, _, _, _, _, _, _, _, _, _, _, _]) i0_146 rfl rfl kk) ?_
    refine lift (fun _ kk => r_iloadN i0_148 rfl kk) ?_
    refine lift (fun _ kk => r_iconst i0_149 kk) ?_
    refine lift (fun _ kk => r_iushr i0_150 kk) ?_
    refine lift (fun _ kk => r_iconst i0_151 kk) ?_
    refine lift (fun _ kk => r_iand i0_152 kk) ?_
    refine lift (fun _ kk => r_iload i0_153 rfl kk) ?_
    refine lift (fun _ kk => r_iloadN i0_155 rfl kk) ?_
    refine lift (fun _ kk => r_bipush i0_156 kk) ?_
    refine lift (fun _ kk => s0_158 hw (H1 := [_]) (c1 hw _ _ _ _) rfl (leB rfl) kk) ?_
    refine lift (fun _ kk => r_istore (ls' := [_, _, _, _, _, _, _, _, _, _, _, _, _, _, _, _, _, _]) i0_161 rfl rfl kk) ?_
    rcases own_3 (XT.ushr p0 2) with g | g | g | g
    · rw [g]
      refine lift (fun _ kk => r_iload i0_163 rfl kk) ?_
      refine lift (fun _ kk => r_ifF i0_165 (XT.i0_ne_f (by decide)) kk) ?_
      refine lift (fun _ kk => r_iconst i0_168 kk) ?_
      refine lift (fun _ kk => s0_169 hw (a := 1) (o := []) (H1 := [_, _]) (by decide) (by decide) rfl rfl rfl kk) ?_
      refine lift (fun _ kk => r_astore (ls' := [_, _, _, _, _, _, _, _, _, _, _, _, _, _, _, _, _, _]) i0_171 rfl rfl rfl kk) ?_
      refine lift (fun _ kk => r_goto i0_173 kk) ?_
      exact ⟨_, fin10 hw p0 p1 p2 p3 _ _ _ _ _ _ (own_255 _) (own_255 _) (own_255 _), leB rfl, leB rfl⟩
    · rw [g]
      refine lift (fun _ kk => r_iload i0_163 rfl kk) ?_
      refine lift (fun _ kk => r_ifT i0_165 (XT.i0_ne_t (by decide)) kk) ?_
      refine lift (fun _ kk => r_iload i0_176 rfl kk) ?_
      refine lift (fun _ kk => r_iconst i0_178 kk) ?_
      refine lift (fun _ kk => r_icF i0_179 (XT.ii_ne_f (by decide)) kk) ?_
      refine lift (fun _ kk => r_iconst i0_182 kk) ?_
      refine lift (fun _ kk => s0_183 hw (a := 1) (o := [.int 0]) (H1 := [_, _]) (by decide) (by decide) rfl rfl rfl kk) ?_
      refine lift (fun _ kk => r_dup i0_185 rfl kk) ?_
      refine lift (fun _ kk => r_iconst i0_186 kk) ?_
      refine lift (fun _ kk => r_iload i0_187 rfl kk) ?_
      refine lift (fun _ kk => r_iastore (i := 0) (vs' := [_]) (H1 := [_, _]) i0_189 rfl ⟨by decide, by decide⟩ (ltB rfl) rfl rfl kk) ?_
      refine lift (fun _ kk => r_astore (ls' := [_, _, _, _, _, _, _, _, _, _, _, _, _, _, _, _, _, _]) i0_190 rfl rfl rfl kk) ?_
      refine lift (fun _ kk => r_goto i0_192 kk) ?_
      exact ⟨_, fin11 hw p0 p1 p2 p3 _ _ _ _ _ _ (own_255 _) (own_255 _) (own_255 _), leB rfl, leB rfl⟩
    · rw [g]
      refine lift (fun _ kk => r_iload i0_163 rfl kk) ?_
      refine lift (fun _ kk => r_ifT i0_165 (XT.i0_ne_t (by decide)) kk) ?_
      refine lift (fun _ kk => r_iload i0_176 rfl kk) ?_
      refine lift (fun _ kk => r_iconst i0_178 kk) ?_
      refine lift (fun _ kk => r_icT i0_179 (XT.ii_ne_t (by decide)) kk) ?_
      refine lift (fun _ kk => r_iload i0_195 rfl kk) ?_
      refine lift (fun _ kk => r_iconst i0_197 kk) ?_
      refine lift (fun _ kk => r_icF i0_198 (XT.ii_ne_f (by decide)) kk) ?_
      refine lift (fun _ kk => r_iconst i0_201 kk) ?_
      refine lift (fun _ kk => s0_202 hw (a := 1) (o := [.int 0, .int 0]) (H1 := [_, _]) (by decide) (by decide) rfl rfl rfl kk) ?_
      refine lift (fun _ kk => r_dup i0_204 rfl kk) ?_
      refine lift (fun _ kk => r_iconst i0_205 kk) ?_
      refine lift (fun _ kk => r_iload i0_206 rfl kk) ?_
      refine lift (fun _ kk => r_iastore (i := 0) (vs' := [_, _]) (H1 := [_, _]) i0_208 rfl ⟨by decide, by decide⟩ (ltB rfl) rfl rfl kk) ?_
      refine lift (fun _ kk => r_dup i0_209 rfl kk) ?_
      refine lift (fun _ kk => r_iconst i0_210 kk) ?_
      refine lift (fun _ kk => r_iload i0_211 rfl kk) ?_
      refine lift (fun _ kk => r_iastore (i := 1) (vs' := [_, _]) (H1 := [_, _]) i0_213 rfl ⟨by decide, by decide⟩ (ltB rfl) rfl rfl kk) ?_
      refine lift (fun _ kk => r_astore (ls' := [_, _, _, _, _, _, _, _, _, _, _, _, _, _, _, _, _, _]) i0_214 rfl rfl rfl kk) ?_
      refine lift (fun _ kk => r_goto i0_216 kk) ?_
      exact ⟨_, fin12 hw p0 p1 p2 p3 _ _ _ _ _ _ (own_255 _) (own_255 _) (own_255 _), leB rfl, leB rfl⟩
    · rw [g]
      refine lift (fun _ kk => r_iload i0_163 rfl kk) ?_
      refine lift (fun _ kk => r_ifT i0_165 (XT.i0_ne_t (by decide)) kk) ?_
      refine lift (fun _ kk => r_iload i0_176 rfl kk) ?_
      refine lift (fun _ kk => r_iconst i0_178 kk) ?_
      refine lift (fun _ kk => r_icT i0_179 (XT.ii_ne_t (by decide)) kk) ?_
      refine lift (fun _ kk => r_iload i0_195 rfl kk) ?_
      refine lift (fun _ kk => r_iconst i0_197 kk) ?_
      refine lift (fun _ kk => r_icT i0_198 (XT.ii_ne_t (by decide)) kk) ?_
      refine lift (fun _ kk => r_iconst i0_219 kk) ?_
      refine lift (fun _ kk => s0_220 hw (a := 1) (o := [.int 0, .int 0, .int 0]) (H1 := [_, _]) (by decide) (by decide) rfl rfl rfl kk) ?_
      refine lift (fun _ kk => r_dup i0_222 rfl kk) ?_
      refine lift (fun _ kk => r_iconst i0_223 kk) ?_
      refine lift (fun _ kk => r_iload i0_224 rfl kk) ?_
      refine lift (fun _ kk => r_iastore (i := 0) (vs' := [_, _, _]) (H1 := [_, _]) i0_226 rfl ⟨by decide, by decide⟩ (ltB rfl) rfl rfl kk) ?_
      refine lift (fun _ kk => r_dup i0_227 rfl kk) ?_
      refine lift (fun _ kk => r_iconst i0_228 kk) ?_
      refine lift (fun _ kk => r_iload i0_229 rfl kk) ?_
      refine lift (fun _ kk => r_iastore (i := 1) (vs' := [_, _, _]) (H1 := [_, _]) i0_231 rfl ⟨by decide, by decide⟩ (ltB rfl) rfl rfl kk) ?_
      refine lift (fun _ kk => r_dup i0_232 rfl kk) ?_
      refine lift (fun _ kk => r_iconst i0_233 kk) ?_
      refine lift (fun _ kk => r_iload i0_234 rfl kk) ?_
      refine lift (fun _ kk => r_iastore (i := 2) (vs' := [_, _, _]) (H1 := [_, _]) i0_236 rfl ⟨by decide, by decide⟩ (ltB rfl) rfl rfl kk) ?_
      refine lift (fun _ kk => r_astore (ls' := [_, _, _, _, _, _, _, _, _, _, _, _, _, _, _, _, _, _]) i0_237 rfl rfl rfl kk) ?_
      exact ⟨_, fin13 hw p0 p1 p2 p3 _ _ _ _ _ _ (own_255 _) (own_255 _) (own_255 _), leB rfl, leB rfl⟩
  · rw [h]
    refine lift (fun _ kk => r_iload i0_39 rfl kk) ?_
    refine lift (fun _ kk => r_ifT i0_41 (XT.i0_ne_t (by decide)) kk) ?_
    refine lift (fun _ kk => r_iload i0_52 rfl kk) ?_
    refine lift (fun _ kk => r_iconst i0_54 kk) ?_
    refine lift (fun _ kk => r_icT i0_55 (XT.ii_ne_t (by decide)) kk) ?_
    refine lift (fun _ kk => r_iload i0_72 rfl kk) ?_
    refine lift (fun _ kk => r_iconst i0_74 kk) ?_
    refine lift (fun _ kk => r_icF i0_75 (XT.ii_ne_f (by decide)) kk) ?_
    refine lift (fun _ kk => r_iconst i0_78 kk) ?_
    refine lift (fun _ kk => s0_79 hw (a := 0) (o := [.int 0, .int 0]) (H1 := [_]) (by decide) (by decide) rfl rfl rfl kk) ?_
    refine lift (fun _ kk => r_dup i0_81 rfl kk) ?_
    refine lift (fun _ kk => r_iconst i0_82 kk) ?_
    refine lift (fun _ kk => r_iload i0_83 rfl kk) ?_
    refine lift (fun _ kk => r_i2b i0_85 kk) ?_
    refine lift (fun _ kk => r_bastore (i := 0) (vs' := [_, _]) (H1 := [_]) i0_86 rfl ⟨by decide, by decide⟩ (ltB rfl) rfl rfl kk) ?_
    refine lift (fun _ kk => r_dup i0_87 rfl kk) ?_
    refine lift (fun _ kk => r_iconst i0_88 kk) ?_
    refine lift (fun _ kk => r_iload i0_89 rfl kk) ?_
    refine lift (fun _ kk => r_i2b i0_91 kk) ?_
    refine lift (fun _ kk => r_bastore (i := 1) (vs' := [_, _]) (H1 := [_]) i0_92 rfl ⟨by decide, by decide⟩ (ltB rfl) rfl rfl kk) ?_
    refine lift (fun _ kk => r_astore (ls' := [_, _, _, _, _, _, _, _, _, _, _, _, _, _, _, _, _, _]) i0_93 rfl rfl rfl kk) ?_
    refine lift (fun _ kk => r_goto i0_95 kk) ?_
    refine lift (fun _ kk => r_iloadN i0_121 rfl kk) ?_
    refine lift (fun _ kk => r_iconst i0_122 kk) ?_
    refine lift (fun _ kk => r_iand i0_123 kk) ?_
    refine lift (fun _ kk => r_iload i0_124 rfl kk) ?_
    refine lift (fun _ kk => r_iloadN i0_126 rfl kk) ?_
    refine lift (fun _ kk => r_iconst i0_127 kk) ?_
    refine lift (fun _ kk => s0_128 hw (H1 := [_]) (c1 hw _ _ _ _) rfl (leB rfl) kk) ?_
    refine lift (fun _ kk => r_istore (ls' := [_, _, _, _, _, _, _, _, _, _, _, _, _, _, _, _, _, _]) i0_131 rfl rfl kk) ?_
    refine lift (fun _ kk => r_iloadN i0_133 rfl kk) ?_
    refine lift (fun _ kk => r_iconst i0_134 kk) ?_
    refine lift (fun _ kk => r_iushr i0_135 kk) ?_
    refine lift (fun _ kk => r_iconst i0_136 kk) ?_
    refine lift (fun _ kk => r_iand i0_137 kk) ?_
    refine lift (fun _ kk => r_iload i0_138 rfl kk) ?_
    refine lift (fun _ kk => r_iloadN i0_140 rfl kk) ?_
    refine lift (fun _ kk => r_bipush i0_141 kk) ?_
    refine lift (fun _ kk => s0_143 hw (H1 := [_]) (c1 hw _ _ _ _) rfl (leB rfl) kk) ?_
    refine lift (fun _ kk => r_istore (ls' := [_, _, _, _, _, _, _, _, _, _, _, _, _, _, _, _, _, _]) i0_146 rfl rfl kk) ?_
    refine lift (fun _ kk => r_iloadN i0_148 rfl kk) ?_
    refine lift (fun _ kk => r_iconst i0_149 kk) ?_
    refine lift (fun _ kk => r_iushr i0_150 kk) ?_
    refine lift (fun _ kk => r_iconst i0_151 kk) ?_
    refine lift (fun _ kk => r_iand i0_152 kk) ?_
    refine lift (fun _ kk => r_iload i0_153 rfl kk) ?_
    refine lift (fun _ kk => r_iloadN i0_155 rfl kk) ?_
    refine lift (fun _ kk => r_bipush i0_156 kk) ?_
    refine lift (fun _ kk => s0_158 hw (H1 := [_]) (c1 hw _ _ _ _) rfl (leB rfl) kk) ?_
    refine lift (fun _ kk => r_istore (ls' := [_, _, _, _, _, _, _, _, _, _, _, _, _, _, _, _, _, _]) i0_161 rfl rfl kk) ?_
    rcases own_3 (XT.ushr p0 2) with g | g | g | g
    · rw [g]
      refine lift (fun _ kk => r_iload i0_163 rfl kk) ?_
      refine lift (fun _ kk => r_ifF i0_165 (XT.i0_ne_f (by decide)) kk) ?_
      refine lift (fun _ kk => r_iconst i0_168 kk) ?_
      refine lift (fun _ kk => s0_169 hw (a := 1) (o := []) (H1 := [_, _]) (by decide) (by decide) rfl rfl rfl kk) ?_
      refine lift (fun _ kk => r_astore (ls' := [_, _, _, _, _, _, _, _, _, _, _, _, _, _, _, _, _, _]) i0_171 rfl rfl rfl kk) ?_
      refine lift (fun _ kk => r_goto i0_173 kk) ?_
      exact ⟨_, fin20 hw p0 p1 p2 p3 _ _ _ _ _ _ (own_255 _) (own_255 _) (own_255 _), leB rfl, leB rfl⟩
    · rw [g]
      refine lift (fun _ kk => r_iload i0_163 rfl kk) ?_
      refine lift (fun _ kk => r_ifT i0_165 (XT.i0_ne_t (by decide)) kk) ?_
      refine lift (fun _ kk => r_iload i0_176 rfl kk) ?_
      refine lift (fun _ kk => r_iconst i0_178 kk) ?_
      refine lift (fun _ kk => r_icF i0_179 (XT.ii_ne_f (by decide)) kk) ?_
      refine lift (fun _ kk => r_iconst i0_182 kk) ?_
      refine lift (fun _ kk => s0_183 hw (a := 1) (o := [.int 0]) (H1 := [_, _]) (by decide) (by decide) rfl rfl rfl kk) ?_
      refine lift (fun _ kk => r_dup i0_185 rfl kk) ?_
      refine lift (fun _ kk => r_iconst i0_186 kk) ?_
      refine lift (fun _ kk => r_iload i0_187 rfl kk) ?_
      refine lift (fun _ kk => r_iastore (i := 0) (vs' := [_]) (H1 := [_, _]) i0_189 rfl ⟨by decide, by decide⟩ (ltB rfl) rfl rfl kk) ?_
      refine lift (fun _ kk => r_astore (ls' := [_, _, _, _, _, _, _, _, _, _, _, _, _, _, _, _, _, _]) i0_190 rfl rfl rfl kk) ?_
      refine lift (fun _ kk => r_goto i0_192 kk) ?_
      exact ⟨_, fin21 hw p0 p1 p2 p3 _ _ _ _ _ _ (own_255 _) (own_255 _) (own_255 _), leB rfl, leB rfl⟩
    · rw [g]
      refine lift (fun _ kk => r_iload i0_163 rfl kk) ?_
      refine lift (fun _ kk => r_ifT i0_165 (XT.i0_ne_t (by decide)) kk) ?_
      refine lift (fun _ kk => r_iload i0_176 rfl kk) ?_
      refine lift (fun _ kk => r_iconst i0_178 kk) ?_
      refine lift (fun _ kk => r_icT i0_179 (XT.ii_ne_t (by decide)) kk) ?_
      refine lift (fun _ kk => r_iload i0_195 rfl kk) ?_
      refine lift (fun _ kk => r_iconst i0_197 kk) ?_
      refine lift (fun _ kk => r_icF i0_198 (XT.ii_ne_f (by decide)) kk) ?_
      refine lift (fun _ kk => r_iconst i0_201 kk) ?_
      refine lift (fun _ kk => s0_202 hw (a := 1) (o := [.int 0, .int 0]) (H1 := [_, _]) (by decide) (by decide) rfl rfl rfl kk) ?_
      refine lift (fun _ kk => r_dup i0_204 rfl kk) ?_
      refine lift (fun _ kk => r_iconst i0_205 kk) ?_
      refine lift (fun _ kk => r_iload i0_206 rfl kk) ?_
      refine lift (fun _ kk => r_iastore (i := 0) (vs' := [_, _]) (H1 := [_, _]) i0_208 rfl ⟨by decide, by decide⟩ (ltB rfl) rfl rfl kk) ?_
      refine lift (fun _ kk => r_dup i0_209 rfl kk) ?_
      refine lift (fun _ kk => r_iconst i0_210 kk) ?_
      refine lift (fun _ kk => r_iload i0_211 rfl kk) ?_
      refine lift (fun _ kk => r_iastore (i := 1) (vs' := [_, _]) (H1 := [_, _]) i0_213 rfl ⟨by decide, by decide⟩ (ltB rfl) rfl rfl kk) ?_
      refine lift (fun _ kk => r_astore (ls' := [_, _, _, _, _, _, _, _, _, _, _, _, _, _, _, _, _, _]) i0_214 rfl rfl rfl kk) ?_
      refine lift (fun _ kk => r_goto i0_216 kk) ?_
      exact ⟨_, fin22 hw p0 p1 p2 p3 _ _ _ _ _ _ (own_255 _) (own_255 _) (own_255 _), leB rfl, leB rfl⟩
    · rw [g]
      refine lift (fun _ kk => r_iload i0_163 rfl kk) ?_
      refine lift (fun _ kk => r_ifT i0_165 (XT.i0_ne_t (by decide)) kk) ?_
      refine lift (fun _ kk => r_iload i0_176 rfl kk) ?_
      refine lift (fun _ kk => r_iconst i0_178 kk) ?_
      refine lift (fun _ kk => r_icT i0_179 (XT.ii_ne_t (by decide)) kk) ?_
      refine lift (fun _ kk => r_iload i0_195 rfl kk) ?_
      refine lift (fun _ kk => r_iconst i0_197 kk) ?_
      refine lift (fun _ kk => r_icT i0_198 (XT.ii_ne_t (by decide)) kk) ?_
      refine lift (fun _ kk => r_iconst i0_219 kk) ?_
      refine lift (fun _ kk => s0_220 hw (a := 1) (o := [.int 0, .int 0, .int 0]) (H1 := [_, _]) (by decide) (by decide) rfl rfl rfl kk) ?_
      refine lift (fun _ kk => r_dup i0_222 rfl kk) ?_
      refine lift (fun _ kk => r_iconst i0_223 kk) ?_
      refine lift (fun _ kk => r_iload i0_224 rfl kk) ?_
      refine lift (fun _ kk => r_iastore (i := 0) (vs' := [_, _, _]) (H1 := [_, _]) i0_226 rfl ⟨by decide, by decide⟩ (ltB rfl) rfl rfl kk) ?_
      refine lift (fun _ kk => r_dup i0_227 rfl kk) ?_
      refine lift (fun _ kk => r_iconst i0_228 kk) ?_
      refine lift (fun _ kk => r_iload i0_229 rfl kk) ?_
      refine lift (fun _ kk => r_iastore (i := 1) (vs' := [_, _, _]) (H1 := [_, _]) i0_231 rfl ⟨by decide, by decide⟩ (ltB rfl) rfl rfl kk) ?_
      refine lift (fun _ kk => r_dup i0_232 rfl kk) ?_
      refine lift (fun _ kk => r_iconst i0_233 kk) ?_
      refine lift (fun _ kk => r_iload i0_234 rfl kk) ?_
      refine lift (fun _ kk => r_iastore (i := 2) (vs' := [_, _, _]) (H1 := [_, _]) i0_236 rfl ⟨by decide, by decide⟩ (ltB rfl) rfl rfl kk) ?_
      refine lift (fun _ kk => r_astore (ls' := [_, _, _, _, _, _, _, _, _, _, _, _, _, _, _, _, _, _]) i0_237 rfl rfl rfl kk) ?_
      exact ⟨_, fin23 hw p0 p1 p2 p3 _ _ _ _ _ _ (own_255 _) (own_255 _) (own_255 _), leB rfl, leB rfl⟩
  · rw [h]
    refine lift (fun _ kk => r_iload i0_39 rfl kk) ?_
    refine lift (fun _ kk => r_ifT i0_41 (XT.i0_ne_t (by decide)) kk) ?_
    refine lift (fun _ kk => r_iload i0_52 rfl kk) ?_
    refine lift (fun _ kk => r_iconst i0_54 kk) ?_
    refine lift (fun _ kk => r_icT i0_55 (XT.ii_ne_t (by decide)) kk) ?_
    refine lift (fun _ kk => r_iload i0_72 rfl kk) ?_
    refine lift (fun _ kk => r_iconst i0_74 kk) ?_
    refine lift (fun _ kk => r_icT i0_75 (XT.ii_ne_t (by decide)) kk) ?_
    refine lift (fun _ kk => r_iconst i0_98 kk) ?_
    refine lift (fun _ kk => s0_99 hw (a := 0) (o := [.int 0, .int 0, .int 0]) (H1 := [_]) (by decide) (by decide) rfl rfl rfl kk) ?_
    refine lift (fun _ kk => r_dup i0_101 rfl kk) ?_
    refine lift (fun _ kk => r_iconst i0_102 kk) ?_
    refine lift (fun _ kk => r_iload i0_103 rfl kk) ?_
    refine lift (fun _ kk => r_i2b i0_105 kk) ?_
    refine lift (fun _ kk => r_bastore (i := 0) (vs' := [_, _, _]) (H1 := [_]) i0_106 rfl ⟨by decide, by decide⟩ (ltB rfl) rfl rfl kk) ?_
    refine lift (fun _ kk => r_dup i0_107 rfl kk) ?_
    refine lift (fun _ kk => r_iconst i0_108 kk) ?_
    refine lift (fun _ kk => r_iload i0_109 rfl kk) ?_
    refine lift (fun _ kk => r_i2b i0_111 kk) ?_
    refine lift (fun _ kk => r_bastore (i := 1) (vs' := [_, _, _]) (H1 := [_]) i0_112 rfl ⟨by decide, by decide⟩ (ltB rfl) rfl rfl kk) ?_
    refine lift (fun _ kk => r_dup i0_113 rfl kk) ?_
    refine lift (fun _ kk => r_iconst i0_114 kk) ?_
    refine lift (fun _ kk => r_iload i0_115 rfl kk) ?_
    refine lift (fun _ kk => r_i2b i0_117 kk) ?_
    refine lift (fun _ kk => r_bastore (i := 2) (vs' := [_, _, _]) (H1 := [_]) i0_118 rfl ⟨by decide, by decide⟩ (ltB rfl) rfl rfl kk) ?_
    refine lift (fun _ kk => r_astore (ls' := [_, _, _, _, _, _, _, _, _, _, _, _, _, _, _, _, _, _]) i0_119 rfl rfl rfl kk) ?_
    refine lift (fun _ kk => r_iloadN i0_121 rfl kk) ?_
    refine lift (fun _ kk => r_iconst i0_122 kk) ?_
    refine lift (fun _ kk => r_iand i0_123 kk) ?_
    refine lift (fun _ kk => r_iload i0_124 rfl kk) ?_
    refine lift (fun _ kk => r_iloadN i0_126 rfl kk) ?_
    refine lift (fun _ kk => r_iconst i0_127 kk) ?_
    refine lift (fun _ kk => s0_128 hw (H1 := [_]) (c1 hw _ _ _ _) rfl (leB rfl) kk) ?_
    refine lift (fun _ kk => r_istore (ls' := [_, _, _, _, _, _, _, _, _, _, _, _, _, _, _, _, _, _]) i0_131 rfl rfl kk) ?_
    refine lift (fun _ kk => r_iloadN i0_133 rfl kk) ?_
    refine lift (fun _ kk => r_iconst i0_134 kk) ?_
    refine lift (fun _ kk => r_iushr i0_135 kk) ?_
    refine lift (fun _ kk => r_iconst i0_136 kk) ?_
    refine lift (fun _ kk => r_iand i0_137 kk) ?_
    refine lift (fun _ kk => r_iload i0_138 rfl kk) ?_
    refine lift (fun _ kk => r_iloadN i0_140 rfl kk) ?_
    refine lift (fun _ kk => r_bipush i0_141 kk) ?_
    refine lift (fun _ kk => s0_143 hw (H1 := [_]) (c1 hw _ _ _ _) rfl (leB rfl) kk) ?_
    refine lift (fun _ kk => r_istore (ls' := [_, _, _, _, _, _, _, _, _, _, _, _, _, _, _, _, _, _]) i0_146 rfl rfl kk) ?_
    refine lift (fun _ kk => r_iloadN i0_148 rfl kk) ?_
    refine lift (fun _ kk => r_iconst i0_149 kk) ?_
    refine lift (fun _ kk => r_iushr i0_150 kk) ?_
    refine lift (fun _ kk => r_iconst i0_151 kk) ?_
    refine lift (fun _ kk => r_iand i0_152 kk) ?_
    refine lift (fun _ kk => r_iload i0_153 rfl kk) ?_
    refine lift (fun _ kk => r_iloadN i0_155 rfl kk) ?_
    refine lift (fun _ kk => r_bipush i0_156 kk) ?_
    refine lift (fun _ kk => s0_158 hw (H1 := [_]) (c1 hw _ _ _ _) rfl (leB rfl) kk) ?_
    refine lift (fun _ kk => r_istore (ls' := [_, _, _, _, _, _, _, _, _, _, _, _, _, _, _, _, _, _]) i0_161 rfl rfl kk) ?_
    rcases own_3 (XT.ushr p0 2) with g | g | g | g
    · rw [g]
      refine lift (fun _ kk => r_iload i0_163 rfl kk) ?_
      refine lift (fun _ kk => r_ifF i0_165 (XT.i0_ne_f (by decide)) kk) ?_
      refine lift (fun _ kk => r_iconst i0_168 kk) ?_
      refine lift (fun _ kk => s0_169 hw (a := 1) (o := []) (H1 := [_, _]) (by decide) (by decide) rfl rfl rfl kk) ?_
      refine lift (fun _ kk => r_astore (ls' := [_, _, _, _, _, _, _, _, _, _, _, _, _, _, _, _, _, _]) i0_171 rfl rfl rfl kk) ?_
      refine lift (fun _ kk => r_goto i0_173 kk) ?_
      exact ⟨_, fin30 hw p0 p1 p2 p3 _ _ _ _ _ _ (own_255 _) (own_255 _) (own_255 _), leB rfl, leB rfl⟩
    · rw [g]
      refine lift (fun _ kk => r_iload i0_163 rfl kk) ?_
      refine lift (fun _ kk => r_ifT i0_165 (XT.i0_ne_t (by decide)) kk) ?_
      refine lift (fun _ kk => r_iload i0_176 rfl kk) ?_
      refine lift (fun _ kk => r_iconst i0_178 kk) ?_
      refine lift (fun _ kk => r_icF i0_179 (XT.ii_ne_f (by decide)) kk) ?_
      refine lift (fun _ kk => r_iconst i0_182 kk) ?_
      refine lift (fun _ kk => s0_183 hw (a := 1) (o := [.int 0]) (H1 := [_, _]) (by decide) (by decide) rfl rfl rfl kk) ?_
      refine lift (fun _ kk => r_dup i0_185 rfl kk) ?_
      refine lift (fun _ kk => r_iconst i0_186 kk) ?_
      refine lift (fun _ kk => r_iload i0_187 rfl kk) ?_
      refine lift (fun _ kk => r_iastore (i := 0) (vs' := [_]) (H1 := [_, _]) i0_189 rfl ⟨by decide, by decide⟩ (ltB rfl) rfl rfl kk) ?_
      refine lift (fun _ kk => r_astore (ls' := [_, _, _, _, _, _, _, _, _, _, _, _, _, _, _, _, _, _]) i0_190 rfl rfl rfl kk) ?_
      refine lift (fun _ kk => r_goto i0_192 kk) ?_
      exact ⟨_, fin31 hw p0 p1 p2 p3 _ _ _ _ _ _ (own_255 _) (own_255 _) (own_255 _), leB rfl, leB rfl⟩
    · rw [g]
      refine lift (fun _ kk => r_iload i0_163 rfl kk) ?_
      refine lift (fun _ kk => r_ifT i0_165 (XT.i0_ne_t (by decide)) kk) ?_
      refine lift (fun _ kk => r_iload i0_176 rfl kk) ?_
      refine lift (fun _ kk => r_iconst i0_178 kk) ?_
      refine lift (fun _ kk => r_icT i0_179 (XT.ii_ne_t (by decide)) kk) ?_
      refine lift (fun _ kk => r_iload i0_195 rfl kk) ?_
      refine lift (fun _ kk => r_iconst i0_197 kk) ?_
      refine lift (fun _ kk => r_icF i0_198 (XT.ii_ne_f (by decide)) kk) ?_
      refine lift (fun _ kk => r_iconst i0_201 kk) ?_
      refine lift (fun _ kk => s0_202 hw (a := 1) (o := [.int 0, .int 0]) (H1 := [_, _]) (by decide) (by decide) rfl rfl rfl kk) ?_
      refine lift (fun _ kk => r_dup i0_204 rfl kk) ?_
      refine lift (fun _ kk => r_iconst i0_205 kk) ?_
      refine lift (fun _ kk => r_iload i0_206 rfl kk) ?_
      refine lift (fun _ kk => r_iastore (i := 0) (vs' := [_, _]) (H1 := [_, _]) i0_208 rfl ⟨by decide, by decide⟩ (ltB rfl) rfl rfl kk) ?_
      refine lift (fun _ kk => r_dup i0_209 rfl kk) ?_
      refine lift (fun _ kk => r_iconst i0_210 kk) ?_
      refine lift (fun _ kk => r_iload i0_211 rfl kk) ?_
      refine lift (fun _ kk => r_iastore (i := 1) (vs' := [_, _]) (H1 := [_, _]) i0_213 rfl ⟨by decide, by decide⟩ (ltB rfl) rfl rfl kk) ?_
      refine lift (fun _ kk => r_astore (ls' := [_, _, _, _, _, _, _, _, _, _, _, _, _, _, _, _, _, _]) i0_214 rfl rfl rfl kk) ?_
      refine lift (fun _ kk => r_goto i0_216 kk) ?_
      exact ⟨_, fin32 hw p0 p1 p2 p3 _ _ _ _ _ _ (own_255 _) (own_255 _) (own_255 _), leB rfl, leB rfl⟩
    · rw [g]
      refine lift (fun _ kk => r_iload i0_163 rfl kk) ?_
      refine lift (fun _ kk => r_ifT i0_165 (XT.i0_ne_t (by decide)) kk) ?_
      refine lift (fun _ kk => r_iload i0_176 rfl kk) ?_
      refine lift (fun _ kk => r_iconst i0_178 kk) ?_
      refine lift (fun _ kk => r_icT i0_179 (XT.ii_ne_t (by decide)) kk) ?_
      refine lift (fun _ kk => r_iload i0_195 rfl kk) ?_
      refine lift (fun _ kk => r_iconst i0_197 kk) ?_
      refine lift (fun _ kk => r_icT i0_198 (XT.ii_ne_t (by decide)) kk) ?_
      refine lift (fun _ kk => r_iconst i0_219 kk) ?_
      refine lift (fun _ kk => s0_220 hw (a := 1) (o := [.int 0, .int 0, .int 0]) (H1 := [_, _]) (by decide) (by decide) rfl rfl rfl kk) ?_
      refine lift (fun _ kk => r_dup i0_222 rfl kk) ?_
      refine lift (fun _ kk => r_iconst i0_223 kk) ?_
      refine lift (fun _ kk => r_iload i0_224 rfl kk) ?_
      refine lift (fun _ kk => r_iastore (i := 0) (vs' := [_, _, _]) (H1 := [_, _]) i0_226 rfl ⟨by decide, by decide⟩ (ltB rfl) rfl rfl kk) ?_
      refine lift (fun _ kk => r_dup i0_227 rfl kk) ?_
      refine lift (fun _ kk => r_iconst i0_228 kk) ?_
      refine lift (fun _ kk => r_iload i0_229 rfl kk) ?_
      refine lift (fun _ kk => r_iastore (i := 1) (vs' := [_, _, _]) (H1 := [_, _]) i0_231 rfl ⟨by decide, by decide⟩ (ltB rfl) rfl rfl kk) ?_
      refine lift (fun _ kk => r_dup i0_232 rfl kk) ?_
      refine lift (fun _ kk => r_iconst i0_233 kk) ?_
      refine lift (fun _ kk => r_iload i0_234 rfl kk) ?_
      refine lift (fun _ kk => r_iastore (i := 2) (vs' := [_, _, _]) (H1 := [_, _]) i0_236 rfl ⟨by decide, by decide⟩ (ltB rfl) rfl rfl kk) ?_
      refine lift (fun _ kk => r_astore (ls' := [_, _, _, _, _, _, _, _, _, _, _, _, _, _, _, _, _, _]) i0_237 rfl rfl rfl kk) ?_
      exact ⟨_, fin33 hw p0 p1 p2 p3 _ _ _ _ _ _ (own_255 _) (own_255 _) (own_255 _), leB rfl, leB rfl⟩
set_option maxRecDepth 65536 in
set_option maxHeartbeats 40000000 in
theorem comes_1 {Post : Tables → Env → Array Value → State → Outcome → State → Prop} (hpost : ∀ tb e args s v u, (limb_1_1.after args s (.returned v) u = true ∧ limb_1_2.after args s (.returned v) u = true ∧ True) → FrameEnd s (.returned v) u (Jvm.fieldLocs frame_1_writes args s ++ Jvm.arrayLocs frame_1_arrays args s ++ Jvm.staticLocs frame_1_statics s) 16 128 → Post tb e args s (.returned v) u) :
    ArmFor flags0 classFile x code maxLocals ret World_1 tables_1 room_1 Calls_1 rest_1 Pre_1 Post := by
  intro l hfl _ _ p e ha hc hk s m args below hf hA hF happ hP
  obtain ⟨hcalls, hrest, hpre⟩ := hP
  obtain ⟨-, -, -, hnamed, -, -, -, hat⟩ := (Spec.applies_iff hf).mp happ
  obtain ⟨hg, hn⟩ := and_e (Cond.before_iff.mp (show (Jvm.Cond.and given_1 narrow_1).before args s = true from hpre))
  obtain ⟨hcount, hk0⟩ := and_e hg
  obtain ⟨w0, w1, w2, w3, rfl⟩ : ∃ w0 w1 w2 w3 : Value, args = #[w0, w1, w2, w3] := by
    have hs : args.size = 4 := by simpa [Cond.value, given_1] using hcount
    obtain ⟨L⟩ := args
    match L, hs with
    | [w0, w1, w2, w3], _ => exact ⟨w0, w1, w2, w3, rfl⟩
  have hw : HW s _ := fun d (hd : d ∈ tables_1) => atoms_spec (ws := Jvm.Cond.code x code maxLocals ret :: tables_1) hat d (List.mem_cons_of_mem _ hd)
  replace hk0 := and_e hk0
  obtain ⟨p0, e0⟩ := is_v hk0.1
  obtain rfl : w0 = (.int p0) := Option.some.inj e0
  have hk1 := hk0.2
  replace hk1 := and_e hk1
  obtain ⟨p1, e1⟩ := is_v hk1.1
  obtain rfl : w1 = (.int p1) := Option.some.inj e1
  have hk2 := hk1.2
  replace hk2 := and_e hk2
  obtain ⟨p2, e2⟩ := is_v hk2.1
  obtain rfl : w2 = (.int p2) := Option.some.inj e2
  have hk3 := hk2.2
  obtain ⟨p3, e3⟩ := is_v hk3
  obtain rfl : w3 = (.int p3) := Option.some.inj e3
  obtain ⟨H', k, hcl, hsl⟩ := law_runs (l := l) (n0 := s.heap.size) hw p0 p1 p2 p3
  obtain ⟨n, o, h1, h2, h3, _, L, rfl, ⟨rfl, -, N⟩, hq⟩ := met_gen (mi := m0) (as := [.int p0, .int p1, .int p2, .int p3]) tables_1 room_1 pf0 rfl (fun h => nomatch h) k (by decide) (by decide) (by show H'.length ≤ 16 + 0; omega) (by show szs K H' ≤ 128 + 0; omega) (h := s.heap) ⟨rfl, fun k o h => by simp at h⟩ p e ha hc hk s m _ below hf ((Spec.applies_iff_loose hf).mp happ).1 ⟨rfl, State.Warmed39.refl s, rfl⟩ trivial
  refine ⟨n, _, h1, h2, h3, hpost _ _ _ _ _ _ ⟨Cond.after_iff.mpr rfl, Cond.after_iff.mpr (eq_i res_at (Term.int_eval (1)) rfl), trivial⟩ ⟨hq.1, hq.2.1, (hq.2.2.sift fun y hy => Or.inr (N y hy)).mono (by show H'.length - 0 ≤ _; omega) (by show szs K H' - 0 ≤ _; omega)⟩⟩
theorem main_1_1 : Claimed_1_1 := comes_1 fun _ _ _ _ _ _ h hF => ⟨h.1, hF⟩
theorem main_1_2 : Claimed_1_2 := comes_1 fun _ _ _ _ _ _ h hF => ⟨h.2.1, hF⟩
end Jvm.Pilot.@@N@@
namespace Jvm.Pilot.@@N@@
open Jvm Jvm.ClassFile Sem Op Lib Jvm.Free Jvm.Stand Jvm.Pilot.@@N@@.Jvm.D
/-! MADE BY PROGRAM (witnessworld.py) out of the Statement's table words and the real class files: 10 classes; the members and pool entries that the words name. The judged class is class 1, her method 1. -/
namespace start1
open Jvm.ClassFile
def u (s : String) : CpInfo := .utf8 (stringToUtf16 s)
/-- a pool by its gaps: so many unusable entries, then the entry; so many at the end -/
def gap : Nat → List CpInfo → List CpInfo
  | 0, r => r
  | n + 1, r => .unusable :: gap n r
def poolList (es : List (Nat × CpInfo)) (last : Nat) : List CpInfo := es.foldr (fun e r => gap e.1 (e.2 :: r)) (gap last [])
def pool (es : List (Nat × CpInfo)) (last : Nat) : Array CpInfo := ⟨poolList es last⟩
def fileOf (pool : Array CpInfo) (this : Nat) (attrs : Array Attribute := #[]) (ms : Array MethodInfo := #[]) (fl : Nat := 33) (sup : Nat := 0) (ifs : Array Nat := #[]) (fds : Array FieldInfo := #[]) : ClassFile where
  minorVersion := 0
  majorVersion := 65
  constantPool := pool
  accessFlags := fl
  thisClass := this
  superClass := sup
  interfaces := ifs
  fields := fds
  methods := ms
  attributes := attrs
def plain (name : String) (sup : Option ClassId) : Class where
  name := name
  kind := .ordinary
  loader := none
  accessFlags := 33
  super := sup
  interfaces := #[]
  cf := none
  fields := #[]
  methods := #[]
  instanceTypes := #[]
  staticTypes := #[]
  resolved := #[]
  callSites := []
  init := .initialized
  statics := none
  mirror := none

def pool0 : Array CpInfo := pool [(5, u "<init>"), (0, u "()V"), (1, .class_ 10), (1, u "java/lang/Object")] 113

def k0m0 : Method := { name := "<init>", desc := "()V", sig := { parameters := [], returnType := none }, accessFlags := 1, code := none }
/-- java/lang/Object -/
def k0 : Class := { plain "java/lang/Object" none with
  accessFlags := 33
  interfaces := #[]
  cf := some (fileOf pool0 8 #[] #[{ accessFlags := 1, nameIndex := 5, descriptorIndex := 6, attributes := #[] }] 33 0 #[] #[])
  fields := #[]
  methods := #[k0m0]
  instanceTypes := #[]
  staticTypes := #[]
  resolved := Array.replicate 124 none
  statics := none }

def pool1 : Array CpInfo := pool [(2, .class_ 4), (1, u "java/lang/Object"), (0, u "<init>"), (0, u "()V"), (0, .methodref 8 9), (0, .class_ 10), (0, .nameAndType 11 12), (0, u "com/example/alike2/alike2/io/FileTextStartsWithPinLaw"), (0, u "value"), (0, u "(IIII)I"), (0, .methodref 14 15), (0, .class_ 16), (0, .nameAndType 17 18), (0, u "com/example/alike2/alike2/io/FileText"), (0, u "startsWith"), (0, u "([B[I)Z"), (2, u "law"), (0, u "(IIII)Z")] 7

def k1m0 : Method := { name := "<init>", desc := "()V", sig := { parameters := [], returnType := none }, accessFlags := 1, code := none }
def k1c1 : Code := { maxStack := 4, maxLocals := 18, code := code, exceptionTable := #[], attributes := #[] }
def k1m1 : Method := { name := "law", desc := "(IIII)Z", sig := { parameters := [.int, .int, .int, .int], returnType := some .boolean }, accessFlags := 9, code := some k1c1 }
def k1c2 : Code := { maxStack := 2, maxLocals := 4, code := method_3_code, exceptionTable := #[], attributes := #[] }
def k1m2 : Method := { name := "value", desc := "(IIII)I", sig := { parameters := [.int, .int, .int, .int], returnType := some .int }, accessFlags := 10, code := some k1c2 }
/-- com/example/alike2/alike2/io/FileTextStartsWithPinLaw -/
def k1 : Class := { plain "com/example/alike2/alike2/io/FileTextStartsWithPinLaw" (some 0) with
  accessFlags := 49
  interfaces := #[]
  cf := some (fileOf pool1 8 #[] #[{ accessFlags := 1, nameIndex := 5, descriptorIndex := 6, attributes := #[] }, { accessFlags := 9, nameIndex := 21, descriptorIndex := 22, attributes := #[] }, { accessFlags := 10, nameIndex := 11, descriptorIndex := 12, attributes := #[] }] 49 2 #[] #[])
  fields := #[]
  methods := #[k1m0, k1m1, k1m2]
  instanceTypes := #[]
  staticTypes := #[]
  resolved := Array.replicate 30 none
  statics := none }

def pool2 : Array CpInfo := pool [(2, .class_ 4), (1, u "java/lang/Object"), (0, u "<init>"), (0, u "()V"), (0, .class_ 8), (0, u "java/lang/Record")] 13

def k2m0 : Method := { name := "<init>", desc := "()V", sig := { parameters := [], returnType := none }, accessFlags := 4, code := none }
/-- java/lang/Record -/
def k2 : Class := { plain "java/lang/Record" (some 0) with
  accessFlags := 1057
  interfaces := #[]
  cf := some (fileOf pool2 7 #[] #[{ accessFlags := 4, nameIndex := 5, descriptorIndex := 6, attributes := #[] }] 1057 2 #[] #[])
  fields := #[]
  methods := #[k2m0]
  instanceTypes := #[]
  staticTypes := #[]
  resolved := Array.replicate 22 none
  statics := none }

def pool3 : Array CpInfo := pool [(2, .class_ 4), (1, u "java/lang/Record"), (3, .class_ 10), (1, u "com/example/alike2/alike2/io/FileText"), (0, u "text"), (0, u "Ljava/lang/String;"), (2, u "encoding"), (0, u "Ljava/nio/charset/Charset;"), (2, u "valid"), (0, u "Z"), (33, .class_ 56), (1, u "com/example/alike2/alike2/io/FileText$EncodingRule"), (128, u "startsWith"), (0, u "([B[I)Z"), (23, u "MAX_FILE_BYTES"), (0, u "I"), (1, u "CHUNK_CHARS"), (1, u "REPLACEMENT_CHARACTER"), (0, u "C"), (0, u "BYTE_ORDER_MARK")] 42

def k3c0 : Code := { maxStack := 3, maxLocals := 3, code := prog_2_method_6_code, exceptionTable := #[], attributes := #[] }
def k3m0 : Method := { name := "startsWith", desc := "([B[I)Z", sig := { parameters := [(.array .byte), (.array .int)], returnType := some .boolean }, accessFlags := 136, code := some k3c0 }
/-- com/example/alike2/alike2/io/FileText -/
def k3 : Class := { plain "com/example/alike2/alike2/io/FileText" (some 2) with
  accessFlags := 48
  interfaces := #[]
  cf := some (fileOf pool3 8 #[.nestMembers #[54]] #[{ accessFlags := 136, nameIndex := 185, descriptorIndex := 186, attributes := #[] }] 48 2 #[] #[{ accessFlags := 18, nameIndex := 11, descriptorIndex := 12, attributes := #[] }, { accessFlags := 18, nameIndex := 15, descriptorIndex := 16, attributes := #[] }, { accessFlags := 18, nameIndex := 19, descriptorIndex := 20, attributes := #[] }, { accessFlags := 26, nameIndex := 210, descriptorIndex := 211, attributes := #[] }, { accessFlags := 26, nameIndex := 213, descriptorIndex := 211, attributes := #[] }, { accessFlags := 26, nameIndex := 215, descriptorIndex := 216, attributes := #[] }, { accessFlags := 26, nameIndex := 217, descriptorIndex := 216, attributes := #[] }])
  fields := #[{ name := "text", type := (.object "java/lang/String"), accessFlags := 18, slot := 0, constantValue := 0 }, { name := "encoding", type := (.object "java/nio/charset/Charset"), accessFlags := 18, slot := 1, constantValue := 0 }, { name := "valid", type := .boolean, accessFlags := 18, slot := 2, constantValue := 0 }, { name := "MAX_FILE_BYTES", type := .int, accessFlags := 26, slot := 0, constantValue := 0 }, { name := "CHUNK_CHARS", type := .int, accessFlags := 26, slot := 1, constantValue := 0 }, { name := "REPLACEMENT_CHARACTER", type := .char, accessFlags := 26, slot := 2, constantValue := 0 }, { name := "BYTE_ORDER_MARK", type := .char, accessFlags := 26, slot := 3, constantValue := 0 }]
  methods := #[k3m0]
  instanceTypes := #[(.object "java/lang/String"), (.object "java/nio/charset/Charset"), .boolean]
  staticTypes := #[.int, .int, .char, .char]
  resolved := Array.replicate 260 none
  statics := none }

def pool4 : Array CpInfo := pool [(1, u "java/lang/Cloneable"), (0, .class_ 1), (0, u "java/lang/Object"), (0, .class_ 3)] 3

/-- java/lang/Cloneable -/
def k4 : Class := { plain "java/lang/Cloneable" (some 0) with
  accessFlags := 1537
  interfaces := #[]
  cf := some (fileOf pool4 2 #[] #[] 1537 4 #[] #[])
  fields := #[]
  methods := #[]
  instanceTypes := #[]
  staticTypes := #[]
  resolved := Array.replicate 8 none
  statics := none }

def pool5 : Array CpInfo := pool [(1, u "java/io/Serializable"), (0, .class_ 1), (0, u "java/lang/Object"), (0, .class_ 3)] 3

/-- java/io/Serializable -/
def k5 : Class := { plain "java/io/Serializable" (some 0) with
  accessFlags := 1537
  interfaces := #[]
  cf := some (fileOf pool5 2 #[] #[] 1537 4 #[] #[])
  fields := #[]
  methods := #[]
  instanceTypes := #[]
  staticTypes := #[]
  resolved := Array.replicate 8 none
  statics := none }

/-- the primitive byte -/
def k6 : Class := { plain "byte" none with kind := .primitive 'B', accessFlags := 0x411 }
/-- [B -/
def k7 : Class := { plain "[B" (some 0) with kind := .array 6 .byte, interfaces := #[4, 5], accessFlags := 1041 }

/-- the primitive int -/
def k8 : Class := { plain "int" none with kind := .primitive 'I', accessFlags := 0x411 }
/-- [I -/
def k9 : Class := { plain "[I" (some 0) with kind := .array 8 .int, interfaces := #[4, 5], accessFlags := 1041 }

def heap : Heap := #[]
def classes : Array Class := #[k0, k1, k2, k3, k4, k5, k6, k7, k8, k9]
def interned : List (Array UInt16 × Addr) := []
def slotsUsed : Nat := 0
def theMethod : MethodId := ⟨1, 1⟩
def args0 : Array Value := #[.int 5, .int 300, .int 7, .int 9]
def aboutOver (below : List Frame) : State where
  vm := { classes := classes, interned := interned.toArray }
  heap := heap
  slotsUsed := slotsUsed
  threads := #[{ frames := .invoking theMethod args0 :: below }]
def below0 : List Frame := [.native { method := ⟨0, 0⟩, args := #[] }]
def about1 : State := aboutOver below0
def p0 : Program := .bare "" "" ""
def e0 : Env := launch0.env 0 0 0
theorem w_frames : about1.frames = Frame.invoking theMethod args0 :: below0 := rfl
set_option maxRecDepth 65536 in
theorem w_args : argsFit about1.vm theMethod args0 = true := by decide +kernel
set_option maxRecDepth 65536 in
theorem w_heap : heapFits about1 = true := by decide +kernel
set_option maxRecDepth 65536 in
theorem w_runnable : about1.curStatus? = some .runnable := by decide +kernel
set_option maxRecDepth 65536 in
theorem w_alone : about1.alone = true := by decide +kernel
set_option maxRecDepth 65536 in
theorem w_named : about1.methodNamed? x = some theMethod := by decide +kernel
set_option maxRecDepth 65536 in
theorem w_hears : about1.hears theMethod below0 = true := by decide +kernel
set_option maxRecDepth 65536 in
theorem w_ripe : about1.ripe theMethod args0 below0 = true := by decide +kernel
theorem w_running : about1.status = .running := rfl
set_option maxRecDepth 65536 in
theorem w_room : about1.hasRoom e0.platform room_1 = true :=
  launch0.hasRoom_least _ room_1 (by decide +kernel) (by decide +kernel) (by decide +kernel) (by decide +kernel) (by decide +kernel) (by decide +kernel)
theorem allAtoms_all (ts : List Jvm.Cond) (a : Array Jvm.Value) (st : Jvm.State) : (allAtoms ts).before a st = ts.all (fun c => c.before a st) := by
  induction ts with
  | nil => rfl
  | cons c t ih =>
    show (Jvm.Cond.and c (allAtoms t)).before a st = _
    rw [Jvm.Cond.before_and, ih, List.all_cons]
def words1 : List Jvm.Cond := Jvm.Cond.code x code maxLocals ret :: tables_1
/-- a 'code' word, met by the world's own term for the bytes: nothing is compared byte by byte -/
theorem code_word {y : MethodName} {bytes : ByteArray} {mx : Nat} {rt : Option FieldType} {a : Array Value} {s : State} {m : MethodId} {meth : Method} {c : Code} (h1 : s.methodNamed? y = some m) (h2 : s.vm.method? m = some meth) (h3 : meth.code = some c) (h4 : c.code = bytes)
    (h5 : (c.maxLocals == mx && c.exceptionTable.isEmpty && decide (c.maxStack ≤ mostOperands) && decide (meth.sig.returnType = rt) && !meth.locks && decide (parseMethodDescriptor y.desc = some meth.sig)) = true) : (Jvm.Cond.code y bytes mx rt).before a s = true := by
  simp only [Bool.and_eq_true, beq_iff_eq, Bool.not_eq_true', decide_eq_true_eq] at h5
  obtain ⟨⟨⟨⟨⟨g1, g2⟩, g3⟩, g4⟩, g5⟩, g6⟩ := h5
  simp [Cond.before, Cond.holds, Cond.value, h1, h2, h3, h4, g1, g2, g3, g4, g5, g6]
def isCode : Jvm.Cond → Bool
  | .code _ _ _ _ => true
  | _ => false
theorem all_split {L : List Jvm.Cond} {P : Jvm.Cond → Bool} (h1 : L.all (fun c => isCode c || P c) = true) (h2 : ∀ c ∈ L.filter isCode, P c = true) : L.all P = true := by
  refine List.all_eq_true.mpr fun c hc => ?_
  have h := List.all_eq_true.mp h1 c hc
  rcases Bool.eq_false_or_eq_true (isCode c) with hi | hi
  · exact h2 c (List.mem_filter.mpr ⟨hc, hi⟩)
  · simpa [hi] using h
set_option maxRecDepth 65536 in
theorem w_c0 : (Jvm.Cond.code x code maxLocals ret).before args0 about1 = true := code_word (m := ⟨1, 1⟩) (meth := k1m1) (c := k1c1) (by decide +kernel) rfl rfl rfl (by decide +kernel)
set_option maxRecDepth 65536 in
theorem w_c1 : (Jvm.Cond.code ({ cls := "com/example/alike2/alike2/io/FileTextStartsWithPinLaw", name := "value", desc := "(IIII)I" } : Jvm.MethodName) method_3_code (4 : Nat) (Option.some Jvm.ClassFile.FieldType.int)).before args0 about1 = true := code_word (m := ⟨1, 2⟩) (meth := k1m2) (c := k1c2) (by decide +kernel) rfl rfl rfl (by decide +kernel)
set_option maxRecDepth 65536 in
theorem w_c2 : (Jvm.Cond.code ({ cls := "com/example/alike2/alike2/io/FileText", name := "startsWith", desc := "([B[I)Z" } : Jvm.MethodName) prog_2_method_6_code (3 : Nat) (Option.some Jvm.ClassFile.FieldType.boolean)).before args0 about1 = true := code_word (m := ⟨3, 0⟩) (meth := k3m0) (c := k3c0) (by decide +kernel) rfl rfl rfl (by decide +kernel)
def codes1 : List Jvm.Cond := [Jvm.Cond.code x code maxLocals ret, Jvm.Cond.code ({ cls := "com/example/alike2/alike2/io/FileTextStartsWithPinLaw", name := "value", desc := "(IIII)I" } : Jvm.MethodName) method_3_code (4 : Nat) (Option.some Jvm.ClassFile.FieldType.int), Jvm.Cond.code ({ cls := "com/example/alike2/alike2/io/FileText", name := "startsWith", desc := "([B[I)Z" } : Jvm.MethodName) prog_2_method_6_code (3 : Nat) (Option.some Jvm.ClassFile.FieldType.boolean)]
set_option maxRecDepth 65536 in
theorem codes_eq : words1.filter isCode = codes1 := rfl
theorem w_codes : ∀ c ∈ words1.filter isCode, c.before args0 about1 = true := by
  rw [codes_eq]
  intro c hc
  simp only [codes1, List.mem_cons, List.not_mem_nil, or_false] at hc
  rcases hc with rfl | rfl | rfl
  · exact w_c0
  · exact w_c1
  · exact w_c2
set_option maxRecDepth 65536 in
theorem w_t1 : words1.all (fun c => isCode c || c.before args0 about1) = true := by decide +kernel
theorem w_tables : (allAtoms (Jvm.Cond.code x code maxLocals ret :: tables_1)).before args0 about1 = true := by
  rw [allAtoms_all]
  show words1.all (fun c => c.before args0 about1) = true
  refine all_split ?_ w_codes
  rw [w_t1]
set_option maxRecDepth 65536 in
theorem w_case : (Jvm.Cond.and given_1 narrow_1).before args0 about1 = true := by decide +kernel
theorem w_applies : (headSpec (Jvm.Cond.code x code maxLocals ret :: tables_1) room_1).applies x e0.platform about1 = true :=
  (Spec.applies_iff w_frames).mpr ⟨w_running, w_runnable, w_alone, w_named, w_hears, w_ripe, w_room, w_tables⟩
theorem atStart : AtStart classFile x code maxLocals ret World_1 tables_1 room_1 Calls_1 rest_1 Pre_1 launch0 p0 e0 about1 theMethod args0 below0 :=
  ⟨lists_1, trivial, launch0.admits_env _ _ _, launch0.least_env, fairChoices_fair.cas, fairChoices_fair.clock, w_frames, w_args, w_heap, w_applies, trivial, trivial, w_case⟩
end start1
theorem witness_1 : WitnessClaimed_1 := ⟨start1.p0, start1.e0, start1.about1, start1.theMethod, start1.args0, start1.below0, start1.atStart⟩
end Jvm.Pilot.@@N@@
