import JvmDerived
import JvmDerived.Pilot.@@N@@Statement
import JvmDerived.Pilot.@@N@@Code
set_option linter.unusedVariables false
set_option linter.unusedSimpArgs false
namespace Jvm.Own
open Jvm Jvm.ClassFile Sem Op Lib Jvm.Free Jvm.Stand Jvm.LawKit Jvm.RoadKit Bundle
/-! A small calculus on the road kit: Go says that from here the body comes to its end. -/
section Calc
variable {wd : Bool} {Z : State} {a0 : Array Value} {EL : List (String × Nat)} {p : Program} {l : Launch} {e : Env} {R : Room} {s : State} {m : MethodId} {args : Array Value} {below : List Frame} {meth : Method} {c : Code}
  {n0 C N : Nat} {Q : Option Value → Heap → Prop} {vm : Vm} {h : Heap} {cells slots : Nat} {g : JFrame} {own : String} {bytes : ByteArray} {ml : Nat} {ret : Option FieldType} {nm : String}
/-- what is known of the body walked -/
def Ctx (Z : State) (a0 : Array Value) (EL : List (String × Nat)) (p : Program) (m : MethodId) (meth : Method) (c : Code) (own : String) (bytes : ByteArray) (ml : Nat) (ret : Option FieldType) (nm : String) : Prop :=
  p.tables.exec = Jvm.exec ∧ c.code = bytes ∧ c.maxLocals = ml ∧ meth.sig.returnType = ret ∧ meth.locks = false ∧ Z.vm.findClass own = some m.cls ∧ meth.name = nm ∧ EW Z a0 EL
/-- the tables at hand -/
def Wt (wd : Bool) (Z : State) (EL : List (String × Nat)) (s : State) (vm : Vm) (h : Heap) : Prop :=
  Z.Warmed39 vm ∧ (∃ k0, s.Since vm k0 ∧ k0 ≤ h.size) ∧ CHr Z EL s.vm s.heap vm h ∧ (wd = false → vm = s.vm ∧ EL = [])
def Fin (wd : Bool) (Z : State) (EL : List (String × Nat)) (n0 C N : Nat) (Q : Option Value → Heap → Prop) (s : State) (o : Outcome) (t : State) : Prop :=
  ∃ v L, o = .returned v ∧ (Q v t.heap ∧ Fr n0 L) ∧ CHr Z EL s.vm s.heap t.vm t.heap ∧ ReturnedEndW s o t L C N ∧ (wd = false → FrameEnd s o t L C N)
def Go (wd : Bool) (Z : State) (EL : List (String × Nat)) (p : Program) (l : Launch) (e : Env) (R : Room) (s : State) (m : MethodId) (args : Array Value) (below : List Frame) (meth : Method) (c : Code)
    (n0 C N : Nat) (Q : Option Value → Heap → Prop) (vm : Vm) (h : Heap) (cells slots : Nat) (g : JFrame) : Prop :=
  Wt wd Z EL s vm h → ∀ (T : State) (locs : List Loc), Stand p l e R (s.setVm vm) m args below meth c T locs cells slots → T.heap = h → Fr n0 locs →
    ∃ s₂ o, Steps p.tables e below (T.setTop g) s₂ ∧ s₂.status = .running ∧ Ended s₂ below o ∧ Fin wd Z EL n0 C N Q s o s₂
theorem Ctx.fc (B : Ctx Z a0 EL p m meth c own bytes ml ret nm) (hZ : Z.Warmed39 vm) : (s.setVm vm).vm.findClass own = some m.cls := by
  rw [show (s.setVm vm).vm = vm from rfl, hZ.alike.findClass]; exact B.2.2.2.2.2.1
theorem Ctx.x (B : Ctx Z a0 EL p m meth c own bytes ml ret nm) : p.tables.exec = Jvm.exec := B.1
theorem Ctx.d (B : Ctx Z a0 EL p m meth c own bytes ml ret nm) {pc : Nat} {r : Except DecodeError (Instr × Nat)} (q : decode bytes pc = r) : decode c.code pc = r := B.2.1 ▸ q
theorem nos {x : Addr} : Safe Z [] vm h x := fun B => by obtain ⟨p, hp, -⟩ := B; cases hp
/-- one plain step -/
theorem gs (g' : JFrame) (hs : ∀ T, At T m c below → ∀ t, Steps p.tables e below (T.setTop g') t → Steps p.tables e below (T.setTop g) t)
    (k : Go wd Z EL p l e R s m args below meth c n0 C N Q vm h cells slots g') : Go wd Z EL p l e R s m args below meth c n0 C N Q vm h cells slots g := by
  intro W T locs X eT F
  obtain ⟨s₂, o, h1, r⟩ := k W T locs X eT F
  exact ⟨s₂, o, hs T X.here _ h1, r⟩
theorem gj (g' : JFrame) (k1 : Go wd Z EL p l e R s m args below meth c n0 C N Q vm h cells slots g') (k : Go wd Z EL p l e R s m args below meth c n0 C N Q vm h cells slots g' → Go wd Z EL p l e R s m args below meth c n0 C N Q vm h cells slots g) :
    Go wd Z EL p l e R s m args below meth c n0 C N Q vm h cells slots g := k k1
theorem gm {cells' slots' : Nat} (hc : cells ≤ cells') (hl : slots ≤ slots') (k : Go wd Z EL p l e R s m args below meth c n0 C N Q vm h cells' slots' g) : Go wd Z EL p l e R s m args below meth c n0 C N Q vm h cells slots g :=
  fun W T locs X eT F => k W T locs (X.more hc hl) eT F
/-- a step that leaves the heap, and may warm the tables -/
theorem g_same {g' : JFrame} (hs : ∀ T locs, Z.Warmed39 vm → Stand p l e R (s.setVm vm) m args below meth c T locs cells slots → T.heap = h → ∃ T', Stand p l e R (s.setVm vm) m args below meth c T' locs cells slots ∧ T'.heap = h ∧ ∀ target, Steps p.tables e below (T'.setTop g') target → Steps p.tables e below (T.setTop g) target)
    (k : Go wd Z EL p l e R s m args below meth c n0 C N Q vm h cells slots g') : Go wd Z EL p l e R s m args below meth c n0 C N Q vm h cells slots g := by
  intro W T locs X eT F
  obtain ⟨T', X', eT', st⟩ := hs T locs W.1 X eT
  obtain ⟨s₂, o, h1, r⟩ := k W T' locs X' eT' F
  exact ⟨s₂, o, st _ h1, r⟩
theorem Wt.ext {h' : Heap} (W : Wt wd Z EL s vm h) (E : Ext h h') : Wt wd Z EL s vm h' := by
  obtain ⟨h1, ⟨k0, h2, h3⟩, h4, h5⟩ := W
  exact ⟨h1, ⟨k0, h2, Nat.le_trans h3 E.1⟩, h4.trans (CHr.ext E h4.1), h5⟩
theorem Wt.wr {h' : Heap} {a : Addr} {sl : Nat} {v : Value} (W : Wt wd Z EL s vm h) (S : Safe Z EL vm h a) (E : Wr h h' a sl v) : Wt wd Z EL s vm h' := by
  obtain ⟨h1, ⟨k0, h2, h3⟩, h4, h5⟩ := W
  exact ⟨h1, ⟨k0, h2, by rw [E.size]; exact h3⟩, h4.trans (CHr.wr E S h4.1), h5⟩
theorem Wt.keep {h' : Heap} {ws : List Addr} (W : Wt wd Z EL s vm h) (S : ∀ x ∈ ws, Safe Z EL vm h x) (K : Keep h h' ws) : Wt wd Z EL s vm h' := by
  obtain ⟨h1, ⟨k0, h2, h3⟩, h4, h5⟩ := W
  exact ⟨h1, ⟨k0, h2, Nat.le_trans h3 K.1⟩, h4.trans (CHr.keep K S h4.1), h5⟩
/-- a step that makes a cell -/
theorem g_ext {cells' slots' : Nat} {P : Heap → Prop} {G : JFrame} (hs : ∀ T locs, Z.Warmed39 vm → Stand p l e R (s.setVm vm) m args below meth c T locs cells slots → T.heap = h → ∃ T' h', Stand p l e R (s.setVm vm) m args below meth c T' locs cells' slots' ∧ T'.heap = h' ∧ Ext h h' ∧ P h' ∧ ∀ target, Steps p.tables e below (T'.setTop G) target → Steps p.tables e below (T.setTop g) target)
    (k : ∀ h', Ext h h' → P h' → Go wd Z EL p l e R s m args below meth c n0 C N Q vm h' cells' slots' G) : Go wd Z EL p l e R s m args below meth c n0 C N Q vm h cells slots g := by
  intro W T locs X eT F
  obtain ⟨T', h', X', eT', E, hP, st⟩ := hs T locs W.1 X eT
  obtain ⟨s₂, o, h1, r⟩ := k h' E hP (W.ext E) T' locs X' eT' F
  exact ⟨s₂, o, st _ h1, r⟩
/-- a step that writes one place -/
theorem g_wr {a : Addr} {sl : Nat} {v : Value} {G : JFrame} (hs : ∀ T locs, Z.Warmed39 vm → Stand p l e R (s.setVm vm) m args below meth c T locs cells slots → T.heap = h → ∃ T' h', Stand p l e R (s.setVm vm) m args below meth c T' (locs ++ [⟨a, sl⟩]) cells slots ∧ T'.heap = h' ∧ Wr h h' a sl v ∧ ∀ target, Steps p.tables e below (T'.setTop G) target → Steps p.tables e below (T.setTop g) target)
    (S : Safe Z EL vm h a) (q : n0 ≤ a) (k : ∀ h', Wr h h' a sl v → Go wd Z EL p l e R s m args below meth c n0 C N Q vm h' cells slots G) : Go wd Z EL p l e R s m args below meth c n0 C N Q vm h cells slots g := by
  intro W T locs X eT F
  obtain ⟨T', h', X', eT', E, st⟩ := hs T locs W.1 X eT
  obtain ⟨s₂, o, h1, r⟩ := k h' E (W.wr S E) T' _ X' eT' (Fr.snoc X' F q)
  exact ⟨s₂, o, st _ h1, r⟩
theorem gjA {α : Type} (F : α → JFrame) (P : α → Prop) (k1 : ∀ x, P x → Go wd Z EL p l e R s m args below meth c n0 C N Q vm h cells slots (F x)) (k : (∀ x, P x → Go wd Z EL p l e R s m args below meth c n0 C N Q vm h cells slots (F x)) → Go wd Z EL p l e R s m args below meth c n0 C N Q vm h cells slots g) :
    Go wd Z EL p l e R s m args below meth c n0 C N Q vm h cells slots g := k k1
theorem g_wt (k : Wt wd Z EL s vm h → Go wd Z EL p l e R s m args below meth c n0 C N Q vm h cells slots g) : Go wd Z EL p l e R s m args below meth c n0 C N Q vm h cells slots g := fun W => k W W
variable {pc q : Nat} {Ls : Array Slot} {st : List Value}
theorem g_newO {K : String} {index n : Nat} (B : Ctx Z a0 EL p m meth c own bytes ml ret nm) (w : (Cond.classLink own index K).before a0 Z = true) (wi : (Cond.instantiable K n).before a0 Z = true) (wz : (Cond.initialized K).before a0 Z = true)
    (hd : decode bytes pc = .ok (.new index, 3)) (hc : cells + 1 ≤ R.cells) (hl : slots + n ≤ R.slots) (hq : pc + 3 = q)
    (k : ∀ (h' : Heap) (a : Addr), @Eq Nat a h.size → Ext h h' → Safe Z EL vm h' a → Exa Z h' a K → (∀ {O nm d : String} {ty : FieldType}, Laid Z a0 K O nm d → parseFieldDescriptor d = some ty → Fld Z h' a O nm d (defaultValue ty)) →
      Go wd Z EL p l e R s m args below meth c n0 C N Q vm h' (cells + 1) (slots + n) (mkF m q Ls (.ref a :: st))) :
    Go wd Z EL p l e R s m args below meth c n0 C N Q vm h cells slots (mkF m pc Ls st) := by
  subst hq
  intro W
  refine g_ext (cells' := cells + 1) (slots' := slots + n) (G := mkF m (pc + 3) Ls (.ref h.size :: st)) (P := fun h' => Exa Z h' h.size K ∧ (∀ {O nm d : String} {ty : FieldType}, Laid Z a0 K O nm d → parseFieldDescriptor d = some ty → Fld Z h' h.size O nm d (defaultValue ty))) (fun T locs hZ X eT => ?_) (fun h' E P => k h' h.size rfl E (Safe.ext E W.2.2.1.1 (Safe.new (Nat.le_refl _))) P.1 P.2) W
  obtain ⟨T', h', X', e', E', A', D', -, st'⟩ := newO X B.1 (show Z.Warmed39 (s.setVm vm).vm from hZ) (B.fc hZ) w wi wz eT (g := mkF m pc Ls st) rfl (B.d hd) hc hl
  exact ⟨T', h', X', e', E', ⟨A', D'⟩, st'⟩
theorem g_newP {aty : ArrayType} {n : Int32} (B : Ctx Z a0 EL p m meth c own bytes ml ret nm) (w : (Cond.arrayClass (newarray.typeOf aty)).before a0 Z = true)
    (hd : decode bytes pc = .ok (.newarray aty, 2)) (hn : ¬ n < 0) {cap : Nat} (hcap : n.toNatClampNeg ≤ cap) (hb : cap * 8 ≤ 536870912) (hc : cells + 1 ≤ R.cells) (hl : slots + cap ≤ R.slots) (hq : pc + 2 = q)
    (k : ∀ (h' : Heap) (a : Addr) (kA : ClassId), @Eq Nat a h.size → Ext h h' → Safe Z EL vm h' a → Arv Z h' a kA (newarray.typeOf aty) n (List.replicate n.toNatClampNeg (defaultValue (newarray.typeOf aty))) (defaultValue (newarray.typeOf aty)) →
      Go wd Z EL p l e R s m args below meth c n0 C N Q vm h' (cells + 1) (slots + cap) (mkF m q Ls (.ref a :: st))) :
    Go wd Z EL p l e R s m args below meth c n0 C N Q vm h cells slots (mkF m pc Ls (.int n :: st)) := by
  subst hq
  intro W
  refine g_ext (cells' := cells + 1) (slots' := slots + cap) (G := mkF m (pc + 2) Ls (.ref h.size :: st)) (P := fun h' => ∃ kA, Arr Z h' h.size (newA kA (newarray.typeOf aty) n) (newarray.typeOf aty)) (fun T locs hZ X eT => ?_) (fun h' E P => ?_) W
  · obtain ⟨T', h', kA, X', e', E', A', st'⟩ := newP X B.1 (show Z.Warmed39 (s.setVm vm).vm from hZ) w eT (g := mkF m pc Ls (.int n :: st)) rfl (B.d hd) rfl hn hcap hb hc hl
    exact ⟨T', h', X', e', E', ⟨kA, A'⟩, st'⟩
  · obtain ⟨kA, A⟩ := P
    exact k h' h.size kA rfl E (Safe.ext E W.2.2.1.1 (Safe.new (Nat.le_refl _))) ((Arv.new A hn).pad (pad_rep [] _ _))
theorem g_newR {K : String} {index : Nat} {n : Int32} (B : Ctx Z a0 EL p m meth c own bytes ml ret nm) (w1 : (Cond.classLink own index K).before a0 Z = true) (w2 : (Cond.arrayOver (.object K)).before a0 Z = true)
    (hd : decode bytes pc = .ok (.anewarray index, 3)) (hn : ¬ n < 0) {cap : Nat} (hcap : n.toNatClampNeg ≤ cap) (hb : cap * 8 ≤ 536870912) (hc : cells + 1 ≤ R.cells) (hl : slots + cap ≤ R.slots) (hq : pc + 3 = q)
    (k : ∀ (h' : Heap) (a : Addr) (kA : ClassId), @Eq Nat a h.size → Ext h h' → Safe Z EL vm h' a → Ovr Z kA K → Arv Z h' a kA (.object K) n (List.replicate n.toNatClampNeg .null) .null →
      Go wd Z EL p l e R s m args below meth c n0 C N Q vm h' (cells + 1) (slots + cap) (mkF m q Ls (.ref a :: st))) :
    Go wd Z EL p l e R s m args below meth c n0 C N Q vm h cells slots (mkF m pc Ls (.int n :: st)) := by
  subst hq
  intro W
  refine g_ext (cells' := cells + 1) (slots' := slots + cap) (G := mkF m (pc + 3) Ls (.ref h.size :: st)) (P := fun h' => ∃ kA, Arr Z h' h.size (newA kA (.object K) n) (.object K) ∧ Ovr Z kA K) (fun T locs hZ X eT => ?_) (fun h' E P => ?_) W
  · obtain ⟨T', h', kA, X', e', E', A', O', st'⟩ := newR X B.1 (show Z.Warmed39 (s.setVm vm).vm from hZ) (B.fc hZ) w1 w2 eT (g := mkF m pc Ls (.int n :: st)) rfl (B.d hd) rfl hn hcap hb hc hl
    exact ⟨T', h', X', e', E', ⟨kA, A', O'⟩, st'⟩
  · obtain ⟨kA, A, O⟩ := P
    exact k h' h.size kA rfl E (Safe.ext E W.2.2.1.1 (Safe.new (Nat.le_refl _))) O ((Arv.new A hn).pad (pad_rep [] _ _))
theorem g_getF {R0 O n d : String} {index : Nat} {a : Addr} {v : Value} (B : Ctx Z a0 EL p m meth c own bytes ml ret nm) (w : (Cond.fieldLink own index R0 n d).before a0 Z = true) (via : Via Z R0 O n d) (F : Fld Z h a O n d v)
    (hd : decode bytes pc = .ok (.getfield index, 3)) (hq : pc + 3 = q) (k : Go wd Z EL p l e R s m args below meth c n0 C N Q vm h cells slots (mkF m q Ls (v :: st))) :
    Go wd Z EL p l e R s m args below meth c n0 C N Q vm h cells slots (mkF m pc Ls (.ref a :: st)) := by
  subst hq
  exact g_same (fun T locs hZ X eT => getF X B.1 (show Z.Warmed39 (s.setVm vm).vm from hZ) (B.fc hZ) (host := "") (Or.inl w) via eT F (g := mkF m pc Ls (.ref a :: st)) rfl rfl (B.d hd)) k
theorem g_getS {O n d : String} {index : Nat} {v : Value} (B : Ctx Z a0 EL p m meth c own bytes ml ret nm) (w : (Cond.fieldLink own index O n d).before a0 Z = true) (F : Sta Z h O n d v)
    (hd : decode bytes pc = .ok (.getstatic index, 3)) (hq : pc + 3 = q) (k : Go wd Z EL p l e R s m args below meth c n0 C N Q vm h cells slots (mkF m q Ls (v :: st))) :
    Go wd Z EL p l e R s m args below meth c n0 C N Q vm h cells slots (mkF m pc Ls st) := by
  subst hq
  exact g_same (fun T locs hZ X eT => getS X B.1 (show Z.Warmed39 (s.setVm vm).vm from hZ) (host := "") (B.fc hZ) w Via.refl eT F (g := mkF m pc Ls st) rfl (B.d hd)) k
theorem g_cast {K : String} {index : Nat} {a : Addr} (B : Ctx Z a0 EL p m meth c own bytes ml ret nm) (w : (Cond.classLink own index K).before a0 Z = true) (F : Ins Z h a K true)
    (hd : decode bytes pc = .ok (.checkcast index, 3)) (hq : pc + 3 = q) (k : Go wd Z EL p l e R s m args below meth c n0 C N Q vm h cells slots (mkF m q Ls (.ref a :: st))) :
    Go wd Z EL p l e R s m args below meth c n0 C N Q vm h cells slots (mkF m pc Ls (.ref a :: st)) := by
  subst hq
  exact g_same (fun T locs hZ X eT => castY X B.1 (show Z.Warmed39 (s.setVm vm).vm from hZ) (B.fc hZ) w eT F (g := mkF m pc Ls (.ref a :: st)) rfl rfl (B.d hd)) k
theorem g_inst {K : String} {index : Nat} {a : Addr} (B : Ctx Z a0 EL p m meth c own bytes ml ret nm) (w : (Cond.classLink own index K).before a0 Z = true) (F : Ins Z h a K true)
    (hd : decode bytes pc = .ok (.instanceof index, 3)) (hq : pc + 3 = q) (k : Go wd Z EL p l e R s m args below meth c n0 C N Q vm h cells slots (mkF m q Ls (.int 1 :: st))) :
    Go wd Z EL p l e R s m args below meth c n0 C N Q vm h cells slots (mkF m pc Ls (.ref a :: st)) := by
  subst hq
  exact g_same (fun T locs hZ X eT => instY X B.1 (show Z.Warmed39 (s.setVm vm).vm from hZ) (B.fc hZ) w eT F (g := mkF m pc Ls (.ref a :: st)) rfl rfl (B.d hd)) k
theorem g_initO {idx : Nat} {a : Addr} {W : Nat} (B : Ctx Z a0 EL p m meth c own bytes ml ret nm) (w1 : (Cond.methodLink own idx Lib.objectInit).before a0 Z = true) (w2 : (Cond.instanceMethod Lib.objectInit).before a0 Z = true) (w3 : (Cond.code Lib.objectInit ⟨#[0xb1]⟩ 1 none).before a0 Z = true)
    (hs : Ls.size = ml) (hd : decode bytes pc = .ok (.invokespecial idx, 3)) (hf : 1 ≤ R.frames) (hW : (st.map fun v => v.category).sum ≤ W) (hl : W + 12 ≤ R.locals) (hq : pc + 3 = q)
    (k : Go wd Z EL p l e R s m args below meth c n0 C N Q vm h cells slots (mkF m q Ls st)) :
    Go wd Z EL p l e R s m args below meth c n0 C N Q vm h cells slots (mkF m pc Ls (.ref a :: st)) := by
  subst hq
  exact g_same (fun T locs hZ X eT => initO X B.1 (show Z.Warmed39 (s.setVm vm).vm from hZ) (B.fc hZ) w1 w2 w3 eT (g := mkF m pc Ls (.ref a :: st)) rfl (hs.trans B.2.2.1.symm) rfl (B.d hd) hf (W := W) (by show 2 * 0 + _ ≤ W; omega) hl) k
theorem g_putF {R0 O n d K : String} {index kk : Nat} {ty : FieldType} {a : Addr} {v old : Value} (B : Ctx Z a0 EL p m meth c own bytes ml ret nm) (w : (Cond.fieldLink own index R0 n d).before a0 Z = true) (via : Via Z R0 O n d) (F : Fld Z h a O n d old) (E : Exa Z h a K)
    (L : (Cond.lays K O n d).before a0 Z = true ∨ ((Cond.laysFinal K O n d).before a0 Z = true ∧ own = O ∧ nm = "<init>")) (wi : (Cond.instantiable K kk).before a0 Z = true) (hty : parseFieldDescriptor d = some ty) (hn : narrow ty v = v) (hf : fits ty v = true)
    (hd : decode bytes pc = .ok (.putfield index, 3)) (S : Safe Z EL vm h a) (g0 : n0 ≤ a) (hq : pc + 3 = q) (k : ∀ h', Wr h h' a (Jvm.RoadKit.slotOf Z O n d) v → Fld Z h' a O n d v → Go wd Z EL p l e R s m args below meth c n0 C N Q vm h' cells slots (mkF m q Ls st)) :
    Go wd Z EL p l e R s m args below meth c n0 C N Q vm h cells slots (mkF m pc Ls (v :: .ref a :: st)) := by
  subst hq
  refine g_wr (fun T locs hZ X eT => putF X B.1 (show Z.Warmed39 (s.setVm vm).vm from hZ) (B.fc hZ) (host := "") (Or.inl w) via eT F E (L.imp id fun z => ⟨z.1, z.2.1, B.2.2.2.2.2.2.1.trans z.2.2⟩) wi hty hn hf (g := mkF m pc Ls (v :: .ref a :: st)) rfl rfl (B.d hd)) S g0 fun h' W => k h' W (F.same W)
theorem g_putFN {R0 O n d K : String} {index kk : Nat} {ty : FieldType} {a : Addr} {v v' old : Value} (B : Ctx Z a0 EL p m meth c own bytes ml ret nm) (w : (Cond.fieldLink own index R0 n d).before a0 Z = true) (via : Via Z R0 O n d) (F : Fld Z h a O n d old) (E : Exa Z h a K)
    (L : (Cond.lays K O n d).before a0 Z = true ∨ ((Cond.laysFinal K O n d).before a0 Z = true ∧ own = O ∧ nm = "<init>")) (wi : (Cond.instantiable K kk).before a0 Z = true) (hty : parseFieldDescriptor d = some ty) (hn : narrow ty v = v') (hf : fits ty v' = true)
    (hd : decode bytes pc = .ok (.putfield index, 3)) (S : Safe Z EL vm h a) (g0 : n0 ≤ a) (hq : pc + 3 = q) (k : ∀ h', Wr h h' a (Jvm.RoadKit.slotOf Z O n d) v' → Fld Z h' a O n d v' → Go wd Z EL p l e R s m args below meth c n0 C N Q vm h' cells slots (mkF m q Ls st)) :
    Go wd Z EL p l e R s m args below meth c n0 C N Q vm h cells slots (mkF m pc Ls (v :: .ref a :: st)) := by
  subst hq
  refine g_wr (fun T locs hZ X eT => putFN X B.1 (show Z.Warmed39 (s.setVm vm).vm from hZ) (B.fc hZ) w via eT F E (L.imp id fun z => ⟨z.1, z.2.1, B.2.2.2.2.2.2.1.trans z.2.2⟩) wi hty hn hf (g := mkF m pc Ls (v :: .ref a :: st)) rfl rfl (B.d hd)) S g0 fun h' W => k h' W (F.same W)
section Arrays
variable {a : Addr} {kA : ClassId} {z j x : Int32} {x64 : Int64} {vs : List Value} {dv v : Value} {i : Nat} {ty : FieldType}
theorem g_stC (B : Ctx Z a0 EL p m meth c own bytes ml ret nm) (A : Arv Z h a kA .char z vs dv) {x' : Int32} (hx' : nar .char x = x') (hj : ¬ j < 0 ∧ j < z) (hi : j.toNatClampNeg = i) (hl : i < vs.length) (hd : decode bytes pc = .ok (.castore, 1)) (S : Safe Z EL vm h a) (g0 : n0 ≤ a) (hq : pc + 1 = q)
    (k : ∀ h', Wr h h' a j.toNatClampNeg (.int x') → Arv Z h' a kA .char z (vs.set i (.int x')) dv → Go wd Z EL p l e R s m args below meth c n0 C N Q vm h' cells slots (mkF m q Ls st)) :
    Go wd Z EL p l e R s m args below meth c n0 C N Q vm h cells slots (mkF m pc Ls (.int x :: .int j :: .ref a :: st)) := by
  subst hq hx'
  obtain ⟨cl, A1, A2, A3, A4, A5, A6⟩ := A
  exact g_wr (fun T locs hZ X eT => stC X B.1 (show Z.Warmed39 (s.setVm vm).vm from hZ) eT A1 (inb_of A3 hj) (g := mkF m pc Ls (.int x :: .int j :: .ref a :: st)) rfl rfl (B.d hd)) S g0 fun h' W => k h' W (Arv.set A1 A2 A3 A4 A5 A6 (fits_nar_char _) W i hi hl)
theorem g_stB (B : Ctx Z a0 EL p m meth c own bytes ml ret nm) (A : Arv Z h a kA .byte z vs dv) {x' : Int32} (hx' : nar .byte x = x') (hj : ¬ j < 0 ∧ j < z) (hi : j.toNatClampNeg = i) (hl : i < vs.length) (hd : decode bytes pc = .ok (.bastore, 1)) (S : Safe Z EL vm h a) (g0 : n0 ≤ a) (hq : pc + 1 = q)
    (k : ∀ h', Wr h h' a j.toNatClampNeg (.int x') → Arv Z h' a kA .byte z (vs.set i (.int x')) dv → Go wd Z EL p l e R s m args below meth c n0 C N Q vm h' cells slots (mkF m q Ls st)) :
    Go wd Z EL p l e R s m args below meth c n0 C N Q vm h cells slots (mkF m pc Ls (.int x :: .int j :: .ref a :: st)) := by
  subst hq hx'
  obtain ⟨cl, A1, A2, A3, A4, A5, A6⟩ := A
  exact g_wr (fun T locs hZ X eT => stB X B.1 (show Z.Warmed39 (s.setVm vm).vm from hZ) eT A1 (inb_of A3 hj) (g := mkF m pc Ls (.int x :: .int j :: .ref a :: st)) rfl rfl (B.d hd)) S g0 fun h' W => k h' W (Arv.set A1 A2 A3 A4 A5 A6 (fits_nar_byte _) W i hi hl)
theorem g_stI (B : Ctx Z a0 EL p m meth c own bytes ml ret nm) (A : Arv Z h a kA .int z vs dv) (hj : ¬ j < 0 ∧ j < z) (hi : j.toNatClampNeg = i) (hl : i < vs.length) (hd : decode bytes pc = .ok (.iastore, 1)) (S : Safe Z EL vm h a) (g0 : n0 ≤ a) (hq : pc + 1 = q)
    (k : ∀ h', Wr h h' a j.toNatClampNeg (.int x) → Arv Z h' a kA .int z (vs.set i (.int x)) dv → Go wd Z EL p l e R s m args below meth c n0 C N Q vm h' cells slots (mkF m q Ls st)) :
    Go wd Z EL p l e R s m args below meth c n0 C N Q vm h cells slots (mkF m pc Ls (.int x :: .int j :: .ref a :: st)) := by
  subst hq
  obtain ⟨cl, A1, A2, A3, A4, A5, A6⟩ := A
  exact g_wr (fun T locs hZ X eT => stI X B.1 (show Z.Warmed39 (s.setVm vm).vm from hZ) eT A1 (inb_of A3 hj) (g := mkF m pc Ls (.int x :: .int j :: .ref a :: st)) rfl rfl (B.d hd)) S g0 fun h' W => k h' W (Arv.set A1 A2 A3 A4 A5 A6 rfl W i hi hl)
theorem g_stJ (B : Ctx Z a0 EL p m meth c own bytes ml ret nm) (A : Arv Z h a kA .long z vs dv) (hj : ¬ j < 0 ∧ j < z) (hi : j.toNatClampNeg = i) (hl : i < vs.length) (hd : decode bytes pc = .ok (.lastore, 1)) (S : Safe Z EL vm h a) (g0 : n0 ≤ a) (hq : pc + 1 = q)
    (k : ∀ h', Wr h h' a j.toNatClampNeg (.long x64) → Arv Z h' a kA .long z (vs.set i (.long x64)) dv → Go wd Z EL p l e R s m args below meth c n0 C N Q vm h' cells slots (mkF m q Ls st)) :
    Go wd Z EL p l e R s m args below meth c n0 C N Q vm h cells slots (mkF m pc Ls (.long x64 :: .int j :: .ref a :: st)) := by
  subst hq
  obtain ⟨cl, A1, A2, A3, A4, A5, A6⟩ := A
  exact g_wr (fun T locs hZ X eT => stJ X B.1 (show Z.Warmed39 (s.setVm vm).vm from hZ) eT A1 (inb_of A3 hj) (g := mkF m pc Ls (.long x64 :: .int j :: .ref a :: st)) rfl rfl (B.d hd)) S g0 fun h' W => k h' W (Arv.set A1 A2 A3 A4 A5 A6 rfl W i hi hl)
theorem g_stR {K : String} (B : Ctx Z a0 EL p m meth c own bytes ml ret nm) (A : Arv Z h a kA (.object K) z vs dv) (hj : ¬ j < 0 ∧ j < z) (hi : j.toNatClampNeg = i) (hl : i < vs.length) (hv : fits (.object K) v = true) (F : Sto Z h a v) (hd : decode bytes pc = .ok (.aastore, 1)) (S : Safe Z EL vm h a) (g0 : n0 ≤ a) (hq : pc + 1 = q)
    (k : ∀ h', Wr h h' a j.toNatClampNeg v → Arv Z h' a kA (.object K) z (vs.set i v) dv → Go wd Z EL p l e R s m args below meth c n0 C N Q vm h' cells slots (mkF m q Ls st)) :
    Go wd Z EL p l e R s m args below meth c n0 C N Q vm h cells slots (mkF m pc Ls (v :: .int j :: .ref a :: st)) := by
  subst hq
  obtain ⟨cl, A1, A2, A3, A4, A5, A6⟩ := A
  exact g_wr (fun T locs hZ X eT => stR X B.1 (show Z.Warmed39 (s.setVm vm).vm from hZ) eT A1 (inb_of A3 hj) rfl F (g := mkF m pc Ls (v :: .int j :: .ref a :: st)) rfl rfl (B.d hd)) S g0 fun h' W => k h' W (Arv.set A1 A2 A3 A4 A5 A6 hv W i hi hl)
theorem g_len (B : Ctx Z a0 EL p m meth c own bytes ml ret nm) (A : Arv Z h a kA ty z vs dv) (hd : decode bytes pc = .ok (.arraylength, 1)) (hq : pc + 1 = q)
    (k : Go wd Z EL p l e R s m args below meth c n0 C N Q vm h cells slots (mkF m q Ls (.int z :: st))) :
    Go wd Z EL p l e R s m args below meth c n0 C N Q vm h cells slots (mkF m pc Ls (.ref a :: st)) := by
  subst hq
  obtain ⟨cl, A1, A2, A3, A4, A5, A6⟩ := A
  refine g_same (fun T locs hZ X eT => ⟨T, X, eT, fun t kt => X.arraylength B.1 (by rw [eT]; exact A1.1) (State.isArrayOf_alike (show Z.vm.Alike (s.setVm vm).vm from hZ.alike) A1.2.1) (g := mkF m pc Ls (.ref a :: st)) rfl rfl (B.d hd) _ (by rw [len_of A3 A4]; exact kt)⟩) k
theorem g_ldC (B : Ctx Z a0 EL p m meth c own bytes ml ret nm) (A : Arv Z h a kA .char z vs dv) (hj : ¬ j < 0 ∧ j < z) (hv : vs.getD j.toNatClampNeg dv = v) (hd : decode bytes pc = .ok (.caload, 1)) (hq : pc + 1 = q)
    (k : Go wd Z EL p l e R s m args below meth c n0 C N Q vm h cells slots (mkF m q Ls (v :: st))) :
    Go wd Z EL p l e R s m args below meth c n0 C N Q vm h cells slots (mkF m pc Ls (.int j :: .ref a :: st)) := by
  subst hq
  obtain ⟨cl, A1, A2, A3, A4, A5, A6⟩ := A
  refine g_same (fun T locs hZ X eT => ⟨T, X, eT, fun t kt => X.caload B.1 (by rw [eT]; exact A1.1) (State.isArrayOf_alike (show Z.vm.Alike (s.setVm vm).vm from hZ.alike) A1.2.1) A1.2.2 (inb_of A3 hj) (A5.at (inb_of A3 hj) hv) (g := mkF m pc Ls (.int j :: .ref a :: st)) rfl rfl (B.d hd) _ kt⟩) k
theorem g_ldI (B : Ctx Z a0 EL p m meth c own bytes ml ret nm) (A : Arv Z h a kA .int z vs dv) (hj : ¬ j < 0 ∧ j < z) (hv : vs.getD j.toNatClampNeg dv = v) (hd : decode bytes pc = .ok (.iaload, 1)) (hq : pc + 1 = q)
    (k : Go wd Z EL p l e R s m args below meth c n0 C N Q vm h cells slots (mkF m q Ls (v :: st))) :
    Go wd Z EL p l e R s m args below meth c n0 C N Q vm h cells slots (mkF m pc Ls (.int j :: .ref a :: st)) := by
  subst hq
  obtain ⟨cl, A1, A2, A3, A4, A5, A6⟩ := A
  refine g_same (fun T locs hZ X eT => ⟨T, X, eT, fun t kt => X.iaload B.1 (by rw [eT]; exact A1.1) (State.isArrayOf_alike (show Z.vm.Alike (s.setVm vm).vm from hZ.alike) A1.2.1) A1.2.2 (inb_of A3 hj) (A5.at (inb_of A3 hj) hv) (g := mkF m pc Ls (.int j :: .ref a :: st)) rfl rfl (B.d hd) _ kt⟩) k
theorem g_ldJ (B : Ctx Z a0 EL p m meth c own bytes ml ret nm) (A : Arv Z h a kA .long z vs dv) (hj : ¬ j < 0 ∧ j < z) (hv : vs.getD j.toNatClampNeg dv = v) (hd : decode bytes pc = .ok (.laload, 1)) (hq : pc + 1 = q)
    (k : Go wd Z EL p l e R s m args below meth c n0 C N Q vm h cells slots (mkF m q Ls (v :: st))) :
    Go wd Z EL p l e R s m args below meth c n0 C N Q vm h cells slots (mkF m pc Ls (.int j :: .ref a :: st)) := by
  subst hq
  obtain ⟨cl, A1, A2, A3, A4, A5, A6⟩ := A
  refine g_same (fun T locs hZ X eT => ⟨T, X, eT, fun t kt => X.laload B.1 (by rw [eT]; exact A1.1) (State.isArrayOf_alike (show Z.vm.Alike (s.setVm vm).vm from hZ.alike) A1.2.1) A1.2.2 (inb_of A3 hj) (A5.at (inb_of A3 hj) hv) (g := mkF m pc Ls (.int j :: .ref a :: st)) rfl rfl (B.d hd) _ kt⟩) k
theorem g_ldB (B : Ctx Z a0 EL p m meth c own bytes ml ret nm) (A : Arv Z h a kA .byte z vs dv) (hj : ¬ j < 0 ∧ j < z) (hv : vs.getD j.toNatClampNeg dv = v) (hd : decode bytes pc = .ok (.baload, 1)) (hq : pc + 1 = q)
    (k : Go wd Z EL p l e R s m args below meth c n0 C N Q vm h cells slots (mkF m q Ls (v :: st))) :
    Go wd Z EL p l e R s m args below meth c n0 C N Q vm h cells slots (mkF m pc Ls (.int j :: .ref a :: st)) := by
  subst hq
  obtain ⟨cl, A1, A2, A3, A4, A5, A6⟩ := A
  refine g_same (fun T locs hZ X eT => ⟨T, X, eT, fun t kt => X.baloadBytes B.1 (by rw [eT]; exact A1.1) (State.isArrayOf_alike (show Z.vm.Alike (s.setVm vm).vm from hZ.alike) A1.2.1) A1.2.2 (inb_of A3 hj) (A5.at (inb_of A3 hj) hv) (g := mkF m pc Ls (.int j :: .ref a :: st)) rfl rfl (B.d hd) _ kt⟩) k
theorem g_ldR (B : Ctx Z a0 EL p m meth c own bytes ml ret nm) (A : Arv Z h a kA ty z vs dv) (hty : ty.isReference = true) (hj : ¬ j < 0 ∧ j < z) (hv : vs.getD j.toNatClampNeg dv = v) (hd : decode bytes pc = .ok (.aaload, 1)) (hq : pc + 1 = q)
    (k : Go wd Z EL p l e R s m args below meth c n0 C N Q vm h cells slots (mkF m q Ls (v :: st))) :
    Go wd Z EL p l e R s m args below meth c n0 C N Q vm h cells slots (mkF m pc Ls (.int j :: .ref a :: st)) := by
  subst hq
  obtain ⟨cl, A1, A2, A3, A4, A5, A6⟩ := A
  refine g_same (fun T locs hZ X eT => ⟨T, X, eT, fun t kt => X.aaload B.1 (by rw [eT]; exact A1.1) (State.isArrayOf_alike (show Z.vm.Alike (s.setVm vm).vm from hZ.alike) A1.2.1) hty A1.2.2 (inb_of A3 hj) (A5.at (inb_of A3 hj) hv) (g := mkF m pc Ls (.int j :: .ref a :: st)) rfl rfl (B.d hd) _ kt⟩) k
end Arrays
theorem g_ldcI {index : Nat} {v : Int32} (B : Ctx Z a0 EL p m meth c own bytes ml ret nm) (w : (Cond.constant own index v).before a0 Z = true) (hd : decode bytes pc = .ok (.ldc index, 2)) (hq : pc + 2 = q)
    (k : Go wd Z EL p l e R s m args below meth c n0 C N Q vm h cells slots (mkF m q Ls (.int v :: st))) : Go wd Z EL p l e R s m args below meth c n0 C N Q vm h cells slots (mkF m pc Ls st) := by
  subst hq
  exact g_same (fun T locs hZ X eT => ⟨T, X, eT, X.ldcInt B.1 (B.fc hZ) (mvT (s := s.setVm vm) hZ w) (g := mkF m pc Ls st) rfl (B.d hd)⟩) k
theorem g_ldcwI {index : Nat} {v : Int32} (B : Ctx Z a0 EL p m meth c own bytes ml ret nm) (w : (Cond.constant own index v).before a0 Z = true) (hd : decode bytes pc = .ok (.ldc_w index, 3)) (hq : pc + 3 = q)
    (k : Go wd Z EL p l e R s m args below meth c n0 C N Q vm h cells slots (mkF m q Ls (.int v :: st))) : Go wd Z EL p l e R s m args below meth c n0 C N Q vm h cells slots (mkF m pc Ls st) := by
  subst hq
  exact g_same (fun T locs hZ X eT => ⟨T, X, eT, X.ldcwInt B.1 (B.fc hZ) (mvT (s := s.setVm vm) hZ w) (g := mkF m pc Ls st) rfl (B.d hd)⟩) k
theorem g_ldc2J {index : Nat} {v : Int64} (B : Ctx Z a0 EL p m meth c own bytes ml ret nm) (w : (Cond.constantLong own index v).before a0 Z = true) (hd : decode bytes pc = .ok (.ldc2_w index, 3)) (hq : pc + 3 = q)
    (k : Go wd Z EL p l e R s m args below meth c n0 C N Q vm h cells slots (mkF m q Ls (.long v :: st))) : Go wd Z EL p l e R s m args below meth c n0 C N Q vm h cells slots (mkF m pc Ls st) := by
  subst hq
  exact g_same (fun T locs hZ X eT => ⟨T, X, eT, X.ldc2Long B.1 (B.fc hZ) (mvT (s := s.setVm vm) hZ w) (g := mkF m pc Ls st) rfl (B.d hd)⟩) k
/-! returns -/
theorem g_end {v : Option Value} (B : Ctx Z a0 EL p m meth c own bytes ml ret nm) (hv : ret = none → v = none) (hC : cells ≤ C) (hN : slots ≤ N) (hQ : Q v h)
    (hs : ∀ (T : State) (locs : List Loc) (fs : List Frame), Stand p l e R (s.setVm vm) m args below meth c T locs cells slots → (∀ (f : JFrame) (acts : List Action), f.method = m → f.locked = none → f.entered = [] → (doReturn e (T.setTop f) acts v).1 = T.setFrames fs) → Steps p.tables e below (T.setTop g) (T.setFrames fs)) :
    Go wd Z EL p l e R s m args below meth c n0 C N Q vm h cells slots g := by
  intro W T locs X eT F
  obtain ⟨hZ, ⟨k0, hS, hk⟩, hR, hw⟩ := W
  have hlk : meth.locks = false := B.2.2.2.2.1
  have hv' : meth.sig.returnType = none → v = none := fun z => hv (B.2.2.2.1.symm.trans z)
  subst eT
  obtain ⟨fs, hr, hrun, hend, hE⟩ := X.leaveW hS hk (v := v) hv' hlk
  have hR2 : CHr Z EL s.vm s.heap (T.setFrames fs).vm (T.setFrames fs).heap := hR.trans (show CHr Z EL vm T.heap T.vm T.heap from CHv.at X hZ B.2.2.2.2.2.2.2 hR.1)
  refine ⟨_, _, hs T locs fs X hr, hrun, hend, v, locs, rfl, ⟨hQ, F⟩, hR2, ⟨hE.1, hE.2.1, hE.2.2.1, hE.2.2.2.mono hC hN⟩, fun z => ?_⟩
  obtain ⟨rfl, -⟩ := hw z
  exact ⟨hE.1, X.warmed, hE.2.2.2.mono hC hN⟩
theorem g_ret0 (B : Ctx Z a0 EL p m meth c own bytes ml none nm) (hd : decode bytes pc = .ok (.return_, 1)) (hC : cells ≤ C) (hN : slots ≤ N) (hQ : Q none h) :
    Go wd Z EL p l e R s m args below meth c n0 C N Q vm h cells slots (mkF m pc Ls []) :=
  g_end B (fun _ => rfl) hC hN hQ fun T locs fs X hr => X.returnOut B.1 B.2.2.2.1 (B.d hd) hr
theorem g_retN {t : FieldType} {z : Int32} (B : Ctx Z a0 EL p m meth c own bytes ml (some t) nm) (ht : t = .boolean ∨ t = .byte ∨ t = .char ∨ t = .short) (hd : decode bytes pc = .ok (.ireturn, 1)) (hC : cells ≤ C) (hN : slots ≤ N) (hQ : Q (some (.int (nar t z))) h) :
    Go wd Z EL p l e R s m args below meth c n0 C N Q vm h cells slots (mkF m pc Ls (.int z :: st)) :=
  g_end B (fun q => nomatch q) hC hN hQ fun T locs fs X hr => retN X B.1 B.2.2.2.1 ht (B.d hd) hr
theorem g_retI {z : Int32} (B : Ctx Z a0 EL p m meth c own bytes ml (some .int) nm) (hd : decode bytes pc = .ok (.ireturn, 1)) (hC : cells ≤ C) (hN : slots ≤ N) (hQ : Q (some (.int z)) h) :
    Go wd Z EL p l e R s m args below meth c n0 C N Q vm h cells slots (mkF m pc Ls (.int z :: st)) :=
  g_end B (fun q => nomatch q) hC hN hQ fun T locs fs X hr => retOut X B.1 B.2.2.2.1 rfl (Or.inl ⟨rfl, Or.inl rfl, z, rfl⟩) (B.d hd) hr
theorem g_retJ {z : Int64} (B : Ctx Z a0 EL p m meth c own bytes ml (some .long) nm) (hd : decode bytes pc = .ok (.lreturn, 1)) (hC : cells ≤ C) (hN : slots ≤ N) (hQ : Q (some (.long z)) h) :
    Go wd Z EL p l e R s m args below meth c n0 C N Q vm h cells slots (mkF m pc Ls (.long z :: st)) :=
  g_end B (fun q => nomatch q) hC hN hQ fun T locs fs X hr => retOut X B.1 B.2.2.2.1 rfl (Or.inr (Or.inl ⟨rfl, rfl, z, rfl⟩)) (B.d hd) hr
theorem g_retA {t : FieldType} {v : Value} (B : Ctx Z a0 EL p m meth c own bytes ml (some t) nm) (ht : t.isReference = true) (hv : v.isRef = true) (hd : decode bytes pc = .ok (.areturn, 1)) (hC : cells ≤ C) (hN : slots ≤ N) (hQ : Q (some v) h) :
    Go wd Z EL p l e R s m args below meth c n0 C N Q vm h cells slots (mkF m pc Ls (v :: st)) :=
  g_end B (fun q => nomatch q) hC hN hQ fun T locs fs X hr => retOut X B.1 B.2.2.2.1 (by rcases ref_cases hv with rfl | ⟨a, rfl⟩ <;> cases t <;> first | rfl | (cases ht; done)) (Or.inr (Or.inr (Or.inr (Or.inr ⟨rfl, ht, hv⟩)))) (B.d hd) hr
/-! contracts -/
/-- what a body promises: from the arguments 'as' at the heap h it comes back with Q -/
def Met (wd : Bool) (Z : State) (EL : List (String × Nat)) (l : Launch) (y : MethodName) (bytes : ByteArray) (ml : Nat) (ret : Option FieldType) (rm : Room) (as : Array Value) (h : Heap) (sf : List Addr) (n0 : Nat) (Q : Option Value → Heap → Prop) : Prop :=
  ∀ ws, MetFree l y (head1 (Jvm.Cond.code y bytes ml ret :: ws) rm) (fun a U => a = as ∧ Z.Warmed39 U.vm ∧ U.heap = h ∧ CHv Z EL U.vm h ∧ ∀ x ∈ sf, Safe Z EL U.vm h x) (fun _ _ _ _ _ => True) (fun _ U o U' => Fin wd Z EL n0 rm.cells rm.slots Q U o U')
theorem Met.of {y : MethodName} {rm : Room} {as : Array Value} {sf : List Addr} (hnw : wd = false → EL = []) (hpl : plainFor y = true) (hEL : EW Z a0 EL) (hent : ∀ m, entryFrame m as ml = mkF m 0 Ls [])
    (body : ∀ p e s m below meth c, Ctx Z a0 EL p m meth c y.cls bytes ml ret y.name → (∀ x ∈ sf, Safe Z EL s.vm h x) → Go wd Z EL p l e rm s m as below meth c n0 rm.cells rm.slots Q s.vm h 0 0 (mkF m 0 Ls [])) : Met wd Z EL l y bytes ml ret rm as h sf n0 Q := by
  intro ws
  refine MetFree.of_bodySF hpl hisR ?_
  intro p e s m args below meth c s₁ Bd hml0 hP hK
  obtain ⟨rfl, hZ, hh, hC, hsf⟩ := hP
  have X0 : Stand p l e rm s m args below meth c s₁ [] 0 0 := Stand.of_body Bd
  have e0 : s₁.heap = h := by rw [← hh, Bd.state]; rfl
  have hown : Z.vm.findClass y.cls = some m.cls := by rw [← hZ.alike.findClass]; exact findClass_of_methodNamed Bd.named
  obtain ⟨s₂, o, r1, r⟩ := body p e s m below meth c ⟨Bd.exec, Bd.bytes, hml0, Bd.returns, Bd.notSynchronized, hown, (name_of_methodNamed Bd.named Bd.method).1, hEL⟩ hsf
    ⟨hZ, ⟨0, (State.WarmedH.refl s).since 0, Nat.zero_le _⟩, by rw [hh]; exact CHr.refl hC, fun z => ⟨rfl, hnw z⟩⟩ s₁ [] X0 e0 (Fr.nil n0)
  exact ⟨s₂, o, castTop (hent m) r1, r⟩
/-! calls -/
/-- a call site: whoever pays the callee, the walk goes on behind it -/
def Call (Z : State) (p : Program) (l : Launch) (e : Env) (R : Room) (s : State) (m : MethodId) (args : Array Value) (below : List Frame) (meth : Method) (c : Code) (vm : Vm) (h : Heap) (y : MethodName) (len W : Nat) (as : Array Value) (g : JFrame) (G : Option Value → JFrame) : Prop :=
  Z.Warmed39 vm → ∀ (T : State) (locs : List Loc) (cells slots : Nat), Stand p l e R (s.setVm vm) m args below meth c T locs cells slots → T.heap = h →
    (∀ {Pre : Pt → Array Value → Prop} {Post : Pt → Array Value → Option Value → Pt → Prop}, Back l R p e below (s.setVm vm) args y len W Pre Post → (∀ vm₁, (s.setVm vm).WarmedH vm₁ → Pre ⟨T.setVm vm₁, locs, cells, slots⟩ as) →
      ∃ (v : Option Value) (vm₁ : Vm) (B : Pt), Stand p l e R (s.setVm vm) m args below meth c B.U B.locs B.cells B.slots ∧ Post ⟨T.setVm vm₁, locs, cells, slots⟩ as v B ∧ Steps p.tables e below (T.setTop g) (B.U.setTop (G v))) ∧
    (∀ {Pre : Pt → Array Value → Prop} {Post : Pt → Array Value → Option Value → Pt → Prop}, BackS l R p e below (s.setVm vm) args y len W Pre Post → (∀ vm₁, (s.setVm vm).WarmedH vm₁ → Pre ⟨T.setVm vm₁, locs, cells, slots⟩ as) →
      ∃ (v : Option Value) (vm₁ : Vm) (B : Pt), Stand p l e R ((s.setVm vm).setVm B.U.vm) m args below meth c B.U B.locs B.cells B.slots ∧ (s.setVm vm).Since B.U.vm B.U.heap.size ∧ T.heap.size ≤ B.U.heap.size ∧ Post ⟨T.setVm vm₁, locs, cells, slots⟩ as v B ∧ Steps p.tables e below (T.setTop g) (B.U.setTop (G v)))
section CallSites
variable {y : MethodName} {index : Nat} {bs : ByteArray} {mL : Nat} {rt : Option FieldType} {W : Nat} {argsL rest : List Value}
theorem c_static (B : Ctx Z a0 EL p m meth c own bytes ml ret nm) (w1 : (Cond.methodLink own index y).before a0 Z = true) (w2 : (Cond.static y).before a0 Z = true) (w3 : (Cond.initialized y.cls).before a0 Z = true) (w4 : (Cond.code y bs mL rt).before a0 Z = true)
    (hy : y.cls ≠ "java/lang/invoke/MethodHandle" ∧ y.cls ≠ "java/lang/invoke/VarHandle") (hs : Ls.size = ml) (hlen : ∀ sig, parseMethodDescriptor y.desc = some sig → argsL.length = sig.parameters.length) (hst : st = argsL.reverse ++ rest) (hW : (rest.map fun v => v.category).sum ≤ W)
    (hd : decode bytes pc = .ok (.invokestatic index, 3)) (hq : pc + 3 = q) : Call Z p l e R s m args below meth c vm h y 3 W argsL.toArray (mkF m pc Ls st) (fun v => mkF m q Ls (v.toList ++ rest)) := by
  subst hq hst
  intro hZ T locs cells slots X eT
  have hZ' : Z.Warmed39 (s.setVm vm).vm := hZ
  refine ⟨fun {Pre Post} hK hpre => ?_, fun {Pre Post} hK hpre => ?_⟩
  · obtain ⟨v, vm₁, B', -, X', hP, st'⟩ := Jvm.LawKit.callS X B.1 (B.fc hZ) (mvT hZ' w1) (mvT hZ' w2) (mvT hZ' w3) (mvT hZ' w4) hy hK (g := mkF m pc Ls (argsL.reverse ++ rest)) rfl (hs.trans B.2.2.1.symm) hlen rfl (by show 2 * 0 + _ ≤ W; omega) (B.d hd) hpre
    exact ⟨v, vm₁, B', X', hP, st' _ (Steps.refl _)⟩
  · obtain ⟨v, vm₁, B', -, X', h1, h2, hP, st'⟩ := callSS X B.1 (B.fc hZ) (mvT hZ' w1) (mvT hZ' w2) (mvT hZ' w3) (mvT hZ' w4) hy hK (g := mkF m pc Ls (argsL.reverse ++ rest)) rfl (hs.trans B.2.2.1.symm) hlen rfl (by show 2 * 0 + _ ≤ W; omega) (B.d hd) hpre
    exact ⟨v, vm₁, B', X', h1, h2, hP, st'⟩
theorem c_init {a : Addr} (B : Ctx Z a0 EL p m meth c own bytes ml ret nm) (hy1 : y.name = "<init>") (w1 : (Cond.methodLink own index y).before a0 Z = true) (w2 : (Cond.instanceMethod y).before a0 Z = true) (w4 : (Cond.code y bs mL none).before a0 Z = true)
    (hy : y.cls ≠ "java/lang/invoke/MethodHandle" ∧ y.cls ≠ "java/lang/invoke/VarHandle") (hs : Ls.size = ml) (hlen : ∀ sig, parseMethodDescriptor y.desc = some sig → argsL.length = sig.parameters.length) (hst : st = argsL.reverse ++ .ref a :: rest) (hW : (rest.map fun v => v.category).sum ≤ W)
    (hd : decode bytes pc = .ok (.invokespecial index, 3)) (hq : pc + 3 = q) : Call Z p l e R s m args below meth c vm h y 3 W (.ref a :: argsL).toArray (mkF m pc Ls st) (fun v => mkF m q Ls (v.toList ++ rest)) := by
  subst hq hst
  intro hZ T locs cells slots X eT
  have hZ' : Z.Warmed39 (s.setVm vm).vm := hZ
  refine ⟨fun {Pre Post} hK hpre => ?_, fun {Pre Post} hK hpre => ?_⟩
  · obtain ⟨v, vm₁, B', -, X', hP, st'⟩ := X.specialBack B.1 hy1 (B.fc hZ) (mvT hZ' w1) (mvT hZ' w2) (mvT hZ' w4) hy hK (g := mkF m pc Ls (argsL.reverse ++ .ref a :: rest)) rfl (hs.trans B.2.2.1.symm) (Steps.refl _) hlen rfl (by show 2 * 0 + _ ≤ W; omega) (B.d hd) hpre
    exact ⟨v, vm₁, B', X', hP, st'⟩
  · obtain ⟨v, vm₁, B', -, X', h1, h2, hP, st'⟩ := X.specialBackS B.1 hy1 (B.fc hZ) (mvT hZ' w1) (mvT hZ' w2) (mvT hZ' w4) hy hK (g := mkF m pc Ls (argsL.reverse ++ .ref a :: rest)) rfl (hs.trans B.2.2.1.symm) (Steps.refl _) hlen rfl (by show 2 * 0 + _ ≤ W; omega) (B.d hd) hpre
    exact ⟨v, vm₁, B', X', h1, h2, hP, st'⟩
theorem c_virt {z : MethodName} {a : Addr} {K : String} (B : Ctx Z a0 EL p m meth c own bytes ml ret nm) (E : Exa Z h a K) (w1 : (Cond.methodLink own index z).before a0 Z = true) (w2 : (Cond.declares z).before a0 Z = true) (w3 : (Cond.selects K z y).before a0 Z = true) (w4 : (Cond.instanceMethod y).before a0 Z = true)
    (hnf : ∀ s' : State, Z.Warmed39 s'.vm → NotFace s' z) (hy : z.cls ≠ "java/lang/invoke/MethodHandle" ∧ z.cls ≠ "java/lang/invoke/VarHandle") (hs : Ls.size = ml) (hlen : ∀ sig, parseMethodDescriptor z.desc = some sig → argsL.length = sig.parameters.length) (hst : st = argsL.reverse ++ .ref a :: rest) (hW : (rest.map fun v => v.category).sum ≤ W)
    (hd : decode bytes pc = .ok (.invokevirtual index, 3)) (hq : pc + 3 = q) : Call Z p l e R s m args below meth c vm h y 3 W (.ref a :: argsL).toArray (mkF m pc Ls st) (fun v => mkF m q Ls (v.toList ++ rest)) := by
  subst hq hst
  intro hZ T locs cells slots X eT
  have hZ' : Z.Warmed39 (s.setVm vm).vm := hZ
  obtain ⟨cB, kB, i1, i2, i3⟩ := isOf (s := s.setVm vm) hZ' eT E
  refine ⟨fun {Pre Post} hK hpre => ?_, fun {Pre Post} hK hpre => ?_⟩
  · obtain ⟨v, vm₁, B', -, X', hP, st'⟩ := X.virtualBack B.1 (B.fc hZ) (mvT hZ' w1) (mvT hZ' w2) (hnf _ hZ') (mvT hZ' w3) (mvT hZ' w4) hy hK i1 i3 (g := mkF m pc Ls (argsL.reverse ++ .ref a :: rest)) rfl (hs.trans B.2.2.1.symm) (Steps.refl _) hlen rfl (by show 2 * 0 + _ ≤ W; omega) (B.d hd) hpre
    exact ⟨v, vm₁, B', X', hP, st'⟩
  · obtain ⟨v, vm₁, B', -, X', h1, h2, hP, st'⟩ := X.virtualBackS B.1 (B.fc hZ) (mvT hZ' w1) (mvT hZ' w2) (hnf _ hZ') (mvT hZ' w3) (mvT hZ' w4) hy hK i1 i3 (g := mkF m pc Ls (argsL.reverse ++ .ref a :: rest)) rfl (hs.trans B.2.2.1.symm) (Steps.refl _) hlen rfl (by show 2 * 0 + _ ≤ W; omega) (B.d hd) hpre
    exact ⟨v, vm₁, B', X', h1, h2, hP, st'⟩
/-- a private method by invokevirtual; z: another method of its class, which some class selects -/
theorem c_priv {z : MethodName} {a : Addr} {K K' : String} (B : Ctx Z a0 EL p m meth c own bytes ml ret nm) (E : Exa Z h a K) (w1 : (Cond.methodLink own index y).before a0 Z = true) (w2 : (Cond.instanceMethod y).before a0 Z = true) (w3 : (Cond.privateMethod y).before a0 Z = true) (w4 : (Cond.code y bs mL rt).before a0 Z = true)
    (wo : (Cond.selects K' z z).before a0 Z = true) (hz : z.cls = y.cls) (hy : y.cls ≠ "java/lang/invoke/MethodHandle" ∧ y.cls ≠ "java/lang/invoke/VarHandle") (hs : Ls.size = ml) (hlen : ∀ sig, parseMethodDescriptor y.desc = some sig → argsL.length = sig.parameters.length) (hst : st = argsL.reverse ++ .ref a :: rest) (hW : (rest.map fun v => v.category).sum ≤ W)
    (hd : decode bytes pc = .ok (.invokevirtual index, 3)) (hq : pc + 3 = q) : Call Z p l e R s m args below meth c vm h y 3 W (.ref a :: argsL).toArray (mkF m pc Ls st) (fun v => mkF m q Ls (v.toList ++ rest)) := by
  subst hq hst
  intro hZ T locs cells slots X eT
  have hZ' : Z.Warmed39 (s.setVm vm).vm := hZ
  obtain ⟨cell, i1, i2⟩ := E.cell
  have hpr : (s.setVm vm).PrivateAt y := Cond.privateMethod_at (mvP hZ' w3 (args := #[]))
  have hsel : (Cond.selects y.cls y y).before args (s.setVm vm) = true := by
    obtain ⟨c2, r2, m2, q1, q2, q3, q4, kP, hkP, hkPi⟩ := Cond.selects_spec (mvT hZ' wo (args := #[]))
    have hc := findClass_of_methodNamed q3
    rw [hz] at hc
    exact selects_self_of_private hc hkP hkPi hpr (mvT hZ' w2) hy
  refine ⟨fun {Pre Post} hK hpre => ?_, fun {Pre Post} hK hpre => ?_⟩
  · obtain ⟨v, vm₁, B', -, X', hP, st'⟩ := X.privateBack B.1 (B.fc hZ) (mvT hZ' w1) (mvT hZ' w2) hsel hpr (mvT hZ' w4) hy hK (g := mkF m pc Ls (argsL.reverse ++ .ref a :: rest)) rfl (hs.trans B.2.2.1.symm) (Steps.refl _) (by rw [eT]; exact i1) i2 hlen rfl (by show 2 * 0 + _ ≤ W; omega) (B.d hd) hpre
    exact ⟨v, vm₁, B', X', hP, st'⟩
  · obtain ⟨v, vm₁, B', -, X', h1, h2, hP, st'⟩ := X.privateBackS B.1 (B.fc hZ) (mvT hZ' w1) (mvT hZ' w2) hsel hpr (mvT hZ' w4) hy hK (g := mkF m pc Ls (argsL.reverse ++ .ref a :: rest)) rfl (hs.trans B.2.2.1.symm) (Steps.refl _) (by rw [eT]; exact i1) i2 hlen rfl (by show 2 * 0 + _ ≤ W; omega) (B.d hd) hpre
    exact ⟨v, vm₁, B', X', h1, h2, hP, st'⟩
theorem nfs {y z : MethodName} {K : String} (w3 : (Cond.selects K y y).before a0 Z = true) : ∀ s' : State, Z.Warmed39 s'.vm → NotFace s' y := fun s' hZ => notFace_of_selects (args := #[]) (mvT hZ w3)
end CallSites
/-- a call that a law of the library's form pays -/
theorem g_pay {y : MethodName} {len W k n : Nat} {as : Array Value} {G : Option Value → JFrame} {Q' : Option Value → Heap → List Loc → Prop} (hc : Call Z p l e R s m args below meth c vm h y len W as g G)
    (hK : Z.Warmed39 (s.setVm vm).vm → Back l R p e below (s.setVm vm) args y len W (fun A a => a = as ∧ A.U.heap = h ∧ A.cells + k ≤ R.cells ∧ A.slots + n ≤ R.slots) (fun A _ v B => ∃ L, Q' v B.U.heap L ∧ B.locs = A.locs ++ L ∧ B.cells = A.cells + k ∧ B.slots = A.slots + n))
    (hcl : cells + k ≤ R.cells) (hsl : slots + n ≤ R.slots) (hF : ∀ v h' L, Q' v h' L → Fr n0 L ∧ ∃ ws, Keep h h' ws ∧ ∀ x ∈ ws, Safe Z EL vm h x)
    (kk : ∀ v h' L, Q' v h' L → Go wd Z EL p l e R s m args below meth c n0 C N Q vm h' (cells + k) (slots + n) (G v)) : Go wd Z EL p l e R s m args below meth c n0 C N Q vm h cells slots g := by
  intro W T locs X eT F
  obtain ⟨v, vm₁, ⟨U, L', k', n'⟩, X', ⟨L, hQ, e1, e2, e3⟩, st⟩ := (hc W.1 T locs cells slots X eT).1 (hK W.1) (fun vm₁ _ => ⟨rfl, eT, hcl, hsl⟩)
  dsimp only [Pt.U, Pt.locs, Pt.cells, Pt.slots] at X' hQ e1 e2 e3 st
  subst e1 e2 e3
  obtain ⟨F', ws, K, S⟩ := hF _ _ _ hQ
  obtain ⟨s₂, o, h1, r⟩ := kk v U.heap L hQ (W.keep S K) U _ X' rfl (Fr.app F F')
  exact ⟨s₂, o, st.trans h1, r⟩
/-- a call that a contract pays -/
theorem g_met {y : MethodName} {len W mL : Nat} {bs : ByteArray} {rt : Option FieldType} {rm : Room} {as : Array Value} {sf : List Addr} {G : Option Value → JFrame} {Q' : Option Value → Heap → Prop} (hEL : EW Z a0 EL) (hc : Call Z p l e R s m args below meth c vm h y len W as g G)
    (hM : Met wd Z EL l y bs mL rt rm as h sf n0 Q') (wc : (Cond.code y bs mL rt).before a0 Z = true) (wz : (Cond.initialized y.cls).before a0 Z = true) (hf : rm.frames + 1 ≤ R.frames) (hl : W + (mL + 11) + rm.locals ≤ R.locals)
    (hcl : cells + rm.cells ≤ R.cells) (hsl : slots + rm.slots ≤ R.slots) (hsf : ∀ x ∈ sf, Safe Z EL vm h x ∧ x < h.size)
    (kk : ∀ v h' vm', Z.Warmed39 vm' → CHr Z EL vm h vm' h' → Q' v h' → Go wd Z EL p l e R s m args below meth c n0 C N Q vm' h' (cells + rm.cells) (slots + rm.slots) (G v)) : Go wd Z EL p l e R s m args below meth c n0 C N Q vm h cells slots g := by
  intro Wt0 T locs X eT F
  obtain ⟨hZ, ⟨k0, hS, hk⟩, hR, hw⟩ := Wt0
  have hZ' : Z.Warmed39 (s.setVm vm).vm := hZ
  cases wd with
  | false =>
    obtain ⟨hv, rfl⟩ := hw rfl
    have hK : Back l R p e below (s.setVm vm) args y len W (fun A a => a = as ∧ A.U.heap = h ∧ A.cells + rm.cells ≤ R.cells ∧ A.slots + rm.slots ≤ R.slots) (fun A _ v B => ∃ L, (Q' v B.U.heap ∧ Fr n0 L ∧ h.size ≤ B.U.heap.size) ∧ B.locs = A.locs ++ L ∧ B.cells = A.cells + rm.cells ∧ B.slots = A.slots + rm.slots) :=
      Back.of_free (bytes := bs) (maxL := mL) (ret := rt) (E := fun _ U o t L k n => k = rm.cells ∧ n = rm.slots ∧ ∃ v, o = .returned v ∧ Q' v t.heap ∧ Fr n0 L ∧ U.heap.size ≤ t.heap.size) (hM []) hf hl
        (fun m meth c A a Y hp => have hU : Z.Warmed39 A.U.vm := wtrans hZ' Y.warmed
          ⟨by show (Cond.and _ .tt).before a A.U = true; rw [Cond.before_and, mv hU wc]; rfl, mv hU wc, mv hU wz, hp.2.2.1, hp.2.2.2⟩)
        (fun m meth c A a g mk Y hp => ⟨hp.1, wtrans hZ' Y.warmed, hp.2.1, fun _ q => (nomatch q), fun x hx => nos⟩) (fun _ _ _ _ _ _ _ _ _ => trivial)
        (fun _ _ _ _ ⟨v, L, h1, h2, h3, h4, h5⟩ => ⟨L, _, _, h5 rfl, rfl, rfl, v, h1, h2.1, h2.2, h3.2.1⟩)
        (fun m meth c A a g mk v t L k n Y hp _ _ ⟨e1, e2, v', e3, e4, e5, e6⟩ => by
          cases e3; subst e1 e2; exact ⟨L, ⟨e4, e5, by rw [← hp.2.1]; exact e6⟩, rfl, rfl, rfl⟩)
    obtain ⟨v, vm₁, ⟨U, L', k', n'⟩, X', ⟨L, ⟨hQ, F', hsz⟩, e1, e2, e3⟩, st⟩ := (hc hZ T locs cells slots X eT).1 hK (fun vm₁ _ => ⟨rfl, eT, hcl, hsl⟩)
    dsimp only [Pt.U, Pt.locs, Pt.cells, Pt.slots] at X' hQ e1 e2 e3 st hsz
    subst e1 e2 e3
    have hC : CHr Z [] vm h vm U.heap := ⟨fun _ q => (nomatch q), hsz, fun y q => absurd q (nos (vm := vm) (h := U.heap))⟩
    obtain ⟨s₂, o, h1, r⟩ := kk v U.heap vm hZ hC hQ ⟨hZ, ⟨k0, hS, Nat.le_trans hk hsz⟩, hR.trans hC, hw⟩ U _ X' rfl (Fr.app F F')
    exact ⟨s₂, o, st.trans h1, r⟩
  | true =>
    have hK : BackS l R p e below (s.setVm vm) args y len W (fun A a => a = as ∧ A.U.heap = h ∧ A.cells + rm.cells ≤ R.cells ∧ A.slots + rm.slots ≤ R.slots) (fun A _ v B => ∃ L, (Q' v B.U.heap ∧ Fr n0 L ∧ CHr Z EL vm h B.U.vm B.U.heap) ∧ B.locs = A.locs ++ L ∧ B.cells = A.cells + rm.cells ∧ B.slots = A.slots + rm.slots) :=
      BackS.of_freeW (bytes := bs) (maxL := mL) (ret := rt) (E := fun _ first o t L k n => k = rm.cells ∧ n = rm.slots ∧ (∃ v, o = .returned v ∧ Q' v t.heap ∧ Fr n0 L) ∧ CHr Z EL first.vm first.heap t.vm t.heap) (hM []) hf hl
        (fun m meth c A a Y hp => have hU : Z.Warmed39 A.U.vm := wtrans hZ' Y.warmed
          ⟨by show (Cond.and _ .tt).before a A.U = true; rw [Cond.before_and, mv hU wc]; rfl, mv hU wc, mv hU wz, hp.2.2.1, hp.2.2.2⟩)
        (fun m meth c A a g mk Y hp => have q := CHv.at Y hZ hEL hR.1; ⟨hp.1, wtrans hZ' Y.warmed, hp.2.1, q.1, fun x hx => q.safe (hsf x hx).2 (hsf x hx).1⟩) (fun _ _ _ _ _ _ _ _ _ => trivial)
        (fun _ _ _ _ ⟨v, L, h1, h2, h3, h4, h5⟩ => ⟨L, _, _, h4, rfl, rfl, ⟨v, h1, h2.1, h2.2⟩, h3⟩)
        (fun m meth c A a g mk v t L k n Y hp _ _ ⟨e1, e2, ⟨v', e3, e4, e4'⟩, e5⟩ => by
          cases e3; subst e1 e2
          refine ⟨L, ⟨e4, e4', (CHv.at Y hZ hEL hR.1).trans ?_⟩, rfl, rfl, rfl⟩
          rw [← hp.2.1]; exact e5)
    obtain ⟨v, vm₁, ⟨U, L', k', n'⟩, X', hS2, hgr, ⟨L, ⟨hQ, F', hC⟩, e1, e2, e3⟩, st⟩ := (hc hZ T locs cells slots X eT).2 hK (fun vm₁ _ => ⟨rfl, eT, hcl, hsl⟩)
    dsimp only [Pt.U, Pt.locs, Pt.cells, Pt.slots] at X' hQ e1 e2 e3 st hS2 hgr hC
    subst e1 e2 e3
    rw [eT] at hgr
    have hZ2 : Z.Warmed39 U.vm := State.Warmed39.trans (t := s.setVm vm) hZ hS2.1
    obtain ⟨s₂, o, h1, r⟩ := kk v U.heap U.vm hZ2 hC hQ ⟨hZ2, ⟨_, hS.trans hS2 (Nat.le_trans hk hgr), Nat.le_refl _⟩, hR.trans hC, fun q => (nomatch q)⟩ U _ X' rfl (Fr.app F F')
    exact ⟨s₂, o, st.trans h1, r⟩
/-- the same, narrow: the tables stay the start's -/
theorem g_metN {y : MethodName} {len W mL : Nat} {bs : ByteArray} {rt : Option FieldType} {rm : Room} {as : Array Value} {sf : List Addr} {G : Option Value → JFrame} {Q' : Option Value → Heap → Prop} (hc : Call Z p l e R s m args below meth c vm h y len W as g G)
    (hM : Met false Z [] l y bs mL rt rm as h sf n0 Q') (wc : (Cond.code y bs mL rt).before a0 Z = true) (wz : (Cond.initialized y.cls).before a0 Z = true) (hf : rm.frames + 1 ≤ R.frames) (hl : W + (mL + 11) + rm.locals ≤ R.locals)
    (hcl : cells + rm.cells ≤ R.cells) (hsl : slots + rm.slots ≤ R.slots)
    (kk : ∀ v h', h.size ≤ h'.size → Q' v h' → Go false Z [] p l e R s m args below meth c n0 C N Q vm h' (cells + rm.cells) (slots + rm.slots) (G v)) : Go false Z [] p l e R s m args below meth c n0 C N Q vm h cells slots g := by
  intro Wt0 T locs X eT F
  obtain ⟨hZ, ⟨k0, hS, hk⟩, hR, hw⟩ := Wt0
  have hZ' : Z.Warmed39 (s.setVm vm).vm := hZ
  obtain ⟨hv, -⟩ := hw rfl
  have hK : Back l R p e below (s.setVm vm) args y len W (fun A a => a = as ∧ A.U.heap = h ∧ A.cells + rm.cells ≤ R.cells ∧ A.slots + rm.slots ≤ R.slots) (fun A _ v B => ∃ L, (Q' v B.U.heap ∧ Fr n0 L ∧ h.size ≤ B.U.heap.size) ∧ B.locs = A.locs ++ L ∧ B.cells = A.cells + rm.cells ∧ B.slots = A.slots + rm.slots) :=
    Back.of_free (bytes := bs) (maxL := mL) (ret := rt) (E := fun _ U o t L k n => k = rm.cells ∧ n = rm.slots ∧ ∃ v, o = .returned v ∧ Q' v t.heap ∧ Fr n0 L ∧ U.heap.size ≤ t.heap.size) (hM []) hf hl
      (fun m meth c A a Y hp => have hU : Z.Warmed39 A.U.vm := wtrans hZ' Y.warmed
        ⟨by show (Cond.and _ .tt).before a A.U = true; rw [Cond.before_and, mv hU wc]; rfl, mv hU wc, mv hU wz, hp.2.2.1, hp.2.2.2⟩)
      (fun m meth c A a g mk Y hp => ⟨hp.1, wtrans hZ' Y.warmed, hp.2.1, fun _ q => (nomatch q), fun x hx => nos⟩) (fun _ _ _ _ _ _ _ _ _ => trivial)
      (fun _ _ _ _ ⟨v, L, h1, h2, h3, h4, h5⟩ => ⟨L, _, _, h5 rfl, rfl, rfl, v, h1, h2.1, h2.2, h3.2.1⟩)
      (fun m meth c A a g mk v t L k n Y hp _ _ ⟨e1, e2, v', e3, e4, e5, e6⟩ => by
        cases e3; subst e1 e2; exact ⟨L, ⟨e4, e5, by rw [← hp.2.1]; exact e6⟩, rfl, rfl, rfl⟩)
  obtain ⟨v, vm₁, ⟨U, L', k', n'⟩, X', ⟨L, ⟨hQ, F', hsz⟩, e1, e2, e3⟩, st⟩ := (hc hZ T locs cells slots X eT).1 hK (fun vm₁ _ => ⟨rfl, eT, hcl, hsl⟩)
  dsimp only [Pt.U, Pt.locs, Pt.cells, Pt.slots] at X' hQ e1 e2 e3 st hsz
  subst e1 e2 e3
  have hC : CHr Z [] vm h vm U.heap := ⟨fun _ q => (nomatch q), hsz, fun y q => absurd q (nos (vm := vm) (h := U.heap))⟩
  obtain ⟨s₂, o, h1, r⟩ := kk v U.heap hsz hQ ⟨hZ, ⟨k0, hS, Nat.le_trans hk hsz⟩, hR.trans hC, hw⟩ U _ X' rfl (Fr.app F F')
  exact ⟨s₂, o, st.trans h1, r⟩
theorem nb {x : Int32} (h : x = 0 ∨ x = 1) : narrow .boolean (.int x) = .int x ∧ fits .boolean (.int x) = true := by
  rcases h with rfl | rfl <;> exact ⟨rfl, rfl⟩
end Calc
end Jvm.Own
/- laws to paste: Road.backV, Road.lenW, Road.chN (cut by pick.py; bodies as the Statement names them) -/
namespace Jvm.Pilot.@@N@@
namespace StrChars
open Jvm Sem ClassFile Op Lib Jvm.Stand Jvm.Free.XT Jvm.Free.ALB Jvm.Free.JM Jvm.Free
open Jvm.Lib.Cold (StaticIs)
/-- a char array whose places are chars -/
def Ch (a : Addr) (A : Cell) (U : State) : Prop := Arr .char a A U ∧ Typed .char A
theorem Ch.mv {a : Addr} {A : Cell} {U U' : State} (h : Ch a A U) (hal : U.vm.Alike U'.vm) (hh : U'.heap = U.heap) : Ch a A U' := ⟨h.1.mv hal hh, h.2⟩
theorem Ch.keep {a : Addr} {A : Cell} {U U' : State} (h : Ch a A U) (hal : U.vm.Alike U'.vm) (hk : U'.heap[a]? = some A) : Ch a A U' := ⟨h.1.keep hal hk, h.2⟩
/-- what place i of a char[]'s cell holds -/
def cv (A : Cell) (i : Nat) : Int32 := match A.slots[i]? with | some (.int x) => x | _ => 0
theorem Ch.get {a : Addr} {A : Cell} {U : State} (h : Ch a A U) {i : Nat} (hi : i < A.slots.size) : A.slots[i]? = some (.int (cv A i)) := by
  have e := Array.getElem?_eq_getElem hi
  have f := h.2 i _ e
  unfold cv; rw [e]
  generalize A.slots[i] = v at f
  cases v <;> simp [fits] at f ⊢
/-- the byte that i2b leaves of a char -/
def lo8 (x : Int32) : Int32 := x.toInt8.toInt32
theorem fits_lo8 (y : Int32) : fits .byte (.int (lo8 y)) = true := by
  have h1 := y.toInt8.le_toInt
  have h2 := y.toInt8.toInt_lt
  simp only [lo8, fits, Bool.and_eq_true, decide_eq_true_eq, Int32.le_iff_toInt_le, Int8.toInt_toInt32, show (-128 : Int32).toInt = -128 from by decide, show (127 : Int32).toInt = 127 from by decide]
  omega
/-- A' is A but that each place j of lo .. hi - 1 holds f j -/
def Laid (A A' : Cell) (lo hi : Nat) (f : Nat → Value) : Prop := A'.cls = A.cls ∧ A'.vm = A.vm ∧ A'.slots.size = A.slots.size ∧ ∀ i, A'.slots[i]? = if lo ≤ i ∧ i < hi then some (f i) else A.slots[i]?
theorem Laid.zero (A : Cell) (lo : Nat) (f : Nat → Value) : Laid A A lo (lo + 0) f := ⟨rfl, rfl, rfl, fun i => by rw [if_neg (by omega)]⟩
theorem Laid.step {A Ak : Cell} {lo k : Nat} {f : Nat → Value} {v : Value} (h : Laid A Ak lo k f) (hlo : lo ≤ k) (hk : k < Ak.slots.size) (hv : v = f k) : Laid A (Ak.setSlot k v) lo (k + 1) f := by
  refine ⟨h.1, h.2.1, by simpa [Cell.setSlot] using h.2.2.1, fun i => ?_⟩
  by_cases e : k = i
  · subst e; rw [Cell.slots_setSlot_self v hk, if_pos (by omega), hv]
  · rw [Cell.slots_setSlot_ne v e, h.2.2.2 i]
    by_cases q : lo ≤ i ∧ i < k
    · rw [if_pos q, if_pos (by omega)]
    · rw [if_neg q, if_neg (by omega)]
def U16 : String := "java/lang/StringUTF16"
namespace Cmp5
def yN : MethodName := ⟨"java/lang/StringUTF16", "compress", "([CI[BII)I"⟩
abbrev yB : ByteArray := jdk_52_method_21_code
theorem d0 : decode yB 0 = .ok (.iconst 0, 1) := by decide +kernel
theorem d1 : decode yB 1 = .ok (.istore 5, 2) := by decide +kernel
theorem d3 : decode yB 3 = .ok (.iload 5, 2) := by decide +kernel
theorem d5 : decode yB 5 = .ok (.iload 4, 2) := by decide +kernel
theorem d7 : decode yB 7 = .ok (.if_icmp (.ge) 37, 3) := by decide +kernel
theorem d10 : decode yB 10 = .ok (.aload_n 0, 1) := by decide +kernel
theorem d11 : decode yB 11 = .ok (.iload_n 1, 1) := by decide +kernel
theorem d12 : decode yB 12 = .ok (.caload, 1) := by decide +kernel
theorem d13 : decode yB 13 = .ok (.istore 6, 2) := by decide +kernel
theorem d15 : decode yB 15 = .ok (.iload 6, 2) := by decide +kernel
theorem d17 : decode yB 17 = .ok (.sipush 255, 3) := by decide +kernel
theorem d20 : decode yB 20 = .ok (.if_icmp (.le) 6, 3) := by decide +kernel
theorem d26 : decode yB 26 = .ok (.aload_n 2, 1) := by decide +kernel
theorem d27 : decode yB 27 = .ok (.iload_n 3, 1) := by decide +kernel
theorem d28 : decode yB 28 = .ok (.iload 6, 2) := by decide +kernel
theorem d30 : decode yB 30 = .ok (.i2b, 1) := by decide +kernel
theorem d31 : decode yB 31 = .ok (.bastore, 1) := by decide +kernel
theorem d32 : decode yB 32 = .ok (.iinc 1 1, 3) := by decide +kernel
theorem d35 : decode yB 35 = .ok (.iinc 3 1, 3) := by decide +kernel
theorem d38 : decode yB 38 = .ok (.iinc 5 1, 3) := by decide +kernel
theorem d41 : decode yB 41 = .ok (.goto (-38), 3) := by decide +kernel
theorem d44 : decode yB 44 = .ok (.iload 4, 2) := by decide +kernel
theorem d46 : decode yB 46 = .ok (.ireturn, 1) := by decide +kernel
def site : List Cond := []
def tab : Cond := tabOf yN yB 7 (some .int) site
def P (b : Addr) (A : Cell) (d : Addr) (B : Cell) (o q len : Nat) (args : Array Value) (s : State) : Prop := args = #[.ref b, .int (Int32.ofNat o), .ref d, .int (Int32.ofNat q), .int (Int32.ofNat len)] ∧ Ch b A s ∧ Arr .byte d B s ∧ b ≠ d ∧ o + len ≤ A.slots.size ∧ q + len ≤ B.slots.size ∧ ∀ i, i < len → ¬ 255 < cv A (o + i)
def E (b : Addr) (A : Cell) (d : Addr) (B : Cell) (o q len : Nat) (r : Option Value) (s u : State) : Prop := r = some (.int (Int32.ofNat len)) ∧ ∃ B', Put d B' s u ∧ Laid B B' q (q + len) (fun j => Value.int (lo8 (cv A (o + (j - q)))))
/-- no char of the range above 255: len; the places written hold each char's low byte -/
theorem law (l : Launch) (b : Addr) (A : Cell) (d : Addr) (B : Cell) (o q len : Nat) : Law l yN 5 5 0 0 yB 7 (some .int) site (P b A d B o q len) (E b A d B o q len) (copyLocs d q len) 0 0 := by
  refine Law.of_walk (plainFor_of_name (by decide +kernel)) (by decide +kernel) (by decide +kernel) (by decide) (fun _ _ h => by rw [h.1]; rfl) (fun _ U U' hal hh h => ⟨h.1, h.2.1.mv hal hh, h.2.2.1.mv hal hh, h.2.2.2⟩) (fun r U U' V V' h1 hal h2 h => ⟨h.1, h.2.elim fun B' q => ⟨B', q.1.mv h1 h2, q.2⟩⟩) ?_
  intro p e s m args below meth c s₁ X0 hexec hbytes hml hret hlk hnm hown hh0 W hP
  obtain ⟨rfl, hA, hB, hne, l1, l2, hp⟩ := hP
  have c1 : Steps p.tables e below (s₁.setTop (entryFrame m #[.ref b, .int (Int32.ofNat o), .ref d, .int (Int32.ofNat q), .int (Int32.ofNat len)] 7)) (s₁.setTop (mkF m 0 #[.val (.ref b), .val (.int (Int32.ofNat o)), .val (.ref d), .val (.int (Int32.ofNat q)), .val (.int (Int32.ofNat len)), .unset, .unset] [])) := entry rfl
  have hA0 := hA.1.mv X0.warmed.alike hh0
  have hB0 := hB.mv X0.warmed.alike hh0
  have a31 := hA.1.2.2.2
  have c2 : Steps p.tables e below (s₁.setTop (entryFrame m #[.ref b, .int (Int32.ofNat o), .ref d, .int (Int32.ofNat q), .int (Int32.ofNat len)] 7)) (s₁.setTop (mkF m 3 #[.val (.ref b), .val (.int (Int32.ofNat o)), .val (.ref d), .val (.int (Int32.ofNat q)), .val (.int (Int32.ofNat len)), .val (.int 0), .unset] [])) := c1.trans (by
    refine iconstV X0.here hexec rfl 0 (hb hbytes d0) (by decide) ?_
    refine XS.istore X0.here hexec rfl (hb hbytes d1) rfl rfl ?_
    exact Steps.refl _)
  have loop : ∀ (r i : Nat), i + r = len → ∀ (z : Slot), (z = .unset ∨ ∃ w, z = .val w ∧ w.category = 1) → ∀ (Tl : State) (Bk : Cell), Stand p l e { frames := 0, locals := 0, cells := 0, slots := 0 } s m #[.ref b, .int (Int32.ofNat o), .ref d, .int (Int32.ofNat q), .int (Int32.ofNat len)] below meth c Tl ([] ++ copyLocs d q i) 0 0 → Put d Bk s₁ Tl → Laid B Bk q (q + i) (fun j => Value.int (lo8 (cv A (o + (j - q))))) →
      Steps p.tables e below (s₁.setTop (entryFrame m #[.ref b, .int (Int32.ofNat o), .ref d, .int (Int32.ofNat q), .int (Int32.ofNat len)] 7)) (Tl.setTop (mkF m 3 #[.val (.ref b), .val (.int (Int32.ofNat (o + i))), .val (.ref d), .val (.int (Int32.ofNat (q + i))), .val (.int (Int32.ofNat len)), .val (.int (Int32.ofNat i)), z] [])) → ∃ (T' : State) (B' : Cell) (z' : Slot), Stand p l e { frames := 0, locals := 0, cells := 0, slots := 0 } s m #[.ref b, .int (Int32.ofNat o), .ref d, .int (Int32.ofNat q), .int (Int32.ofNat len)] below meth c T' ([] ++ copyLocs d q len) 0 0 ∧ Put d B' s₁ T' ∧ Laid B B' q (q + len) (fun j => Value.int (lo8 (cv A (o + (j - q))))) ∧
      Steps p.tables e below (s₁.setTop (entryFrame m #[.ref b, .int (Int32.ofNat o), .ref d, .int (Int32.ofNat q), .int (Int32.ofNat len)] 7)) (T'.setTop (mkF m 3 #[.val (.ref b), .val (.int (Int32.ofNat (o + len))), .val (.ref d), .val (.int (Int32.ofNat (q + len))), .val (.int (Int32.ofNat len)), .val (.int (Int32.ofNat len)), z'] [])) := by
    intro r
    induction r with
    | zero =>
      intro i hi z hz Tl Bk Xl pl fl cl
      have hil : i = len := by omega
      rw [hil] at Xl fl cl
      exact ⟨Tl, Bk, z, Xl, pl, fl, cl⟩
    | succ r ih =>
      intro i hi z hz Tl Bk Xl pl fl cl
      have all := X0.warmed.alike.symm.trans Xl.warmed.alike
      have hAl := hA0.keep all (pl.other hne hA0.1)
      have hBk := hB0.like all pl.1 fl.1 fl.2.1 fl.2.2.1
      have hlt : q + i < Bk.slots.size := by rw [fl.2.2.1]; omega
      have c3 : Steps p.tables e below (s₁.setTop (entryFrame m #[.ref b, .int (Int32.ofNat o), .ref d, .int (Int32.ofNat q), .int (Int32.ofNat len)] 7)) (Tl.setTop (mkF m 12 #[.val (.ref b), .val (.int (Int32.ofNat (o + i))), .val (.ref d), .val (.int (Int32.ofNat (q + i))), .val (.int (Int32.ofNat len)), .val (.int (Int32.ofNat i)), z] [.int (Int32.ofNat (o + i)), .ref b])) := cl.trans (by
        refine XS.iload Xl.here hexec rfl (hb hbytes d3) rfl ?_
        refine XS.iload Xl.here hexec rfl (hb hbytes d5) rfl ?_
        refine XS.icmpNo Xl.here hexec rfl (hb hbytes d7) rfl (ii_ge_f (lt32 (by omega) (by omega))) ?_
        refine XS.aloadN Xl.here hexec rfl (hb hbytes d10) rfl rfl ?_
        refine XS.iloadN Xl.here hexec rfl (hb hbytes d11) rfl ?_
        exact Steps.refl _)
      have c4 : Steps p.tables e below (s₁.setTop (entryFrame m #[.ref b, .int (Int32.ofNat o), .ref d, .int (Int32.ofNat q), .int (Int32.ofNat len)] 7)) (Tl.setTop (mkF m 13 #[.val (.ref b), .val (.int (Int32.ofNat (o + i))), .val (.ref d), .val (.int (Int32.ofNat (q + i))), .val (.int (Int32.ofNat len)), .val (.int (Int32.ofNat i)), z] [.int (cv A (o + i))])) := c3.trans (by
        refine Xl.aget hexec hAl rfl (hA.get (i := o + i) (by omega)) rfl rfl (hb hbytes d12) ?_
        exact Steps.refl _)
      have c5 : Steps p.tables e below (s₁.setTop (entryFrame m #[.ref b, .int (Int32.ofNat o), .ref d, .int (Int32.ofNat q), .int (Int32.ofNat len)] 7)) (Tl.setTop (mkF m 15 #[.val (.ref b), .val (.int (Int32.ofNat (o + i))), .val (.ref d), .val (.int (Int32.ofNat (q + i))), .val (.int (Int32.ofNat len)), .val (.int (Int32.ofNat i)), .val (.int (cv A (o + i)))] [])) := c4.trans (by
        refine XS.istoreS Xl.here hexec rfl (hb hbytes d13) rfl rfl hz ?_
        exact Steps.refl _)
      have c6 : Steps p.tables e below (s₁.setTop (entryFrame m #[.ref b, .int (Int32.ofNat o), .ref d, .int (Int32.ofNat q), .int (Int32.ofNat len)] 7)) (Tl.setTop (mkF m 31 #[.val (.ref b), .val (.int (Int32.ofNat (o + i))), .val (.ref d), .val (.int (Int32.ofNat (q + i))), .val (.int (Int32.ofNat len)), .val (.int (Int32.ofNat i)), .val (.int (cv A (o + i)))] [.int (lo8 (cv A (o + i))), .int (Int32.ofNat (q + i)), .ref d])) := c5.trans (by
        refine XS.iload Xl.here hexec rfl (hb hbytes d15) rfl ?_
        refine sipushV Xl.here hexec rfl 255 (hb hbytes d17) (by decide) ?_
        refine XS.icmpYes Xl.here hexec rfl (pc0 := 20) rfl (hb hbytes d20) rfl (ii_le_t (hp i (by omega))) (by decide) rfl ?_
        refine XS.aloadN Xl.here hexec rfl (hb hbytes d26) rfl rfl ?_
        refine XS.iloadN Xl.here hexec rfl (hb hbytes d27) rfl ?_
        refine XS.iload Xl.here hexec rfl (hb hbytes d28) rfl ?_
        refine i2b Xl.here hexec rfl (hb hbytes d30) rfl ?_
        exact Steps.refl _)
      obtain ⟨T7, X7, p7, st7⟩ := Xl.aput hexec hBk rfl hlt rfl (fits_lo8 (cv A (o + i))) (g := (mkF m 31 #[.val (.ref b), .val (.int (Int32.ofNat (o + i))), .val (.ref d), .val (.int (Int32.ofNat (q + i))), .val (.int (Int32.ofNat len)), .val (.int (Int32.ofNat i)), .val (.int (cv A (o + i)))] [.int (lo8 (cv A (o + i))), .int (Int32.ofNat (q + i)), .ref d])) rfl (rest := []) rfl (hb hbytes d31)
      have c8 : Steps p.tables e below (s₁.setTop (entryFrame m #[.ref b, .int (Int32.ofNat o), .ref d, .int (Int32.ofNat q), .int (Int32.ofNat len)] 7)) (T7.setTop (mkF m 32 #[.val (.ref b), .val (.int (Int32.ofNat (o + i))), .val (.ref d), .val (.int (Int32.ofNat (q + i))), .val (.int (Int32.ofNat len)), .val (.int (Int32.ofNat i)), .val (.int (cv A (o + i)))] [])) := c6.trans (st7 _ (Steps.refl _))
      have c9 : Steps p.tables e below (s₁.setTop (entryFrame m #[.ref b, .int (Int32.ofNat o), .ref d, .int (Int32.ofNat q), .int (Int32.ofNat len)] 7)) (T7.setTop (mkF m 3 #[.val (.ref b), .val (.int (Int32.ofNat (o + i) + 1)), .val (.ref d), .val (.int (Int32.ofNat (q + i) + 1)), .val (.int (Int32.ofNat len)), .val (.int (Int32.ofNat i + 1)), .val (.int (cv A (o + i)))] [])) := c8.trans (by
        refine iincV X7.here hexec rfl 1 (hb hbytes d32) (by decide) rfl rfl ?_
        refine iincV X7.here hexec rfl 1 (hb hbytes d35) (by decide) rfl rfl ?_
        refine iincV X7.here hexec rfl 1 (hb hbytes d38) (by decide) rfl rfl ?_
        refine XS.goto X7.here hexec rfl (pc0 := 41) rfl (hb hbytes d41) (by decide) rfl ?_
        exact Steps.refl _)
      have c10 : Steps p.tables e below (s₁.setTop (entryFrame m #[.ref b, .int (Int32.ofNat o), .ref d, .int (Int32.ofNat q), .int (Int32.ofNat len)] 7)) (T7.setTop (mkF m 3 #[.val (.ref b), .val (.int (Int32.ofNat (o + (i + 1)))), .val (.ref d), .val (.int (Int32.ofNat (q + (i + 1)))), .val (.int (Int32.ofNat len)), .val (.int (Int32.ofNat (i + 1))), .val (.int (cv A (o + i)))] [])) := by
        have := c9
        rw [succ32, succ32, succ32] at this
        exact this
      exact ih (i + 1) (by omega) _ (Or.inr ⟨_, rfl, rfl⟩) T7 _ (by rw [copyLocs_step, ← List.append_assoc]; exact X7) (pl.trans p7) (fl.step (by omega) hlt (by simp)) c10
  obtain ⟨T9, B9, z9, X9, p9, f9, g9⟩ := loop len 0 (by omega) .unset (Or.inl rfl) s₁ B (by simpa [copyLocs] using X0) ⟨hB0.1, fun _ _ => rfl, rfl⟩ (Laid.zero _ _ _) c2
  have c11 : Steps p.tables e below (s₁.setTop (entryFrame m #[.ref b, .int (Int32.ofNat o), .ref d, .int (Int32.ofNat q), .int (Int32.ofNat len)] 7)) (T9.setTop (mkF m 46 #[.val (.ref b), .val (.int (Int32.ofNat (o + len))), .val (.ref d), .val (.int (Int32.ofNat (q + len))), .val (.int (Int32.ofNat len)), .val (.int (Int32.ofNat len)), z9] [.int (Int32.ofNat len)])) := g9.trans (by
    refine XS.iload X9.here hexec rfl (hb hbytes d3) rfl ?_
    refine XS.iload X9.here hexec rfl (hb hbytes d5) rfl ?_
    refine XS.icmpYes X9.here hexec rfl (pc0 := 7) rfl (hb hbytes d7) rfl (ii_ge_t (nlt32 (by omega) (Nat.le_refl _))) (by decide) rfl ?_
    refine XS.iload X9.here hexec rfl (hb hbytes d44) rfl ?_
    exact Steps.refl _)
  exact ⟨T9, some (.int (Int32.ofNat len)), _, _, _, X9, by simp, rfl, rfl, (fun h => by cases h), ⟨rfl, B9, p9.from hh0, f9⟩, fun fs hl => c11.trans (X9.ireturnOut hexec hret rfl (Or.inl rfl) (hb hbytes d46) hl)⟩
end Cmp5
namespace Cmp3
def yN : MethodName := ⟨"java/lang/StringUTF16", "compress", "([CII)[B"⟩
abbrev yB : ByteArray := jdk_52_method_16_code
theorem d0 : decode yB 0 = .ok (.iload_n 2, 1) := by decide +kernel
theorem d1 : decode yB 1 = .ok (.newarray .byte, 2) := by decide +kernel
theorem d3 : decode yB 3 = .ok (.astore_n 3, 1) := by decide +kernel
theorem d4 : decode yB 4 = .ok (.aload_n 0, 1) := by decide +kernel
theorem d5 : decode yB 5 = .ok (.iload_n 1, 1) := by decide +kernel
theorem d6 : decode yB 6 = .ok (.aload_n 3, 1) := by decide +kernel
theorem d7 : decode yB 7 = .ok (.iconst 0, 1) := by decide +kernel
theorem d8 : decode yB 8 = .ok (.iload_n 2, 1) := by decide +kernel
theorem d9 : decode yB 9 = .ok (.invokestatic 115, 3) := by decide +kernel
theorem d12 : decode yB 12 = .ok (.istore 4, 2) := by decide +kernel
theorem d14 : decode yB 14 = .ok (.iload 4, 2) := by decide +kernel
theorem d16 : decode yB 16 = .ok (.iload_n 2, 1) := by decide +kernel
theorem d17 : decode yB 17 = .ok (.if_icmp (.eq) 40, 3) := by decide +kernel
theorem d57 : decode yB 57 = .ok (.aload_n 3, 1) := by decide +kernel
theorem d58 : decode yB 58 = .ok (.areturn, 1) := by decide +kernel
def site : List Cond := [.arrayClass .byte, Cmp5.tab] ++ staticW U16 115 Cmp5.yN
def tab : Cond := tabOf yN yB 6 (some (.array .byte)) site
def P (b : Addr) (A : Cell) (o len : Nat) (args : Array Value) (s : State) : Prop := args = #[.ref b, .int (Int32.ofNat o), .int (Int32.ofNat len)] ∧ Ch b A s ∧ o + len ≤ A.slots.size ∧ len ≤ 536870912 ∧ ∀ i, i < len → ¬ 255 < cv A (o + i)
def E (b : Addr) (A : Cell) (o len : Nat) (r : Option Value) (s u : State) : Prop := NewArr .byte "[B" len (fun j => .int (lo8 (cv A (o + j)))) r s u ∧ u.heap.size = s.heap.size + 1
/-- no char of the range above 255: a new byte[] of their low bytes -/
theorem law (l : Launch) (b : Addr) (A : Cell) (o len : Nat) : Law l yN 3 3 1 18 yB 6 (some (.array .byte)) site (P b A o len) (E b A o len) [] 1 len := by
  refine Law.of_walk (plainFor_of_name (by decide +kernel)) (by decide +kernel) (by decide +kernel) (by decide) (fun _ _ h => by rw [h.1]; rfl) (fun _ U U' hal hh h => ⟨h.1, h.2.1.mv hal hh, h.2.2⟩) (fun r U U' V V' h1 hal h2 h => ⟨NewArr.mv r U U' V V' h1 hal h2 h.1, by rw [h1, h2]; exact h.2⟩) ?_
  intro p e s m args below meth c s₁ X0 hexec hbytes hml hret hlk hnm hown hh0 W hP
  obtain ⟨rfl, hA, l1, l2, hp⟩ := hP
  have a31 := hA.1.2.2.2
  have c1 : Steps p.tables e below (s₁.setTop (entryFrame m #[.ref b, .int (Int32.ofNat o), .int (Int32.ofNat len)] 6)) (s₁.setTop (mkF m 0 #[.val (.ref b), .val (.int (Int32.ofNat o)), .val (.int (Int32.ofNat len)), .unset, .unset, .unset] [])) := entry rfl
  have c2 : Steps p.tables e below (s₁.setTop (entryFrame m #[.ref b, .int (Int32.ofNat o), .int (Int32.ofNat len)] 6)) (s₁.setTop (mkF m 1 #[.val (.ref b), .val (.int (Int32.ofNat o)), .val (.int (Int32.ofNat len)), .unset, .unset, .unset] [.int (Int32.ofNat len)])) := c1.trans (by
    refine XS.iloadN X0.here hexec rfl (hb hbytes d0) rfl ?_
    exact Steps.refl _)
  obtain ⟨T3, B3, X3, ba3, bs3, bv3, bh3, bf3, st3⟩ := X0.anew hexec (atype := .byte) (wk W (.arrayClass .byte)) rfl (by show len * 1 ≤ _; omega) (by omega) (g := (mkF m 1 #[.val (.ref b), .val (.int (Int32.ofNat o)), .val (.int (Int32.ofNat len)), .unset, .unset, .unset] [.int (Int32.ofNat len)])) rfl (hb hbytes d1) (rest := []) rfl (Nat.le_refl _) (by show 0 + len ≤ len; omega)
  rw [hh0] at ba3 st3
  have kp3 : XT.Kept s T3 := (XT.Kept.of_eq hh0).push bh3
  have hA3 := hA.keep X3.warmed.alike (kp3 _ _ hA.1.1)
  have hne : b ≠ s.heap.size := hA.1.ne
  have c4 : Steps p.tables e below (s₁.setTop (entryFrame m #[.ref b, .int (Int32.ofNat o), .int (Int32.ofNat len)] 6)) (T3.setTop (mkF m 3 #[.val (.ref b), .val (.int (Int32.ofNat o)), .val (.int (Int32.ofNat len)), .unset, .unset, .unset] [.ref s.heap.size])) := c2.trans (st3 _ (Steps.refl _))
  have c5 : Steps p.tables e below (s₁.setTop (entryFrame m #[.ref b, .int (Int32.ofNat o), .int (Int32.ofNat len)] 6)) (T3.setTop (mkF m 9 #[.val (.ref b), .val (.int (Int32.ofNat o)), .val (.int (Int32.ofNat len)), .val (.ref s.heap.size), .unset, .unset] [.int (Int32.ofNat len), .int 0, .ref s.heap.size, .int (Int32.ofNat o), .ref b])) := c4.trans (by
    refine XS.astoreN X3.here hexec rfl (hb hbytes d3) rfl rfl rfl ?_
    refine XS.aloadN X3.here hexec rfl (hb hbytes d4) rfl rfl ?_
    refine XS.iloadN X3.here hexec rfl (hb hbytes d5) rfl ?_
    refine XS.aloadN X3.here hexec rfl (hb hbytes d6) rfl rfl ?_
    refine iconstV X3.here hexec rfl 0 (hb hbytes d7) (by decide) ?_
    refine XS.iloadN X3.here hexec rfl (hb hbytes d8) rfl ?_
    exact Steps.refl _)
  obtain ⟨v6, T6, X6, E6, g6⟩ := X3.callS hexec (Cmp5.law l b A s.heap.size B3 o 0 len) hown (wks W (staticW U16 115 Cmp5.yN)) (wk W Cmp5.tab) (W := 0) (Nat.le_of_ble_eq_true rfl) (Nat.le_of_ble_eq_true rfl) (Nat.le_refl _) (by show 0 + len + 0 ≤ len; omega) (g := (mkF m 9 #[.val (.ref b), .val (.int (Int32.ofNat o)), .val (.int (Int32.ofNat len)), .val (.ref s.heap.size), .unset, .unset] [.int (Int32.ofNat len), .int (Int32.ofNat 0), .ref s.heap.size, .int (Int32.ofNat o), .ref b])) rfl (by rw [hml]; rfl) c5 (argsL := [.ref b, .int (Int32.ofNat o), .ref s.heap.size, .int (Int32.ofNat 0), .int (Int32.ofNat len)]) (rest := []) rfl rfl (by show 2 * 0 + 0 ≤ _; decide) (hb hbytes d9) (⟨rfl, hA3, ba3, hne, l1, by rw [bs3]; simp, hp⟩)
  obtain ⟨rfl, B6, p6, f6⟩ := E6
  have c7 : Steps p.tables e below (s₁.setTop (entryFrame m #[.ref b, .int (Int32.ofNat o), .int (Int32.ofNat len)] 6)) (T6.setTop (mkF m 12 #[.val (.ref b), .val (.int (Int32.ofNat o)), .val (.int (Int32.ofNat len)), .val (.ref s.heap.size), .unset, .unset] [.int (Int32.ofNat len)])) := g6
  have c8 : Steps p.tables e below (s₁.setTop (entryFrame m #[.ref b, .int (Int32.ofNat o), .int (Int32.ofNat len)] 6)) (T6.setTop (mkF m 58 #[.val (.ref b), .val (.int (Int32.ofNat o)), .val (.int (Int32.ofNat len)), .val (.ref s.heap.size), .val (.int (Int32.ofNat len)), .unset] [.ref s.heap.size])) := c7.trans (by
    refine XS.istore X6.here hexec rfl (hb hbytes d12) rfl rfl ?_
    refine XS.iload X6.here hexec rfl (hb hbytes d14) rfl ?_
    refine XS.iloadN X6.here hexec rfl (hb hbytes d16) rfl ?_
    refine XS.icmpYes X6.here hexec rfl (pc0 := 17) rfl (hb hbytes d17) rfl (ii_eq_t rfl) (by decide) rfl ?_
    refine XS.aloadN X6.here hexec rfl (hb hbytes d57) rfl rfl ?_
    exact Steps.refl _)
  have X8 := X6.wide (L' := []) (cells' := 1) (slots' := len) (fun x hx hlt => by
    simp only [List.nil_append, copyLocs, List.mem_map, List.mem_range] at hx
    obtain ⟨i, -, rfl⟩ := hx
    exact absurd hlt (Nat.lt_irrefl _)) (Nat.le_refl _) (by omega)
  exact ⟨T6, some (.ref s.heap.size), _, _, _, X8, rfl, rfl, rfl, (fun h => by cases h), ⟨⟨rfl, B6, ba3.like (X3.warmed.alike.symm.trans X6.warmed.alike) p6.1 f6.1 f6.2.1 f6.2.2.1, f6.2.1.trans bv3, by rw [X6.warmed.alike.findClass, f6.1]; exact bf3, by rw [f6.2.2.1, bs3]; simp, fun j hj => by rw [f6.2.2.2 j, if_pos (by omega)]; rfl, kp3.put p6 (Nat.le_refl _)⟩, by rw [p6.2.2, bh3, hh0]; simp⟩, fun fs hl => c8.trans (X8.areturnOut hexec rfl hret rfl (hb hbytes d58) hl)⟩
end Cmp3
namespace CodL
def yN : MethodName := ⟨"java/lang/StringUTF16", "coderFromArrayLen", "([BI)B"⟩
abbrev yB : ByteArray := jdk_52_method_15_code
theorem d0 : decode yB 0 = .ok (.iload_n 1, 1) := by decide +kernel
theorem d1 : decode yB 1 = .ok (.aload_n 0, 1) := by decide +kernel
theorem d2 : decode yB 2 = .ok (.arraylength, 1) := by decide +kernel
theorem d3 : decode yB 3 = .ok (.isub, 1) := by decide +kernel
theorem d4 : decode yB 4 = .ok (.bipush 31, 2) := by decide +kernel
theorem d6 : decode yB 6 = .ok (.iushr, 1) := by decide +kernel
theorem d7 : decode yB 7 = .ok (.i2b, 1) := by decide +kernel
theorem d8 : decode yB 8 = .ok (.ireturn, 1) := by decide +kernel
def site : List Cond := []
def tab : Cond := tabOf yN yB 2 (some .byte) site
def P (d : Addr) (B : Cell) (args : Array Value) (s : State) : Prop := args = #[.ref d, .int (Int32.ofNat B.slots.size)] ∧ Arr .byte d B s
def E (r : Option Value) (s u : State) : Prop := XT.PureE (some (.int 0)) r s u
/-- an array as long as the number of chars: LATIN1 -/
theorem law (l : Launch) (d : Addr) (B : Cell) : Law l yN 2 2 0 0 yB 2 (some .byte) site (P d B) E [] 0 0 := by
  refine Law.of_walk (plainFor_of_name (by decide +kernel)) (by decide +kernel) (by decide +kernel) (by decide) (fun _ _ h => by rw [h.1]; rfl) (fun _ U U' hal hh h => ⟨h.1, h.2.mv hal hh⟩) (fun r U U' V V' h1 hal h2 h => XT.PureE.mv r U U' V V' h1 hal h2 h) ?_
  intro p e s m args below meth c s₁ X0 hexec hbytes hml hret hlk hnm hown hh0 W hP
  obtain ⟨rfl, hB⟩ := hP
  have hB0 := hB.mv X0.warmed.alike hh0
  have c1 : Steps p.tables e below (s₁.setTop (entryFrame m #[.ref d, .int (Int32.ofNat B.slots.size)] 2)) (s₁.setTop (mkF m 0 #[.val (.ref d), .val (.int (Int32.ofNat B.slots.size))] [])) := entry rfl
  have c2 : Steps p.tables e below (s₁.setTop (entryFrame m #[.ref d, .int (Int32.ofNat B.slots.size)] 2)) (s₁.setTop (mkF m 2 #[.val (.ref d), .val (.int (Int32.ofNat B.slots.size))] [.ref d, .int (Int32.ofNat B.slots.size)])) := c1.trans (by
    refine XS.iloadN X0.here hexec rfl (hb hbytes d0) rfl ?_
    refine XS.aloadN X0.here hexec rfl (hb hbytes d1) rfl rfl ?_
    exact Steps.refl _)
  have c3 : Steps p.tables e below (s₁.setTop (entryFrame m #[.ref d, .int (Int32.ofNat B.slots.size)] 2)) (s₁.setTop (mkF m 8 #[.val (.ref d), .val (.int (Int32.ofNat B.slots.size))] [.int (lo8 (ushr (Int32.ofNat B.slots.size - Int32.ofNat B.slots.size) 31))])) := c2.trans (by
    refine X0.alen hexec hB0 rfl rfl (hb hbytes d2) ?_
    refine XS.isub X0.here hexec rfl (hb hbytes d3) rfl ?_
    refine bipushV X0.here hexec rfl 31 (hb hbytes d4) (by decide) ?_
    refine iushr X0.here hexec rfl (hb hbytes d6) rfl ?_
    refine i2b X0.here hexec rfl (hb hbytes d7) rfl ?_
    exact Steps.refl _)
  have e0 : lo8 (ushr (Int32.ofNat B.slots.size - Int32.ofNat B.slots.size) 31) = 0 := by rw [Int32.sub_self]; decide
  rw [e0] at c3
  exact ⟨s₁, some (.int 0), _, _, _, X0, rfl, rfl, rfl, (fun h => by cases h), ⟨rfl, hh0⟩, fun fs hl => c3.trans (X0.ireturnOut hexec hret rfl (Or.inr (Or.inr (Or.inl rfl))) (hb hbytes d8) hl)⟩
end CodL
/-- the String at a is Latin-1 over a new byte[] (the heap's one new cell): the low bytes of the len chars of A from o on; every cell but a is kept -/
def Got (a : Addr) (D : Cell) (fV fC : Field) (A : Cell) (o len : Nat) (r : Option Value) (s u : State) : Prop := r = none ∧ ∃ D' V : Cell, Blank "java/lang/String" a D' u ∧ Same D D' [fV.slot, fC.slot] ∧ D'.slots[fV.slot]? = some (.ref s.heap.size) ∧ D'.slots[fC.slot]? = some (.int 0) ∧ Arr .byte s.heap.size V u ∧ V.vm = .none ∧ u.vm.findClass "[B" = some V.cls ∧ V.slots.size = len ∧ (∀ j, j < len → V.slots[j]? = some (.int (lo8 (cv A (o + j))))) ∧ (∀ (y : Addr) (c : Cell), y ≠ a → s.heap[y]? = some c → u.heap[y]? = some c) ∧ u.heap.size = s.heap.size + 1
theorem Got.mv {a : Addr} {D A : Cell} {fV fC : Field} {o len : Nat} : ∀ r (U U' V V' : State), U'.heap = U.heap → V.vm.Alike V'.vm → V'.heap = V.heap → Got a D fV fC A o len r U V → Got a D fV fC A o len r U' V' :=
  fun r U U' V V' h1 hal h2 ⟨e0, D', X, a1, a2, a3, a4, a5, a6, a7, a8, a9, a10, a11⟩ => ⟨e0, D', X, a1.mv hal h2, a2, by rw [h1]; exact a3, a4, by rw [h1]; exact a5.mv hal h2, a6, by rw [hal.findClass]; exact a7, a8, a9, by rw [h1, h2]; exact a10, by rw [h1, h2]; exact a11⟩
namespace New4
def yN : MethodName := ⟨"java/lang/String", "<init>", "([CIILjava/lang/Void;)V"⟩
abbrev yB : ByteArray := jdk_42_method_149_code
theorem d0 : decode yB 0 = .ok (.aload_n 0, 1) := by decide +kernel
theorem d1 : decode yB 1 = .ok (.invokespecial 1, 3) := by decide +kernel
theorem d4 : decode yB 4 = .ok (.iload_n 3, 1) := by decide +kernel
theorem d5 : decode yB 5 = .ok (.ifCond (.ne) 22, 3) := by decide +kernel
theorem d27 : decode yB 27 = .ok (.getstatic 38, 3) := by decide +kernel
theorem d30 : decode yB 30 = .ok (.ifCond (.eq) 28, 3) := by decide +kernel
theorem d33 : decode yB 33 = .ok (.aload_n 1, 1) := by decide +kernel
theorem d34 : decode yB 34 = .ok (.iload_n 2, 1) := by decide +kernel
theorem d35 : decode yB 35 = .ok (.iload_n 3, 1) := by decide +kernel
theorem d36 : decode yB 36 = .ok (.invokestatic 177, 3) := by decide +kernel
theorem d39 : decode yB 39 = .ok (.astore 5, 2) := by decide +kernel
theorem d41 : decode yB 41 = .ok (.aload_n 0, 1) := by decide +kernel
theorem d42 : decode yB 42 = .ok (.aload 5, 2) := by decide +kernel
theorem d44 : decode yB 44 = .ok (.iload_n 3, 1) := by decide +kernel
theorem d45 : decode yB 45 = .ok (.invokestatic 47, 3) := by decide +kernel
theorem d48 : decode yB 48 = .ok (.putfield 15, 3) := by decide +kernel
theorem d51 : decode yB 51 = .ok (.aload_n 0, 1) := by decide +kernel
theorem d52 : decode yB 52 = .ok (.aload 5, 2) := by decide +kernel
theorem d54 : decode yB 54 = .ok (.putfield 9, 3) := by decide +kernel
theorem d57 : decode yB 57 = .ok (.return_, 1) := by decide +kernel
def site : List Cond := [.fieldLink "java/lang/String" 38 "java/lang/String" "COMPACT_STRINGS" "Z", Cmp3.tab, CodL.tab, .laysFinal "java/lang/String" "java/lang/String" "value" "[B", .fieldLink "java/lang/String" 9 "java/lang/String" "value" "[B", .laysFinal "java/lang/String" "java/lang/String" "coder" "B", .fieldLink "java/lang/String" 15 "java/lang/String" "coder" "B"] ++ objW "java/lang/String" 1 ++ staticW "java/lang/String" 177 Cmp3.yN ++ staticW "java/lang/String" 47 CodL.yN
def tab : Cond := tabOf yN yB 6 none site
def P (a : Addr) (D : Cell) (fV fC : Field) (b : Addr) (A : Cell) (z : Int32) (o len : Nat) (args : Array Value) (s : State) : Prop := args = #[.ref a, .ref b, .int (Int32.ofNat o), .int (Int32.ofNat len), .null] ∧ Blank "java/lang/String" a D s ∧ Found "java/lang/String" "value" "[B" fV s ∧ Found "java/lang/String" "coder" "B" fC s ∧ Ch b A s ∧ StaticIs s "java/lang/String" "COMPACT_STRINGS" "Z" (.int z) ∧ ¬ z = 0 ∧ 0 < len ∧ o + len ≤ A.slots.size ∧ len ≤ 536870912 ∧ ∀ i, i < len → ¬ 255 < cv A (o + i)
def E (a : Addr) (D : Cell) (fV fC : Field) (A : Cell) (o len : Nat) (r : Option Value) (s u : State) : Prop := Got a D fV fC A o len r s u
/-- len > 0, no char of the range above 255: a Latin-1 String of their low bytes -/
theorem law (l : Launch) (a : Addr) (D : Cell) (fV fC : Field) (b : Addr) (A : Cell) (z : Int32) (o len : Nat) : Law l yN 5 4 2 35 yB 6 none site (P a D fV fC b A z o len) (E a D fV fC A o len) [⟨a, fC.slot⟩, ⟨a, fV.slot⟩] 1 len := by
  refine Law.of_walk (plainFor_of_name (by decide +kernel)) (by decide +kernel) (by decide +kernel) (by decide) (fun _ _ h => by rw [h.1]; rfl) (fun _ U U' hal hh h => ⟨h.1, h.2.1.mv hal hh, h.2.2.1.al hal, h.2.2.2.1.al hal, h.2.2.2.2.1.mv hal hh, h.2.2.2.2.2.1.there hal hh, h.2.2.2.2.2.2⟩) (fun r U U' V V' h1 hal h2 h => Got.mv r U U' V V' h1 hal h2 h) ?_
  intro p e s m args below meth c s₁ X0 hexec hbytes hml hret hlk hnm hown hh0 W hP
  obtain ⟨rfl, hB, f1, f2, hA, s1, hz, l0, l1, l2, hp⟩ := hP
  have a31 := hA.1.2.2.2
  have c1 : Steps p.tables e below (s₁.setTop (entryFrame m #[.ref a, .ref b, .int (Int32.ofNat o), .int (Int32.ofNat len), .null] 6)) (s₁.setTop (mkF m 0 #[.val (.ref a), .val (.ref b), .val (.int (Int32.ofNat o)), .val (.int (Int32.ofNat len)), .val .null, .unset] [])) := entry rfl
  have c2 : Steps p.tables e below (s₁.setTop (entryFrame m #[.ref a, .ref b, .int (Int32.ofNat o), .int (Int32.ofNat len), .null] 6)) (s₁.setTop (mkF m 1 #[.val (.ref a), .val (.ref b), .val (.int (Int32.ofNat o)), .val (.int (Int32.ofNat len)), .val .null, .unset] [.ref a])) := c1.trans (by
    refine XS.aloadN X0.here hexec rfl (hb hbytes d0) rfl rfl ?_
    exact Steps.refl _)
  obtain ⟨T3, X3, q3, st3⟩ := X0.oinit hexec hown (wks W (objW "java/lang/String" 1)) (g := (mkF m 1 #[.val (.ref a), .val (.ref b), .val (.int (Int32.ofNat o)), .val (.int (Int32.ofNat len)), .val .null, .unset] [.ref a])) rfl (by rw [hml]; rfl) (rest := []) rfl (hb hbytes d1) (W := 0) (by show 2 * 0 + 0 ≤ _; decide) (Nat.le_of_ble_eq_true rfl) (Nat.le_of_ble_eq_true rfl)
  have hh3 := q3.trans hh0
  have c4 : Steps p.tables e below (s₁.setTop (entryFrame m #[.ref a, .ref b, .int (Int32.ofNat o), .int (Int32.ofNat len), .null] 6)) (T3.setTop (mkF m 27 #[.val (.ref a), .val (.ref b), .val (.int (Int32.ofNat o)), .val (.int (Int32.ofNat len)), .val .null, .unset] [])) := (c2.trans (st3 _ (Steps.refl _))).trans (by
    refine XS.iloadN X3.here hexec rfl (hb hbytes d4) rfl ?_
    refine XS.ifYes X3.here hexec rfl (pc0 := 5) rfl (hb hbytes d5) rfl (i0_ne_t (nz32 (by omega) l0)) (by decide) rfl ?_
    exact Steps.refl _)
  obtain ⟨T5, X5, q5, st5⟩ := X3.sget hexec hown (wk W (.fieldLink "java/lang/String" 38 "java/lang/String" "COMPACT_STRINGS" "Z")) s1 (fun _ _ h => by rw [hh3]; exact h) (g := (mkF m 27 #[.val (.ref a), .val (.ref b), .val (.int (Int32.ofNat o)), .val (.int (Int32.ofNat len)), .val .null, .unset] [])) rfl (hb hbytes d27)
  have hh5 := q5.trans hh3
  have c6 : Steps p.tables e below (s₁.setTop (entryFrame m #[.ref a, .ref b, .int (Int32.ofNat o), .int (Int32.ofNat len), .null] 6)) (T5.setTop (mkF m 30 #[.val (.ref a), .val (.ref b), .val (.int (Int32.ofNat o)), .val (.int (Int32.ofNat len)), .val .null, .unset] [.int z])) := c4.trans (st5 _ (Steps.refl _))
  have c7 : Steps p.tables e below (s₁.setTop (entryFrame m #[.ref a, .ref b, .int (Int32.ofNat o), .int (Int32.ofNat len), .null] 6)) (T5.setTop (mkF m 36 #[.val (.ref a), .val (.ref b), .val (.int (Int32.ofNat o)), .val (.int (Int32.ofNat len)), .val .null, .unset] [.int (Int32.ofNat len), .int (Int32.ofNat o), .ref b])) := c6.trans (by
    refine XS.ifNo X5.here hexec rfl (hb hbytes d30) rfl (i0_eq_f hz) ?_
    refine XS.aloadN X5.here hexec rfl (hb hbytes d33) rfl rfl ?_
    refine XS.iloadN X5.here hexec rfl (hb hbytes d34) rfl ?_
    refine XS.iloadN X5.here hexec rfl (hb hbytes d35) rfl ?_
    exact Steps.refl _)
  obtain ⟨v8, T8, X8, E8, g8⟩ := X5.callS hexec (Cmp3.law l b A o len) hown (wks W (staticW "java/lang/String" 177 Cmp3.yN)) (wk W Cmp3.tab) (W := 0) (Nat.le_of_ble_eq_true rfl) (Nat.le_of_ble_eq_true rfl) (Nat.le_refl _) (by show 0 + len ≤ len; omega) (g := (mkF m 36 #[.val (.ref a), .val (.ref b), .val (.int (Int32.ofNat o)), .val (.int (Int32.ofNat len)), .val .null, .unset] [.int (Int32.ofNat len), .int (Int32.ofNat o), .ref b])) rfl (by rw [hml]; rfl) c7 (argsL := [.ref b, .int (Int32.ofNat o), .int (Int32.ofNat len)]) (rest := []) rfl rfl (by show 2 * 0 + 0 ≤ _; decide) (hb hbytes d36) (⟨rfl, hA.mv X5.warmed.alike hh5, l1, l2, hp⟩)
  obtain ⟨e8, z8⟩ := E8
  obtain ⟨rfl, N, n1, n2, n3, n4, n5, n6⟩ := NewArr.mv _ T5 s _ _ hh5.symm (Vm.Alike.refl _) rfl e8
  rw [hh5] at z8
  have hB1 := hB.keep X8.warmed.alike (n6 _ _ hB.1)
  have hne : s.heap.size ≠ a := (Nat.ne_of_lt (Array.getElem?_eq_some_iff.mp hB.1).1).symm
  have c9 : Steps p.tables e below (s₁.setTop (entryFrame m #[.ref a, .ref b, .int (Int32.ofNat o), .int (Int32.ofNat len), .null] 6)) (T8.setTop (mkF m 39 #[.val (.ref a), .val (.ref b), .val (.int (Int32.ofNat o)), .val (.int (Int32.ofNat len)), .val .null, .unset] [.ref s.heap.size])) := g8
  have c10 : Steps p.tables e below (s₁.setTop (entryFrame m #[.ref a, .ref b, .int (Int32.ofNat o), .int (Int32.ofNat len), .null] 6)) (T8.setTop (mkF m 45 #[.val (.ref a), .val (.ref b), .val (.int (Int32.ofNat o)), .val (.int (Int32.ofNat len)), .val .null, .val (.ref s.heap.size)] [.int (Int32.ofNat N.slots.size), .ref s.heap.size, .ref a])) := by
    have hc : Steps p.tables e below (s₁.setTop (entryFrame m #[.ref a, .ref b, .int (Int32.ofNat o), .int (Int32.ofNat len), .null] 6)) (T8.setTop (mkF m 45 #[.val (.ref a), .val (.ref b), .val (.int (Int32.ofNat o)), .val (.int (Int32.ofNat len)), .val .null, .val (.ref s.heap.size)] [.int (Int32.ofNat len), .ref s.heap.size, .ref a])) := c9.trans (by
      refine XS.astore X8.here hexec rfl (hb hbytes d39) rfl rfl rfl ?_
      refine XS.aloadN X8.here hexec rfl (hb hbytes d41) rfl rfl ?_
      refine XS.aload X8.here hexec rfl (hb hbytes d42) rfl rfl ?_
      refine XS.iloadN X8.here hexec rfl (hb hbytes d44) rfl ?_
      exact Steps.refl _)
    rw [n4]; exact hc
  obtain ⟨v11, T11, X11, E11, g11⟩ := X8.callS hexec (CodL.law l s.heap.size N) hown (wks W (staticW "java/lang/String" 47 CodL.yN)) (wk W CodL.tab) (W := 1) (Nat.le_of_ble_eq_true rfl) (Nat.le_of_ble_eq_true rfl) (Nat.le_refl _) (by show 0 + len + 0 ≤ len; omega) (g := (mkF m 45 #[.val (.ref a), .val (.ref b), .val (.int (Int32.ofNat o)), .val (.int (Int32.ofNat len)), .val .null, .val (.ref s.heap.size)] [.int (Int32.ofNat N.slots.size), .ref s.heap.size, .ref a])) rfl (by rw [hml]; rfl) c10 (argsL := [.ref s.heap.size, .int (Int32.ofNat N.slots.size)]) (rest := [.ref a]) rfl rfl (by show 2 * 0 + (1 + 0) ≤ _; decide) (hb hbytes d45) (⟨rfl, n1⟩)
  obtain ⟨rfl, q11⟩ := E11
  have hB11 := hB1.mv (X8.warmed.alike.symm.trans X11.warmed.alike) q11
  have c12 : Steps p.tables e below (s₁.setTop (entryFrame m #[.ref a, .ref b, .int (Int32.ofNat o), .int (Int32.ofNat len), .null] 6)) (T11.setTop (mkF m 48 #[.val (.ref a), .val (.ref b), .val (.int (Int32.ofNat o)), .val (.int (Int32.ofNat len)), .val .null, .val (.ref s.heap.size)] [.int 0, .ref a])) := g11
  obtain ⟨T13, X13, p13, bl13, sl13, st13⟩ := X11.finit hexec hown (wk W (.fieldLink "java/lang/String" 15 "java/lang/String" "coder" "B")) (Or.inr ⟨_, (wk W (.laysFinal "java/lang/String" "java/lang/String" "coder" "B"))⟩) (Or.inl ⟨rfl, hnm⟩) f2 (Or.inl rfl) hB11 (t := .byte) (by decide +kernel) rfl (g := (mkF m 48 #[.val (.ref a), .val (.ref b), .val (.int (Int32.ofNat o)), .val (.int (Int32.ofNat len)), .val .null, .val (.ref s.heap.size)] [.int 0, .ref a])) rfl (rest := []) rfl (hb hbytes d48)
  have c14 : Steps p.tables e below (s₁.setTop (entryFrame m #[.ref a, .ref b, .int (Int32.ofNat o), .int (Int32.ofNat len), .null] 6)) (T13.setTop (mkF m 54 #[.val (.ref a), .val (.ref b), .val (.int (Int32.ofNat o)), .val (.int (Int32.ofNat len)), .val .null, .val (.ref s.heap.size)] [.ref s.heap.size, .ref a])) := (c12.trans (st13 _ (Steps.refl _))).trans (by
    refine XS.aloadN X13.here hexec rfl (hb hbytes d51) rfl rfl ?_
    refine XS.aload X13.here hexec rfl (hb hbytes d52) rfl rfl ?_
    exact Steps.refl _)
  obtain ⟨T15, X15, p15, bl15, sl15, st15⟩ := X13.finit hexec hown (wk W (.fieldLink "java/lang/String" 9 "java/lang/String" "value" "[B")) (Or.inr ⟨_, (wk W (.laysFinal "java/lang/String" "java/lang/String" "value" "[B"))⟩) (Or.inl ⟨rfl, hnm⟩) f1 (Or.inl rfl) bl13 (t := (.array .byte)) (by decide +kernel) rfl (g := (mkF m 54 #[.val (.ref a), .val (.ref b), .val (.int (Int32.ofNat o)), .val (.int (Int32.ofNat len)), .val .null, .val (.ref s.heap.size)] [.ref s.heap.size, .ref a])) rfl (rest := []) rfl (hb hbytes d54)
  have c16 : Steps p.tables e below (s₁.setTop (entryFrame m #[.ref a, .ref b, .int (Int32.ofNat o), .int (Int32.ofNat len), .null] 6)) (T15.setTop (mkF m 57 #[.val (.ref a), .val (.ref b), .val (.int (Int32.ofNat o)), .val (.int (Int32.ofNat len)), .val .null, .val (.ref s.heap.size)] [])) := c14.trans (st15 _ (Steps.refl _))
  have ap := apart (Or.inr ⟨_, (wk W (.laysFinal "java/lang/String" "java/lang/String" "value" "[B"))⟩) (Or.inr ⟨_, (wk W (.laysFinal "java/lang/String" "java/lang/String" "coder" "B"))⟩) f1 f2 (t₁ := .array .byte) (t₂ := .byte) (by decide +kernel) (by decide +kernel) (by decide)
  have al := X8.warmed.alike.symm.trans X15.warmed.alike
  have n7 : T11.heap[s.heap.size]? = some N := by rw [q11]; exact n1.1
  exact ⟨T15, none, _, _, _, X15, by simp, rfl, by omega, (fun _ => rfl), ⟨rfl, _, N, bl15, ((Same.refl D _).set _ (by simp)).set _ (by simp), sl15, (Cell.slots_setSlot_ne _ ap).trans sl13, n1.keep al (p15.other hne (p13.other hne n7)), n2, by rw [al.findClass]; exact n3, n4, n5, fun y c h1 h2 => p15.other h1 (p13.other h1 (by rw [q11]; exact n6 y c h2)), by rw [p15.2.2, p13.2.2, q11]; exact z8⟩, fun fs hl => c16.trans (X15.returnOut hexec hret (hb hbytes d57) hl)⟩
end New4
namespace New1
def yN : MethodName := ⟨"java/lang/String", "<init>", "([C)V"⟩
abbrev yB : ByteArray := jdk_42_method_3_code
theorem d0 : decode yB 0 = .ok (.aload_n 0, 1) := by decide +kernel
theorem d1 : decode yB 1 = .ok (.aload_n 1, 1) := by decide +kernel
theorem d2 : decode yB 2 = .ok (.iconst 0, 1) := by decide +kernel
theorem d3 : decode yB 3 = .ok (.aload_n 1, 1) := by decide +kernel
theorem d4 : decode yB 4 = .ok (.arraylength, 1) := by decide +kernel
theorem d5 : decode yB 5 = .ok (.aconst_null, 1) := by decide +kernel
theorem d6 : decode yB 6 = .ok (.invokespecial 27, 3) := by decide +kernel
theorem d9 : decode yB 9 = .ok (.return_, 1) := by decide +kernel
def site : List Cond := [New4.tab] ++ initW "java/lang/String" 27 New4.yN
def tab : Cond := tabOf yN yB 2 none site
def P (a : Addr) (D : Cell) (fV fC : Field) (b : Addr) (A : Cell) (z : Int32) (args : Array Value) (s : State) : Prop := args = #[.ref a, .ref b] ∧ Blank "java/lang/String" a D s ∧ Found "java/lang/String" "value" "[B" fV s ∧ Found "java/lang/String" "coder" "B" fC s ∧ Ch b A s ∧ StaticIs s "java/lang/String" "COMPACT_STRINGS" "Z" (.int z) ∧ ¬ z = 0 ∧ 0 < A.slots.size ∧ A.slots.size ≤ 536870912 ∧ ∀ i, i < A.slots.size → ¬ 255 < cv A i
def E (a : Addr) (D : Cell) (fV fC : Field) (A : Cell) (r : Option Value) (s u : State) : Prop := Got a D fV fC A 0 A.slots.size r s u
/-- new String(chars), not empty, no char above 255: a Latin-1 String of their low bytes -/
theorem law (l : Launch) (a : Addr) (D : Cell) (fV fC : Field) (b : Addr) (A : Cell) (z : Int32) : Law l yN 2 1 3 52 yB 2 none site (P a D fV fC b A z) (E a D fV fC A) [⟨a, fC.slot⟩, ⟨a, fV.slot⟩] 1 A.slots.size := by
  refine Law.of_walk (plainFor_of_name (by decide +kernel)) (by decide +kernel) (by decide +kernel) (by decide) (fun _ _ h => by rw [h.1]; rfl) (fun _ U U' hal hh h => ⟨h.1, h.2.1.mv hal hh, h.2.2.1.al hal, h.2.2.2.1.al hal, h.2.2.2.2.1.mv hal hh, h.2.2.2.2.2.1.there hal hh, h.2.2.2.2.2.2⟩) (fun r U U' V V' h1 hal h2 h => Got.mv r U U' V V' h1 hal h2 h) ?_
  intro p e s m args below meth c s₁ X0 hexec hbytes hml hret hlk hnm hown hh0 W hP
  obtain ⟨rfl, hB, f1, f2, hA, s1, hz, l0, l2, hp⟩ := hP
  have c1 : Steps p.tables e below (s₁.setTop (entryFrame m #[.ref a, .ref b] 2)) (s₁.setTop (mkF m 0 #[.val (.ref a), .val (.ref b)] [])) := entry rfl
  have c2 : Steps p.tables e below (s₁.setTop (entryFrame m #[.ref a, .ref b] 2)) (s₁.setTop (mkF m 6 #[.val (.ref a), .val (.ref b)] [.null, .int (Int32.ofNat A.slots.size), .int 0, .ref b, .ref a])) := c1.trans (by
    refine XS.aloadN X0.here hexec rfl (hb hbytes d0) rfl rfl ?_
    refine XS.aloadN X0.here hexec rfl (hb hbytes d1) rfl rfl ?_
    refine iconstV X0.here hexec rfl 0 (hb hbytes d2) (by decide) ?_
    refine XS.aloadN X0.here hexec rfl (hb hbytes d3) rfl rfl ?_
    refine X0.alen hexec (hA.1.mv X0.warmed.alike hh0) rfl rfl (hb hbytes d4) ?_
    refine XS.aconstNull X0.here hexec rfl (hb hbytes d5) ?_
    exact Steps.refl _)
  obtain ⟨v3, T3, X3, E3, g3⟩ := X0.callN hexec (New4.law l a D fV fC b A z 0 A.slots.size) rfl hown (wks W (initW "java/lang/String" 27 New4.yN)) (W New4.tab (by simp only [site, List.mem_cons, List.mem_append, true_or, or_true])) (W := 0) (Nat.le_of_ble_eq_true rfl) (Nat.le_of_ble_eq_true rfl) (Nat.le_refl _) (by show 0 + A.slots.size ≤ A.slots.size; omega) (g := (mkF m 6 #[.val (.ref a), .val (.ref b)] [.null, .int (Int32.ofNat A.slots.size), .int (Int32.ofNat 0), .ref b, .ref a])) rfl (by rw [hml]; rfl) c2 (argsL := [.ref b, .int (Int32.ofNat 0), .int (Int32.ofNat A.slots.size), .null]) (rest := []) rfl rfl (by show 2 * 0 + 0 ≤ _; decide) (hb hbytes d6) (⟨rfl, hB.mv X0.warmed.alike hh0, f1.al X0.warmed.alike, f2.al X0.warmed.alike, hA.mv X0.warmed.alike hh0, s1.there X0.warmed.alike hh0, hz, l0, by omega, l2, fun i hi => by rw [Nat.zero_add]; exact hp i hi⟩)
  have e0 := Got.mv _ s₁ s _ _ hh0.symm (Vm.Alike.refl _) rfl E3
  obtain rfl := e0.1
  have c4 : Steps p.tables e below (s₁.setTop (entryFrame m #[.ref a, .ref b] 2)) (T3.setTop (mkF m 9 #[.val (.ref a), .val (.ref b)] [])) := g3
  exact ⟨T3, none, _, _, _, X3, by simp, rfl, by omega, (fun _ => rfl), e0, fun fs hl => c4.trans (X3.returnOut hexec hret (hb hbytes d9) hl)⟩
theorem pays {l : Launch} {R : Room} {p : Program} {e : Env} {below : List Frame} {s : State} {sargs : Array Value} {len W : Nat} (a : Addr) (D : Cell) (fV fC : Field) (b : Addr) (A : Cell) (z : Int32) (htab : tab.before sargs s = true) (hfr : 4 ≤ R.frames) (hlo : W + 65 ≤ R.locals) :
    Back l R p e below s sargs yN len W (fun A₁ a₁ => A₁.cells + 1 ≤ R.cells ∧ A₁.slots + A.slots.size ≤ R.slots ∧ P a D fV fC b A z a₁ A₁.U) (fun A₁ _ v₁ B₁ => E a D fV fC A v₁ A₁.U B₁.U ∧ B₁.locs = A₁.locs ++ [⟨a, fC.slot⟩, ⟨a, fV.slot⟩] ∧ B₁.cells = A₁.cells + 1 ∧ B₁.slots = A₁.slots + A.slots.size) :=
  (law l a D fV fC b A z).pays htab hfr (by omega)
end New1
/-- the byte, read back as charAt reads it, is the char -/
theorem lo8_mask {x : Int32} (h0 : ¬ x < 0) (h1 : ¬ 255 < x) : lo8 x &&& 255 = x := by
  have t : ∀ k : Fin 256, lo8 (Int32.ofNat k.val) &&& 255 = Int32.ofNat k.val := by decide +kernel
  rw [Int32.lt_iff_toInt_lt] at h0 h1
  have e0 : (0 : Int32).toInt = 0 := rfl
  have e1 : (255 : Int32).toInt = 255 := rfl
  obtain ⟨k, hk⟩ : ∃ k : Nat, x.toInt = k := ⟨x.toInt.toNat, by omega⟩
  have hx : x = Int32.ofNat k := Int32.toInt_inj.mp (by rw [hk, Int32.toInt_ofNat_small (by omega)])
  rw [hx]
  exact t ⟨k, by omega⟩
end StrChars
namespace StrChars.Road
open Jvm Sem ClassFile Op Lib Jvm.Stand Jvm.Free Jvm.Free.XT
open Jvm.Lib.Cold (StaticIs)
abbrev ST : String := "java/lang/String"
/-- every table word that New1's law asks, flat -/
abbrev words : List Jvm.Cond := [.code New1.yN New1.yB 2 none, .initialized ST, .methodLink ST 27 New4.yN, .instanceMethod New4.yN,
  .code New4.yN New4.yB 6 none, .fieldLink ST 38 ST "COMPACT_STRINGS" "Z", .laysFinal ST ST "value" "[B", .fieldLink ST 9 ST "value" "[B", .laysFinal ST ST "coder" "B", .fieldLink ST 15 ST "coder" "B",
  .methodLink ST 1 Lib.objectInit, .instanceMethod Lib.objectInit, .code Lib.objectInit ⟨#[0xb1]⟩ 1 none, .methodLink ST 177 Cmp3.yN, .static Cmp3.yN, .methodLink ST 47 CodL.yN, .static CodL.yN,
  .code Cmp3.yN Cmp3.yB 6 (some (.array .byte)), .initialized U16, .arrayClass .byte, .methodLink U16 115 Cmp5.yN, .static Cmp5.yN, .code Cmp5.yN Cmp5.yB 7 (some .int), .code CodL.yN CodL.yB 2 (some .byte)]
theorem tab_of {a : Array Value} {s : State} (h : ∀ w ∈ words, w.before a s = true) : New1.tab.before a s = true := by
  have h5 : Cmp5.tab.before a s = true := unparts (wk h (.code Cmp5.yN Cmp5.yB 7 (some .int))) (wks h (.initialized Cmp5.yN.cls :: Cmp5.site))
  have hc : CodL.tab.before a s = true := unparts (wk h (.code CodL.yN CodL.yB 2 (some .byte))) (wks h (.initialized CodL.yN.cls :: CodL.site))
  have q5 : ∀ w ∈ Cmp5.tab :: words, w.before a s = true := fun w hw => (List.mem_cons.mp hw).elim (fun e => e ▸ h5) (h w)
  have h3 : Cmp3.tab.before a s = true := unparts (wk q5 (.code Cmp3.yN Cmp3.yB 6 (some (.array .byte)))) (wks q5 (.initialized Cmp3.yN.cls :: Cmp3.site))
  have q3 : ∀ w ∈ Cmp3.tab :: CodL.tab :: words, w.before a s = true := fun w hw => (List.mem_cons.mp hw).elim (fun e => e ▸ h3) fun hw => (List.mem_cons.mp hw).elim (fun e => e ▸ hc) (h w)
  have h4 : New4.tab.before a s = true := unparts (wk q3 (.code New4.yN New4.yB 6 none)) (wks q3 (.initialized New4.yN.cls :: New4.site))
  have q4 : ∀ w ∈ New4.tab :: words, w.before a s = true := fun w hw => (List.mem_cons.mp hw).elim (fun e => e ▸ h4) (h w)
  exact unparts (wk q4 (.code New1.yN New1.yB 2 none)) (wks q4 (.initialized New1.yN.cls :: New1.site))
/-- the words ride from the start Z to the walk's own state -/
theorem moved {Z s : State} {a0 args : Array Value} (hZ : Z.Warmed39 s.vm) (hw : ∀ d ∈ words, d.before a0 Z = true) : ∀ d ∈ words, d.before args s = true := fun d hd => by
  have q := hw d hd
  have t : ∀ d ∈ words, d = .arrayClass .byte ∨ (d.onTables && d.keepsFace) = true := by decide +kernel
  rcases t d hd with rfl | t
  · exact RoadKit.mvA hZ q
  · exact RoadKit.mv hZ q t
/-- WHAT COMES BACK, over the tables of the start Z: h the heap at the call, h' behind it -/
def Q (Z : State) (x : Addr) (A : Cell) (h : Heap) (v : Option Value) (h' : Heap) (L : List Loc) : Prop := v = none ∧ (∀ y ∈ L, y.base = x) ∧ RoadKit.Keep h h' [x] ∧ h'.size = h.size + 1 ∧ RoadKit.Exa Z h' x ST ∧ RoadKit.Fld Z h' x ST "value" "[B" (.ref h.size) ∧ RoadKit.Fld Z h' x ST "coder" "B" (.int 0) ∧
  (∃ V : Cell, RoadKit.Arr Z h' h.size V .byte ∧ V.vm = .none ∧ Z.vm.findClass "[B" = some V.cls ∧ V.slots.size = A.slots.size ∧ ∀ j, j < A.slots.size → V.slots[j]? = some (.int (lo8 (cv A j)))) ∧
  ∀ (O n d : String) (w : Value), RoadKit.Fld Z h x O n d w → RoadKit.slotOf Z O n d ≠ RoadKit.slotOf Z ST "value" "[B" → RoadKit.slotOf Z O n d ≠ RoadKit.slotOf Z ST "coder" "B" → RoadKit.Fld Z h' x O n d w
/-- **new String(chars) AT A CALL, IN THE ROAD'S FORM**: for specialBack behind newO: x the fresh String, b the char[] with the cell A -/
theorem back {p : Program} {l : Launch} {e : Env} {R : Room} {s : State} {args : Array Value} {below : List Frame} {len W : Nat} {Z : State} {a0 : Array Value} {h : Heap} (hZ : Z.Warmed39 s.vm) (hw : ∀ d ∈ words, d.before a0 Z = true) {kI : Nat} (wi : (Jvm.Cond.instantiable ST kI).before a0 Z = true)
    {x b : Addr} {A : Cell} {z : Int32} {v0 c0 : Value} (E : RoadKit.Exa Z h x ST) (V : RoadKit.Fld Z h x ST "value" "[B" v0) (C : RoadKit.Fld Z h x ST "coder" "B" c0) (K : RoadKit.Arr Z h b A .char) (hty : Typed .char A) (S : RoadKit.Sta Z h ST "COMPACT_STRINGS" "Z" (.int z)) (hz : ¬ z = 0)
    (l0 : 0 < A.slots.size) (l2 : A.slots.size ≤ 536870912) (hp : ∀ i, i < A.slots.size → ¬ 255 < cv A i) (hfr : 4 ≤ R.frames) (hlo : W + 65 ≤ R.locals) :
    Back l R p e below s args New1.yN len W (fun P a => a = #[.ref x, .ref b] ∧ P.U.heap = h ∧ P.cells + 1 ≤ R.cells ∧ P.slots + A.slots.size ≤ R.slots)
      (fun P _ v B => ∃ L, Q Z x A h v B.U.heap L ∧ B.locs = P.locs ++ L ∧ B.cells = P.cells + 1 ∧ B.slots = P.slots + A.slots.size) := by
  intro m meth c P g ig mk a X hg hsize hdg hW hn hp'
  obtain ⟨rfl, rfl, r1, r2⟩ := hp'
  have al : Z.vm.Alike P.U.vm := hZ.alike.trans X.warmed.alike
  obtain ⟨D, cfV, kV, iV, fV, hD, gV, stV, knV, obV, asV, slV⟩ := id V
  obtain ⟨D', cfC, kC, iC, fC, hD', gC, stC, -, -, asC, slC⟩ := id C
  cases hD.symm.trans hD'
  obtain ⟨D2, kD, e1, e2, e3, e4, e5⟩ := id E
  cases hD.symm.trans e1
  obtain ⟨c2, k2, i1, i2, i3, -⟩ := Cond.instantiable_spec wi
  cases e2.symm.trans i1
  cases e3.symm.trans i2
  obtain ⟨kU, u1, u2⟩ := al.2.2 _ _ e3
  have hB : Blank ST x D P.U := ⟨hD, ⟨knV, fun q hq => by rw [hq] at obV; cases obV⟩, by rw [al.findClass]; exact e2, kU, u1, by rw [u2]; exact i3, by rw [u2]; exact e5 i3⟩
  have F1 : Found ST "value" "[B" fV P.U := ⟨SBG.found_only al ⟨cfV, kV, iV, gV⟩, stV⟩
  have F2 : Found ST "coder" "B" fC P.U := ⟨SBG.found_only al ⟨cfC, kC, iC, gC⟩, stC⟩
  have hA : Ch b A P.U := ⟨⟨K.1, State.isArrayOf_alike al K.2.1, K.2.2, by omega⟩, hty⟩
  have hS : StaticIs P.U ST "COMPACT_STRINGS" "Z" (.int z) := by
    obtain ⟨cfS, iS, kS, fS, st, cS, t1, t2, t3, t4, t5, t6, t7⟩ := S
    exact StaticIs.there (s := { Z with heap := P.U.heap }) ⟨cfS, iS, kS, fS, st, cS, t1, t2, t3, t4, t5, (fun q => by rw [q] at t6; cases t6), t7⟩ al rfl
  obtain ⟨v, B, X', ⟨⟨hv, E', V', q1, q2, q3, q4, q5, q6, q7, q8, q9, q10, q11⟩, hl, hc, hs⟩, st⟩ := New1.pays x D fV fC b A z (tab_of (moved hZ hw)) hfr hlo m meth c P g ig mk _ X hg hsize hdg hW hn ⟨r1, r2, rfl, hB, F1, F2, hA, hS, hz, l0, l2, hp⟩
  have al' : Z.vm.Alike B.U.vm := hZ.alike.trans X'.warmed.alike
  have hsz : E'.slots.size = D.slots.size := by
    obtain ⟨-, -, -, kB, w1, w2, w3⟩ := q1
    obtain ⟨kB', y1, y2⟩ := al'.2.2 _ _ e3
    rw [q2.2.1] at w1
    cases w1.symm.trans y1
    rw [w3, e5 i3, y2]
  refine ⟨v, B, X', ⟨_, ⟨hv, ?_, ⟨by omega, fun y cy hy hn' => q10 y cy (by simpa using hn') hy, fun y cy hy => ?_⟩, q11, ⟨E', _, q1.1, by rw [q2.2.1]; exact e2, by rw [q2.2.1]; exact e3, by rw [q2.1]; exact obV, fun _ => by rw [hsz]; exact e5 i3⟩,
    ⟨E', cfV, kV, iV, fV, q1.1, gV, stV, by rw [q2.1]; exact knV, by rw [q2.1]; exact obV, by rw [q2.2.1]; exact asV, q3⟩, ⟨E', cfC, kC, iC, fC, q1.1, gC, stC, by rw [q2.1]; exact knV, by rw [q2.1]; exact obV, by rw [q2.2.1]; exact asC, q4⟩,
    ⟨V', ⟨q5.1, State.isArrayOf_alike al'.symm q5.2.1, q5.2.2.1⟩, q6, by rw [← al'.findClass]; exact q7, q8, fun j hj => by have := q9 j hj; rwa [Nat.zero_add] at this⟩, fun O n d w F n1 n2 => ?_⟩, hl, hc, hs⟩, st⟩
  · intro y hy
    simp only [List.mem_cons, List.not_mem_nil, or_false] at hy
    rcases hy with rfl | rfl <;> rfl
  · by_cases q : y = x
    · subst q
      cases hD.symm.trans hy
      exact ⟨E', q1.1, q2.2.1, q2.1, hsz⟩
    · exact ⟨cy, q10 y cy q hy, rfl, rfl, rfl⟩
  · obtain ⟨D3, cf, k, i, f, g1, g2, g3, g4, g5, g6, g7⟩ := F
    cases hD.symm.trans g1
    simp only [RoadKit.slotOf, g2, gV, gC, Option.map_some, Option.getD_some] at n1 n2
    exact ⟨E', cf, k, i, f, q1.1, g2, g3, by rw [q2.1]; exact g4, by rw [q2.1]; exact g5, by rw [q2.2.1]; exact g6, by rw [q2.2.2 f.slot (by simp [n1, n2])]; exact g7⟩
end StrChars.Road
namespace StrChars.Road
open Jvm Sem ClassFile Op Lib Jvm.Stand Jvm.Free Jvm.Free.XT
/-- WHAT COMES BACK, the byte[] as a list of values -/
def QA (Z : State) (x : Addr) (zn : Int32) (cs : List Int32) (h : Heap) (v : Option Value) (h' : Heap) (L : List Loc) : Prop := v = none ∧ (∀ y ∈ L, y.base = x) ∧ RoadKit.Keep h h' [x] ∧ h'.size = h.size + 1 ∧ RoadKit.Exa Z h' x ST ∧ RoadKit.Fld Z h' x ST "value" "[B" (.ref h.size) ∧ RoadKit.Fld Z h' x ST "coder" "B" (.int 0) ∧
  (∃ kb, Z.vm.findClass "[B" = some kb ∧ RoadKit.Arv Z h' h.size kb .byte zn (cs.map fun c => .int (lo8 c)) (.int 0)) ∧
  ∀ (O n d : String) (w : Value), RoadKit.Fld Z h x O n d w → RoadKit.slotOf Z O n d ≠ RoadKit.slotOf Z ST "value" "[B" → RoadKit.slotOf Z O n d ≠ RoadKit.slotOf Z ST "coder" "B" → RoadKit.Fld Z h' x O n d w
/-- **new String(chars) AT A CALL, THE ARRAYS AS LISTS**: the char[] at b holds cs, not empty, no char above 255 -/
theorem backArv {p : Program} {l : Launch} {e : Env} {R : Room} {s : State} {args : Array Value} {below : List Frame} {len W : Nat} {Z : State} {a0 : Array Value} {h : Heap} (hZ : Z.Warmed39 s.vm) (hw : ∀ d ∈ words, d.before a0 Z = true) {kI : Nat} (wi : (Jvm.Cond.instantiable ST kI).before a0 Z = true)
    {x b : Addr} {k : ClassId} {zn z : Int32} {cs : List Int32} {dv v0 c0 : Value} (E : RoadKit.Exa Z h x ST) (V : RoadKit.Fld Z h x ST "value" "[B" v0) (C : RoadKit.Fld Z h x ST "coder" "B" c0) (K : RoadKit.Arv Z h b k .char zn (cs.map Value.int) dv) (S : RoadKit.Sta Z h ST "COMPACT_STRINGS" "Z" (.int z)) (hz : ¬ z = 0)
    (hlen : zn.toNatClampNeg = cs.length) (h0 : 0 < cs.length) (hbig : cs.length ≤ 536870912) (hall : ∀ c ∈ cs, ¬ 255 < c) (hfr : 4 ≤ R.frames) (hlo : W + 65 ≤ R.locals) :
    Back l R p e below s args New1.yN len W (fun P a => a = #[.ref x, .ref b] ∧ P.U.heap = h ∧ P.cells + 1 ≤ R.cells ∧ P.slots + cs.length ≤ R.slots)
      (fun P _ v B => ∃ L, QA Z x zn cs h v B.U.heap L ∧ B.locs = P.locs ++ L ∧ B.cells = P.cells + 1 ∧ B.slots = P.slots + cs.length) := by
  obtain ⟨A, K1, K2, K3, K4, K5, K6⟩ := K
  have e : A.slots.size = cs.length := K3.trans hlen
  have hat : ∀ (i : Nat) (hi : i < cs.length), A.slots[i]? = some (.int cs[i]) := fun i hi => by rw [K5 i (by omega)]; simp [List.getD_eq_getElem?_getD, hi]
  have hcv : ∀ (i : Nat) (hi : i < cs.length), cv A i = cs[i] := fun i hi => by unfold cv; rw [hat i hi]
  have hty : Typed .char A := fun i v hv => by
    have hi : i < A.slots.size := (Array.getElem?_eq_some_iff.mp hv).1
    have q := K5 i hi
    rw [hv] at q
    rw [Option.some.inj q]
    exact K6 i hi
  refine Back.mono (back hZ hw wi E V C K1 hty S hz (by omega) (by omega) (fun i hi => by rw [hcv i (by omega)]; exact hall _ (List.getElem_mem _)) hfr hlo) (fun P a hp => ⟨hp.1, hp.2.1, hp.2.2.1, by rw [e]; exact hp.2.2.2⟩) (fun P a v B hp hq => ?_)
  obtain ⟨L, ⟨q1, q2, q3, q4, q5, q6, q7, ⟨V', v1, v2, v3, v4, v5⟩, q9⟩, hl, hc, hs⟩ := hq
  refine ⟨L, ⟨q1, q2, q3, q4, q5, q6, q7, ⟨V'.cls, v3, V', v1, rfl, by rw [v4, e, hlen], K4, fun i hi => ?_, fun i hi => ?_⟩, q9⟩, hl, hc, by rw [hs, e]⟩
  · have hi' : i < cs.length := by omega
    rw [v5 i (by omega), hcv i hi']; simp [List.getD_eq_getElem?_getD, hi']
  · have hi' : i < cs.length := by omega
    simp only [List.getD_eq_getElem?_getD, List.getElem?_map, List.getElem?_eq_getElem hi', Option.map_some, Option.getD_some]
    exact fits_lo8 _
end StrChars.Road
namespace StrChars.Road
open Jvm Sem ClassFile Op Lib Jvm.Stand Jvm.Free Jvm.Free.XT
/-- WHAT COMES BACK, in the writer's own shape -/
def QV (Z : State) (x : Addr) (N : Int32) (bs : List Int32) (h : Heap) (n0 : Nat) (v : Option Value) (h' : Heap) (L : List Loc) : Prop := v = none ∧ RoadKit.Fr n0 L ∧ RoadKit.Keep h h' [x] ∧ RoadKit.Exa Z h' x ST ∧ RoadKit.Fld Z h' x ST "coder" "B" (.int 0) ∧
  ∃ (t : Addr) (kb : ClassId), n0 ≤ t ∧ h.size ≤ t ∧ ¬ t = x ∧ RoadKit.Fld Z h' x ST "value" "[B" (.ref t) ∧ RoadKit.Arv Z h' t kb .byte N (bs.map Value.int) (.int 0)
/-- **new String(chars) AT A CALL, FOR THE WRITER**: a char[] of n known ints, each 0 to 255 -/
theorem backV {p : Program} {l : Launch} {e : Env} {R : Room} {s : State} {args : Array Value} {below : List Frame} {len W : Nat} {Z : State} {a0 : Array Value} {h : Heap} (hZ : Z.Warmed39 s.vm) (hw : ∀ d ∈ words, d.before a0 Z = true) {kI : Nat} (wi : (Jvm.Cond.instantiable ST kI).before a0 Z = true)
    {x b : Addr} {kC : ClassId} {cs bs : List Int32} {d v0 c0 : Value} {z N : Int32} {n n0 : Nat} (hx0 : n0 ≤ x) (hh0 : n0 ≤ h.size) (E : RoadKit.Exa Z h x ST) (V : RoadKit.Fld Z h x ST "value" "[B" v0) (C : RoadKit.Fld Z h x ST "coder" "B" c0) (K : RoadKit.Arv Z h b kC .char N (cs.map Value.int) d) (S : RoadKit.Sta Z h ST "COMPACT_STRINGS" "Z" (.int z)) (hz : ¬ z = 0)
    (hn : cs.length = n) (hN : N = Int32.ofNat n) (l0 : 0 < n) (l2 : n ≤ 4000) (hp : ∀ c ∈ cs, ¬ c < 0 ∧ ¬ (255 : Int32) < c) (hb : bs = cs.map (fun c => c.toInt8.toInt32)) (hfr : 4 ≤ R.frames) (hlo : W + 65 ≤ R.locals) :
    Back l R p e below s args (⟨"java/lang/String", "<init>", "([C)V"⟩ : MethodName) len W (fun P a => a = #[.ref x, .ref b] ∧ P.U.heap = h ∧ P.cells + 1 ≤ R.cells ∧ P.slots + n ≤ R.slots)
      (fun P _ v B => ∃ L, QV Z x N bs h n0 v B.U.heap L ∧ B.locs = P.locs ++ L ∧ B.cells = P.cells + 1 ∧ B.slots = P.slots + n) := by
  subst hn hN hb
  refine Back.mono (backArv hZ hw wi E V C K S hz (n32 (by omega)) l0 (by omega) (fun c hc => (hp c hc).2) hfr hlo) (fun P a hp => hp) (fun P a v B hp hq => ?_)
  obtain ⟨L, ⟨q1, q2, q3, q4, q5, q6, q7, ⟨kb, v1, v2⟩, q9⟩, hl, hc, hs⟩ := hq
  exact ⟨L, ⟨q1, fun y hy => by rw [q2 y hy]; exact hx0, q3, q5, q7, h.size, kb, hh0, Nat.le_refl _, Nat.ne_of_gt E.lt, q6, by rw [List.map_map]; exact v2⟩, hl, hc, hs⟩
end StrChars.Road
namespace StrChars
open Jvm Sem ClassFile Op Lib Jvm.Stand Jvm.Free.XT Jvm.Free.ALB Jvm.Free.JM Jvm.Free
open Jvm.Lib.Cold (StaticIs)
def hi8 (x : Int32) : Int32 := lo8 (x >>> ((8 : Int32) &&& 31))
/-- what StringUTF16.getChar makes of two bytes -/
def pairCh (u v : Int32) : Int32 := (((u &&& 255) <<< ((0 : Int32) &&& 31)) ||| ((v &&& 255) <<< ((8 : Int32) &&& 31))).toUInt32.toUInt16.toUInt32.toInt32
theorem shr0 (c : Int32) : c >>> ((0 : Int32) &&& 31) = c := by
  have e : ((0 : Int32) &&& 31) = 0 := by decide
  rw [e]
  apply Int32.toBitVec_inj.mp
  rw [Int32.toBitVec_shiftRight]
  have e1 : ((0 : Int32).toBitVec.smod 32) = 0#32 := by decide
  rw [e1, BitVec.sshiftRight_eq']
  exact BitVec.sshiftRight_zero
theorem lo8_and (x : Int32) : (lo8 x &&& 255).toBitVec.toNat = x.toBitVec.toNat % 256 := by
  have h : (lo8 x).toBitVec = (x.toBitVec.signExtend 8).signExtend 32 := by rw [lo8, Int8.toBitVec_toInt32, Int32.toBitVec_toInt8]
  rw [Int32.toBitVec_and, BitVec.toNat_and, h]
  have e : ((x.toBitVec.signExtend 8).signExtend 32).toNat % 256 = x.toBitVec.toNat % 256 := by
    rw [BitVec.toNat_signExtend]
    have hlt := x.toBitVec.isLt
    simp only [BitVec.toNat_setWidth, BitVec.toNat_signExtend]
    split <;> split <;> omega
  rw [← e]
  exact Nat.and_two_pow_sub_one_eq_mod _ 8
theorem pair_says {c : Int32} (h0 : ¬ c < 0) (h1 : ¬ 65535 < c) : pairCh (lo8 c) (hi8 c) = c := by
  rw [Int32.lt_iff_toInt_lt] at h0 h1
  have e0 : (0 : Int32).toInt = 0 := rfl
  have e1 : (65535 : Int32).toInt = 65535 := rfl
  have hc : c.toInt = c.toBitVec.toNat := by
    have := c.toBitVec.isLt
    have e : c.toInt = c.toBitVec.toInt := rfl
    rw [e] at h0 h1
    rw [e]
    rw [BitVec.toInt_eq_toNat_cond] at h0 h1 ⊢
    split at h0 <;> split <;> omega
  have hn : c.toBitVec.toNat < 65536 := by omega
  have a1 := lo8_and c
  have a2 : (hi8 c &&& 255).toBitVec.toNat = c.toBitVec.toNat / 256 := by
    rw [hi8, lo8_and]
    have e : ((8 : Int32) &&& 31) = 8 := by decide
    rw [e, Int32.toBitVec_shiftRight]
    have e2 : ((8 : Int32).toBitVec.smod 32) = 8#32 := by decide
    rw [e2, BitVec.sshiftRight_eq', BitVec.toNat_sshiftRight_of_msb_false (by rw [BitVec.msb_eq_false_iff_two_mul_lt]; omega)]
    show c.toBitVec.toNat >>> 8 % 256 = _
    rw [Nat.shiftRight_eq_div_pow]
    omega
  unfold pairCh
  apply Int32.toBitVec_inj.mp
  apply BitVec.eq_of_toNat_eq
  have f0 : ((0 : Int32) &&& 31) = 0 := by decide
  have f8 : ((8 : Int32) &&& 31) = 8 := by decide
  rw [f0, f8]
  have g : (((lo8 c &&& 255) <<< (0 : Int32)) ||| ((hi8 c &&& 255) <<< (8 : Int32))).toBitVec.toNat = c.toBitVec.toNat := by
    rw [Int32.toBitVec_or, Int32.toBitVec_shiftLeft, Int32.toBitVec_shiftLeft]
    have s0 : ((0 : Int32).toBitVec.smod 32) = 0#32 := by decide
    have s8 : ((8 : Int32).toBitVec.smod 32) = 8#32 := by decide
    rw [s0, s8, BitVec.toNat_or]
    simp only [BitVec.shiftLeft_eq', BitVec.toNat_shiftLeft, a1, a2]
    show (c.toBitVec.toNat % 256) <<< 0 % 2 ^ 32 ||| (c.toBitVec.toNat / 256) <<< 8 % 2 ^ 32 = _
    rw [Nat.shiftLeft_zero, Nat.mod_eq_of_lt (show c.toBitVec.toNat % 256 < 2 ^ 32 by omega), Nat.mod_eq_of_lt (show (c.toBitVec.toNat / 256) <<< 8 < 2 ^ 32 by rw [Nat.shiftLeft_eq]; omega), Nat.or_comm, ← Nat.shiftLeft_add_eq_or_of_lt (by omega), Nat.shiftLeft_eq]
    omega
  show BitVec.toNat (((((lo8 c &&& 255) <<< (0 : Int32)) ||| ((hi8 c &&& 255) <<< (8 : Int32))).toBitVec.setWidth 16).setWidth 32) = _
  rw [BitVec.toNat_setWidth, BitVec.toNat_setWidth, g]
  omega
end StrChars
namespace StrChars
open Jvm Sem ClassFile Op Lib Jvm.Stand Jvm.Free.XT Jvm.Free.ALB Jvm.Free.JM Jvm.Free
open Jvm.Lib.Cold (StaticIs)
theorem shr1 {n : Nat} (h : 2 * n < 2 ^ 31) : Int32.ofNat (2 * n) >>> ((1 : Int32) &&& 31) = Int32.ofNat n := by
  have e : ((1 : Int32) &&& 31) = 1 := by decide
  rw [e]
  apply Int32.toBitVec_inj.mp
  rw [Int32.toBitVec_shiftRight]
  have e1 : ((1 : Int32).toBitVec.smod 32) = 1#32 := by decide
  have hm : (BitVec.ofNat 32 (2 * n)).toNat = 2 * n := by rw [BitVec.toNat_ofNat, Nat.mod_eq_of_lt (by omega)]
  rw [e1, BitVec.sshiftRight_eq']
  apply BitVec.eq_of_toNat_eq
  show ((BitVec.ofNat 32 (2 * n)).sshiftRight 1).toNat = (BitVec.ofNat 32 n).toNat
  rw [BitVec.toNat_sshiftRight_of_msb_false (by rw [BitVec.msb_eq_false_iff_two_mul_lt, hm]; omega), hm, BitVec.toNat_ofNat, Nat.shiftRight_eq_div_pow]
  omega
/-- charAt's cast of a byte read back -/
def chr8 (u : Int32) : Int32 := (u &&& 255).toUInt32.toUInt16.toUInt32.toInt32
theorem chr8_lo8 {c : Int32} (h0 : ¬ c < 0) (h1 : ¬ 255 < c) : chr8 (lo8 c) = c := by
  have t : ∀ k : Fin 256, (Int32.ofNat k.val).toUInt32.toUInt16.toUInt32.toInt32 = Int32.ofNat k.val := by decide +kernel
  unfold chr8
  rw [lo8_mask h0 h1]
  rw [Int32.lt_iff_toInt_lt] at h0 h1
  have e0 : (0 : Int32).toInt = 0 := rfl
  have e1 : (255 : Int32).toInt = 255 := rfl
  obtain ⟨k, hk⟩ : ∃ k : Nat, c.toInt = k := ⟨c.toInt.toNat, by omega⟩
  have hx : c = Int32.ofNat k := Int32.toInt_inj.mp (by rw [hk, Int32.toInt_ofNat_small (by omega)])
  rw [hx]
  exact t ⟨k, by omega⟩
theorem narrow_ch {c : Int32} (h0 : ¬ c < 0) (h1 : ¬ 65535 < c) : narrow .char (.int c) = .int c := by
  have q : narrow .char (.int (pairCh (lo8 c) (hi8 c))) = .int (pairCh (lo8 c) (hi8 c)) := narrow_c _
  rwa [pair_says h0 h1] at q
/-- the array's cell V codes the n chars f 0 .. f (n - 1) by the coder cd, as the JDK does: coder 1 just where some char is above 255 -/
def Cod (cd : Int32) (n : Nat) (f : Nat → Int32) (V : Cell) : Prop := (cd = 0 ∧ V.slots.size = n ∧ ∀ j, j < n → V.slots[j]? = some (.int (lo8 (f j))) ∧ ¬ 255 < f j) ∨ (cd = 1 ∧ V.slots.size = 2 * n ∧ (∀ j, j < n → V.slots[2 * j]? = some (.int (lo8 (f j))) ∧ V.slots[2 * j + 1]? = some (.int (hi8 (f j)))) ∧ ∃ j, j < n ∧ 255 < f j)
theorem Cod.cd {cd : Int32} {n : Nat} {f : Nat → Int32} {V : Cell} (h : Cod cd n f V) : cd = 0 ∨ cd = 1 := h.imp (fun q => q.1) fun q => q.1
theorem Cod.len {cd : Int32} {n : Nat} {f : Nat → Int32} {V : Cell} (h : Cod cd n f V) (hs : V.slots.size < 2 ^ 31) : Int32.ofNat V.slots.size >>> (cd &&& 31) = Int32.ofNat n := by
  rcases h with ⟨rfl, h, -⟩ | ⟨rfl, h, -⟩
  · rw [shr0, h]
  · rw [h, shr1 (by omega)]
/-- **x is a String of the n chars f 0 .. f (n - 1)**, Latin-1 or UTF-16; its array at t has the cell V -/
def Txt (x t : Addr) (V : Cell) (cd : Int32) (n : Nat) (f : Nat → Int32) (U : State) : Prop := Exact "java/lang/String" x U ∧ Has x "java/lang/String" "value" "[B" (.ref t) U ∧ Has x "java/lang/String" "coder" "B" (.int cd) U ∧ XT.Arr .byte t V U ∧ Cod cd n f V ∧ ∀ j, j < n → ¬ f j < 0 ∧ ¬ 65535 < f j
theorem Txt.mv {x t : Addr} {V : Cell} {cd : Int32} {n : Nat} {f : Nat → Int32} {U U' : State} (h : Txt x t V cd n f U) (hal : U.vm.Alike U'.vm) (hh : U'.heap = U.heap) : Txt x t V cd n f U' := ⟨h.1.mv hal hh, h.2.1.mv hal hh, h.2.2.1.mv hal hh, h.2.2.2.1.mv hal hh, h.2.2.2.2⟩
namespace Cdr
def yN : MethodName := ⟨"java/lang/String", "coder", "()B"⟩
abbrev yB : ByteArray := jdk_42_method_152_code
theorem d0 : decode yB 0 = .ok (.getstatic 38, 3) := by decide +kernel
theorem d3 : decode yB 3 = .ok (.ifCond (.eq) 10, 3) := by decide +kernel
theorem d6 : decode yB 6 = .ok (.aload_n 0, 1) := by decide +kernel
theorem d7 : decode yB 7 = .ok (.getfield 15, 3) := by decide +kernel
theorem d10 : decode yB 10 = .ok (.goto 4, 3) := by decide +kernel
theorem d14 : decode yB 14 = .ok (.ireturn, 1) := by decide +kernel
def site : List Cond := [.fieldLink "java/lang/String" 38 "java/lang/String" "COMPACT_STRINGS" "Z", .fieldLink "java/lang/String" 15 "java/lang/String" "coder" "B"]
def tab : Cond := tabOf yN yB 1 (some .byte) site
def P (x : Addr) (cd z : Int32) (args : Array Value) (s : State) : Prop := args = #[.ref x] ∧ Has x "java/lang/String" "coder" "B" (.int cd) s ∧ (cd = 0 ∨ cd = 1) ∧ StaticIs s "java/lang/String" "COMPACT_STRINGS" "Z" (.int z) ∧ ¬ z = 0
def E (cd : Int32) (r : Option Value) (s u : State) : Prop := XT.PureE (some (.int cd)) r s u
theorem law (l : Launch) (x : Addr) (cd z : Int32) : Law l yN 1 0 0 0 yB 1 (some .byte) site (P x cd z) (E cd) [] 0 0 := by
  refine Law.of_walk (plainFor_of_name (by decide +kernel)) (by decide +kernel) (by decide +kernel) (by decide) (fun _ _ h => by rw [h.1]; rfl) (fun _ U U' hal hh h => ⟨h.1, h.2.1.mv hal hh, h.2.2.1, h.2.2.2.1.there hal hh, h.2.2.2.2⟩) (fun r U U' V V' h1 hal h2 h => XT.PureE.mv r U U' V V' h1 hal h2 h) ?_
  intro p e s m args below meth c s₁ X0 hexec hbytes hml hret hlk hnm hown hh0 W hP
  obtain ⟨rfl, hx, hc, s1, hz⟩ := hP
  have c1 : Steps p.tables e below (s₁.setTop (entryFrame m #[.ref x] 1)) (s₁.setTop (mkF m 0 #[.val (.ref x)] [])) := entry rfl
  obtain ⟨T2, X2, q2, st2⟩ := X0.sget hexec hown (wk W (.fieldLink "java/lang/String" 38 "java/lang/String" "COMPACT_STRINGS" "Z")) s1 (fun _ _ h => by rw [hh0]; exact h) (g := (mkF m 0 #[.val (.ref x)] [])) rfl (hb hbytes d0)
  have hh2 := q2.trans hh0
  have c3 : Steps p.tables e below (s₁.setTop (entryFrame m #[.ref x] 1)) (T2.setTop (mkF m 7 #[.val (.ref x)] [.ref x])) := (c1.trans (st2 _ (Steps.refl _))).trans (by
    refine XS.ifNo X2.here hexec rfl (hb hbytes d3) rfl (i0_eq_f hz) ?_
    refine XS.aloadN X2.here hexec rfl (hb hbytes d6) rfl rfl ?_
    exact Steps.refl _)
  obtain ⟨T4, X4, q4, st4⟩ := X2.hget hexec hown (wk W (.fieldLink "java/lang/String" 15 "java/lang/String" "coder" "B")) (hx.mv X2.warmed.alike hh2) (g := (mkF m 7 #[.val (.ref x)] [.ref x])) rfl (rest := []) rfl (hb hbytes d7)
  have c5 : Steps p.tables e below (s₁.setTop (entryFrame m #[.ref x] 1)) (T4.setTop (mkF m 14 #[.val (.ref x)] [.int cd])) := (c3.trans (st4 _ (Steps.refl _))).trans (by
    refine XS.goto X4.here hexec rfl (pc0 := 10) rfl (hb hbytes d10) (by decide) rfl ?_
    exact Steps.refl _)
  exact ⟨T4, some (.int cd), _, _, _, X4, rfl, rfl, rfl, (fun h => by cases h), ⟨rfl, q4.trans hh2⟩, fun fs hl => c5.trans (X4.ireturnOut hexec hret (by rcases hc with rfl | rfl <;> rfl) (Or.inr (Or.inr (Or.inl rfl))) (hb hbytes d14) hl)⟩
end Cdr
namespace Len
def yN : MethodName := ⟨"java/lang/String", "length", "()I"⟩
abbrev yB : ByteArray := jdk_42_method_54_code
theorem d0 : decode yB 0 = .ok (.aload_n 0, 1) := by decide +kernel
theorem d1 : decode yB 1 = .ok (.getfield 9, 3) := by decide +kernel
theorem d4 : decode yB 4 = .ok (.arraylength, 1) := by decide +kernel
theorem d5 : decode yB 5 = .ok (.aload_n 0, 1) := by decide +kernel
theorem d6 : decode yB 6 = .ok (.invokevirtual 335, 3) := by decide +kernel
theorem d9 : decode yB 9 = .ok (.ishr, 1) := by decide +kernel
theorem d10 : decode yB 10 = .ok (.ireturn, 1) := by decide +kernel
def site : List Cond := [.fieldLink "java/lang/String" 9 "java/lang/String" "value" "[B", Cdr.tab] ++ virtW "java/lang/String" 335 "java/lang/String" Cdr.yN Cdr.yN
def tab : Cond := tabOf yN yB 1 (some .int) site
def P (x t : Addr) (V : Cell) (cd : Int32) (n : Nat) (f : Nat → Int32) (z : Int32) (args : Array Value) (s : State) : Prop := args = #[.ref x] ∧ Txt x t V cd n f s ∧ StaticIs s "java/lang/String" "COMPACT_STRINGS" "Z" (.int z) ∧ ¬ z = 0
def E (n : Nat) (r : Option Value) (s u : State) : Prop := XT.PureE (some (.int (Int32.ofNat n))) r s u
/-- length() of a String of n chars, in either coding -/
theorem law (l : Launch) (x t : Addr) (V : Cell) (cd : Int32) (n : Nat) (f : Nat → Int32) (z : Int32) : Law l yN 1 0 1 13 yB 1 (some .int) site (P x t V cd n f z) (E n) [] 0 0 := by
  refine Law.of_walk (plainFor_of_name (by decide +kernel)) (by decide +kernel) (by decide +kernel) (by decide) (fun _ _ h => by rw [h.1]; rfl) (fun _ U U' hal hh h => ⟨h.1, h.2.1.mv hal hh, h.2.2.1.there hal hh, h.2.2.2⟩) (fun r U U' V V' h1 hal h2 h => XT.PureE.mv r U U' V V' h1 hal h2 h) ?_
  intro p e s m args below meth c s₁ X0 hexec hbytes hml hret hlk hnm hown hh0 W hP
  obtain ⟨rfl, hx, s1, hz⟩ := hP
  have v31 := hx.2.2.2.1.2.2.2
  have c1 : Steps p.tables e below (s₁.setTop (entryFrame m #[.ref x] 1)) (s₁.setTop (mkF m 1 #[.val (.ref x)] [.ref x])) := Steps.trans (entry rfl) (by
    show Steps p.tables e below (s₁.setTop (mkF m 0 #[.val (.ref x)] [])) _
    refine XS.aloadN X0.here hexec rfl (hb hbytes d0) rfl rfl ?_
    exact Steps.refl _)
  obtain ⟨T2, X2, q2, st2⟩ := X0.hget hexec hown (wk W (.fieldLink "java/lang/String" 9 "java/lang/String" "value" "[B")) (hx.mv X0.warmed.alike hh0).2.1 (g := (mkF m 1 #[.val (.ref x)] [.ref x])) rfl (rest := []) rfl (hb hbytes d1)
  have hh2 := q2.trans hh0
  have hx2 := hx.mv X2.warmed.alike hh2
  have c3 : Steps p.tables e below (s₁.setTop (entryFrame m #[.ref x] 1)) (T2.setTop (mkF m 6 #[.val (.ref x)] [.ref x, .int (Int32.ofNat V.slots.size)])) := (c1.trans (st2 _ (Steps.refl _))).trans (by
    refine X2.alen hexec hx2.2.2.2.1 rfl rfl (hb hbytes d4) ?_
    refine XS.aloadN X2.here hexec rfl (hb hbytes d5) rfl rfl ?_
    exact Steps.refl _)
  obtain ⟨v4, T4, X4, E4, g4⟩ := X2.callV hexec (Cdr.law l x cd z) hown (wks W (virtW "java/lang/String" 335 "java/lang/String" Cdr.yN Cdr.yN)) rfl (by decide) (wk W Cdr.tab) (W := 1) (Nat.le_of_ble_eq_true rfl) (Nat.le_of_ble_eq_true rfl) (Nat.le_refl _) (Nat.le_refl _) (hx2.1.fc X2.warmed.alike) hx2.1.is (g := (mkF m 6 #[.val (.ref x)] [.ref x, .int (Int32.ofNat V.slots.size)])) rfl (by rw [hml]; rfl) c3 (argsL := []) (rest := [.int (Int32.ofNat V.slots.size)]) rfl rfl (by show 2 * 0 + (1 + 0) ≤ _; decide) (hb hbytes d6) (⟨rfl, hx2.2.2.1, hx.2.2.2.2.1.cd, s1.there X2.warmed.alike hh2, hz⟩)
  obtain ⟨rfl, q4⟩ := E4
  have c5 : Steps p.tables e below (s₁.setTop (entryFrame m #[.ref x] 1)) (T4.setTop (mkF m 10 #[.val (.ref x)] [.int (Int32.ofNat V.slots.size >>> (cd &&& 31))])) := Steps.trans g4 (by
    refine ishr X4.here hexec rfl (hb hbytes d9) rfl ?_
    exact Steps.refl _)
  rw [hx.2.2.2.2.1.len v31] at c5
  exact ⟨T4, some (.int (Int32.ofNat n)), _, _, _, X4, rfl, rfl, rfl, (fun h => by cases h), ⟨rfl, q4.trans hh2⟩, fun fs hl => c5.trans (X4.ireturnOut hexec hret rfl (Or.inl rfl) (hb hbytes d10) hl)⟩
theorem pays {l : Launch} {R : Room} {p : Program} {e : Env} {below : List Frame} {s : State} {sargs : Array Value} {len W : Nat} (x t : Addr) (V : Cell) (cd : Int32) (n : Nat) (f : Nat → Int32) (z : Int32) (htab : tab.before sargs s = true) (hfr : 2 ≤ R.frames) (hlo : W + 25 ≤ R.locals) :
    Back l R p e below s sargs yN len W (fun A₁ a₁ => A₁.cells + 0 ≤ R.cells ∧ A₁.slots + 0 ≤ R.slots ∧ P x t V cd n f z a₁ A₁.U) (fun A₁ _ v₁ B₁ => E n v₁ A₁.U B₁.U ∧ B₁.locs = A₁.locs ++ [] ∧ B₁.cells = A₁.cells + 0 ∧ B₁.slots = A₁.slots + 0) :=
  (law l x t V cd n f z).pays htab hfr (by omega)
end Len
namespace IsL
def yN : MethodName := ⟨"java/lang/String", "isLatin1", "()Z"⟩
abbrev yB : ByteArray := jdk_42_method_154_code
theorem d0 : decode yB 0 = .ok (.getstatic 38, 3) := by decide +kernel
theorem d3 : decode yB 3 = .ok (.ifCond (.eq) 14, 3) := by decide +kernel
theorem d6 : decode yB 6 = .ok (.aload_n 0, 1) := by decide +kernel
theorem d7 : decode yB 7 = .ok (.getfield 15, 3) := by decide +kernel
theorem d10 : decode yB 10 = .ok (.ifCond (.ne) 7, 3) := by decide +kernel
theorem d13 : decode yB 13 = .ok (.iconst 1, 1) := by decide +kernel
theorem d14 : decode yB 14 = .ok (.goto 4, 3) := by decide +kernel
theorem d17 : decode yB 17 = .ok (.iconst 0, 1) := by decide +kernel
theorem d18 : decode yB 18 = .ok (.ireturn, 1) := by decide +kernel
def site : List Cond := [.fieldLink "java/lang/String" 38 "java/lang/String" "COMPACT_STRINGS" "Z", .fieldLink "java/lang/String" 15 "java/lang/String" "coder" "B"]
def tab : Cond := tabOf yN yB 1 (some .boolean) site
def P (x : Addr) (cd z : Int32) (args : Array Value) (s : State) : Prop := args = #[.ref x] ∧ Has x "java/lang/String" "coder" "B" (.int cd) s ∧ (cd = 0 ∨ cd = 1) ∧ StaticIs s "java/lang/String" "COMPACT_STRINGS" "Z" (.int z) ∧ ¬ z = 0
def E (cd : Int32) (r : Option Value) (s u : State) : Prop := XT.PureE (some (.int (1 - cd))) r s u
theorem law (l : Launch) (x : Addr) (cd z : Int32) : Law l yN 1 0 0 0 yB 1 (some .boolean) site (P x cd z) (E cd) [] 0 0 := by
  refine Law.of_walk (plainFor_of_name (by decide +kernel)) (by decide +kernel) (by decide +kernel) (by decide) (fun _ _ h => by rw [h.1]; rfl) (fun _ U U' hal hh h => ⟨h.1, h.2.1.mv hal hh, h.2.2.1, h.2.2.2.1.there hal hh, h.2.2.2.2⟩) (fun r U U' V V' h1 hal h2 h => XT.PureE.mv r U U' V V' h1 hal h2 h) ?_
  intro p e s m args below meth c s₁ X0 hexec hbytes hml hret hlk hnm hown hh0 W hP
  obtain ⟨rfl, hx, hc, s1, hz⟩ := hP
  have c1 : Steps p.tables e below (s₁.setTop (entryFrame m #[.ref x] 1)) (s₁.setTop (mkF m 0 #[.val (.ref x)] [])) := entry rfl
  obtain ⟨T2, X2, q2, st2⟩ := X0.sget hexec hown (wk W (.fieldLink "java/lang/String" 38 "java/lang/String" "COMPACT_STRINGS" "Z")) s1 (fun _ _ h => by rw [hh0]; exact h) (g := (mkF m 0 #[.val (.ref x)] [])) rfl (hb hbytes d0)
  have hh2 := q2.trans hh0
  have c3 : Steps p.tables e below (s₁.setTop (entryFrame m #[.ref x] 1)) (T2.setTop (mkF m 7 #[.val (.ref x)] [.ref x])) := (c1.trans (st2 _ (Steps.refl _))).trans (by
    refine XS.ifNo X2.here hexec rfl (hb hbytes d3) rfl (i0_eq_f hz) ?_
    refine XS.aloadN X2.here hexec rfl (hb hbytes d6) rfl rfl ?_
    exact Steps.refl _)
  obtain ⟨T4, X4, q4, st4⟩ := X2.hget hexec hown (wk W (.fieldLink "java/lang/String" 15 "java/lang/String" "coder" "B")) (hx.mv X2.warmed.alike hh2) (g := (mkF m 7 #[.val (.ref x)] [.ref x])) rfl (rest := []) rfl (hb hbytes d7)
  have c5 : Steps p.tables e below (s₁.setTop (entryFrame m #[.ref x] 1)) (T4.setTop (mkF m 10 #[.val (.ref x)] [.int cd])) := c3.trans (st4 _ (Steps.refl _))
  have c6 : Steps p.tables e below (s₁.setTop (entryFrame m #[.ref x] 1)) (T4.setTop (mkF m 18 #[.val (.ref x)] [.int (1 - cd)])) := by
    rcases hc with rfl | rfl
    · exact c5.trans (by
        refine XS.ifNo X4.here hexec rfl (hb hbytes d10) rfl (i0_ne_f rfl) ?_
        refine iconstV X4.here hexec rfl 1 (hb hbytes d13) (by decide) ?_
        refine XS.goto X4.here hexec rfl (pc0 := 14) rfl (hb hbytes d14) (by decide) rfl ?_
        exact Steps.refl _)
    · exact c5.trans (by
        refine XS.ifYes X4.here hexec rfl (pc0 := 10) rfl (hb hbytes d10) rfl (i0_ne_t (by decide)) (by decide) rfl ?_
        refine iconstV X4.here hexec rfl 0 (hb hbytes d17) (by decide) ?_
        exact Steps.refl _)
  exact ⟨T4, some (.int (1 - cd)), _, _, _, X4, rfl, rfl, rfl, (fun h => by cases h), ⟨rfl, q4.trans hh2⟩, fun fs hl => c6.trans (X4.ireturnOut hexec hret (by rcases hc with rfl | rfl <;> rfl) (Or.inr (Or.inl rfl)) (hb hbytes d18) hl)⟩
end IsL
namespace LChA
def yN : MethodName := ⟨"java/lang/StringLatin1", "charAt", "([BI)C"⟩
abbrev yB : ByteArray := jdk_43_method_2_code
theorem d0 : decode yB 0 = .ok (.iload_n 1, 1) := by decide +kernel
theorem d1 : decode yB 1 = .ok (.aload_n 0, 1) := by decide +kernel
theorem d2 : decode yB 2 = .ok (.arraylength, 1) := by decide +kernel
theorem d3 : decode yB 3 = .ok (.invokestatic 9, 3) := by decide +kernel
theorem d6 : decode yB 6 = .ok (.aload_n 0, 1) := by decide +kernel
theorem d7 : decode yB 7 = .ok (.iload_n 1, 1) := by decide +kernel
theorem d8 : decode yB 8 = .ok (.baload, 1) := by decide +kernel
theorem d9 : decode yB 9 = .ok (.sipush 255, 3) := by decide +kernel
theorem d12 : decode yB 12 = .ok (.iand, 1) := by decide +kernel
theorem d13 : decode yB 13 = .ok (.i2c, 1) := by decide +kernel
theorem d14 : decode yB 14 = .ok (.ireturn, 1) := by decide +kernel
def site : List Cond := [JO.Str_checkIndex.tab] ++ staticW "java/lang/StringLatin1" 9 JO.Str_checkIndex.yN
def tab : Cond := tabOf yN yB 2 (some .char) site
def P (t : Addr) (V : Cell) (i : Nat) (u : Int32) (fm : Value) (args : Array Value) (s : State) : Prop := args = #[.ref t, .int (Int32.ofNat i)] ∧ XT.Arr .byte t V s ∧ V.slots[i]? = some (.int u) ∧ (StaticIs s "jdk/internal/util/Preconditions" "SIOOBE_FORMATTER" "Ljava/util/function/BiFunction;" fm ∧ fm.isRef = true)
def E (u : Int32) (r : Option Value) (s w : State) : Prop := XT.PureE (some (.int (chr8 u))) r s w
theorem law (l : Launch) (t : Addr) (V : Cell) (i : Nat) (u : Int32) (fm : Value) : Law l yN 2 2 2 27 yB 2 (some .char) site (P t V i u fm) (E u) [] 0 0 := by
  refine Law.of_walk (plainFor_of_name (by decide +kernel)) (by decide +kernel) (by decide +kernel) (by decide) (fun _ _ h => by rw [h.1]; rfl) (fun _ U U' hal hh h => ⟨h.1, h.2.1.mv hal hh, h.2.2.1, h.2.2.2.1.there hal hh, h.2.2.2.2⟩) (fun r U U' V V' h1 hal h2 h => XT.PureE.mv r U U' V V' h1 hal h2 h) ?_
  intro p e s m args below meth c s₁ X0 hexec hbytes hml hret hlk hnm hown hh0 W hP
  obtain ⟨rfl, hV, hu, s1, rf⟩ := hP
  have v31 := hV.2.2.2
  have hi : i < V.slots.size := (Array.getElem?_eq_some_iff.mp hu).1
  have c1 : Steps p.tables e below (s₁.setTop (entryFrame m #[.ref t, .int (Int32.ofNat i)] 2)) (s₁.setTop (mkF m 0 #[.val (.ref t), .val (.int (Int32.ofNat i))] [])) := entry rfl
  have c2 : Steps p.tables e below (s₁.setTop (entryFrame m #[.ref t, .int (Int32.ofNat i)] 2)) (s₁.setTop (mkF m 3 #[.val (.ref t), .val (.int (Int32.ofNat i))] [.int (Int32.ofNat V.slots.size), .int (Int32.ofNat i)])) := c1.trans (by
    refine XS.iloadN X0.here hexec rfl (hb hbytes d0) rfl ?_
    refine XS.aloadN X0.here hexec rfl (hb hbytes d1) rfl rfl ?_
    refine X0.alen hexec (hV.mv X0.warmed.alike hh0) rfl rfl (hb hbytes d2) ?_
    exact Steps.refl _)
  obtain ⟨v3, T3, X3, E3, g3⟩ := X0.callS hexec (JO.Str_checkIndex.law l (Int32.ofNat i) (Int32.ofNat V.slots.size) fm) hown (wks W (staticW "java/lang/StringLatin1" 9 JO.Str_checkIndex.yN)) (wk W JO.Str_checkIndex.tab) (W := 0) (Nat.le_of_ble_eq_true rfl) (Nat.le_of_ble_eq_true rfl) (Nat.le_refl _) (Nat.le_refl _) (g := (mkF m 3 #[.val (.ref t), .val (.int (Int32.ofNat i))] [.int (Int32.ofNat V.slots.size), .int (Int32.ofNat i)])) rfl (by rw [hml]; rfl) c2 (argsL := [.int (Int32.ofNat i), .int (Int32.ofNat V.slots.size)]) (rest := []) rfl rfl (by show 2 * 0 + 0 ≤ _; decide) (hb hbytes d3) (⟨rfl, rf, s1.there X0.warmed.alike hh0, Int32.ofNat_not_neg (by omega), lt32 v31 hi⟩)
  obtain ⟨rfl, q3⟩ := E3
  have hh3 := q3.trans hh0
  have c4 : Steps p.tables e below (s₁.setTop (entryFrame m #[.ref t, .int (Int32.ofNat i)] 2)) (T3.setTop (mkF m 14 #[.val (.ref t), .val (.int (Int32.ofNat i))] [.int (chr8 u)])) := Steps.trans g3 (by
    refine XS.aloadN X3.here hexec rfl (hb hbytes d6) rfl rfl ?_
    refine XS.iloadN X3.here hexec rfl (hb hbytes d7) rfl ?_
    refine X3.aget hexec (hV.mv X3.warmed.alike hh3) rfl hu rfl rfl (hb hbytes d8) ?_
    refine sipushV X3.here hexec rfl 255 (hb hbytes d9) (by decide) ?_
    refine XS.iand X3.here hexec rfl (hb hbytes d12) rfl ?_
    refine i2c X3.here hexec rfl (hb hbytes d13) rfl ?_
    exact Steps.refl _)
  exact ⟨T3, some (.int (chr8 u)), _, _, _, X3, rfl, rfl, rfl, (fun h => by cases h), ⟨rfl, hh3⟩, fun fs hl => c4.trans (X3.ireturnOut hexec hret (narrow_c _) (Or.inr (Or.inr (Or.inr (Or.inl rfl)))) (hb hbytes d14) hl)⟩
end LChA
end StrChars
namespace StrChars.Road
open Jvm Sem ClassFile Op Lib Jvm.Stand Jvm.Free Jvm.Free.XT
open Jvm.Lib.Cold (StaticIs)
theorem consq {a : Array Value} {s : State} {c : Jvm.Cond} {L : List Jvm.Cond} (h0 : c.before a s = true) (h : ∀ w ∈ L, w.before a s = true) : ∀ w ∈ c :: L, w.before a s = true := fun w hw => (List.mem_cons.mp hw).elim (fun e => e ▸ h0) (h w)
/-- the words of String.length(), either coding -/
abbrev wordsLen : List Jvm.Cond := [.code Len.yN Len.yB 1 (some .int), .initialized ST, .fieldLink ST 9 ST "value" "[B", .fieldLink ST 38 ST "COMPACT_STRINGS" "Z", .fieldLink ST 15 ST "coder" "B", .code Cdr.yN Cdr.yB 1 (some .byte), .methodLink ST 335 Cdr.yN, .declares Cdr.yN, .selects ST Cdr.yN Cdr.yN, .instanceMethod Cdr.yN]
theorem tabLen_of {a : Array Value} {s : State} (h : ∀ w ∈ wordsLen, w.before a s = true) : Len.tab.before a s = true := by
  have hc : Cdr.tab.before a s = true := unparts (wk h (.code Cdr.yN Cdr.yB 1 (some .byte))) (wks h (.initialized Cdr.yN.cls :: Cdr.site))
  have q := consq hc h
  exact unparts (wk q (.code Len.yN Len.yB 1 (some .int))) (wks q (.initialized Len.yN.cls :: Len.site))
theorem movedLen {Z s : State} {a0 args : Array Value} (hZ : Z.Warmed39 s.vm) (hw : ∀ d ∈ wordsLen, d.before a0 Z = true) : ∀ d ∈ wordsLen, d.before args s = true := fun d hd => by
  have q := hw d hd
  have t : ∀ d ∈ wordsLen, d = .arrayClass .byte ∨ (d.onTables && d.keepsFace) = true := by decide +kernel
  rcases t d hd with rfl | t
  · exact RoadKit.mvA hZ q
  · exact RoadKit.mv hZ q t
/-- the bytes of the chars cs, low before high -/
def wideBytes : List Int32 → List Value
  | [] => []
  | c :: cs => .int (lo8 c) :: .int (hi8 c) :: wideBytes cs
theorem wide_lo (d : Value) : ∀ (cs : List Int32) (j : Nat), j < cs.length → (wideBytes cs).getD (2 * j) d = .int (lo8 (cs.getD j 0))
  | [], j, h => absurd h (Nat.not_lt_zero j)
  | c :: cs, 0, _ => rfl
  | c :: cs, j + 1, h => by
    have q := wide_lo d cs j (by simpa using h)
    rw [show 2 * (j + 1) = 2 * j + 1 + 1 from by omega]
    simpa [wideBytes] using q
theorem wide_hi (d : Value) : ∀ (cs : List Int32) (j : Nat), j < cs.length → (wideBytes cs).getD (2 * j + 1) d = .int (hi8 (cs.getD j 0))
  | [], j, h => absurd h (Nat.not_lt_zero j)
  | c :: cs, 0, _ => rfl
  | c :: cs, j + 1, h => by
    have q := wide_hi d cs j (by simpa using h)
    rw [show 2 * (j + 1) + 1 = 2 * j + 1 + 1 + 1 from by omega]
    simpa [wideBytes] using q
theorem low_at (d : Value) (cs : List Int32) (j : Nat) (h : j < cs.length) : (cs.map fun c => Value.int (lo8 c)).getD j d = .int (lo8 (cs.getD j 0)) := by
  simp [List.getD_eq_getElem?_getD, h]
/-- an array of N2 bytes vs codes the chars cs by the coder cd -/
def CodA (cs : List Int32) (cd N2 : Int32) (vs : List Value) : Prop := (cd = 0 ∧ N2 = Int32.ofNat cs.length ∧ vs = (cs.map fun c => Value.int (lo8 c)) ∧ ∀ c ∈ cs, ¬ 255 < c) ∨ (cd = 1 ∧ N2 = Int32.ofNat (2 * cs.length) ∧ vs = wideBytes cs ∧ ∃ c ∈ cs, 255 < c)
theorem CodA.cod {cs : List Int32} {cd N2 : Int32} {vs : List Value} {V : Cell} (h : CodA cs cd N2 vs) (hn : 2 * cs.length < 2 ^ 31) (hs : V.slots.size = N2.toNatClampNeg) (hv : RoadKit.Has V vs (.int 0)) : Cod cd cs.length (fun j => cs.getD j 0) V := by
  rcases h with ⟨rfl, rfl, rfl, h⟩ | ⟨rfl, rfl, rfl, c, hc, hw⟩
  · rw [n32 (by omega)] at hs
    exact Or.inl ⟨rfl, hs, fun j hj => ⟨by rw [hv j (by omega), low_at _ _ _ hj], by
      have e : cs.getD j 0 = cs[j] := by simp [List.getD_eq_getElem?_getD, hj]
      show ¬ 255 < cs.getD j 0
      rw [e]; exact h _ (List.getElem_mem _)⟩⟩
  · rw [n32 (by omega)] at hs
    obtain ⟨j, hj, rfl⟩ := List.getElem_of_mem hc
    exact Or.inr ⟨rfl, hs, fun j hj => ⟨by rw [hv _ (by omega), wide_lo _ _ _ hj], by rw [hv _ (by omega), wide_hi _ _ _ hj]⟩, j, hj, by
      have e : cs.getD j 0 = cs[j] := by simp [List.getD_eq_getElem?_getD, hj]
      show 255 < cs.getD j 0
      rw [e]; exact hw⟩
/-- an object of exactly java/lang/String, its two fields found: as the laws ask it -/
theorem strObj {Z U : State} {a0 : Array Value} {kI : Nat} (wi : (Jvm.Cond.instantiable ST kI).before a0 Z = true) (al : Z.vm.Alike U.vm) {x : Addr} {v0 c0 : Value} (E : RoadKit.Exa Z U.heap x ST) (V : RoadKit.Fld Z U.heap x ST "value" "[B" v0) (C : RoadKit.Fld Z U.heap x ST "coder" "B" c0) :
    ∃ (D : Cell) (fV fC : Field), Blank ST x D U ∧ Found ST "value" "[B" fV U ∧ Found ST "coder" "B" fC U ∧ D.slots[fV.slot]? = some v0 ∧ D.slots[fC.slot]? = some c0 ∧ RoadKit.slotOf Z ST "value" "[B" = fV.slot ∧ RoadKit.slotOf Z ST "coder" "B" = fC.slot := by
  obtain ⟨D, cfV, kV, iV, fV, hD, gV, stV, knV, obV, asV, slV⟩ := V
  obtain ⟨D', cfC, kC, iC, fC, hD', gC, stC, -, -, asC, slC⟩ := C
  cases hD.symm.trans hD'
  obtain ⟨D2, kD, e1, e2, e3, e4, e5⟩ := E
  cases hD.symm.trans e1
  obtain ⟨c2, k2, i1, i2, i3, -⟩ := Cond.instantiable_spec wi
  cases e2.symm.trans i1
  cases e3.symm.trans i2
  obtain ⟨kU, u1, u2⟩ := al.2.2 _ _ e3
  exact ⟨D, fV, fC, ⟨hD, ⟨knV, fun q hq => by rw [hq] at obV; cases obV⟩, by rw [al.findClass]; exact e2, kU, u1, by rw [u2]; exact i3, by rw [u2]; exact e5 i3⟩, ⟨SBG.found_only al ⟨cfV, kV, iV, gV⟩, stV⟩, ⟨SBG.found_only al ⟨cfC, kC, iC, gC⟩, stC⟩, slV, slC, by simp [RoadKit.slotOf, gV], by simp [RoadKit.slotOf, gC]⟩
theorem sta_is {Z U : State} (al : Z.vm.Alike U.vm) {C n d : String} {v : Value} (S : RoadKit.Sta Z U.heap C n d v) : StaticIs U C n d v := by
  obtain ⟨cfS, iS, kS, fS, st, cS, t1, t2, t3, t4, t5, t6, t7⟩ := S
  exact StaticIs.there (s := { Z with heap := U.heap }) ⟨cfS, iS, kS, fS, st, cS, t1, t2, t3, t4, t5, (fun q => by rw [q] at t6; cases t6), t7⟩ al rfl
/-- **length() OF SUCH A STRING** -/
theorem lenW {p : Program} {l : Launch} {e : Env} {R : Room} {s : State} {args : Array Value} {below : List Frame} {len W : Nat} {Z : State} {a0 : Array Value} {h : Heap} (hZ : Z.Warmed39 s.vm) (hw : ∀ d ∈ wordsLen, d.before a0 Z = true) {kI : Nat} (wi : (Jvm.Cond.instantiable ST kI).before a0 Z = true)
    {x t : Addr} {kb : ClassId} {cs : List Int32} {cd N2 z : Int32} {vs : List Value} (E : RoadKit.Exa Z h x ST) (V : RoadKit.Fld Z h x ST "value" "[B" (.ref t)) (C : RoadKit.Fld Z h x ST "coder" "B" (.int cd)) (K : RoadKit.Arv Z h t kb .byte N2 vs (.int 0)) (hc : CodA cs cd N2 vs) (hb : ∀ c ∈ cs, ¬ c < 0 ∧ ¬ (65535 : Int32) < c)
    (S : RoadKit.Sta Z h ST "COMPACT_STRINGS" "Z" (.int z)) (hz : ¬ z = 0) (l2 : cs.length ≤ 4000) (hfr : 2 ≤ R.frames) (hlo : W + 25 ≤ R.locals) :
    Back l R p e below s args (⟨"java/lang/String", "length", "()I"⟩ : MethodName) len W (fun P a => a = #[.ref x] ∧ P.U.heap = h ∧ P.cells + 0 ≤ R.cells ∧ P.slots + 0 ≤ R.slots)
      (fun P _ v B => ∃ L, (v = some (.int (Int32.ofNat cs.length)) ∧ L = [] ∧ B.U.heap = h) ∧ B.locs = P.locs ++ L ∧ B.cells = P.cells + 0 ∧ B.slots = P.slots + 0) := by
  obtain ⟨A, K1, K2, K3, K4, K5, K6⟩ := K
  have hcod := hc.cod (by omega) K3 K5
  intro m meth c P g ig mk a X hg hsize hdg hW hn hp'
  obtain ⟨rfl, rfl, r1, r2⟩ := hp'
  have al : Z.vm.Alike P.U.vm := hZ.alike.trans X.warmed.alike
  obtain ⟨D, fV, fC, hB, F1, F2, g1, g2, -, -⟩ := strObj wi al E V C
  have hx : Txt x t A cd cs.length (fun j => cs.getD j 0) P.U := ⟨⟨_, hB.2.2.1, D, hB.1, rfl, by cases q : D.vm <;> first | rfl | exact absurd q (hB.2.1.2 _)⟩, Has.of hB F1 g1, Has.of hB F2 g2, ⟨K1.1, State.isArrayOf_alike al K1.2.1, K1.2.2, by rcases hcod with ⟨-, q, -⟩ | ⟨-, q, -⟩ <;> omega⟩, hcod, fun j hj => by
    have e : cs.getD j 0 = cs[j] := by simp [List.getD_eq_getElem?_getD, hj]
    show ¬ cs.getD j 0 < 0 ∧ ¬ 65535 < cs.getD j 0
    rw [e]; exact hb _ (List.getElem_mem _)⟩
  obtain ⟨v, B, X', ⟨⟨hv, hh⟩, hl, hk, hs⟩, st⟩ := Len.pays x t A cd cs.length (fun j => cs.getD j 0) z (tabLen_of (movedLen hZ hw)) hfr hlo m meth c P g ig mk _ X hg hsize hdg hW hn ⟨r1, r2, rfl, hx, sta_is al S, hz⟩
  exact ⟨v, B, X', ⟨[], ⟨hv, rfl, hh⟩, hl, hk, hs⟩, st⟩
end StrChars.Road
namespace StrChars.Road
open Jvm Sem ClassFile Op Lib Jvm.Stand Jvm.Free Jvm.Free.XT
open Jvm.Lib.Cold (StaticIs)
/-- the road's facts of a String, as the laws ask it -/
theorem txt_of {Z U : State} {a0 : Array Value} {kI : Nat} (wi : (Jvm.Cond.instantiable ST kI).before a0 Z = true) (al : Z.vm.Alike U.vm) {x t : Addr} {kb : ClassId} {cs : List Int32} {cd N2 : Int32} {vs : List Value} (E : RoadKit.Exa Z U.heap x ST) (V : RoadKit.Fld Z U.heap x ST "value" "[B" (.ref t)) (C : RoadKit.Fld Z U.heap x ST "coder" "B" (.int cd)) (K : RoadKit.Arv Z U.heap t kb .byte N2 vs (.int 0)) (hc : CodA cs cd N2 vs) (hb : ∀ c ∈ cs, ¬ c < 0 ∧ ¬ (65535 : Int32) < c) (l2 : cs.length ≤ 4000) :
    ∃ A, Txt x t A cd cs.length (fun j => cs.getD j 0) U := by
  obtain ⟨A, K1, K2, K3, K4, K5, K6⟩ := K
  have hcod := hc.cod (by omega) K3 K5
  obtain ⟨D, fV, fC, hB, F1, F2, g1, g2, -, -⟩ := strObj wi al E V C
  exact ⟨A, ⟨_, hB.2.2.1, D, hB.1, rfl, by cases q : D.vm <;> first | rfl | exact absurd q (hB.2.1.2 _)⟩, Has.of hB F1 g1, Has.of hB F2 g2, ⟨K1.1, State.isArrayOf_alike al K1.2.1, K1.2.2, by rcases hcod with ⟨-, q, -⟩ | ⟨-, q, -⟩ <;> omega⟩, hcod, fun j hj => by
    have e : cs.getD j 0 = cs[j] := by simp [List.getD_eq_getElem?_getD, hj]
    show ¬ cs.getD j 0 < 0 ∧ ¬ 65535 < cs.getD j 0
    rw [e]; exact hb _ (List.getElem_mem _)⟩
end StrChars.Road
namespace StrChars
open Jvm Sem ClassFile Op Lib Jvm.Stand Jvm.Free.XT Jvm.Free.ALB Jvm.Free.JM Jvm.Free
open Jvm.Lib.Cold (StaticIs)
namespace ChN
def yN : MethodName := ⟨"java/lang/String", "charAt", "(I)C"⟩
abbrev yB : ByteArray := jdk_42_method_56_code
theorem d0 : decode yB 0 = .ok (.aload_n 0, 1) := by decide +kernel
theorem d1 : decode yB 1 = .ok (.invokevirtual 492, 3) := by decide +kernel
theorem d4 : decode yB 4 = .ok (.ifCond (.eq) 12, 3) := by decide +kernel
theorem d7 : decode yB 7 = .ok (.aload_n 0, 1) := by decide +kernel
theorem d8 : decode yB 8 = .ok (.getfield 9, 3) := by decide +kernel
theorem d11 : decode yB 11 = .ok (.iload_n 1, 1) := by decide +kernel
theorem d12 : decode yB 12 = .ok (.invokestatic 495, 3) := by decide +kernel
theorem d15 : decode yB 15 = .ok (.ireturn, 1) := by decide +kernel
def site : List Cond := [.fieldLink "java/lang/String" 9 "java/lang/String" "value" "[B", IsL.tab, LChA.tab] ++ virtW "java/lang/String" 492 "java/lang/String" IsL.yN IsL.yN ++ staticW "java/lang/String" 495 LChA.yN
def tab : Cond := tabOf yN yB 2 (some .char) site
def P (x t : Addr) (V : Cell) (n : Nat) (f : Nat → Int32) (z : Int32) (fm : Value) (i : Nat) (args : Array Value) (s : State) : Prop := args = #[.ref x, .int (Int32.ofNat i)] ∧ Txt x t V 0 n f s ∧ i < n ∧ StaticIs s "java/lang/String" "COMPACT_STRINGS" "Z" (.int z) ∧ ¬ z = 0 ∧ StaticIs s "jdk/internal/util/Preconditions" "SIOOBE_FORMATTER" "Ljava/util/function/BiFunction;" fm ∧ fm.isRef = true
def E (f : Nat → Int32) (i : Nat) (r : Option Value) (s u : State) : Prop := XT.PureE (some (.int (f i))) r s u
/-- charAt(i) of a Latin-1 String of n chars, i < n: f i -/
theorem law (l : Launch) (x t : Addr) (V : Cell) (n : Nat) (f : Nat → Int32) (z : Int32) (fm : Value) (i : Nat) : Law l yN 2 1 3 40 yB 2 (some .char) site (P x t V n f z fm i) (E f i) [] 0 0 := by
  refine Law.of_walk (plainFor_of_name (by decide +kernel)) (by decide +kernel) (by decide +kernel) (by decide) (fun _ _ h => by rw [h.1]; rfl) (fun _ U U' hal hh h => ⟨h.1, h.2.1.mv hal hh, h.2.2.1, h.2.2.2.1.there hal hh, h.2.2.2.2.1, h.2.2.2.2.2.1.there hal hh, h.2.2.2.2.2.2⟩) (fun r U U' V V' h1 hal h2 h => XT.PureE.mv r U U' V V' h1 hal h2 h) ?_
  intro p e s m args below meth c s₁ X0 hexec hbytes hml hret hlk hnm hown hh0 W hP
  obtain ⟨rfl, hx, hi, s1, hz, s3, rf⟩ := hP
  have v31 := hx.2.2.2.1.2.2.2
  have hr := hx.2.2.2.2.2 i hi
  have hx0 := hx.mv X0.warmed.alike hh0
  have c1 : Steps p.tables e below (s₁.setTop (entryFrame m #[.ref x, .int (Int32.ofNat i)] 2)) (s₁.setTop (mkF m 1 #[.val (.ref x), .val (.int (Int32.ofNat i))] [.ref x])) := Steps.trans (entry rfl) (by
    show Steps p.tables e below (s₁.setTop (mkF m 0 #[.val (.ref x), .val (.int (Int32.ofNat i))] [])) _
    refine XS.aloadN X0.here hexec rfl (hb hbytes d0) rfl rfl ?_
    exact Steps.refl _)
  obtain ⟨v2, T2, X2, E2, g2⟩ := X0.callV hexec (IsL.law l x 0 z) hown (wks W (virtW "java/lang/String" 492 "java/lang/String" IsL.yN IsL.yN)) rfl (by decide) (wk W IsL.tab) (W := 0) (Nat.le_of_ble_eq_true rfl) (Nat.le_of_ble_eq_true rfl) (Nat.le_refl _) (Nat.le_refl _) (hx0.1.fc X0.warmed.alike) hx0.1.is (g := (mkF m 1 #[.val (.ref x), .val (.int (Int32.ofNat i))] [.ref x])) rfl (by rw [hml]; rfl) c1 (argsL := []) (rest := []) rfl rfl (by show 2 * 0 + 0 ≤ _; decide) (hb hbytes d1) (⟨rfl, hx0.2.2.1, hx.2.2.2.2.1.cd, s1.there X0.warmed.alike hh0, hz⟩)
  obtain ⟨rfl, q2⟩ := E2
  have hh2 := q2.trans hh0
  have hx2 := hx.mv X2.warmed.alike hh2
  obtain ⟨-, k1, k2⟩ | ⟨k0, -⟩ := hx.2.2.2.2.1
  · have c3 : Steps p.tables e below (s₁.setTop (entryFrame m #[.ref x, .int (Int32.ofNat i)] 2)) (T2.setTop (mkF m 8 #[.val (.ref x), .val (.int (Int32.ofNat i))] [.ref x])) := Steps.trans g2 (by
      refine XS.ifNo X2.here hexec rfl (hb hbytes d4) rfl (i0_eq_f (by decide)) ?_
      refine XS.aloadN X2.here hexec rfl (hb hbytes d7) rfl rfl ?_
      exact Steps.refl _)
    obtain ⟨T4, X4, q4, st4⟩ := X2.hget hexec hown (wk W (.fieldLink "java/lang/String" 9 "java/lang/String" "value" "[B")) hx2.2.1 (g := (mkF m 8 #[.val (.ref x), .val (.int (Int32.ofNat i))] [.ref x])) rfl (rest := []) rfl (hb hbytes d8)
    have hh4 := q4.trans hh2
    have c5 : Steps p.tables e below (s₁.setTop (entryFrame m #[.ref x, .int (Int32.ofNat i)] 2)) (T4.setTop (mkF m 12 #[.val (.ref x), .val (.int (Int32.ofNat i))] [.int (Int32.ofNat i), .ref t])) := (c3.trans (st4 _ (Steps.refl _))).trans (by
      refine XS.iloadN X4.here hexec rfl (hb hbytes d11) rfl ?_
      exact Steps.refl _)
    obtain ⟨v6, T6, X6, E6, g6⟩ := X4.callS hexec (LChA.law l t V i (lo8 (f i)) fm) hown (wks W (staticW "java/lang/String" 495 LChA.yN)) (wk W LChA.tab) (W := 0) (Nat.le_of_ble_eq_true rfl) (Nat.le_of_ble_eq_true rfl) (Nat.le_refl _) (Nat.le_refl _) (g := (mkF m 12 #[.val (.ref x), .val (.int (Int32.ofNat i))] [.int (Int32.ofNat i), .ref t])) rfl (by rw [hml]; rfl) c5 (argsL := [.ref t, .int (Int32.ofNat i)]) (rest := []) rfl rfl (by show 2 * 0 + 0 ≤ _; decide) (hb hbytes d12) (⟨rfl, hx.2.2.2.1.mv X4.warmed.alike hh4, (k2 i hi).1, s3.there X4.warmed.alike hh4, rf⟩)
    obtain ⟨rfl, q6⟩ := E6
    rw [chr8_lo8 hr.1 (k2 i hi).2] at g6
    exact ⟨T6, some (.int (f i)), _, _, _, X6, rfl, rfl, rfl, (fun h => by cases h), ⟨rfl, q6.trans hh4⟩, fun fs hl => Steps.trans g6 (X6.ireturnOut hexec hret (narrow_ch hr.1 hr.2) (Or.inr (Or.inr (Or.inr (Or.inl rfl)))) (hb hbytes d15) hl)⟩
  · exact absurd k0 (by decide)
theorem pays {l : Launch} {R : Room} {p : Program} {e : Env} {below : List Frame} {s : State} {sargs : Array Value} {len W : Nat} (x t : Addr) (V : Cell) (n : Nat) (f : Nat → Int32) (z : Int32) (fm : Value) (i : Nat) (htab : tab.before sargs s = true) (hfr : 4 ≤ R.frames) (hlo : W + 53 ≤ R.locals) :
    Back l R p e below s sargs yN len W (fun A₁ a₁ => A₁.cells + 0 ≤ R.cells ∧ A₁.slots + 0 ≤ R.slots ∧ P x t V n f z fm i a₁ A₁.U) (fun A₁ _ v₁ B₁ => E f i v₁ A₁.U B₁.U ∧ B₁.locs = A₁.locs ++ [] ∧ B₁.cells = A₁.cells + 0 ∧ B₁.slots = A₁.slots + 0) :=
  (law l x t V n f z fm i).pays htab hfr (by omega)
end ChN
end StrChars
namespace StrChars.Road
open Jvm Sem ClassFile Op Lib Jvm.Stand Jvm.Free Jvm.Free.XT
open Jvm.Lib.Cold (StaticIs)
/-- the words of String.charAt(int), the Latin-1 road alone -/
abbrev wordsChN : List Jvm.Cond := [.code ChN.yN ChN.yB 2 (some .char), .initialized ST, .fieldLink ST 9 ST "value" "[B", .fieldLink ST 38 ST "COMPACT_STRINGS" "Z", .fieldLink ST 15 ST "coder" "B", .code IsL.yN IsL.yB 1 (some .boolean), .methodLink ST 492 IsL.yN, .declares IsL.yN, .selects ST IsL.yN IsL.yN, .instanceMethod IsL.yN,
  .methodLink ST 495 LChA.yN, .static LChA.yN, .code LChA.yN LChA.yB 2 (some .char), .initialized "java/lang/StringLatin1", .methodLink "java/lang/StringLatin1" 9 JO.Str_checkIndex.yN, .static JO.Str_checkIndex.yN, .code JO.Str_checkIndex.yN JO.Str_checkIndex.yB 2 none,
  .fieldLink ST 1053 "jdk/internal/util/Preconditions" "SIOOBE_FORMATTER" "Ljava/util/function/BiFunction;", .methodLink ST 1059 JC.PreCheck.yN, .static JC.PreCheck.yN, .code JC.PreCheck.yN JC.PreCheck.yB 3 (some .int), .initialized "jdk/internal/util/Preconditions"]
theorem tabChN_of {a : Array Value} {s : State} (h : ∀ w ∈ wordsChN, w.before a s = true) : ChN.tab.before a s = true := by
  have hp : JC.PreCheck.tab.before a s = true := unparts (wk h (.code JC.PreCheck.yN JC.PreCheck.yB 3 (some .int))) (wks h (.initialized JC.PreCheck.yN.cls :: JC.PreCheck.site))
  have qk := consq hp h
  have hk : JO.Str_checkIndex.tab.before a s = true := unparts (wk qk (.code JO.Str_checkIndex.yN JO.Str_checkIndex.yB 2 none)) (wks qk (.initialized JO.Str_checkIndex.yN.cls :: JO.Str_checkIndex.site))
  have ql := consq hk h
  have hl : LChA.tab.before a s = true := unparts (wk ql (.code LChA.yN LChA.yB 2 (some .char))) (wks ql (.initialized LChA.yN.cls :: LChA.site))
  have hi : IsL.tab.before a s = true := unparts (wk h (.code IsL.yN IsL.yB 1 (some .boolean))) (wks h (.initialized IsL.yN.cls :: IsL.site))
  have q := consq hi (consq hl h)
  exact unparts (wk q (.code ChN.yN ChN.yB 2 (some .char))) (wks q (.initialized ChN.yN.cls :: ChN.site))
theorem movedChN {Z s : State} {a0 args : Array Value} (hZ : Z.Warmed39 s.vm) (hw : ∀ d ∈ wordsChN, d.before a0 Z = true) : ∀ d ∈ wordsChN, d.before args s = true := fun d hd => by
  have t : ∀ d ∈ wordsChN, (d.onTables && d.keepsFace) = true := by decide +kernel
  exact RoadKit.mv hZ (hw d hd) (t d hd)
/-- **charAt(i) OF A LATIN-1 STRING**, i < n: the char -/
theorem chN {p : Program} {l : Launch} {e : Env} {R : Room} {s : State} {args : Array Value} {below : List Frame} {len W : Nat} {Z : State} {a0 : Array Value} {h : Heap} (hZ : Z.Warmed39 s.vm) (hw : ∀ d ∈ wordsChN, d.before a0 Z = true) {kI : Nat} (wi : (Jvm.Cond.instantiable ST kI).before a0 Z = true)
    {x t : Addr} {kb : ClassId} {cs : List Int32} {N2 z : Int32} {vs : List Value} {fm : Value} {i : Nat} {j : Int32} (E : RoadKit.Exa Z h x ST) (V : RoadKit.Fld Z h x ST "value" "[B" (.ref t)) (C : RoadKit.Fld Z h x ST "coder" "B" (.int 0)) (K : RoadKit.Arv Z h t kb .byte N2 vs (.int 0)) (hc : CodA cs 0 N2 vs) (hb : ∀ c ∈ cs, ¬ c < 0 ∧ ¬ (65535 : Int32) < c)
    (S : RoadKit.Sta Z h ST "COMPACT_STRINGS" "Z" (.int z)) (hz : ¬ z = 0) (F : RoadKit.Sta Z h "jdk/internal/util/Preconditions" "SIOOBE_FORMATTER" "Ljava/util/function/BiFunction;" fm) (rf : fm.isRef = true) (l2 : cs.length ≤ 4000) (hi : i < cs.length) (hj : j = Int32.ofNat i) (hfr : 4 ≤ R.frames) (hlo : W + 53 ≤ R.locals) :
    Back l R p e below s args (⟨"java/lang/String", "charAt", "(I)C"⟩ : MethodName) len W (fun P a => a = #[.ref x, .int j] ∧ P.U.heap = h ∧ P.cells + 0 ≤ R.cells ∧ P.slots + 0 ≤ R.slots)
      (fun P _ v B => ∃ L, (v = some (.int (cs.getD i 0)) ∧ L = [] ∧ B.U.heap = h) ∧ B.locs = P.locs ++ L ∧ B.cells = P.cells + 0 ∧ B.slots = P.slots + 0) := by
  subst hj
  intro m meth c P g ig mk a X hg hsize hdg hW hn hp'
  obtain ⟨rfl, rfl, r1, r2⟩ := hp'
  have al : Z.vm.Alike P.U.vm := hZ.alike.trans X.warmed.alike
  obtain ⟨A, hx⟩ := txt_of wi al E V C K hc hb l2
  obtain ⟨v, B, X', ⟨⟨hv, hh⟩, hl, hk, hs⟩, st⟩ := ChN.pays x t A cs.length (fun j => cs.getD j 0) z fm i (tabChN_of (movedChN hZ hw)) hfr hlo m meth c P g ig mk _ X hg hsize hdg hW hn ⟨r1, r2, rfl, hx, hi, sta_is al S, hz, sta_is al F, rf⟩
  exact ⟨v, B, X', ⟨[], ⟨hv, rfl, hh⟩, hl, hk, hs⟩, st⟩
end StrChars.Road
end Jvm.Pilot.@@N@@
namespace Jvm.Pilot.@@N@@
open Jvm Jvm.ClassFile Sem Op Lib Jvm.Free Jvm.Stand Jvm.LawKit Jvm.RoadKit Bundle Jvm.Own Jvm.Pilot.@@N@@.Jvm.D
/-- at x a String whose chars are cs, its bytes at t -/
def Str (Z : State) (h : Heap) (x t : Addr) (cs : List Int32) : Prop := Exa Z h x "java/lang/String" ∧ Fld Z h x "java/lang/String" "value" "[B" (.ref t) ∧
  ∃ (cd N2 : Int32) (vs : List Value) (kb : ClassId), Fld Z h x "java/lang/String" "coder" "B" (.int cd) ∧ Arv Z h t kb .byte N2 vs (.int 0) ∧ StrChars.Road.CodA cs cd N2 vs ∧ (∀ c ∈ cs, ¬ c < 0 ∧ ¬ (65535 : Int32) < c) ∧ cs.length ≤ 4000
section StrFacts
variable {Z : State} {h h' : Heap} {x t a : Addr} {cs : List Int32} {sl : Nat} {v : Value} {ws : List Addr}
theorem Str.exa (S : Str Z h x t cs) : Exa Z h x "java/lang/String" := S.1
theorem Str.lt (S : Str Z h x t cs) : @LT.lt Nat _ x h.size := S.1.lt
theorem Str.lt' (S : Str Z h x t cs) : @LT.lt Nat _ t h.size := by obtain ⟨-, -, _, _, _, _, -, A, -⟩ := S; exact A.lt
theorem Str.ext (S : Str Z h x t cs) (E : Ext h h') : Str Z h' x t cs := by
  obtain ⟨s1, s2, cd, N2, vs, kb, s3, s4, r⟩ := S; exact ⟨s1.ext E, s2.ext E, cd, N2, vs, kb, s3.ext E, s4.ext E, r⟩
theorem Str.keep (S : Str Z h x t cs) (K : Keep h h' ws) (q : x ∉ ws ∧ t ∉ ws) : Str Z h' x t cs := by
  obtain ⟨s1, s2, cd, N2, vs, kb, s3, s4, r⟩ := S; exact ⟨s1.keep K, s2.keep K q.1, cd, N2, vs, kb, s3.keep K q.1, s4.keep K q.2, r⟩
theorem Str.wr (S : Str Z h x t cs) (W : Wr h h' a sl v) (q : x ≠ a ∧ t ≠ a) : Str Z h' x t cs := S.keep (Keep.of_wr W) ⟨ninS q.1 nin0, ninS q.2 nin0⟩
end StrFacts
theorem mask255 (x : Int32) : ∃ k : Fin 256, x &&& (255 : Int32) = Int32.ofNat k.val := by
  have h : (x &&& 255).toBitVec.toNat < 256 := by
    simp only [Int32.toBitVec_and, BitVec.toNat_and]
    exact Nat.lt_succ_of_le Nat.and_le_right
  refine ⟨⟨_, h⟩, ?_⟩
  apply Int32.toBitVec_inj.mp
  show _ = BitVec.ofNat 32 _
  rw [BitVec.ofNat_toNat]; simp
theorem c8 (x : Int32) : nar .char ((x &&& (255 : Int32)).toUInt32.toUInt16.toUInt32.toInt32) = x &&& (255 : Int32) := by
  have t : ∀ k : Fin 256, nar .char ((Int32.ofNat k.val).toUInt32.toUInt16.toUInt32.toInt32) = Int32.ofNat k.val := by decide +kernel
  obtain ⟨k, e⟩ := mask255 x
  rw [e]; exact t k
theorem lo255 (x : Int32) : ¬ (x &&& (255 : Int32)) < 0 ∧ ¬ (255 : Int32) < (x &&& (255 : Int32)) := by
  have t : ∀ k : Fin 256, ¬ (Int32.ofNat k.val) < 0 ∧ ¬ (255 : Int32) < (Int32.ofNat k.val) := by decide +kernel
  obtain ⟨k, e⟩ := mask255 x
  rw [e]; exact t k
theorem own_new {p : Program} {l : Launch} {e : Env} {R : Room} {s : State} {args : Array Value} {below : List Frame} {W : Nat} {Z : State} {a0 : Array Value} {h : Heap} {kI : Nat} {x b : Addr} {kC : ClassId} {d v0 c0 : Value} {z N : Int32} {n0 : Nat} (cs : List Int32) (n : Nat) (hZ : Z.Warmed39 s.vm) (hw : ∀ d ∈ StrChars.Road.words, d.before a0 Z = true) (wi : (Jvm.Cond.instantiable "java/lang/String" kI).before a0 Z = true)
    (hx0 : n0 ≤ x) (hh0 : n0 ≤ h.size) (E : Exa Z h x "java/lang/String") (V : Fld Z h x "java/lang/String" "value" "[B" v0) (C : Fld Z h x "java/lang/String" "coder" "B" c0) (K : Arv Z h b kC .char N (cs.map Value.int) d) (S : Sta Z h "java/lang/String" "COMPACT_STRINGS" "Z" (.int z)) (hz : ¬ z = 0)
    (hn : cs.length = n) (hN : N = Int32.ofNat n) (l0 : 0 < n) (l2 : n ≤ 4000) (hp : ∀ c ∈ cs, ¬ c < 0 ∧ ¬ (255 : Int32) < c) (hfr : 4 ≤ R.frames) (hlo : W + 65 ≤ R.locals) :
    Back l R p e below s args (⟨"java/lang/String", "<init>", "([C)V"⟩ : MethodName) 3 W (fun P a => a = #[.ref x, .ref b] ∧ P.U.heap = h ∧ P.cells + 1 ≤ R.cells ∧ P.slots + n ≤ R.slots)
      (fun P _ v B => ∃ L, (v = none ∧ Fr n0 L ∧ Keep h B.U.heap [x] ∧ ∃ t : Addr, @Eq Nat t h.size ∧ Str Z B.U.heap x t cs) ∧ B.locs = P.locs ++ L ∧ B.cells = P.cells + 1 ∧ B.slots = P.slots + n) := by
  subst hn hN
  refine Back.mono (StrChars.Road.backArv hZ hw wi E V C K S hz (Int32.toNatClampNeg_ofNat_of_lt (by omega)) l0 (by omega) (fun c hc => (hp c hc).2) hfr hlo) (fun P a hp => hp) (fun P a v B hp' hq => ?_)
  obtain ⟨L, ⟨q1, q2, q3, q4, q5, q6, q7, ⟨kb, v1, v2⟩, q9⟩, hl, hc, hs⟩ := hq
  exact ⟨L, ⟨q1, fun y hy => by rw [q2 y hy]; exact hx0, q3, h.size, rfl, q5, q6, 0, _, _, kb, q7, v2, Or.inl ⟨rfl, rfl, rfl, fun c hc => (hp c hc).2⟩, fun c hc => ⟨(hp c hc).1, fun w => (hp c hc).2 (Int32.lt_trans (by decide) w)⟩, l2⟩, hl, hc, hs⟩
theorem own_len {p : Program} {l : Launch} {e : Env} {R : Room} {s : State} {args : Array Value} {below : List Frame} {W : Nat} {Z : State} {a0 : Array Value} {h : Heap} {kI : Nat} {x t : Addr} {cs : List Int32} {z : Int32} (hZ : Z.Warmed39 s.vm) (hw : ∀ d ∈ StrChars.Road.wordsLen, d.before a0 Z = true) (wi : (Jvm.Cond.instantiable "java/lang/String" kI).before a0 Z = true)
    (S : Str Z h x t cs) (SC : Sta Z h "java/lang/String" "COMPACT_STRINGS" "Z" (.int z)) (hz : ¬ z = 0) (hfr : 2 ≤ R.frames) (hlo : W + 25 ≤ R.locals) :
    Back l R p e below s args (⟨"java/lang/String", "length", "()I"⟩ : MethodName) 3 W (fun A a => a = #[.ref x] ∧ A.U.heap = h ∧ A.cells + 0 ≤ R.cells ∧ A.slots + 0 ≤ R.slots)
      (fun A _ v B => ∃ L, (v = some (.int (Int32.ofNat cs.length)) ∧ L = [] ∧ h = B.U.heap) ∧ B.locs = A.locs ++ L ∧ B.cells = A.cells + 0 ∧ B.slots = A.slots + 0) := by
  obtain ⟨s1, s2, cd, N2, vs, kb, s3, s4, s5, s6, s7⟩ := S
  refine Back.mono (StrChars.Road.lenW hZ hw wi s1 s2 s3 s4 s5 s6 SC hz s7 hfr hlo) (fun P a hp => hp) (fun P a v B hp hq => ?_)
  obtain ⟨L, ⟨q1, q2, q3⟩, r⟩ := hq
  exact ⟨L, ⟨q1, q2, q3.symm⟩, r⟩
theorem own_chr {p : Program} {l : Launch} {e : Env} {R : Room} {s : State} {args : Array Value} {below : List Frame} {W : Nat} {Z : State} {a0 : Array Value} {h : Heap} {kI : Nat} {x t : Addr} {cs : List Int32} {z j : Int32} {fm : Value} (i : Nat) (hZ : Z.Warmed39 s.vm) (hw : ∀ d ∈ StrChars.Road.wordsChN, d.before a0 Z = true) (wi : (Jvm.Cond.instantiable "java/lang/String" kI).before a0 Z = true)
    (S : Str Z h x t cs) (hlat : ∀ c ∈ cs, ¬ (255 : Int32) < c) (SC : Sta Z h "java/lang/String" "COMPACT_STRINGS" "Z" (.int z)) (hz : ¬ z = 0) (F : Sta Z h "jdk/internal/util/Preconditions" "SIOOBE_FORMATTER" "Ljava/util/function/BiFunction;" fm) (rf : fm.isRef = true) (hi : i < cs.length) (hj : j = Int32.ofNat i) (hfr : 4 ≤ R.frames) (hlo : W + 53 ≤ R.locals) :
    Back l R p e below s args (⟨"java/lang/String", "charAt", "(I)C"⟩ : MethodName) 3 W (fun A a => a = #[.ref x, .int j] ∧ A.U.heap = h ∧ A.cells + 0 ≤ R.cells ∧ A.slots + 0 ≤ R.slots)
      (fun A _ v B => ∃ L, (v = some (.int (cs.getD i 0)) ∧ L = [] ∧ h = B.U.heap) ∧ B.locs = A.locs ++ L ∧ B.cells = A.cells + 0 ∧ B.slots = A.slots + 0) := by
  obtain ⟨s1, s2, cd, N2, vs, kb, s3, s4, s5, s6, s7⟩ := S
  have hcd : cd = 0 := by
    rcases s5 with q | ⟨-, -, -, c, hc, q⟩
    · exact q.1
    · exact absurd q (hlat c hc)
  subst hcd
  refine Back.mono (StrChars.Road.chN hZ hw wi s1 s2 s3 s4 s5 s6 SC hz F rf s7 hi hj hfr hlo) (fun P a hp => hp) (fun P a v B hp hq => ?_)
  obtain ⟨L, ⟨q1, q2, q3⟩, r⟩ := hq
  exact ⟨L, ⟨q1, q2, q3.symm⟩, r⟩
theorem own_wnew : ∀ d ∈ StrChars.Road.words, d ∈ tables_1 := by decide +kernel
theorem own_wlen : ∀ d ∈ StrChars.Road.wordsLen, d ∈ tables_1 := by decide +kernel
theorem own_wchr : ∀ d ∈ StrChars.Road.wordsChN, d ∈ tables_1 := by decide +kernel
theorem bm64 {x : Int} (h1 : -9223372036854775808 ≤ x) (h2 : x < 9223372036854775808) : x.bmod (2 ^ 64) = x := by
  rw [Int.bmod_def]; split <;> omega
theorem bm32 {x : Int} (h1 : -2147483648 ≤ x) (h2 : x < 2147483648) : x.bmod (2 ^ 32) = x := by
  rw [Int.bmod_def]; split <;> omega
def nrm (x : Int64) : Int64 := (x &&& (9223372036854775807 : Int64)) - (x &&& (9223372036854775807 : Int64)) / (10000000000 : Int64) * (10000000000 : Int64)
theorem rem_toInt {r d : Int64} (h : 0 ≤ r.toInt) (hd : 0 < d.toInt) : (r - r / d * d).toInt = r.toInt % d.toInt := by
  have hne : d ≠ -1 := fun e => by rw [e] at hd; exact absurd hd (by decide)
  have h1 : (r / d).toInt = r.toInt / d.toInt := by rw [Int64.toInt_div_of_ne_right _ _ hne]; exact Int.tdiv_eq_ediv_of_nonneg h
  have b := Int64.toInt_lt r
  have e := Int.mul_ediv_add_emod r.toInt d.toInt
  have m0 := Int.emod_nonneg r.toInt (Int.ne_of_gt hd)
  have m1 := Int.emod_lt_of_pos r.toInt hd
  have q0 : 0 ≤ r.toInt / d.toInt := Int.ediv_nonneg h (Int.le_of_lt hd)
  have p0 : 0 ≤ d.toInt * (r.toInt / d.toInt) := Int.mul_nonneg (Int.le_of_lt hd) q0
  rw [Int64.toInt_sub, Int64.toInt_mul, h1, Int.mul_comm (r.toInt / d.toInt)]
  have e2 : (d.toInt * (r.toInt / d.toInt)).bmod (2 ^ 64) = d.toInt * (r.toInt / d.toInt) := bm64 (by omega) (by omega)
  rw [e2, bm64 (by omega) (by omega)]
  omega
theorem and_max (x : Int64) : 0 ≤ (x &&& (9223372036854775807 : Int64)).toInt := by
  have h : (x &&& (9223372036854775807 : Int64)).toBitVec.toNat < 2 ^ 63 := by
    rw [Int64.toBitVec_and, BitVec.toNat_and]
    exact Nat.lt_of_le_of_lt Nat.and_le_right (by decide)
  show 0 ≤ (x &&& (9223372036854775807 : Int64)).toBitVec.toInt
  rw [BitVec.toInt_eq_toNat_of_lt (by omega)]
  exact Int.natCast_nonneg _
theorem nrm_rng (x : Int64) : 0 ≤ (nrm x).toInt ∧ (nrm x).toInt < 10000000000 := by
  have h := rem_toInt (and_max x) (d := (10000000000 : Int64)) (by decide)
  have e : (10000000000 : Int64).toInt = 10000000000 := by decide
  rw [e] at h
  show 0 ≤ ((x &&& (9223372036854775807 : Int64)) - (x &&& (9223372036854775807 : Int64)) / (10000000000 : Int64) * (10000000000 : Int64)).toInt ∧ _
  unfold nrm
  rw [h]; omega
theorem div10 {r r' : Int64} (h : 0 ≤ r.toInt) (e : r / (10 : Int64) = r') : 0 ≤ r'.toInt ∧ r'.toInt = r.toInt / 10 := by
  subst e
  have h2 : (r / (10 : Int64)).toInt = r.toInt.tdiv 10 := by
    rw [Int64.toInt_div_of_ne_right]; rfl; decide
  have h3 : r.toInt.tdiv 10 = r.toInt / 10 := Int.tdiv_eq_ediv_of_nonneg h
  rw [h2, h3]
  omega
def dg (r : Int64) : Int32 := (48 : Int32) + (r - r / (10 : Int64) * (10 : Int64)).toInt32
theorem dg_toInt {r : Int64} (h : 0 ≤ r.toInt) : (dg r).toInt = 48 + r.toInt % 10 := by
  have h1 := rem_toInt h (d := (10 : Int64)) (by decide)
  have e : (10 : Int64).toInt = 10 := by decide
  have e48 : (48 : Int32).toInt = 48 := by decide
  rw [e] at h1
  unfold dg
  rw [Int32.toInt_add, Int64.toInt_toInt32, h1, e48]
  rw [bm32 (x := r.toInt % 10) (by omega) (by omega), bm32 (by omega) (by omega)]
theorem dg_ofNat {r : Int64} (h : 0 ≤ r.toInt) : ∃ k : Fin 10, dg r = Int32.ofNat (48 + k.val) := by
  have h1 := dg_toInt h
  refine ⟨⟨(r.toInt % 10).toNat, by omega⟩, Int32.toInt_inj.mp ?_⟩
  rw [h1]
  have t : ∀ k : Fin 10, (Int32.ofNat (48 + k.val)).toInt = 48 + k.val := by decide
  rw [t ⟨(r.toInt % 10).toNat, by omega⟩]
  show _ = (48 : Int) + ((r.toInt % 10).toNat : Int)
  omega
theorem dg_rng {r : Int64} (h : 0 ≤ r.toInt) : (¬ dg r < 48 ∧ ¬ 57 < dg r) ∧ ¬ dg r < 0 ∧ ¬ (255 : Int32) < dg r := by
  obtain ⟨k, e⟩ := dg_ofNat h
  rw [e]
  exact (by decide : ∀ k : Fin 10, (¬ Int32.ofNat (48 + k.val) < 48 ∧ ¬ 57 < Int32.ofNat (48 + k.val)) ∧ ¬ Int32.ofNat (48 + k.val) < 0 ∧ ¬ (255 : Int32) < Int32.ofNat (48 + k.val)) k
def digs (k : Int64) : List Int32 :=
  [dg (k / (10 : Int64) / (10 : Int64) / (10 : Int64) / (10 : Int64) / (10 : Int64) / (10 : Int64) / (10 : Int64) / (10 : Int64) / (10 : Int64)),
   dg (k / (10 : Int64) / (10 : Int64) / (10 : Int64) / (10 : Int64) / (10 : Int64) / (10 : Int64) / (10 : Int64) / (10 : Int64)),
   dg (k / (10 : Int64) / (10 : Int64) / (10 : Int64) / (10 : Int64) / (10 : Int64) / (10 : Int64) / (10 : Int64)),
   dg (k / (10 : Int64) / (10 : Int64) / (10 : Int64) / (10 : Int64) / (10 : Int64) / (10 : Int64)),
   dg (k / (10 : Int64) / (10 : Int64) / (10 : Int64) / (10 : Int64) / (10 : Int64)),
   dg (k / (10 : Int64) / (10 : Int64) / (10 : Int64) / (10 : Int64)),
   dg (k / (10 : Int64) / (10 : Int64) / (10 : Int64)),
   dg (k / (10 : Int64) / (10 : Int64)),
   dg (k / (10 : Int64)),
   dg k]
/-- one turn of key's loop -/
def hstep (k : Int64) (c : Int32) : Int64 := k * (10 : Int64) + (c - (48 : Int32)).toInt64
theorem hstep_dg {k r : Int64} (hk : k.toInt = r.toInt / 10) (h : 0 ≤ r.toInt) (hb : r.toInt < 10000000000) : (hstep k (dg r)).toInt = r.toInt := by
  have h1 := dg_toInt h
  have e48 : (48 : Int32).toInt = 48 := by decide
  have e10 : (10 : Int64).toInt = 10 := by decide
  unfold hstep
  rw [Int64.toInt_add, Int64.toInt_mul, Int32.toInt_toInt64, Int32.toInt_sub, h1, hk, e48, e10]
  rw [bm32 (by omega) (by omega), bm64 (x := r.toInt / 10 * 10) (by omega) (by omega), bm64 (by omega) (by omega)]
  omega
def hor (c0 c1 c2 c3 c4 c5 c6 c7 c8 c9 : Int32) : Int64 := hstep (hstep (hstep (hstep (hstep (hstep (hstep (hstep (hstep (hstep 0 c0) c1) c2) c3) c4) c5) c6) c7) c8) c9
theorem hor_digs {k : Int64} (h : 0 ≤ k.toInt) (hb : k.toInt < 10000000000) :
    hor (dg (k / (10 : Int64) / (10 : Int64) / (10 : Int64) / (10 : Int64) / (10 : Int64) / (10 : Int64) / (10 : Int64) / (10 : Int64) / (10 : Int64))) (dg (k / (10 : Int64) / (10 : Int64) / (10 : Int64) / (10 : Int64) / (10 : Int64) / (10 : Int64) / (10 : Int64) / (10 : Int64)))
      (dg (k / (10 : Int64) / (10 : Int64) / (10 : Int64) / (10 : Int64) / (10 : Int64) / (10 : Int64) / (10 : Int64))) (dg (k / (10 : Int64) / (10 : Int64) / (10 : Int64) / (10 : Int64) / (10 : Int64) / (10 : Int64))) (dg (k / (10 : Int64) / (10 : Int64) / (10 : Int64) / (10 : Int64) / (10 : Int64)))
      (dg (k / (10 : Int64) / (10 : Int64) / (10 : Int64) / (10 : Int64))) (dg (k / (10 : Int64) / (10 : Int64) / (10 : Int64))) (dg (k / (10 : Int64) / (10 : Int64))) (dg (k / (10 : Int64))) (dg k) = k := by
  generalize e1 : k / (10 : Int64) = r1
  generalize e2 : r1 / (10 : Int64) = r2
  generalize e3 : r2 / (10 : Int64) = r3
  generalize e4 : r3 / (10 : Int64) = r4
  generalize e5 : r4 / (10 : Int64) = r5
  generalize e6 : r5 / (10 : Int64) = r6
  generalize e7 : r6 / (10 : Int64) = r7
  generalize e8 : r7 / (10 : Int64) = r8
  generalize e9 : r8 / (10 : Int64) = r9
  have n1 := div10 h e1
  have n2 := div10 n1.1 e2
  have n3 := div10 n2.1 e3
  have n4 := div10 n3.1 e4
  have n5 := div10 n4.1 e5
  have n6 := div10 n5.1 e6
  have n7 := div10 n6.1 e7
  have n8 := div10 n7.1 e8
  have n9 := div10 n8.1 e9
  have z0 : (0 : Int64).toInt = 0 := by decide
  have h9 := hstep_dg (k := 0) (r := r9) (by rw [z0]; omega) n9.1 (by omega)
  have h8 := hstep_dg (r := r8) (by rw [h9]; exact n9.2) n8.1 (by omega)
  have h7 := hstep_dg (r := r7) (by rw [h8]; exact n8.2) n7.1 (by omega)
  have h6 := hstep_dg (r := r6) (by rw [h7]; exact n7.2) n6.1 (by omega)
  have h5 := hstep_dg (r := r5) (by rw [h6]; exact n6.2) n5.1 (by omega)
  have h4 := hstep_dg (r := r4) (by rw [h5]; exact n5.2) n4.1 (by omega)
  have h3 := hstep_dg (r := r3) (by rw [h4]; exact n4.2) n3.1 (by omega)
  have h2 := hstep_dg (r := r2) (by rw [h3]; exact n3.2) n2.1 (by omega)
  have h1 := hstep_dg (r := r1) (by rw [h2]; exact n2.2) n1.1 (by omega)
  have h0 := hstep_dg (r := k) (by rw [h1]; exact n1.2) h hb
  exact Int64.toInt_inj.mp h0
/-! the table -/
def hsh (k : Int64) : Int32 := (((k * (-7046029254386353131 : Int64)).toUInt64 >>> ((60 : Int32) &&& 0x3f).toInt64.toUInt64).toInt64).toInt32
def nxt (p : Int32) : Int32 := (p + (1 : Int32)) &&& (15 : Int32)
theorem and15 (x : Int32) : ∃ k : Fin 16, x &&& (15 : Int32) = Int32.ofNat k.val := by
  have h : (x &&& 15).toBitVec.toNat < 16 := by
    simp only [Int32.toBitVec_and, BitVec.toNat_and]
    exact Nat.lt_succ_of_le Nat.and_le_right
  refine ⟨⟨_, h⟩, ?_⟩
  apply Int32.toBitVec_inj.mp
  show _ = BitVec.ofNat 32 _
  rw [BitVec.ofNat_toNat]; simp
theorem hsh_fin (k : Int64) : ∃ j : Fin 16, hsh k = Int32.ofNat j.val := by
  unfold hsh
  generalize (k * (-7046029254386353131 : Int64)).toUInt64 = u
  have e : ((60 : Int32) &&& 0x3f).toInt64.toUInt64 = 60 := by decide
  rw [e]
  have h1 : (u >>> 60).toNat = u.toNat / 2 ^ 60 := by
    rw [UInt64.toNat_shiftRight]
    show u.toNat >>> 60 = _
    rw [Nat.shiftRight_eq_div_pow]
  have h2 : u.toNat < 2 ^ 64 := u.toNat_lt
  have h3 : (u >>> 60).toNat < 16 := by omega
  have h4 : u >>> 60 = UInt64.ofNat (u >>> 60).toNat := UInt64.ofNat_toNat.symm
  rw [h4]
  refine ⟨⟨_, h3⟩, ?_⟩
  exact (by decide : ∀ j : Fin 16, (UInt64.ofNat j.val).toInt64.toInt32 = Int32.ofNat j.val) ⟨_, h3⟩
theorem fin_rng (j : Fin 16) : ¬ Int32.ofNat j.val < 0 ∧ Int32.ofNat j.val < 16 := (by decide : ∀ j : Fin 16, ¬ Int32.ofNat j.val < 0 ∧ Int32.ofNat j.val < 16) j
theorem hsh_rng (k : Int64) : ¬ hsh k < 0 ∧ hsh k < 16 := by obtain ⟨j, e⟩ := hsh_fin k; rw [e]; exact fin_rng j
theorem nxt_rng {p : Int32} (h : ¬ p < 0 ∧ p < 16) : ¬ nxt p < 0 ∧ nxt p < 16 := by obtain ⟨j, e⟩ := and15 (p + 1); unfold nxt; rw [e]; exact fin_rng j
def lat (ln : List Int64) (p : Int32) : Int64 := ln.getD p.toNatClampNeg 0
def vat (vs : List Int32) (p : Int32) : Int32 := vs.getD p.toNatClampNeg 0
def okp (ln : List Int64) (k : Int64) (p : Int32) : Prop := lat ln p = -1 ∨ lat ln p = k
instance (ln : List Int64) (k : Int64) (p : Int32) : Decidable (okp ln k p) := inferInstanceAs (Decidable (_ ∨ _))
theorem okl {ln : List Int64} {k : Int64} {p : Int32} (h : lat ln p = -1) : okp ln k p := Or.inl h
theorem okr {ln : List Int64} {k : Int64} {p : Int32} (h : lat ln p = k) : okp ln k p := Or.inr h
theorem okn {ln : List Int64} {k : Int64} {p : Int32} (h : ¬ lat ln p = -1) (h2 : ¬ lat ln p = k) : ¬ okp ln k p := fun z => z.elim h h2
def plc (ln : List Int64) (k : Int64) : Int32 := if okp ln k (hsh k) then hsh k else if okp ln k (nxt (hsh k)) then nxt (hsh k) else nxt (nxt (hsh k))
section Plc
variable {ln : List Int64} {k : Int64} {p0 p1 p2 : Int32}
theorem plc0 (e : hsh k = p0) (h : okp ln k p0) : plc ln k = p0 := by subst e; exact if_pos h
theorem plc1 (e : hsh k = p0) (e1 : (p0 + (1 : Int32)) &&& (15 : Int32) = p1) (n : ¬ okp ln k p0) (h : okp ln k p1) : plc ln k = p1 := by
  subst e e1; exact (if_neg n).trans (if_pos h)
theorem plc2' (e : hsh k = p0) (e1 : (p0 + (1 : Int32)) &&& (15 : Int32) = p1) (e2 : (p1 + (1 : Int32)) &&& (15 : Int32) = p2) (n : ¬ okp ln k p0) (n1 : ¬ okp ln k p1) : plc ln k = p2 := by
  subst e e1 e2; exact (if_neg n).trans (if_neg n1)
theorem plc2 (e : hsh k = p0) (e1 : (p0 + (1 : Int32)) &&& (15 : Int32) = p1) (e2 : (p1 + (1 : Int32)) &&& (15 : Int32) = p2) (n : ¬ okp ln k p0) (n1 : ¬ okp ln k p1) (_h : okp ln k p2) : plc ln k = p2 := plc2' e e1 e2 n n1
theorem plc_rng (ln : List Int64) (k : Int64) : ¬ plc ln k < 0 ∧ plc ln k < 16 := by
  unfold plc; split
  · exact hsh_rng k
  · split
    · exact nxt_rng (hsh_rng k)
    · exact nxt_rng (nxt_rng (hsh_rng k))
end Plc
/-! what the map answers -/
def getF (ln : List Int64) (vs : List Int32) (k : Int64) : Int32 := if lat ln (plc ln k) = k then vat vs (plc ln k) else -1
def putL (ln : List Int64) (k : Int64) : List Int64 := if lat ln (plc ln k) = k then ln else ln.set (plc ln k).toNatClampNeg k
def putV (ln : List Int64) (vs : List Int32) (k : Int64) (x : Int32) : List Int32 := if lat ln (plc ln k) = k then vs else vs.set (plc ln k).toNatClampNeg x
def L0 : List Int64 := List.replicate 16 (-1)
def V0 : List Int32 := List.replicate 16 0
section Table
theorem clamp_fin (j : Fin 16) : (Int32.ofNat j.val).toNatClampNeg = j.val := (by decide : ∀ j : Fin 16, (Int32.ofNat j.val).toNatClampNeg = j.val) j
theorem rng_fin {p : Int32} (h : ¬ p < 0 ∧ p < 16) : ∃ j : Fin 16, p = Int32.ofNat j.val := by
  obtain ⟨h1, h2⟩ := h
  rw [Int32.lt_iff_toInt_lt] at h1 h2
  have e0 : (0 : Int32).toInt = 0 := by decide
  have e16 : (16 : Int32).toInt = 16 := by decide
  rw [e0] at h1; rw [e16] at h2
  refine ⟨⟨p.toInt.toNat, by omega⟩, Int32.toInt_inj.mp ?_⟩
  have t : ∀ j : Fin 16, (Int32.ofNat j.val).toInt = j.val := by decide
  rw [t ⟨p.toInt.toNat, by omega⟩]
  show p.toInt = (p.toInt.toNat : Int)
  omega
theorem lat_set {ln : List Int64} (hl : ln.length = 16) {p q : Int32} (hp : ¬ p < 0 ∧ p < 16) (hq : ¬ q < 0 ∧ q < 16) (k : Int64) : lat (ln.set p.toNatClampNeg k) q = if q = p then k else lat ln q := by
  obtain ⟨i, rfl⟩ := rng_fin hp
  obtain ⟨j, rfl⟩ := rng_fin hq
  unfold lat
  rw [clamp_fin, clamp_fin]
  have hj : j.val < ln.length := by rw [hl]; exact j.isLt
  by_cases e : j = i
  · subst e; rw [if_pos rfl]; simp [List.getD_eq_getElem?_getD, hj]
  · have e2 : ¬ Int32.ofNat j.val = Int32.ofNat i.val := fun z => e ((by decide : ∀ a b : Fin 16, Int32.ofNat a.val = Int32.ofNat b.val → a = b) _ _ z)
    have e3 : i.val ≠ j.val := fun z => e (Fin.ext z.symm)
    rw [if_neg e2]; simp [List.getD_eq_getElem?_getD, List.getElem?_set_ne e3]
theorem vat_set {vs : List Int32} (hl : vs.length = 16) {p q : Int32} (hp : ¬ p < 0 ∧ p < 16) (hq : ¬ q < 0 ∧ q < 16) (x : Int32) : vat (vs.set p.toNatClampNeg x) q = if q = p then x else vat vs q := by
  obtain ⟨i, rfl⟩ := rng_fin hp
  obtain ⟨j, rfl⟩ := rng_fin hq
  unfold vat
  rw [clamp_fin, clamp_fin]
  have hj : j.val < vs.length := by rw [hl]; exact j.isLt
  by_cases e : j = i
  · subst e; rw [if_pos rfl]; simp [List.getD_eq_getElem?_getD, hj]
  · have e2 : ¬ Int32.ofNat j.val = Int32.ofNat i.val := fun z => e ((by decide : ∀ a b : Fin 16, Int32.ofNat a.val = Int32.ofNat b.val → a = b) _ _ z)
    have e3 : i.val ≠ j.val := fun z => e (Fin.ext z.symm)
    rw [if_neg e2]; simp [List.getD_eq_getElem?_getD, List.getElem?_set_ne e3]
theorem lat_L0 {p : Int32} (hp : ¬ p < 0 ∧ p < 16) : lat L0 p = -1 := by
  obtain ⟨i, rfl⟩ := rng_fin hp
  unfold lat; rw [clamp_fin]
  exact (by decide : ∀ i : Fin 16, L0.getD i.val 0 = -1) i
theorem nxt_ne {p : Int32} (hp : ¬ p < 0 ∧ p < 16) : nxt p ≠ p ∧ nxt (nxt p) ≠ p ∧ nxt (nxt p) ≠ nxt p := by
  obtain ⟨i, rfl⟩ := rng_fin hp
  exact (by decide +kernel : ∀ i : Fin 16, nxt (Int32.ofNat i.val) ≠ Int32.ofNat i.val ∧ nxt (nxt (Int32.ofNat i.val)) ≠ Int32.ofNat i.val ∧ nxt (nxt (Int32.ofNat i.val)) ≠ nxt (Int32.ofNat i.val)) i
theorem neg_ne {k : Int64} (h : 0 ≤ k.toInt) : ¬ (-1 : Int64) = k := fun e => by rw [← e] at h; exact absurd h (by decide)
variable {ka kb k : Int64} {xa xb : Int32}
/-- the empty table -/
theorem L0_eq : L0 = List.replicate 16 (-1) := rfl
theorem plc_L0 (k : Int64) : plc L0 k = hsh k := if_pos (Or.inl (lat_L0 (hsh_rng k)))
theorem ok_L0 (k : Int64) : okp L0 k (plc L0 k) := Or.inl (lat_L0 (plc_rng _ _))
theorem get_L0 (h : 0 ≤ k.toInt) : getF L0 V0 k = -1 := by
  unfold getF; rw [lat_L0 (plc_rng _ _), if_neg (neg_ne h)]
theorem putL_L0 (h : 0 ≤ k.toInt) : putL L0 k = L0.set (hsh k).toNatClampNeg k := by
  unfold putL; rw [lat_L0 (plc_rng _ _), if_neg (neg_ne h), plc_L0]
theorem putV_L0 (h : 0 ≤ k.toInt) : putV L0 V0 k xa = V0.set (hsh k).toNatClampNeg xa := by
  unfold putV; rw [lat_L0 (plc_rng _ _), if_neg (neg_ne h), plc_L0]
/-- one key -/
def L1 (ka : Int64) : List Int64 := L0.set (hsh ka).toNatClampNeg ka
def V1 (ka : Int64) (xa : Int32) : List Int32 := V0.set (hsh ka).toNatClampNeg xa
theorem lat_L1 {q : Int32} (hq : ¬ q < 0 ∧ q < 16) : lat (L1 ka) q = if q = hsh ka then ka else -1 := by
  show lat (L0.set (hsh ka).toNatClampNeg ka) q = _
  rw [lat_set (by decide) (hsh_rng ka) hq, lat_L0 hq]
theorem plc_L1 : plc (L1 ka) k = if hsh k = hsh ka ∧ ¬ k = ka ∧ ¬ ka = -1 then nxt (hsh k) else hsh k := by
  have h1 := hsh_rng k
  have h2 := nxt_rng h1
  obtain ⟨n1, n2, n3⟩ := nxt_ne h1
  have l1 : lat (L1 ka) (hsh k) = if hsh k = hsh ka then ka else -1 := lat_L1 h1
  have l2 : lat (L1 ka) (nxt (hsh k)) = if nxt (hsh k) = hsh ka then ka else -1 := lat_L1 h2
  unfold plc
  by_cases e : hsh k = hsh ka
  · rw [if_pos e] at l1
    rw [if_neg (fun z => n1 (z.trans e.symm))] at l2
    by_cases e2 : k = ka
    · rw [if_pos (okr (l1.trans e2.symm)), if_neg (fun z => z.2.1 e2)]
    · by_cases e3 : ka = -1
      · rw [if_pos (okl (l1.trans e3)), if_neg (fun z => z.2.2 e3)]
      · rw [if_neg (okn (fun z => e3 (l1.symm.trans z)) (fun z => e2 (z.symm.trans l1))), if_pos (okl l2), if_pos ⟨e, e2, e3⟩]
  · rw [if_neg e] at l1
    rw [if_pos (okl l1), if_neg (fun z => e z.1)]
theorem ok_L1 : okp (L1 ka) k (plc (L1 ka) k) := by
  have h1 := hsh_rng k
  obtain ⟨n1, n2, n3⟩ := nxt_ne h1
  rw [plc_L1]
  by_cases q : hsh k = hsh ka ∧ ¬ k = ka ∧ ¬ ka = -1
  · rw [if_pos q]; exact Or.inl (by rw [lat_L1 (nxt_rng h1), if_neg (fun z => n1 (z.trans q.1.symm))])
  · rw [if_neg q]; unfold okp; rw [lat_L1 h1]
    by_cases e : hsh k = hsh ka
    · rw [if_pos e]
      by_cases e3 : ka = -1
      · exact Or.inl e3
      · by_cases e2 : k = ka
        · exact Or.inr e2.symm
        · exact absurd ⟨e, e2, e3⟩ q
    · rw [if_neg e]; exact Or.inl rfl
theorem get_L1 (ha : 0 ≤ ka.toInt) (h : 0 ≤ k.toInt) : getF (L1 ka) (V1 ka xa) k = if k = ka then xa else -1 := by
  have h1 := hsh_rng k
  obtain ⟨n1, n2, n3⟩ := nxt_ne h1
  have nk := neg_ne h
  have na : ¬ ka = -1 := fun z => neg_ne ha z.symm
  unfold getF
  by_cases e2 : k = ka
  · subst e2
    have q : plc (L1 k) k = hsh k := by rw [plc_L1]; simp
    rw [q, lat_L1 h1, if_pos rfl, if_pos rfl, if_pos rfl]
    show vat (V0.set (hsh k).toNatClampNeg xa) (hsh k) = xa
    rw [vat_set (by decide) h1 h1, if_pos rfl]
  · rw [if_neg e2, if_neg]
    rw [plc_L1]
    by_cases e : hsh k = hsh ka
    · rw [if_pos ⟨e, e2, na⟩, lat_L1 (nxt_rng h1), if_neg (fun z => n1 (z.trans e.symm))]; exact nk
    · rw [if_neg (fun z => e z.1), lat_L1 h1, if_neg e]; exact nk
/-- a second key -/
abbrev pB (ka kb : Int64) : Int32 := plc (L1 ka) kb
def L2 (ka kb : Int64) : List Int64 := (L1 ka).set (pB ka kb).toNatClampNeg kb
def V2 (ka kb : Int64) (xa xb : Int32) : List Int32 := (V1 ka xa).set (pB ka kb).toNatClampNeg xb
theorem pB_ne (ha : 0 ≤ ka.toInt) (e : ¬ kb = ka) : ¬ pB ka kb = hsh ka := by
  have h1 := hsh_rng kb
  obtain ⟨n1, n2, n3⟩ := nxt_ne h1
  have na : ¬ ka = -1 := fun z => neg_ne ha z.symm
  unfold pB; rw [plc_L1]
  by_cases q : hsh kb = hsh ka
  · rw [if_pos ⟨q, e, na⟩]; exact fun z => n1 (z.trans q.symm)
  · rw [if_neg (fun z => q z.1)]; exact q
theorem lat_L2 {q : Int32} (hq : ¬ q < 0 ∧ q < 16) : lat (L2 ka kb) q = if q = pB ka kb then kb else if q = hsh ka then ka else -1 := by
  show lat ((L1 ka).set (pB ka kb).toNatClampNeg kb) q = _
  rw [lat_set (by simp [L1, L0]) (plc_rng _ _) hq, lat_L1 hq]
theorem lat_nB (ha : 0 ≤ ka.toInt) (e : ¬ kb = ka) (hb : 0 ≤ kb.toInt) : ¬ lat (L1 ka) (plc (L1 ka) kb) = kb := by
  rw [lat_L1 (plc_rng _ _), if_neg (pB_ne ha e)]; exact neg_ne hb
theorem putL_L1 (ha : 0 ≤ ka.toInt) (hb : 0 ≤ kb.toInt) (e : ¬ kb = ka) : putL (L1 ka) kb = L2 ka kb := by
  unfold putL; rw [if_neg (lat_nB ha e hb)]; rfl
theorem putV_L1 (ha : 0 ≤ ka.toInt) (hb : 0 ≤ kb.toInt) (e : ¬ kb = ka) : putV (L1 ka) (V1 ka xa) kb xb = V2 ka kb xa xb := by
  unfold putV; rw [if_neg (lat_nB ha e hb)]; rfl
theorem lat_same (ha : 0 ≤ ka.toInt) : lat (L1 ka) (plc (L1 ka) ka) = ka := by
  have q : plc (L1 ka) ka = hsh ka := by rw [plc_L1]; simp
  rw [q, lat_L1 (hsh_rng ka), if_pos rfl]
theorem putL_same (ha : 0 ≤ ka.toInt) : putL (L1 ka) ka = L1 ka := by unfold putL; rw [if_pos (lat_same ha)]
theorem putV_same (ha : 0 ≤ ka.toInt) : putV (L1 ka) (V1 ka xa) ka xb = V1 ka xa := by unfold putV; rw [if_pos (lat_same ha)]
/-- among three places in a row one is free -/
theorem ok_L2 (k : Int64) : okp (L2 ka kb) k (plc (L2 ka kb) k) := by
  have h1 := hsh_rng k
  have h2 := nxt_rng h1
  have h3 := nxt_rng h2
  obtain ⟨n1, n2, n3⟩ := nxt_ne h1
  unfold plc
  split
  · assumption
  · split
    · assumption
    · rename_i a b
      unfold okp at a b ⊢
      rw [lat_L2 h1] at a
      rw [lat_L2 h2] at b
      rw [lat_L2 h3]
      left
      by_cases e1 : hsh k = pB ka kb
      · rw [if_neg (fun z => n2 (z.trans e1.symm))]
        by_cases e2 : nxt (hsh k) = hsh ka
        · rw [if_neg (fun z => n3 (z.trans e2.symm))]
        · rw [if_neg (fun z => n1 (z.trans e1.symm)), if_neg e2] at b
          exact absurd (Or.inl rfl) b
      · by_cases e2 : hsh k = hsh ka
        · rw [if_neg (c := nxt (nxt (hsh k)) = hsh ka) (fun z => n2 (z.trans e2.symm))]
          by_cases e3 : nxt (hsh k) = pB ka kb
          · rw [if_neg (fun z => n3 (z.trans e3.symm))]
          · rw [if_neg e3, if_neg (fun z => n1 (z.trans e2.symm))] at b
            exact absurd (Or.inl rfl) b
        · rw [if_neg e1, if_neg e2] at a
          exact absurd (Or.inl rfl) a
theorem get_L2 (ha : 0 ≤ ka.toInt) (hb : 0 ≤ kb.toInt) (h : 0 ≤ k.toInt) (e : ¬ kb = ka) : getF (L2 ka kb) (V2 ka kb xa xb) k = if k = ka then xa else if k = kb then xb else -1 := by
  have hra := hsh_rng ka
  have hrB : ¬ pB ka kb < 0 ∧ pB ka kb < 16 := plc_rng _ _
  have nB := pB_ne ha e
  have nk := neg_ne h
  have na : ¬ ka = -1 := fun z => neg_ne ha z.symm
  have nb : ¬ kb = -1 := fun z => neg_ne hb z.symm
  have vA : vat (V2 ka kb xa xb) (hsh ka) = xa := by
    show vat ((V0.set (hsh ka).toNatClampNeg xa).set (pB ka kb).toNatClampNeg xb) (hsh ka) = xa
    rw [vat_set (by simp [V0]) hrB hra, if_neg (fun z => nB z.symm), vat_set (by decide) hra hra, if_pos rfl]
  have vB : vat (V2 ka kb xa xb) (pB ka kb) = xb := by
    show vat ((V0.set (hsh ka).toNatClampNeg xa).set (pB ka kb).toNatClampNeg xb) (pB ka kb) = xb
    rw [vat_set (by simp [V0]) hrB hrB, if_pos rfl]
  by_cases e1 : k = ka
  · subst e1
    have q : plc (L2 k kb) k = hsh k := by
      unfold plc; rw [if_pos]; right; rw [lat_L2 hra, if_neg (fun z => nB z.symm), if_pos rfl]
    have l1 : lat (L2 k kb) (hsh k) = k := by rw [lat_L2 hra, if_neg (fun z => nB z.symm), if_pos rfl]
    unfold getF
    rw [q, if_pos l1, if_pos rfl, vA]
  · rw [if_neg e1]
    by_cases e2 : k = kb
    · subst e2
      rw [if_pos rfl]
      have h1 := hsh_rng k
      obtain ⟨n1, n2, n3⟩ := nxt_ne h1
      have q : plc (L2 ka k) k = pB ka k := by
        by_cases q : hsh k = hsh ka
        · have p1 : pB ka k = nxt (hsh k) := by unfold pB; rw [plc_L1, if_pos ⟨q, e1, na⟩]
          unfold plc
          rw [if_neg, if_pos, p1]
          · right; rw [lat_L2 (nxt_rng h1), p1, if_pos rfl]
          · unfold okp; rw [lat_L2 h1, p1, if_neg (fun z => n1 z.symm), if_pos q]
            exact fun z => z.elim na (fun z => e1 z.symm)
        · have p1 : pB ka k = hsh k := by unfold pB; rw [plc_L1, if_neg (fun z => q z.1)]
          unfold plc
          rw [if_pos, p1]
          right; rw [lat_L2 h1, p1, if_pos rfl]
      have l1 : lat (L2 ka k) (pB ka k) = k := by rw [lat_L2 hrB, if_pos rfl]
      unfold getF
      rw [q, if_pos l1, vB]
    · rw [if_neg e2]
      unfold getF
      rw [if_neg]
      have o := ok_L2 (ka := ka) (kb := kb) k
      intro z
      rw [lat_L2 (plc_rng _ _)] at z
      split at z
      · exact e2 z.symm
      · split at z
        · exact e1 z.symm
        · exact nk z
end Table
theorem dgc {r : Int64} (h : 0 ≤ r.toInt) : nar .char ((dg r).toUInt32.toUInt16.toUInt32.toInt32) = dg r := by
  obtain ⟨k, e⟩ := dg_ofNat h
  rw [e]
  exact (by decide +kernel : ∀ k : Fin 10, nar .char ((Int32.ofNat (48 + k.val)).toUInt32.toUInt16.toUInt32.toInt32) = Int32.ofNat (48 + k.val)) k
theorem dgp {r9 r8 r7 r6 r5 r4 r3 r2 r1 r0 : Int64} (h9 : 0 ≤ r9.toInt) (h8 : 0 ≤ r8.toInt) (h7 : 0 ≤ r7.toInt) (h6 : 0 ≤ r6.toInt) (h5 : 0 ≤ r5.toInt) (h4 : 0 ≤ r4.toInt) (h3 : 0 ≤ r3.toInt) (h2 : 0 ≤ r2.toInt) (h1 : 0 ≤ r1.toInt) (h0 : 0 ≤ r0.toInt) :
    ∀ c ∈ [dg r9, dg r8, dg r7, dg r6, dg r5, dg r4, dg r3, dg r2, dg r1, dg r0], ¬ c < 0 ∧ ¬ (255 : Int32) < c := by
  intro c hc
  simp only [List.mem_cons, List.not_mem_nil, or_false] at hc
  rcases hc with rfl | rfl | rfl | rfl | rfl | rfl | rfl | rfl | rfl | rfl <;> exact (dg_rng (by assumption)).2
theorem own_lat {c0 c1 c2 c3 c4 c5 c6 c7 c8 c9 : Int32} (h0 : ¬ 57 < c0) (h1 : ¬ 57 < c1) (h2 : ¬ 57 < c2) (h3 : ¬ 57 < c3) (h4 : ¬ 57 < c4) (h5 : ¬ 57 < c5) (h6 : ¬ 57 < c6) (h7 : ¬ 57 < c7) (h8 : ¬ 57 < c8) (h9 : ¬ 57 < c9) : ∀ c ∈ [c0, c1, c2, c3, c4, c5, c6, c7, c8, c9], ¬ (255 : Int32) < c := by
  have k : ∀ c : Int32, ¬ 57 < c → ¬ (255 : Int32) < c := fun c h z => h (Int32.lt_trans (by decide) z)
  intro c hc
  simp only [List.mem_cons, List.not_mem_nil, or_false] at hc
  rcases hc with rfl | rfl | rfl | rfl | rfl | rfl | rfl | rfl | rfl | rfl <;> exact k _ (by assumption)
theorem lc0 {x y : Int64} : lcmpW x y = (0 : Int32) ↔ x = y := by
  unfold lcmpW
  by_cases h : x > y
  · rw [if_pos h]; constructor
    · intro z; exact absurd z (by decide)
    · intro z; subst z; exact (Int64.lt_irrefl h).elim
  · rw [if_neg h]
    by_cases e : x = y
    · rw [if_pos e]; exact ⟨fun _ => e, fun _ => rfl⟩
    · rw [if_neg e]; constructor
      · intro z; exact absurd z (by decide)
      · intro z; exact absurd z e
theorem okp1 {ln : List Int64} {k : Int64} {p : Int32} (h : lcmpW (lat ln p) (-1 : Int64) = (0 : Int32)) : okp ln k p := okl (lc0.mp h)
theorem okp2 {ln : List Int64} {k : Int64} {p : Int32} (h : lcmpW (lat ln p) k = (0 : Int32)) : okp ln k p := okr (lc0.mp h)
theorem nokp {ln : List Int64} {k : Int64} {p : Int32} (h : ¬ lcmpW (lat ln p) (-1 : Int64) = (0 : Int32)) (h2 : ¬ lcmpW (lat ln p) k = (0 : Int32)) : ¬ okp ln k p := okn (fun z => h (lc0.mpr z)) (fun z => h2 (lc0.mpr z))
theorem lat_v (ln : List Int64) (p : Int32) : (ln.map Value.long).getD p.toNatClampNeg (.long (0 : Int64)) = .long (lat ln p) := by
  unfold lat; simp only [List.getD_eq_getElem?_getD, List.getElem?_map]; cases ln[p.toNatClampNeg]? <;> rfl
theorem vat_v (vs : List Int32) (p : Int32) : (vs.map Value.int).getD p.toNatClampNeg (.int (0 : Int32)) = .int (vat vs p) := by
  unfold vat; simp only [List.getD_eq_getElem?_getD, List.getElem?_map]; cases vs[p.toNatClampNeg]? <;> rfl
/-- the map at a: its arrays b1, b2 and what they hold -/
def MapAt (Z : State) (h : Heap) (a b1 b2 : Addr) (ln : List Int64) (vs : List Int32) (sz : Int32) : Prop :=
  Exa Z h a "com/example/rateledger/rateledger/io/LoanNumberMap" ∧ Fld Z h a "com/example/rateledger/rateledger/io/LoanNumberMap" "loanNumbers" "[J" (.ref b1) ∧ Fld Z h a "com/example/rateledger/rateledger/io/LoanNumberMap" "values" "[I" (.ref b2) ∧ Fld Z h a "com/example/rateledger/rateledger/io/LoanNumberMap" "size" "I" (.int sz) ∧
  (∃ k, Arv Z h b1 k .long 16 (ln.map Value.long) (.long 0)) ∧ (∃ k, Arv Z h b2 k .int 16 (vs.map Value.int) (.int 0)) ∧ (a ≠ b1 ∧ a ≠ b2 ∧ b1 ≠ b2)
theorem MapAt.exa {Z : State} {h : Heap} {a b1 b2 : Addr} {ln : List Int64} {vs : List Int32} {sz : Int32} (M : MapAt Z h a b1 b2 ln vs sz) : Exa Z h a "com/example/rateledger/rateledger/io/LoanNumberMap" := M.1
theorem i32_clamp {j z : Int32} {n : Nat} (h : ¬ j < 0 ∧ j < z) (hz : z.toNatClampNeg = n) : j.toNatClampNeg < n := by
  obtain ⟨h1, h2⟩ := h
  rw [Int32.lt_iff_toInt_lt] at h1 h2
  have e0 : (0 : Int32).toInt = 0 := by decide
  rw [e0] at h1
  unfold Int32.toNatClampNeg at hz ⊢
  omega
theorem max32 (x : Int32) : ¬ (x &&& (2147483647 : Int32)) < 0 := by
  have h : (x &&& (2147483647 : Int32)).toBitVec.toNat < 2 ^ 31 := by
    rw [Int32.toBitVec_and, BitVec.toNat_and]
    exact Nat.lt_of_le_of_lt Nat.and_le_right (by decide)
  have h2 : 0 ≤ (x &&& (2147483647 : Int32)).toInt := by
    show 0 ≤ (x &&& (2147483647 : Int32)).toBitVec.toInt
    rw [BitVec.toInt_eq_toNat_of_lt (by omega)]
    exact Int.natCast_nonneg _
  rw [Int32.lt_iff_toInt_lt]
  have e0 : (0 : Int32).toInt = 0 := by decide
  rw [e0]; omega
theorem pn_com_example_rateledger_rateledger_io_LoanNumberMapGetPinLaw : plainName "com/example/rateledger/rateledger/io/LoanNumberMapGetPinLaw" = true := by first | (simp [plainName, overriddenIn]; done) | decide +kernel
theorem d1_0 : decode method_2_code 0 = .ok (.lload_n 0, 1) := by decide +kernel
theorem d1_1 : decode method_2_code 1 = .ok (.ldc2_w 9, 3) := by decide +kernel
theorem d1_4 : decode method_2_code 4 = .ok (.land, 1) := by decide +kernel
theorem d1_5 : decode method_2_code 5 = .ok (.ldc2_w 11, 3) := by decide +kernel
theorem d1_8 : decode method_2_code 8 = .ok (.lrem, 1) := by decide +kernel
theorem d1_9 : decode method_2_code 9 = .ok (.lreturn, 1) := by decide +kernel
set_option maxRecDepth 65536 in
set_option maxHeartbeats 40000000 in
theorem own_norm (l : Launch) (Z : State) (a0 : Array Value) (hw : ∀ d ∈ tables_1, d.before a0 Z = true) (hEL : EW Z a0 []) (q1 : Int64)  (h0 : Heap) (n0 : Nat)  :
    Met false Z [] l (⟨"com/example/rateledger/rateledger/io/LoanNumberMapGetPinLaw", "norm", "(J)J"⟩ : MethodName) method_2_code 2 (some .long) ({ frames := 0, cells := 0, slots := 0, locals := 0 } : Room) #[(.long q1)] h0 [] n0 (fun v h => v = some (.long (nrm q1)) ∧ h0 = h) := by
  refine Met.of (a0 := a0) (Ls := #[.val (.long q1), .second]) (fun z => rfl) (plainFor_of_name pn_com_example_rateledger_rateledger_io_LoanNumberMapGetPinLaw) hEL (fun m => by first | (simp [entryFrame, mkF, argsToLocals, Value.category]; done) | rfl) ?_
  intro p e s m below meth c B hSf
  refine gs (mkF m 1 _ [(.long q1)]) (fun T A t k => XS.lloadN A B.x rfl (B.d d1_0) rfl k) ?_
  refine g_ldc2J B (hw _ (List.mem_of_getElem? (i := 4) rfl)) d1_1 (q := 4) rfl ?_
  refine gs (mkF m 5 _ [(.long (q1 &&& (9223372036854775807 : Int64)))]) (fun T A t k => XS.land A B.x rfl (B.d d1_4) rfl k) ?_
  refine g_ldc2J B (hw _ (List.mem_of_getElem? (i := 5) rfl)) d1_5 (q := 8) rfl ?_
  refine gs (mkF m 9 _ [(.long ((q1 &&& (9223372036854775807 : Int64)) - (q1 &&& (9223372036854775807 : Int64)) / (10000000000 : Int64) * (10000000000 : Int64)))]) (fun T A t k => XS.lrem A B.x rfl (B.d d1_8) rfl (by decide) k) ?_
  exact g_retJ B d1_9 (by decide) (by decide) ⟨rfl, rfl⟩
theorem d2_0 : decode method_3_code 0 = .ok (.bipush 10, 2) := by decide +kernel
theorem d2_2 : decode method_3_code 2 = .ok (.newarray .char, 2) := by decide +kernel
theorem d2_4 : decode method_3_code 4 = .ok (.astore_n 2, 1) := by decide +kernel
theorem d2_5 : decode method_3_code 5 = .ok (.lload_n 0, 1) := by decide +kernel
theorem d2_6 : decode method_3_code 6 = .ok (.lstore_n 3, 1) := by decide +kernel
theorem d2_7 : decode method_3_code 7 = .ok (.aload_n 2, 1) := by decide +kernel
theorem d2_8 : decode method_3_code 8 = .ok (.bipush 9, 2) := by decide +kernel
theorem d2_10 : decode method_3_code 10 = .ok (.bipush 48, 2) := by decide +kernel
theorem d2_12 : decode method_3_code 12 = .ok (.lload_n 3, 1) := by decide +kernel
theorem d2_13 : decode method_3_code 13 = .ok (.ldc2_w 13, 3) := by decide +kernel
theorem d2_16 : decode method_3_code 16 = .ok (.lrem, 1) := by decide +kernel
theorem d2_17 : decode method_3_code 17 = .ok (.l2i, 1) := by decide +kernel
theorem d2_18 : decode method_3_code 18 = .ok (.iadd, 1) := by decide +kernel
theorem d2_19 : decode method_3_code 19 = .ok (.i2c, 1) := by decide +kernel
theorem d2_20 : decode method_3_code 20 = .ok (.castore, 1) := by decide +kernel
theorem d2_21 : decode method_3_code 21 = .ok (.lload_n 3, 1) := by decide +kernel
theorem d2_22 : decode method_3_code 22 = .ok (.ldc2_w 13, 3) := by decide +kernel
theorem d2_25 : decode method_3_code 25 = .ok (.ldiv, 1) := by decide +kernel
theorem d2_26 : decode method_3_code 26 = .ok (.lstore_n 3, 1) := by decide +kernel
theorem d2_27 : decode method_3_code 27 = .ok (.aload_n 2, 1) := by decide +kernel
theorem d2_28 : decode method_3_code 28 = .ok (.bipush 8, 2) := by decide +kernel
theorem d2_30 : decode method_3_code 30 = .ok (.bipush 48, 2) := by decide +kernel
theorem d2_32 : decode method_3_code 32 = .ok (.lload_n 3, 1) := by decide +kernel
theorem d2_33 : decode method_3_code 33 = .ok (.ldc2_w 13, 3) := by decide +kernel
theorem d2_36 : decode method_3_code 36 = .ok (.lrem, 1) := by decide +kernel
theorem d2_37 : decode method_3_code 37 = .ok (.l2i, 1) := by decide +kernel
theorem d2_38 : decode method_3_code 38 = .ok (.iadd, 1) := by decide +kernel
theorem d2_39 : decode method_3_code 39 = .ok (.i2c, 1) := by decide +kernel
theorem d2_40 : decode method_3_code 40 = .ok (.castore, 1) := by decide +kernel
theorem d2_41 : decode method_3_code 41 = .ok (.lload_n 3, 1) := by decide +kernel
theorem d2_42 : decode method_3_code 42 = .ok (.ldc2_w 13, 3) := by decide +kernel
theorem d2_45 : decode method_3_code 45 = .ok (.ldiv, 1) := by decide +kernel
theorem d2_46 : decode method_3_code 46 = .ok (.lstore_n 3, 1) := by decide +kernel
theorem d2_47 : decode method_3_code 47 = .ok (.aload_n 2, 1) := by decide +kernel
theorem d2_48 : decode method_3_code 48 = .ok (.bipush 7, 2) := by decide +kernel
theorem d2_50 : decode method_3_code 50 = .ok (.bipush 48, 2) := by decide +kernel
theorem d2_52 : decode method_3_code 52 = .ok (.lload_n 3, 1) := by decide +kernel
theorem d2_53 : decode method_3_code 53 = .ok (.ldc2_w 13, 3) := by decide +kernel
theorem d2_56 : decode method_3_code 56 = .ok (.lrem, 1) := by decide +kernel
theorem d2_57 : decode method_3_code 57 = .ok (.l2i, 1) := by decide +kernel
theorem d2_58 : decode method_3_code 58 = .ok (.iadd, 1) := by decide +kernel
theorem d2_59 : decode method_3_code 59 = .ok (.i2c, 1) := by decide +kernel
theorem d2_60 : decode method_3_code 60 = .ok (.castore, 1) := by decide +kernel
theorem d2_61 : decode method_3_code 61 = .ok (.lload_n 3, 1) := by decide +kernel
theorem d2_62 : decode method_3_code 62 = .ok (.ldc2_w 13, 3) := by decide +kernel
theorem d2_65 : decode method_3_code 65 = .ok (.ldiv, 1) := by decide +kernel
theorem d2_66 : decode method_3_code 66 = .ok (.lstore_n 3, 1) := by decide +kernel
theorem d2_67 : decode method_3_code 67 = .ok (.aload_n 2, 1) := by decide +kernel
theorem d2_68 : decode method_3_code 68 = .ok (.bipush 6, 2) := by decide +kernel
theorem d2_70 : decode method_3_code 70 = .ok (.bipush 48, 2) := by decide +kernel
theorem d2_72 : decode method_3_code 72 = .ok (.lload_n 3, 1) := by decide +kernel
theorem d2_73 : decode method_3_code 73 = .ok (.ldc2_w 13, 3) := by decide +kernel
theorem d2_76 : decode method_3_code 76 = .ok (.lrem, 1) := by decide +kernel
theorem d2_77 : decode method_3_code 77 = .ok (.l2i, 1) := by decide +kernel
theorem d2_78 : decode method_3_code 78 = .ok (.iadd, 1) := by decide +kernel
theorem d2_79 : decode method_3_code 79 = .ok (.i2c, 1) := by decide +kernel
theorem d2_80 : decode method_3_code 80 = .ok (.castore, 1) := by decide +kernel
theorem d2_81 : decode method_3_code 81 = .ok (.lload_n 3, 1) := by decide +kernel
theorem d2_82 : decode method_3_code 82 = .ok (.ldc2_w 13, 3) := by decide +kernel
theorem d2_85 : decode method_3_code 85 = .ok (.ldiv, 1) := by decide +kernel
theorem d2_86 : decode method_3_code 86 = .ok (.lstore_n 3, 1) := by decide +kernel
theorem d2_87 : decode method_3_code 87 = .ok (.aload_n 2, 1) := by decide +kernel
theorem d2_88 : decode method_3_code 88 = .ok (.iconst 5, 1) := by decide +kernel
theorem d2_89 : decode method_3_code 89 = .ok (.bipush 48, 2) := by decide +kernel
theorem d2_91 : decode method_3_code 91 = .ok (.lload_n 3, 1) := by decide +kernel
theorem d2_92 : decode method_3_code 92 = .ok (.ldc2_w 13, 3) := by decide +kernel
theorem d2_95 : decode method_3_code 95 = .ok (.lrem, 1) := by decide +kernel
theorem d2_96 : decode method_3_code 96 = .ok (.l2i, 1) := by decide +kernel
theorem d2_97 : decode method_3_code 97 = .ok (.iadd, 1) := by decide +kernel
theorem d2_98 : decode method_3_code 98 = .ok (.i2c, 1) := by decide +kernel
theorem d2_99 : decode method_3_code 99 = .ok (.castore, 1) := by decide +kernel
theorem d2_100 : decode method_3_code 100 = .ok (.lload_n 3, 1) := by decide +kernel
theorem d2_101 : decode method_3_code 101 = .ok (.ldc2_w 13, 3) := by decide +kernel
theorem d2_104 : decode method_3_code 104 = .ok (.ldiv, 1) := by decide +kernel
theorem d2_105 : decode method_3_code 105 = .ok (.lstore_n 3, 1) := by decide +kernel
theorem d2_106 : decode method_3_code 106 = .ok (.aload_n 2, 1) := by decide +kernel
theorem d2_107 : decode method_3_code 107 = .ok (.iconst 4, 1) := by decide +kernel
theorem d2_108 : decode method_3_code 108 = .ok (.bipush 48, 2) := by decide +kernel
theorem d2_110 : decode method_3_code 110 = .ok (.lload_n 3, 1) := by decide +kernel
theorem d2_111 : decode method_3_code 111 = .ok (.ldc2_w 13, 3) := by decide +kernel
theorem d2_114 : decode method_3_code 114 = .ok (.lrem, 1) := by decide +kernel
theorem d2_115 : decode method_3_code 115 = .ok (.l2i, 1) := by decide +kernel
theorem d2_116 : decode method_3_code 116 = .ok (.iadd, 1) := by decide +kernel
theorem d2_117 : decode method_3_code 117 = .ok (.i2c, 1) := by decide +kernel
theorem d2_118 : decode method_3_code 118 = .ok (.castore, 1) := by decide +kernel
theorem d2_119 : decode method_3_code 119 = .ok (.lload_n 3, 1) := by decide +kernel
theorem d2_120 : decode method_3_code 120 = .ok (.ldc2_w 13, 3) := by decide +kernel
theorem d2_123 : decode method_3_code 123 = .ok (.ldiv, 1) := by decide +kernel
theorem d2_124 : decode method_3_code 124 = .ok (.lstore_n 3, 1) := by decide +kernel
theorem d2_125 : decode method_3_code 125 = .ok (.aload_n 2, 1) := by decide +kernel
theorem d2_126 : decode method_3_code 126 = .ok (.iconst 3, 1) := by decide +kernel
theorem d2_127 : decode method_3_code 127 = .ok (.bipush 48, 2) := by decide +kernel
theorem d2_129 : decode method_3_code 129 = .ok (.lload_n 3, 1) := by decide +kernel
theorem d2_130 : decode method_3_code 130 = .ok (.ldc2_w 13, 3) := by decide +kernel
theorem d2_133 : decode method_3_code 133 = .ok (.lrem, 1) := by decide +kernel
theorem d2_134 : decode method_3_code 134 = .ok (.l2i, 1) := by decide +kernel
theorem d2_135 : decode method_3_code 135 = .ok (.iadd, 1) := by decide +kernel
theorem d2_136 : decode method_3_code 136 = .ok (.i2c, 1) := by decide +kernel
theorem d2_137 : decode method_3_code 137 = .ok (.castore, 1) := by decide +kernel
theorem d2_138 : decode method_3_code 138 = .ok (.lload_n 3, 1) := by decide +kernel
theorem d2_139 : decode method_3_code 139 = .ok (.ldc2_w 13, 3) := by decide +kernel
theorem d2_142 : decode method_3_code 142 = .ok (.ldiv, 1) := by decide +kernel
theorem d2_143 : decode method_3_code 143 = .ok (.lstore_n 3, 1) := by decide +kernel
theorem d2_144 : decode method_3_code 144 = .ok (.aload_n 2, 1) := by decide +kernel
theorem d2_145 : decode method_3_code 145 = .ok (.iconst 2, 1) := by decide +kernel
theorem d2_146 : decode method_3_code 146 = .ok (.bipush 48, 2) := by decide +kernel
theorem d2_148 : decode method_3_code 148 = .ok (.lload_n 3, 1) := by decide +kernel
theorem d2_149 : decode method_3_code 149 = .ok (.ldc2_w 13, 3) := by decide +kernel
theorem d2_152 : decode method_3_code 152 = .ok (.lrem, 1) := by decide +kernel
theorem d2_153 : decode method_3_code 153 = .ok (.l2i, 1) := by decide +kernel
theorem d2_154 : decode method_3_code 154 = .ok (.iadd, 1) := by decide +kernel
theorem d2_155 : decode method_3_code 155 = .ok (.i2c, 1) := by decide +kernel
theorem d2_156 : decode method_3_code 156 = .ok (.castore, 1) := by decide +kernel
theorem d2_157 : decode method_3_code 157 = .ok (.lload_n 3, 1) := by decide +kernel
theorem d2_158 : decode method_3_code 158 = .ok (.ldc2_w 13, 3) := by decide +kernel
theorem d2_161 : decode method_3_code 161 = .ok (.ldiv, 1) := by decide +kernel
theorem d2_162 : decode method_3_code 162 = .ok (.lstore_n 3, 1) := by decide +kernel
theorem d2_163 : decode method_3_code 163 = .ok (.aload_n 2, 1) := by decide +kernel
theorem d2_164 : decode method_3_code 164 = .ok (.iconst 1, 1) := by decide +kernel
theorem d2_165 : decode method_3_code 165 = .ok (.bipush 48, 2) := by decide +kernel
theorem d2_167 : decode method_3_code 167 = .ok (.lload_n 3, 1) := by decide +kernel
theorem d2_168 : decode method_3_code 168 = .ok (.ldc2_w 13, 3) := by decide +kernel
theorem d2_171 : decode method_3_code 171 = .ok (.lrem, 1) := by decide +kernel
theorem d2_172 : decode method_3_code 172 = .ok (.l2i, 1) := by decide +kernel
theorem d2_173 : decode method_3_code 173 = .ok (.iadd, 1) := by decide +kernel
theorem d2_174 : decode method_3_code 174 = .ok (.i2c, 1) := by decide +kernel
theorem d2_175 : decode method_3_code 175 = .ok (.castore, 1) := by decide +kernel
theorem d2_176 : decode method_3_code 176 = .ok (.lload_n 3, 1) := by decide +kernel
theorem d2_177 : decode method_3_code 177 = .ok (.ldc2_w 13, 3) := by decide +kernel
theorem d2_180 : decode method_3_code 180 = .ok (.ldiv, 1) := by decide +kernel
theorem d2_181 : decode method_3_code 181 = .ok (.lstore_n 3, 1) := by decide +kernel
theorem d2_182 : decode method_3_code 182 = .ok (.aload_n 2, 1) := by decide +kernel
theorem d2_183 : decode method_3_code 183 = .ok (.iconst 0, 1) := by decide +kernel
theorem d2_184 : decode method_3_code 184 = .ok (.bipush 48, 2) := by decide +kernel
theorem d2_186 : decode method_3_code 186 = .ok (.lload_n 3, 1) := by decide +kernel
theorem d2_187 : decode method_3_code 187 = .ok (.ldc2_w 13, 3) := by decide +kernel
theorem d2_190 : decode method_3_code 190 = .ok (.lrem, 1) := by decide +kernel
theorem d2_191 : decode method_3_code 191 = .ok (.l2i, 1) := by decide +kernel
theorem d2_192 : decode method_3_code 192 = .ok (.iadd, 1) := by decide +kernel
theorem d2_193 : decode method_3_code 193 = .ok (.i2c, 1) := by decide +kernel
theorem d2_194 : decode method_3_code 194 = .ok (.castore, 1) := by decide +kernel
theorem d2_195 : decode method_3_code 195 = .ok (.new 15, 3) := by decide +kernel
theorem d2_198 : decode method_3_code 198 = .ok (.dup, 1) := by decide +kernel
theorem d2_199 : decode method_3_code 199 = .ok (.aload_n 2, 1) := by decide +kernel
theorem pd_285bC29V : parseMethodDescriptor "([C)V" = some ⟨[(.array .char)], none⟩ := by decide +kernel
theorem d2_200 : decode method_3_code 200 = .ok (.invokespecial 17, 3) := by decide +kernel
theorem d2_203 : decode method_3_code 203 = .ok (.areturn, 1) := by decide +kernel
set_option maxRecDepth 65536 in
set_option maxHeartbeats 40000000 in
theorem own_loan (l : Launch) (Z : State) (a0 : Array Value) (hw : ∀ d ∈ tables_1, d.before a0 Z = true) (hEL : EW Z a0 []) (q1 : Int64) (zc : Int32) (h0 : Heap) (n0 : Nat) (hk : 0 ≤ q1.toInt) (hn : n0 ≤ h0.size) (PO : Old Z n0 h0) (SC : Sta Z Z.heap "java/lang/String" "COMPACT_STRINGS" "Z" (.int zc)) (hzc : ¬ zc = 0) :
    Met false Z [] l (⟨"com/example/rateledger/rateledger/io/LoanNumberMapGetPinLaw", "loan", "(J)Ljava/lang/String;"⟩ : MethodName) method_3_code 5 (some (.object "java/lang/String")) ({ frames := 5, cells := 3, slots := 24, locals := 120 } : Room) #[(.long q1)] h0 [] n0 (fun v h => ∃ x t : Addr, v = some (.ref x) ∧ Keep h0 h [] ∧ h0.size ≤ x ∧ h0.size ≤ t ∧ Str Z h x t (digs q1)) := by
  refine Met.of (a0 := a0) (Ls := #[.val (.long q1), .second, .unset, .unset, .unset]) (fun z => rfl) (plainFor_of_name pn_com_example_rateledger_rateledger_io_LoanNumberMapGetPinLaw) hEL (fun m => by first | (simp [entryFrame, mkF, argsToLocals, Value.category]; done) | rfl) ?_
  intro p e s m below meth c B hSf
  have n0_ := hk
  refine gs (mkF m 2 _ [(.int (10 : Int32))]) (fun T A t k => XS.bipush A B.x rfl (B.d d2_0) k) ?_
  refine g_newP B (hw _ (List.mem_of_getElem? (i := 10) rfl)) d2_2 (by decide) (cap := 10) (by decide) (by decide) (by decide) (by decide) (q := 4) rfl ?_
  intro h1 b1 k1 g1 E1 S1 A1
  have z1 := E1.1; have y1 : @LT.lt Nat _ b1 h1.size := A1.lt
  have V1 : Arv Z h1 b1 k1 .char (10 : Int32) [(.int (0 : Int32)), (.int (0 : Int32)), (.int (0 : Int32)), (.int (0 : Int32)), (.int (0 : Int32)), (.int (0 : Int32)), (.int (0 : Int32)), (.int (0 : Int32)), (.int (0 : Int32)), (.int (0 : Int32))] (.int (0 : Int32)) := A1
  refine gs (mkF m 5 #[.val (.long q1), .second, .val (.ref b1), .unset, .unset] []) (fun T A t k => XS.astoreN A B.x rfl (B.d d2_4) rfl rfl (l' := #[.val (.long q1), .second, .val (.ref b1), .unset, .unset]) rfl k) ?_
  refine gs (mkF m 6 _ [(.long q1)]) (fun T A t k => XS.lloadN A B.x rfl (B.d d2_5) rfl k) ?_
  refine gs (mkF m 7 #[.val (.long q1), .second, .val (.ref b1), .val (.long q1), .second] []) (fun T A t k => XS.lstoreN A B.x rfl (B.d d2_6) rfl (l' := #[.val (.long q1), .second, .val (.ref b1), .val (.long q1), .second]) rfl k) ?_
  refine gs (mkF m 8 _ [(.ref b1)]) (fun T A t k => XS.aloadN A B.x rfl (B.d d2_7) rfl rfl k) ?_
  refine gs (mkF m 10 _ [(.int (9 : Int32)), (.ref b1)]) (fun T A t k => XS.bipush A B.x rfl (B.d d2_8) k) ?_
  refine gs (mkF m 12 _ [(.int (48 : Int32)), (.int (9 : Int32)), (.ref b1)]) (fun T A t k => XS.bipush A B.x rfl (B.d d2_10) k) ?_
  refine gs (mkF m 13 _ [(.long q1), (.int (48 : Int32)), (.int (9 : Int32)), (.ref b1)]) (fun T A t k => XS.lloadN A B.x rfl (B.d d2_12) rfl k) ?_
  refine g_ldc2J B (hw _ (List.mem_of_getElem? (i := 11) rfl)) d2_13 (q := 16) rfl ?_
  refine gs (mkF m 17 _ [(.long (q1 - q1 / (10 : Int64) * (10 : Int64))), (.int (48 : Int32)), (.int (9 : Int32)), (.ref b1)]) (fun T A t k => XS.lrem A B.x rfl (B.d d2_16) rfl (by decide) k) ?_
  refine gs (mkF m 18 _ [(.int ((q1 - q1 / (10 : Int64) * (10 : Int64)).toInt32)), (.int (48 : Int32)), (.int (9 : Int32)), (.ref b1)]) (fun T A t k => XS.l2i A B.x rfl (B.d d2_17) rfl k) ?_
  refine gs (mkF m 19 _ [(.int ((48 : Int32) + ((q1 - q1 / (10 : Int64) * (10 : Int64)).toInt32))), (.int (9 : Int32)), (.ref b1)]) (fun T A t k => XS.iadd A B.x rfl (B.d d2_18) rfl k) ?_
  refine gs (mkF m 20 _ [(.int (((48 : Int32) + ((q1 - q1 / (10 : Int64) * (10 : Int64)).toInt32)).toUInt32.toUInt16.toUInt32.toInt32)), (.int (9 : Int32)), (.ref b1)]) (fun T A t k => XS.i2c A B.x rfl (B.d d2_19) rfl k) ?_
  refine g_stC B V1 (x' := (dg q1)) (dgc hk) ⟨by decide, by decide⟩ (i := 9) rfl (Nat.le_of_ble_eq_true rfl) d2_20 nos (by omega) (q := 21) rfl ?_
  intro h2 W2 A2
  have z2 := W2.size
  have V2 : Arv Z h2 b1 k1 .char (10 : Int32) [(.int (0 : Int32)), (.int (0 : Int32)), (.int (0 : Int32)), (.int (0 : Int32)), (.int (0 : Int32)), (.int (0 : Int32)), (.int (0 : Int32)), (.int (0 : Int32)), (.int (0 : Int32)), (.int (dg q1))] (.int (0 : Int32)) := A2
  refine gs (mkF m 22 _ [(.long q1)]) (fun T A t k => XS.lloadN A B.x rfl (B.d d2_21) rfl k) ?_
  refine g_ldc2J B (hw _ (List.mem_of_getElem? (i := 11) rfl)) d2_22 (q := 25) rfl ?_
  refine gs (mkF m 26 _ [(.long (q1 / (10 : Int64)))]) (fun T A t k => XS.ldiv A B.x rfl (B.d d2_25) rfl (by decide) k) ?_
  refine gs (mkF m 27 #[.val (.long q1), .second, .val (.ref b1), .val (.long (q1 / (10 : Int64))), .second] []) (fun T A t k => XS.lstoreN A B.x rfl (B.d d2_26) rfl (l' := #[.val (.long q1), .second, .val (.ref b1), .val (.long (q1 / (10 : Int64))), .second]) rfl k) ?_
  generalize e_r1 : (q1 / (10 : Int64)) = r1
  have n_r1 := div10 hk e_r1
  refine gs (mkF m 28 _ [(.ref b1)]) (fun T A t k => XS.aloadN A B.x rfl (B.d d2_27) rfl rfl k) ?_
  refine gs (mkF m 30 _ [(.int (8 : Int32)), (.ref b1)]) (fun T A t k => XS.bipush A B.x rfl (B.d d2_28) k) ?_
  refine gs (mkF m 32 _ [(.int (48 : Int32)), (.int (8 : Int32)), (.ref b1)]) (fun T A t k => XS.bipush A B.x rfl (B.d d2_30) k) ?_
  refine gs (mkF m 33 _ [(.long r1), (.int (48 : Int32)), (.int (8 : Int32)), (.ref b1)]) (fun T A t k => XS.lloadN A B.x rfl (B.d d2_32) rfl k) ?_
  refine g_ldc2J B (hw _ (List.mem_of_getElem? (i := 11) rfl)) d2_33 (q := 36) rfl ?_
  refine gs (mkF m 37 _ [(.long (r1 - r1 / (10 : Int64) * (10 : Int64))), (.int (48 : Int32)), (.int (8 : Int32)), (.ref b1)]) (fun T A t k => XS.lrem A B.x rfl (B.d d2_36) rfl (by decide) k) ?_
  refine gs (mkF m 38 _ [(.int ((r1 - r1 / (10 : Int64) * (10 : Int64)).toInt32)), (.int (48 : Int32)), (.int (8 : Int32)), (.ref b1)]) (fun T A t k => XS.l2i A B.x rfl (B.d d2_37) rfl k) ?_
  refine gs (mkF m 39 _ [(.int ((48 : Int32) + ((r1 - r1 / (10 : Int64) * (10 : Int64)).toInt32))), (.int (8 : Int32)), (.ref b1)]) (fun T A t k => XS.iadd A B.x rfl (B.d d2_38) rfl k) ?_
  refine gs (mkF m 40 _ [(.int (((48 : Int32) + ((r1 - r1 / (10 : Int64) * (10 : Int64)).toInt32)).toUInt32.toUInt16.toUInt32.toInt32)), (.int (8 : Int32)), (.ref b1)]) (fun T A t k => XS.i2c A B.x rfl (B.d d2_39) rfl k) ?_
  refine g_stC B V2 (x' := (dg r1)) (dgc n_r1.1) ⟨by decide, by decide⟩ (i := 8) rfl (Nat.le_of_ble_eq_true rfl) d2_40 nos (by omega) (q := 41) rfl ?_
  intro h3 W3 A3
  have z3 := W3.size
  have V3 : Arv Z h3 b1 k1 .char (10 : Int32) [(.int (0 : Int32)), (.int (0 : Int32)), (.int (0 : Int32)), (.int (0 : Int32)), (.int (0 : Int32)), (.int (0 : Int32)), (.int (0 : Int32)), (.int (0 : Int32)), (.int (dg r1)), (.int (dg q1))] (.int (0 : Int32)) := A3
  refine gs (mkF m 42 _ [(.long r1)]) (fun T A t k => XS.lloadN A B.x rfl (B.d d2_41) rfl k) ?_
  refine g_ldc2J B (hw _ (List.mem_of_getElem? (i := 11) rfl)) d2_42 (q := 45) rfl ?_
  refine gs (mkF m 46 _ [(.long (r1 / (10 : Int64)))]) (fun T A t k => XS.ldiv A B.x rfl (B.d d2_45) rfl (by decide) k) ?_
  refine gs (mkF m 47 #[.val (.long q1), .second, .val (.ref b1), .val (.long (r1 / (10 : Int64))), .second] []) (fun T A t k => XS.lstoreN A B.x rfl (B.d d2_46) rfl (l' := #[.val (.long q1), .second, .val (.ref b1), .val (.long (r1 / (10 : Int64))), .second]) rfl k) ?_
  generalize e_r2 : (r1 / (10 : Int64)) = r2
  have n_r2 := div10 n_r1.1 e_r2
  refine gs (mkF m 48 _ [(.ref b1)]) (fun T A t k => XS.aloadN A B.x rfl (B.d d2_47) rfl rfl k) ?_
  refine gs (mkF m 50 _ [(.int (7 : Int32)), (.ref b1)]) (fun T A t k => XS.bipush A B.x rfl (B.d d2_48) k) ?_
  refine gs (mkF m 52 _ [(.int (48 : Int32)), (.int (7 : Int32)), (.ref b1)]) (fun T A t k => XS.bipush A B.x rfl (B.d d2_50) k) ?_
  refine gs (mkF m 53 _ [(.long r2), (.int (48 : Int32)), (.int (7 : Int32)), (.ref b1)]) (fun T A t k => XS.lloadN A B.x rfl (B.d d2_52) rfl k) ?_
  refine g_ldc2J B (hw _ (List.mem_of_getElem? (i := 11) rfl)) d2_53 (q := 56) rfl ?_
  refine gs (mkF m 57 _ [(.long (r2 - r2 / (10 : Int64) * (10 : Int64))), (.int (48 : Int32)), (.int (7 : Int32)), (.ref b1)]) (fun T A t k => XS.lrem A B.x rfl (B.d d2_56) rfl (by decide) k) ?_
  refine gs (mkF m 58 _ [(.int ((r2 - r2 / (10 : Int64) * (10 : Int64)).toInt32)), (.int (48 : Int32)), (.int (7 : Int32)), (.ref b1)]) (fun T A t k => XS.l2i A B.x rfl (B.d d2_57) rfl k) ?_
  refine gs (mkF m 59 _ [(.int ((48 : Int32) + ((r2 - r2 / (10 : Int64) * (10 : Int64)).toInt32))), (.int (7 : Int32)), (.ref b1)]) (fun T A t k => XS.iadd A B.x rfl (B.d d2_58) rfl k) ?_
  refine gs (mkF m 60 _ [(.int (((48 : Int32) + ((r2 - r2 / (10 : Int64) * (10 : Int64)).toInt32)).toUInt32.toUInt16.toUInt32.toInt32)), (.int (7 : Int32)), (.ref b1)]) (fun T A t k => XS.i2c A B.x rfl (B.d d2_59) rfl k) ?_
  refine g_stC B V3 (x' := (dg r2)) (dgc n_r2.1) ⟨by decide, by decide⟩ (i := 7) rfl (Nat.le_of_ble_eq_true rfl) d2_60 nos (by omega) (q := 61) rfl ?_
  intro h4 W4 A4
  have z4 := W4.size
  have V4 : Arv Z h4 b1 k1 .char (10 : Int32) [(.int (0 : Int32)), (.int (0 : Int32)), (.int (0 : Int32)), (.int (0 : Int32)), (.int (0 : Int32)), (.int (0 : Int32)), (.int (0 : Int32)), (.int (dg r2)), (.int (dg r1)), (.int (dg q1))] (.int (0 : Int32)) := A4
  refine gs (mkF m 62 _ [(.long r2)]) (fun T A t k => XS.lloadN A B.x rfl (B.d d2_61) rfl k) ?_
  refine g_ldc2J B (hw _ (List.mem_of_getElem? (i := 11) rfl)) d2_62 (q := 65) rfl ?_
  refine gs (mkF m 66 _ [(.long (r2 / (10 : Int64)))]) (fun T A t k => XS.ldiv A B.x rfl (B.d d2_65) rfl (by decide) k) ?_
  refine gs (mkF m 67 #[.val (.long q1), .second, .val (.ref b1), .val (.long (r2 / (10 : Int64))), .second] []) (fun T A t k => XS.lstoreN A B.x rfl (B.d d2_66) rfl (l' := #[.val (.long q1), .second, .val (.ref b1), .val (.long (r2 / (10 : Int64))), .second]) rfl k) ?_
  generalize e_r3 : (r2 / (10 : Int64)) = r3
  have n_r3 := div10 n_r2.1 e_r3
  refine gs (mkF m 68 _ [(.ref b1)]) (fun T A t k => XS.aloadN A B.x rfl (B.d d2_67) rfl rfl k) ?_
  refine gs (mkF m 70 _ [(.int (6 : Int32)), (.ref b1)]) (fun T A t k => XS.bipush A B.x rfl (B.d d2_68) k) ?_
  refine gs (mkF m 72 _ [(.int (48 : Int32)), (.int (6 : Int32)), (.ref b1)]) (fun T A t k => XS.bipush A B.x rfl (B.d d2_70) k) ?_
  refine gs (mkF m 73 _ [(.long r3), (.int (48 : Int32)), (.int (6 : Int32)), (.ref b1)]) (fun T A t k => XS.lloadN A B.x rfl (B.d d2_72) rfl k) ?_
  refine g_ldc2J B (hw _ (List.mem_of_getElem? (i := 11) rfl)) d2_73 (q := 76) rfl ?_
  refine gs (mkF m 77 _ [(.long (r3 - r3 / (10 : Int64) * (10 : Int64))), (.int (48 : Int32)), (.int (6 : Int32)), (.ref b1)]) (fun T A t k => XS.lrem A B.x rfl (B.d d2_76) rfl (by decide) k) ?_
  refine gs (mkF m 78 _ [(.int ((r3 - r3 / (10 : Int64) * (10 : Int64)).toInt32)), (.int (48 : Int32)), (.int (6 : Int32)), (.ref b1)]) (fun T A t k => XS.l2i A B.x rfl (B.d d2_77) rfl k) ?_
  refine gs (mkF m 79 _ [(.int ((48 : Int32) + ((r3 - r3 / (10 : Int64) * (10 : Int64)).toInt32))), (.int (6 : Int32)), (.ref b1)]) (fun T A t k => XS.iadd A B.x rfl (B.d d2_78) rfl k) ?_
  refine gs (mkF m 80 _ [(.int (((48 : Int32) + ((r3 - r3 / (10 : Int64) * (10 : Int64)).toInt32)).toUInt32.toUInt16.toUInt32.toInt32)), (.int (6 : Int32)), (.ref b1)]) (fun T A t k => XS.i2c A B.x rfl (B.d d2_79) rfl k) ?_
  refine g_stC B V4 (x' := (dg r3)) (dgc n_r3.1) ⟨by decide, by decide⟩ (i := 6) rfl (Nat.le_of_ble_eq_true rfl) d2_80 nos (by omega) (q := 81) rfl ?_
  intro h5 W5 A5
  have z5 := W5.size
  have V5 : Arv Z h5 b1 k1 .char (10 : Int32) [(.int (0 : Int32)), (.int (0 : Int32)), (.int (0 : Int32)), (.int (0 : Int32)), (.int (0 : Int32)), (.int (0 : Int32)), (.int (dg r3)), (.int (dg r2)), (.int (dg r1)), (.int (dg q1))] (.int (0 : Int32)) := A5
  refine gs (mkF m 82 _ [(.long r3)]) (fun T A t k => XS.lloadN A B.x rfl (B.d d2_81) rfl k) ?_
  refine g_ldc2J B (hw _ (List.mem_of_getElem? (i := 11) rfl)) d2_82 (q := 85) rfl ?_
  refine gs (mkF m 86 _ [(.long (r3 / (10 : Int64)))]) (fun T A t k => XS.ldiv A B.x rfl (B.d d2_85) rfl (by decide) k) ?_
  refine gs (mkF m 87 #[.val (.long q1), .second, .val (.ref b1), .val (.long (r3 / (10 : Int64))), .second] []) (fun T A t k => XS.lstoreN A B.x rfl (B.d d2_86) rfl (l' := #[.val (.long q1), .second, .val (.ref b1), .val (.long (r3 / (10 : Int64))), .second]) rfl k) ?_
  generalize e_r4 : (r3 / (10 : Int64)) = r4
  have n_r4 := div10 n_r3.1 e_r4
  refine gs (mkF m 88 _ [(.ref b1)]) (fun T A t k => XS.aloadN A B.x rfl (B.d d2_87) rfl rfl k) ?_
  refine gs (mkF m 89 _ [(.int (5 : Int32)), (.ref b1)]) (fun T A t k => XS.iconst A B.x rfl (B.d d2_88) k) ?_
  refine gs (mkF m 91 _ [(.int (48 : Int32)), (.int (5 : Int32)), (.ref b1)]) (fun T A t k => XS.bipush A B.x rfl (B.d d2_89) k) ?_
  refine gs (mkF m 92 _ [(.long r4), (.int (48 : Int32)), (.int (5 : Int32)), (.ref b1)]) (fun T A t k => XS.lloadN A B.x rfl (B.d d2_91) rfl k) ?_
  refine g_ldc2J B (hw _ (List.mem_of_getElem? (i := 11) rfl)) d2_92 (q := 95) rfl ?_
  refine gs (mkF m 96 _ [(.long (r4 - r4 / (10 : Int64) * (10 : Int64))), (.int (48 : Int32)), (.int (5 : Int32)), (.ref b1)]) (fun T A t k => XS.lrem A B.x rfl (B.d d2_95) rfl (by decide) k) ?_
  refine gs (mkF m 97 _ [(.int ((r4 - r4 / (10 : Int64) * (10 : Int64)).toInt32)), (.int (48 : Int32)), (.int (5 : Int32)), (.ref b1)]) (fun T A t k => XS.l2i A B.x rfl (B.d d2_96) rfl k) ?_
  refine gs (mkF m 98 _ [(.int ((48 : Int32) + ((r4 - r4 / (10 : Int64) * (10 : Int64)).toInt32))), (.int (5 : Int32)), (.ref b1)]) (fun T A t k => XS.iadd A B.x rfl (B.d d2_97) rfl k) ?_
  refine gs (mkF m 99 _ [(.int (((48 : Int32) + ((r4 - r4 / (10 : Int64) * (10 : Int64)).toInt32)).toUInt32.toUInt16.toUInt32.toInt32)), (.int (5 : Int32)), (.ref b1)]) (fun T A t k => XS.i2c A B.x rfl (B.d d2_98) rfl k) ?_
  refine g_stC B V5 (x' := (dg r4)) (dgc n_r4.1) ⟨by decide, by decide⟩ (i := 5) rfl (Nat.le_of_ble_eq_true rfl) d2_99 nos (by omega) (q := 100) rfl ?_
  intro h6 W6 A6
  have z6 := W6.size
  have V6 : Arv Z h6 b1 k1 .char (10 : Int32) [(.int (0 : Int32)), (.int (0 : Int32)), (.int (0 : Int32)), (.int (0 : Int32)), (.int (0 : Int32)), (.int (dg r4)), (.int (dg r3)), (.int (dg r2)), (.int (dg r1)), (.int (dg q1))] (.int (0 : Int32)) := A6
  refine gs (mkF m 101 _ [(.long r4)]) (fun T A t k => XS.lloadN A B.x rfl (B.d d2_100) rfl k) ?_
  refine g_ldc2J B (hw _ (List.mem_of_getElem? (i := 11) rfl)) d2_101 (q := 104) rfl ?_
  refine gs (mkF m 105 _ [(.long (r4 / (10 : Int64)))]) (fun T A t k => XS.ldiv A B.x rfl (B.d d2_104) rfl (by decide) k) ?_
  refine gs (mkF m 106 #[.val (.long q1), .second, .val (.ref b1), .val (.long (r4 / (10 : Int64))), .second] []) (fun T A t k => XS.lstoreN A B.x rfl (B.d d2_105) rfl (l' := #[.val (.long q1), .second, .val (.ref b1), .val (.long (r4 / (10 : Int64))), .second]) rfl k) ?_
  generalize e_r5 : (r4 / (10 : Int64)) = r5
  have n_r5 := div10 n_r4.1 e_r5
  refine gs (mkF m 107 _ [(.ref b1)]) (fun T A t k => XS.aloadN A B.x rfl (B.d d2_106) rfl rfl k) ?_
  refine gs (mkF m 108 _ [(.int (4 : Int32)), (.ref b1)]) (fun T A t k => XS.iconst A B.x rfl (B.d d2_107) k) ?_
  refine gs (mkF m 110 _ [(.int (48 : Int32)), (.int (4 : Int32)), (.ref b1)]) (fun T A t k => XS.bipush A B.x rfl (B.d d2_108) k) ?_
  refine gs (mkF m 111 _ [(.long r5), (.int (48 : Int32)), (.int (4 : Int32)), (.ref b1)]) (fun T A t k => XS.lloadN A B.x rfl (B.d d2_110) rfl k) ?_
  refine g_ldc2J B (hw _ (List.mem_of_getElem? (i := 11) rfl)) d2_111 (q := 114) rfl ?_
  refine gs (mkF m 115 _ [(.long (r5 - r5 / (10 : Int64) * (10 : Int64))), (.int (48 : Int32)), (.int (4 : Int32)), (.ref b1)]) (fun T A t k => XS.lrem A B.x rfl (B.d d2_114) rfl (by decide) k) ?_
  refine gs (mkF m 116 _ [(.int ((r5 - r5 / (10 : Int64) * (10 : Int64)).toInt32)), (.int (48 : Int32)), (.int (4 : Int32)), (.ref b1)]) (fun T A t k => XS.l2i A B.x rfl (B.d d2_115) rfl k) ?_
  refine gs (mkF m 117 _ [(.int ((48 : Int32) + ((r5 - r5 / (10 : Int64) * (10 : Int64)).toInt32))), (.int (4 : Int32)), (.ref b1)]) (fun T A t k => XS.iadd A B.x rfl (B.d d2_116) rfl k) ?_
  refine gs (mkF m 118 _ [(.int (((48 : Int32) + ((r5 - r5 / (10 : Int64) * (10 : Int64)).toInt32)).toUInt32.toUInt16.toUInt32.toInt32)), (.int (4 : Int32)), (.ref b1)]) (fun T A t k => XS.i2c A B.x rfl (B.d d2_117) rfl k) ?_
  refine g_stC B V6 (x' := (dg r5)) (dgc n_r5.1) ⟨by decide, by decide⟩ (i := 4) rfl (Nat.le_of_ble_eq_true rfl) d2_118 nos (by omega) (q := 119) rfl ?_
  intro h7 W7 A7
  have z7 := W7.size
  have V7 : Arv Z h7 b1 k1 .char (10 : Int32) [(.int (0 : Int32)), (.int (0 : Int32)), (.int (0 : Int32)), (.int (0 : Int32)), (.int (dg r5)), (.int (dg r4)), (.int (dg r3)), (.int (dg r2)), (.int (dg r1)), (.int (dg q1))] (.int (0 : Int32)) := A7
  refine gs (mkF m 120 _ [(.long r5)]) (fun T A t k => XS.lloadN A B.x rfl (B.d d2_119) rfl k) ?_
  refine g_ldc2J B (hw _ (List.mem_of_getElem? (i := 11) rfl)) d2_120 (q := 123) rfl ?_
  refine gs (mkF m 124 _ [(.long (r5 / (10 : Int64)))]) (fun T A t k => XS.ldiv A B.x rfl (B.d d2_123) rfl (by decide) k) ?_
  refine gs (mkF m 125 #[.val (.long q1), .second, .val (.ref b1), .val (.long (r5 / (10 : Int64))), .second] []) (fun T A t k => XS.lstoreN A B.x rfl (B.d d2_124) rfl (l' := #[.val (.long q1), .second, .val (.ref b1), .val (.long (r5 / (10 : Int64))), .second]) rfl k) ?_
  generalize e_r6 : (r5 / (10 : Int64)) = r6
  have n_r6 := div10 n_r5.1 e_r6
  refine gs (mkF m 126 _ [(.ref b1)]) (fun T A t k => XS.aloadN A B.x rfl (B.d d2_125) rfl rfl k) ?_
  refine gs (mkF m 127 _ [(.int (3 : Int32)), (.ref b1)]) (fun T A t k => XS.iconst A B.x rfl (B.d d2_126) k) ?_
  refine gs (mkF m 129 _ [(.int (48 : Int32)), (.int (3 : Int32)), (.ref b1)]) (fun T A t k => XS.bipush A B.x rfl (B.d d2_127) k) ?_
  refine gs (mkF m 130 _ [(.long r6), (.int (48 : Int32)), (.int (3 : Int32)), (.ref b1)]) (fun T A t k => XS.lloadN A B.x rfl (B.d d2_129) rfl k) ?_
  refine g_ldc2J B (hw _ (List.mem_of_getElem? (i := 11) rfl)) d2_130 (q := 133) rfl ?_
  refine gs (mkF m 134 _ [(.long (r6 - r6 / (10 : Int64) * (10 : Int64))), (.int (48 : Int32)), (.int (3 : Int32)), (.ref b1)]) (fun T A t k => XS.lrem A B.x rfl (B.d d2_133) rfl (by decide) k) ?_
  refine gs (mkF m 135 _ [(.int ((r6 - r6 / (10 : Int64) * (10 : Int64)).toInt32)), (.int (48 : Int32)), (.int (3 : Int32)), (.ref b1)]) (fun T A t k => XS.l2i A B.x rfl (B.d d2_134) rfl k) ?_
  refine gs (mkF m 136 _ [(.int ((48 : Int32) + ((r6 - r6 / (10 : Int64) * (10 : Int64)).toInt32))), (.int (3 : Int32)), (.ref b1)]) (fun T A t k => XS.iadd A B.x rfl (B.d d2_135) rfl k) ?_
  refine gs (mkF m 137 _ [(.int (((48 : Int32) + ((r6 - r6 / (10 : Int64) * (10 : Int64)).toInt32)).toUInt32.toUInt16.toUInt32.toInt32)), (.int (3 : Int32)), (.ref b1)]) (fun T A t k => XS.i2c A B.x rfl (B.d d2_136) rfl k) ?_
  refine g_stC B V7 (x' := (dg r6)) (dgc n_r6.1) ⟨by decide, by decide⟩ (i := 3) rfl (Nat.le_of_ble_eq_true rfl) d2_137 nos (by omega) (q := 138) rfl ?_
  intro h8 W8 A8
  have z8 := W8.size
  have V8 : Arv Z h8 b1 k1 .char (10 : Int32) [(.int (0 : Int32)), (.int (0 : Int32)), (.int (0 : Int32)), (.int (dg r6)), (.int (dg r5)), (.int (dg r4)), (.int (dg r3)), (.int (dg r2)), (.int (dg r1)), (.int (dg q1))] (.int (0 : Int32)) := A8
  refine gs (mkF m 139 _ [(.long r6)]) (fun T A t k => XS.lloadN A B.x rfl (B.d d2_138) rfl k) ?_
  refine g_ldc2J B (hw _ (List.mem_of_getElem? (i := 11) rfl)) d2_139 (q := 142) rfl ?_
  refine gs (mkF m 143 _ [(.long (r6 / (10 : Int64)))]) (fun T A t k => XS.ldiv A B.x rfl (B.d d2_142) rfl (by decide) k) ?_
  refine gs (mkF m 144 #[.val (.long q1), .second, .val (.ref b1), .val (.long (r6 / (10 : Int64))), .second] []) (fun T A t k => XS.lstoreN A B.x rfl (B.d d2_143) rfl (l' := #[.val (.long q1), .second, .val (.ref b1), .val (.long (r6 / (10 : Int64))), .second]) rfl k) ?_
  generalize e_r7 : (r6 / (10 : Int64)) = r7
  have n_r7 := div10 n_r6.1 e_r7
  refine gs (mkF m 145 _ [(.ref b1)]) (fun T A t k => XS.aloadN A B.x rfl (B.d d2_144) rfl rfl k) ?_
  refine gs (mkF m 146 _ [(.int (2 : Int32)), (.ref b1)]) (fun T A t k => XS.iconst A B.x rfl (B.d d2_145) k) ?_
  refine gs (mkF m 148 _ [(.int (48 : Int32)), (.int (2 : Int32)), (.ref b1)]) (fun T A t k => XS.bipush A B.x rfl (B.d d2_146) k) ?_
  refine gs (mkF m 149 _ [(.long r7), (.int (48 : Int32)), (.int (2 : Int32)), (.ref b1)]) (fun T A t k => XS.lloadN A B.x rfl (B.d d2_148) rfl k) ?_
  refine g_ldc2J B (hw _ (List.mem_of_getElem? (i := 11) rfl)) d2_149 (q := 152) rfl ?_
  refine gs (mkF m 153 _ [(.long (r7 - r7 / (10 : Int64) * (10 : Int64))), (.int (48 : Int32)), (.int (2 : Int32)), (.ref b1)]) (fun T A t k => XS.lrem A B.x rfl (B.d d2_152) rfl (by decide) k) ?_
  refine gs (mkF m 154 _ [(.int ((r7 - r7 / (10 : Int64) * (10 : Int64)).toInt32)), (.int (48 : Int32)), (.int (2 : Int32)), (.ref b1)]) (fun T A t k => XS.l2i A B.x rfl (B.d d2_153) rfl k) ?_
  refine gs (mkF m 155 _ [(.int ((48 : Int32) + ((r7 - r7 / (10 : Int64) * (10 : Int64)).toInt32))), (.int (2 : Int32)), (.ref b1)]) (fun T A t k => XS.iadd A B.x rfl (B.d d2_154) rfl k) ?_
  refine gs (mkF m 156 _ [(.int (((48 : Int32) + ((r7 - r7 / (10 : Int64) * (10 : Int64)).toInt32)).toUInt32.toUInt16.toUInt32.toInt32)), (.int (2 : Int32)), (.ref b1)]) (fun T A t k => XS.i2c A B.x rfl (B.d d2_155) rfl k) ?_
  refine g_stC B V8 (x' := (dg r7)) (dgc n_r7.1) ⟨by decide, by decide⟩ (i := 2) rfl (Nat.le_of_ble_eq_true rfl) d2_156 nos (by omega) (q := 157) rfl ?_
  intro h9 W9 A9
  have z9 := W9.size
  have V9 : Arv Z h9 b1 k1 .char (10 : Int32) [(.int (0 : Int32)), (.int (0 : Int32)), (.int (dg r7)), (.int (dg r6)), (.int (dg r5)), (.int (dg r4)), (.int (dg r3)), (.int (dg r2)), (.int (dg r1)), (.int (dg q1))] (.int (0 : Int32)) := A9
  refine gs (mkF m 158 _ [(.long r7)]) (fun T A t k => XS.lloadN A B.x rfl (B.d d2_157) rfl k) ?_
  refine g_ldc2J B (hw _ (List.mem_of_getElem? (i := 11) rfl)) d2_158 (q := 161) rfl ?_
  refine gs (mkF m 162 _ [(.long (r7 / (10 : Int64)))]) (fun T A t k => XS.ldiv A B.x rfl (B.d d2_161) rfl (by decide) k) ?_
  refine gs (mkF m 163 #[.val (.long q1), .second, .val (.ref b1), .val (.long (r7 / (10 : Int64))), .second] []) (fun T A t k => XS.lstoreN A B.x rfl (B.d d2_162) rfl (l' := #[.val (.long q1), .second, .val (.ref b1), .val (.long (r7 / (10 : Int64))), .second]) rfl k) ?_
  generalize e_r8 : (r7 / (10 : Int64)) = r8
  have n_r8 := div10 n_r7.1 e_r8
  refine gs (mkF m 164 _ [(.ref b1)]) (fun T A t k => XS.aloadN A B.x rfl (B.d d2_163) rfl rfl k) ?_
  refine gs (mkF m 165 _ [(.int (1 : Int32)), (.ref b1)]) (fun T A t k => XS.iconst A B.x rfl (B.d d2_164) k) ?_
  refine gs (mkF m 167 _ [(.int (48 : Int32)), (.int (1 : Int32)), (.ref b1)]) (fun T A t k => XS.bipush A B.x rfl (B.d d2_165) k) ?_
  refine gs (mkF m 168 _ [(.long r8), (.int (48 : Int32)), (.int (1 : Int32)), (.ref b1)]) (fun T A t k => XS.lloadN A B.x rfl (B.d d2_167) rfl k) ?_
  refine g_ldc2J B (hw _ (List.mem_of_getElem? (i := 11) rfl)) d2_168 (q := 171) rfl ?_
  refine gs (mkF m 172 _ [(.long (r8 - r8 / (10 : Int64) * (10 : Int64))), (.int (48 : Int32)), (.int (1 : Int32)), (.ref b1)]) (fun T A t k => XS.lrem A B.x rfl (B.d d2_171) rfl (by decide) k) ?_
  refine gs (mkF m 173 _ [(.int ((r8 - r8 / (10 : Int64) * (10 : Int64)).toInt32)), (.int (48 : Int32)), (.int (1 : Int32)), (.ref b1)]) (fun T A t k => XS.l2i A B.x rfl (B.d d2_172) rfl k) ?_
  refine gs (mkF m 174 _ [(.int ((48 : Int32) + ((r8 - r8 / (10 : Int64) * (10 : Int64)).toInt32))), (.int (1 : Int32)), (.ref b1)]) (fun T A t k => XS.iadd A B.x rfl (B.d d2_173) rfl k) ?_
  refine gs (mkF m 175 _ [(.int (((48 : Int32) + ((r8 - r8 / (10 : Int64) * (10 : Int64)).toInt32)).toUInt32.toUInt16.toUInt32.toInt32)), (.int (1 : Int32)), (.ref b1)]) (fun T A t k => XS.i2c A B.x rfl (B.d d2_174) rfl k) ?_
  refine g_stC B V9 (x' := (dg r8)) (dgc n_r8.1) ⟨by decide, by decide⟩ (i := 1) rfl (Nat.le_of_ble_eq_true rfl) d2_175 nos (by omega) (q := 176) rfl ?_
  intro h10 W10 A10
  have z10 := W10.size
  have V10 : Arv Z h10 b1 k1 .char (10 : Int32) [(.int (0 : Int32)), (.int (dg r8)), (.int (dg r7)), (.int (dg r6)), (.int (dg r5)), (.int (dg r4)), (.int (dg r3)), (.int (dg r2)), (.int (dg r1)), (.int (dg q1))] (.int (0 : Int32)) := A10
  refine gs (mkF m 177 _ [(.long r8)]) (fun T A t k => XS.lloadN A B.x rfl (B.d d2_176) rfl k) ?_
  refine g_ldc2J B (hw _ (List.mem_of_getElem? (i := 11) rfl)) d2_177 (q := 180) rfl ?_
  refine gs (mkF m 181 _ [(.long (r8 / (10 : Int64)))]) (fun T A t k => XS.ldiv A B.x rfl (B.d d2_180) rfl (by decide) k) ?_
  refine gs (mkF m 182 #[.val (.long q1), .second, .val (.ref b1), .val (.long (r8 / (10 : Int64))), .second] []) (fun T A t k => XS.lstoreN A B.x rfl (B.d d2_181) rfl (l' := #[.val (.long q1), .second, .val (.ref b1), .val (.long (r8 / (10 : Int64))), .second]) rfl k) ?_
  generalize e_r9 : (r8 / (10 : Int64)) = r9
  have n_r9 := div10 n_r8.1 e_r9
  refine gs (mkF m 183 _ [(.ref b1)]) (fun T A t k => XS.aloadN A B.x rfl (B.d d2_182) rfl rfl k) ?_
  refine gs (mkF m 184 _ [(.int (0 : Int32)), (.ref b1)]) (fun T A t k => XS.iconst A B.x rfl (B.d d2_183) k) ?_
  refine gs (mkF m 186 _ [(.int (48 : Int32)), (.int (0 : Int32)), (.ref b1)]) (fun T A t k => XS.bipush A B.x rfl (B.d d2_184) k) ?_
  refine gs (mkF m 187 _ [(.long r9), (.int (48 : Int32)), (.int (0 : Int32)), (.ref b1)]) (fun T A t k => XS.lloadN A B.x rfl (B.d d2_186) rfl k) ?_
  refine g_ldc2J B (hw _ (List.mem_of_getElem? (i := 11) rfl)) d2_187 (q := 190) rfl ?_
  refine gs (mkF m 191 _ [(.long (r9 - r9 / (10 : Int64) * (10 : Int64))), (.int (48 : Int32)), (.int (0 : Int32)), (.ref b1)]) (fun T A t k => XS.lrem A B.x rfl (B.d d2_190) rfl (by decide) k) ?_
  refine gs (mkF m 192 _ [(.int ((r9 - r9 / (10 : Int64) * (10 : Int64)).toInt32)), (.int (48 : Int32)), (.int (0 : Int32)), (.ref b1)]) (fun T A t k => XS.l2i A B.x rfl (B.d d2_191) rfl k) ?_
  refine gs (mkF m 193 _ [(.int ((48 : Int32) + ((r9 - r9 / (10 : Int64) * (10 : Int64)).toInt32))), (.int (0 : Int32)), (.ref b1)]) (fun T A t k => XS.iadd A B.x rfl (B.d d2_192) rfl k) ?_
  refine gs (mkF m 194 _ [(.int (((48 : Int32) + ((r9 - r9 / (10 : Int64) * (10 : Int64)).toInt32)).toUInt32.toUInt16.toUInt32.toInt32)), (.int (0 : Int32)), (.ref b1)]) (fun T A t k => XS.i2c A B.x rfl (B.d d2_193) rfl k) ?_
  refine g_stC B V10 (x' := (dg r9)) (dgc n_r9.1) ⟨by decide, by decide⟩ (i := 0) rfl (Nat.le_of_ble_eq_true rfl) d2_194 nos (by omega) (q := 195) rfl ?_
  intro h11 W11 A11
  have z11 := W11.size
  have V11 : Arv Z h11 b1 k1 .char (10 : Int32) [(.int (dg r9)), (.int (dg r8)), (.int (dg r7)), (.int (dg r6)), (.int (dg r5)), (.int (dg r4)), (.int (dg r3)), (.int (dg r2)), (.int (dg r1)), (.int (dg q1))] (.int (0 : Int32)) := A11
  refine g_newO B (hw _ (List.mem_of_getElem? (i := 12) rfl)) (hw _ (List.mem_of_getElem? (i := 13) rfl)) (hw _ (List.mem_of_getElem? (i := 14) rfl)) d2_195 (by decide) (by decide) (q := 198) rfl ?_
  intro h12 b12 g12 E12 S12 A12 D12
  have z12 := E12.1; have y12 : @LT.lt Nat _ b12 h12.size := A12.lt
  have F12_coder : Fld Z h12 b12 "java/lang/String" "coder" "B" (.int (0 : Int32)) := D12 (Or.inr (hw _ (List.mem_of_getElem? (i := 38) rfl))) (ty := .byte) (by decide)
  have F12_value : Fld Z h12 b12 "java/lang/String" "value" "[B" .null := D12 (Or.inr (hw _ (List.mem_of_getElem? (i := 40) rfl))) (ty := (.array .byte)) (by decide)
  refine gs (mkF m 199 _ [(.ref b12), (.ref b12)]) (fun T A t k => XS.dup A B.x rfl (B.d d2_198) rfl rfl k) ?_
  refine gs (mkF m 200 _ [(.ref b1), (.ref b12), (.ref b12)]) (fun T A t k => XS.aloadN A B.x rfl (B.d d2_199) rfl rfl k) ?_
  refine g_pay (Q' := fun v h' L => v = none ∧ Fr n0 L ∧ Keep h12 h' [b12] ∧ ∃ t : Addr, @Eq Nat t h12.size ∧ Str Z h' b12 t [(dg r9), (dg r8), (dg r7), (dg r6), (dg r5), (dg r4), (dg r3), (dg r2), (dg r1), (dg q1)]) (k := 1) (n := 10) (c_init B rfl (hw _ (List.mem_of_getElem? (i := 15) rfl)) (hw _ (List.mem_of_getElem? (i := 16) rfl)) (hw _ (List.mem_of_getElem? (i := 17) rfl)) (by decide) rfl (lenOf pd_285bC29V rfl) rfl (Nat.le_of_eq rfl) d2_200 rfl (argsL := [(.ref b1)]) (rest := [(.ref b12)]) (W := 1) (q := 203)) (fun hZ => own_new [(dg r9), (dg r8), (dg r7), (dg r6), (dg r5), (dg r4), (dg r3), (dg r2), (dg r1), (dg q1)] 10 hZ (fun d hd => hw d (own_wnew d hd)) (hw _ (List.mem_of_getElem? (i := 13) rfl)) (n0 := n0) (by omega) (by omega) A12 F12_value F12_coder (V11.ext E12) (SC.ext ((((((((((((PO.ext E1).wr W2 (by omega)).wr W3 (by omega)).wr W4 (by omega)).wr W5 (by omega)).wr W6 (by omega)).wr W7 (by omega)).wr W8 (by omega)).wr W9 (by omega)).wr W10 (by omega)).wr W11 (by omega)).ext E12).2) hzc rfl rfl (by decide) (by decide) (dgp n_r9.1 n_r8.1 n_r7.1 n_r6.1 n_r5.1 n_r4.1 n_r3.1 n_r2.1 n_r1.1 hk) (by decide) (by decide)) (by decide) (by decide) (fun v h' L q => ⟨q.2.1, [b12], q.2.2.1, fun z hz => by cases List.mem_singleton.mp hz; exact nos⟩) ?_
  rintro v13 h13 L13 ⟨rfl, -, K13, t13, e13, X13⟩
  have z13 := K13.1; have y13 := X13.lt; have x13 := X13.lt'
  subst e_r9 e_r8 e_r7 e_r6 e_r5 e_r4 e_r3 e_r2 e_r1
  exact g_retA B rfl rfl d2_203 (by decide) (by decide) ⟨_, _, rfl, ((((((((((((((Keep.refl h0 []).ext E1).wr W2 (Or.inr (by omega))).wr W3 (Or.inr (by omega))).wr W4 (Or.inr (by omega))).wr W5 (Or.inr (by omega))).wr W6 (Or.inr (by omega))).wr W7 (Or.inr (by omega))).wr W8 (Or.inr (by omega))).wr W9 (Or.inr (by omega))).wr W10 (Or.inr (by omega))).wr W11 (Or.inr (by omega))).ext E12).trans K13 (allS (Or.inr (by omega)) all0)), (by omega), (by omega), X13⟩
theorem pn_java_util_Arrays : plainName "java/util/Arrays" = true := by first | (simp [plainName, overriddenIn]; done) | decide +kernel
theorem d11_0 : decode jdk_65_method_101_code 0 = .ok (.iconst 0, 1) := by decide +kernel
theorem d11_1 : decode jdk_65_method_101_code 1 = .ok (.istore_n 3, 1) := by decide +kernel
theorem d11_2 : decode jdk_65_method_101_code 2 = .ok (.aload_n 0, 1) := by decide +kernel
theorem d11_3 : decode jdk_65_method_101_code 3 = .ok (.arraylength, 1) := by decide +kernel
theorem d11_4 : decode jdk_65_method_101_code 4 = .ok (.istore 4, 2) := by decide +kernel
theorem d11_6 : decode jdk_65_method_101_code 6 = .ok (.iload_n 3, 1) := by decide +kernel
theorem d11_7 : decode jdk_65_method_101_code 7 = .ok (.iload 4, 2) := by decide +kernel
theorem d11_9 : decode jdk_65_method_101_code 9 = .ok (.if_icmp .ge 13, 3) := by decide +kernel
theorem d11_12 : decode jdk_65_method_101_code 12 = .ok (.aload_n 0, 1) := by decide +kernel
theorem d11_13 : decode jdk_65_method_101_code 13 = .ok (.iload_n 3, 1) := by decide +kernel
theorem d11_14 : decode jdk_65_method_101_code 14 = .ok (.lload_n 1, 1) := by decide +kernel
theorem d11_15 : decode jdk_65_method_101_code 15 = .ok (.lastore, 1) := by decide +kernel
theorem d11_16 : decode jdk_65_method_101_code 16 = .ok (.iinc 3 1, 3) := by decide +kernel
theorem d11_19 : decode jdk_65_method_101_code 19 = .ok (.goto (-13), 3) := by decide +kernel
theorem d11_22 : decode jdk_65_method_101_code 22 = .ok (.return_, 1) := by decide +kernel
set_option maxRecDepth 65536 in
set_option maxHeartbeats 40000000 in
theorem own_fill (l : Launch) (Z : State) (a0 : Array Value) (hw : ∀ d ∈ tables_1, d.before a0 Z = true) (hEL : EW Z a0 []) (a1 : Addr) (q1 : Int64) (k0 : ClassId) (h0 : Heap) (n0 : Nat) (PV : Arv Z h0 a1 k0 .long 16 (List.replicate 16 (.long 0)) (.long 0)) (hn : n0 ≤ a1) :
    Met false Z [] l (⟨"java/util/Arrays", "fill", "([JJ)V"⟩ : MethodName) jdk_65_method_101_code 5 none ({ frames := 0, cells := 0, slots := 0, locals := 0 } : Room) #[(.ref a1), (.long q1)] h0 [] n0 (fun v h => v = none ∧ Keep h0 h [a1] ∧ Arv Z h a1 k0 .long 16 (List.replicate 16 (.long q1)) (.long 0)) := by
  refine Met.of (a0 := a0) (Ls := #[.val (.ref a1), .val (.long q1), .second, .unset, .unset]) (fun z => rfl) (plainFor_of_name pn_java_util_Arrays) hEL (fun m => by first | (simp [entryFrame, mkF, argsToLocals, Value.category]; done) | rfl) ?_
  intro p e s m below meth c B hSf
  have V0 : Arv Z h0 a1 k0 .long (16 : Int32) [(.long (0 : Int64)), (.long (0 : Int64)), (.long (0 : Int64)), (.long (0 : Int64)), (.long (0 : Int64)), (.long (0 : Int64)), (.long (0 : Int64)), (.long (0 : Int64)), (.long (0 : Int64)), (.long (0 : Int64)), (.long (0 : Int64)), (.long (0 : Int64)), (.long (0 : Int64)), (.long (0 : Int64)), (.long (0 : Int64)), (.long (0 : Int64))] (.long (0 : Int64)) := PV
  refine gs (mkF m 1 _ [(.int (0 : Int32))]) (fun T A t k => XS.iconst A B.x rfl (B.d d11_0) k) ?_
  refine gs (mkF m 2 #[.val (.ref a1), .val (.long q1), .second, .val (.int (0 : Int32)), .unset] []) (fun T A t k => XS.istoreN A B.x rfl (B.d d11_1) rfl (l' := #[.val (.ref a1), .val (.long q1), .second, .val (.int (0 : Int32)), .unset]) rfl k) ?_
  refine gs (mkF m 3 _ [(.ref a1)]) (fun T A t k => XS.aloadN A B.x rfl (B.d d11_2) rfl rfl k) ?_
  refine g_len B V0 d11_3 (q := 4) rfl ?_
  refine gs (mkF m 6 #[.val (.ref a1), .val (.long q1), .second, .val (.int (0 : Int32)), .val (.int (16 : Int32))] []) (fun T A t k => XS.istore A B.x rfl (B.d d11_4) rfl (l' := #[.val (.ref a1), .val (.long q1), .second, .val (.int (0 : Int32)), .val (.int (16 : Int32))]) rfl k) ?_
  refine gs (mkF m 7 _ [(.int (0 : Int32))]) (fun T A t k => XS.iloadN A B.x rfl (B.d d11_6) rfl k) ?_
  refine gs (mkF m 9 _ [(.int (16 : Int32)), (.int (0 : Int32))]) (fun T A t k => XS.iload A B.x rfl (B.d d11_7) rfl k) ?_
  refine gs (mkF m 12 _ []) (fun T A t k => XS.icmpNo A B.x rfl (B.d d11_9) rfl (tlt (by decide : (0 : Int32) < (16 : Int32))).2.1 k) ?_
  refine gs (mkF m 13 _ [(.ref a1)]) (fun T A t k => XS.aloadN A B.x rfl (B.d d11_12) rfl rfl k) ?_
  refine gs (mkF m 14 _ [(.int (0 : Int32)), (.ref a1)]) (fun T A t k => XS.iloadN A B.x rfl (B.d d11_13) rfl k) ?_
  refine gs (mkF m 15 _ [(.long q1), (.int (0 : Int32)), (.ref a1)]) (fun T A t k => XS.lloadN A B.x rfl (B.d d11_14) rfl k) ?_
  refine g_stJ B V0 ⟨by decide, by decide⟩ (i := 0) rfl (Nat.le_of_ble_eq_true rfl) d11_15 nos (by omega) (q := 16) rfl ?_
  intro h1 W1 A1
  have z1 := W1.size
  have V1 : Arv Z h1 a1 k0 .long (16 : Int32) [(.long q1), (.long (0 : Int64)), (.long (0 : Int64)), (.long (0 : Int64)), (.long (0 : Int64)), (.long (0 : Int64)), (.long (0 : Int64)), (.long (0 : Int64)), (.long (0 : Int64)), (.long (0 : Int64)), (.long (0 : Int64)), (.long (0 : Int64)), (.long (0 : Int64)), (.long (0 : Int64)), (.long (0 : Int64)), (.long (0 : Int64))] (.long (0 : Int64)) := A1
  refine gs (mkF m 19 #[.val (.ref a1), .val (.long q1), .second, .val (.int (1 : Int32)), .val (.int (16 : Int32))] []) (fun T A t k => XS.iinc A B.x rfl (B.d d11_16) rfl (l' := #[.val (.ref a1), .val (.long q1), .second, .val (.int (1 : Int32)), .val (.int (16 : Int32))]) rfl k) ?_
  refine gs (mkF m 6 _ []) (fun T A t k => XS.goto A B.x rfl (pc0 := 19) (pc' := 6) rfl (B.d d11_19) (by decide) (by decide) k) ?_
  refine gs (mkF m 7 _ [(.int (1 : Int32))]) (fun T A t k => XS.iloadN A B.x rfl (B.d d11_6) rfl k) ?_
  refine gs (mkF m 9 _ [(.int (16 : Int32)), (.int (1 : Int32))]) (fun T A t k => XS.iload A B.x rfl (B.d d11_7) rfl k) ?_
  refine gs (mkF m 12 _ []) (fun T A t k => XS.icmpNo A B.x rfl (B.d d11_9) rfl (tlt (by decide : (1 : Int32) < (16 : Int32))).2.1 k) ?_
  refine gs (mkF m 13 _ [(.ref a1)]) (fun T A t k => XS.aloadN A B.x rfl (B.d d11_12) rfl rfl k) ?_
  refine gs (mkF m 14 _ [(.int (1 : Int32)), (.ref a1)]) (fun T A t k => XS.iloadN A B.x rfl (B.d d11_13) rfl k) ?_
  refine gs (mkF m 15 _ [(.long q1), (.int (1 : Int32)), (.ref a1)]) (fun T A t k => XS.lloadN A B.x rfl (B.d d11_14) rfl k) ?_
  refine g_stJ B V1 ⟨by decide, by decide⟩ (i := 1) rfl (Nat.le_of_ble_eq_true rfl) d11_15 nos (by omega) (q := 16) rfl ?_
  intro h2 W2 A2
  have z2 := W2.size
  have V2 : Arv Z h2 a1 k0 .long (16 : Int32) [(.long q1), (.long q1), (.long (0 : Int64)), (.long (0 : Int64)), (.long (0 : Int64)), (.long (0 : Int64)), (.long (0 : Int64)), (.long (0 : Int64)), (.long (0 : Int64)), (.long (0 : Int64)), (.long (0 : Int64)), (.long (0 : Int64)), (.long (0 : Int64)), (.long (0 : Int64)), (.long (0 : Int64)), (.long (0 : Int64))] (.long (0 : Int64)) := A2
  refine gs (mkF m 19 #[.val (.ref a1), .val (.long q1), .second, .val (.int (2 : Int32)), .val (.int (16 : Int32))] []) (fun T A t k => XS.iinc A B.x rfl (B.d d11_16) rfl (l' := #[.val (.ref a1), .val (.long q1), .second, .val (.int (2 : Int32)), .val (.int (16 : Int32))]) rfl k) ?_
  refine gs (mkF m 6 _ []) (fun T A t k => XS.goto A B.x rfl (pc0 := 19) (pc' := 6) rfl (B.d d11_19) (by decide) (by decide) k) ?_
  refine gs (mkF m 7 _ [(.int (2 : Int32))]) (fun T A t k => XS.iloadN A B.x rfl (B.d d11_6) rfl k) ?_
  refine gs (mkF m 9 _ [(.int (16 : Int32)), (.int (2 : Int32))]) (fun T A t k => XS.iload A B.x rfl (B.d d11_7) rfl k) ?_
  refine gs (mkF m 12 _ []) (fun T A t k => XS.icmpNo A B.x rfl (B.d d11_9) rfl (tlt (by decide : (2 : Int32) < (16 : Int32))).2.1 k) ?_
  refine gs (mkF m 13 _ [(.ref a1)]) (fun T A t k => XS.aloadN A B.x rfl (B.d d11_12) rfl rfl k) ?_
  refine gs (mkF m 14 _ [(.int (2 : Int32)), (.ref a1)]) (fun T A t k => XS.iloadN A B.x rfl (B.d d11_13) rfl k) ?_
  refine gs (mkF m 15 _ [(.long q1), (.int (2 : Int32)), (.ref a1)]) (fun T A t k => XS.lloadN A B.x rfl (B.d d11_14) rfl k) ?_
  refine g_stJ B V2 ⟨by decide, by decide⟩ (i := 2) rfl (Nat.le_of_ble_eq_true rfl) d11_15 nos (by omega) (q := 16) rfl ?_
  intro h3 W3 A3
  have z3 := W3.size
  have V3 : Arv Z h3 a1 k0 .long (16 : Int32) [(.long q1), (.long q1), (.long q1), (.long (0 : Int64)), (.long (0 : Int64)), (.long (0 : Int64)), (.long (0 : Int64)), (.long (0 : Int64)), (.long (0 : Int64)), (.long (0 : Int64)), (.long (0 : Int64)), (.long (0 : Int64)), (.long (0 : Int64)), (.long (0 : Int64)), (.long (0 : Int64)), (.long (0 : Int64))] (.long (0 : Int64)) := A3
  refine gs (mkF m 19 #[.val (.ref a1), .val (.long q1), .second, .val (.int (3 : Int32)), .val (.int (16 : Int32))] []) (fun T A t k => XS.iinc A B.x rfl (B.d d11_16) rfl (l' := #[.val (.ref a1), .val (.long q1), .second, .val (.int (3 : Int32)), .val (.int (16 : Int32))]) rfl k) ?_
  refine gs (mkF m 6 _ []) (fun T A t k => XS.goto A B.x rfl (pc0 := 19) (pc' := 6) rfl (B.d d11_19) (by decide) (by decide) k) ?_
  refine gs (mkF m 7 _ [(.int (3 : Int32))]) (fun T A t k => XS.iloadN A B.x rfl (B.d d11_6) rfl k) ?_
  refine gs (mkF m 9 _ [(.int (16 : Int32)), (.int (3 : Int32))]) (fun T A t k => XS.iload A B.x rfl (B.d d11_7) rfl k) ?_
  refine gs (mkF m 12 _ []) (fun T A t k => XS.icmpNo A B.x rfl (B.d d11_9) rfl (tlt (by decide : (3 : Int32) < (16 : Int32))).2.1 k) ?_
  refine gs (mkF m 13 _ [(.ref a1)]) (fun T A t k => XS.aloadN A B.x rfl (B.d d11_12) rfl rfl k) ?_
  refine gs (mkF m 14 _ [(.int (3 : Int32)), (.ref a1)]) (fun T A t k => XS.iloadN A B.x rfl (B.d d11_13) rfl k) ?_
  refine gs (mkF m 15 _ [(.long q1), (.int (3 : Int32)), (.ref a1)]) (fun T A t k => XS.lloadN A B.x rfl (B.d d11_14) rfl k) ?_
  refine g_stJ B V3 ⟨by decide, by decide⟩ (i := 3) rfl (Nat.le_of_ble_eq_true rfl) d11_15 nos (by omega) (q := 16) rfl ?_
  intro h4 W4 A4
  have z4 := W4.size
  have V4 : Arv Z h4 a1 k0 .long (16 : Int32) [(.long q1), (.long q1), (.long q1), (.long q1), (.long (0 : Int64)), (.long (0 : Int64)), (.long (0 : Int64)), (.long (0 : Int64)), (.long (0 : Int64)), (.long (0 : Int64)), (.long (0 : Int64)), (.long (0 : Int64)), (.long (0 : Int64)), (.long (0 : Int64)), (.long (0 : Int64)), (.long (0 : Int64))] (.long (0 : Int64)) := A4
  refine gs (mkF m 19 #[.val (.ref a1), .val (.long q1), .second, .val (.int (4 : Int32)), .val (.int (16 : Int32))] []) (fun T A t k => XS.iinc A B.x rfl (B.d d11_16) rfl (l' := #[.val (.ref a1), .val (.long q1), .second, .val (.int (4 : Int32)), .val (.int (16 : Int32))]) rfl k) ?_
  refine gs (mkF m 6 _ []) (fun T A t k => XS.goto A B.x rfl (pc0 := 19) (pc' := 6) rfl (B.d d11_19) (by decide) (by decide) k) ?_
  refine gs (mkF m 7 _ [(.int (4 : Int32))]) (fun T A t k => XS.iloadN A B.x rfl (B.d d11_6) rfl k) ?_
  refine gs (mkF m 9 _ [(.int (16 : Int32)), (.int (4 : Int32))]) (fun T A t k => XS.iload A B.x rfl (B.d d11_7) rfl k) ?_
  refine gs (mkF m 12 _ []) (fun T A t k => XS.icmpNo A B.x rfl (B.d d11_9) rfl (tlt (by decide : (4 : Int32) < (16 : Int32))).2.1 k) ?_
  refine gs (mkF m 13 _ [(.ref a1)]) (fun T A t k => XS.aloadN A B.x rfl (B.d d11_12) rfl rfl k) ?_
  refine gs (mkF m 14 _ [(.int (4 : Int32)), (.ref a1)]) (fun T A t k => XS.iloadN A B.x rfl (B.d d11_13) rfl k) ?_
  refine gs (mkF m 15 _ [(.long q1), (.int (4 : Int32)), (.ref a1)]) (fun T A t k => XS.lloadN A B.x rfl (B.d d11_14) rfl k) ?_
  refine g_stJ B V4 ⟨by decide, by decide⟩ (i := 4) rfl (Nat.le_of_ble_eq_true rfl) d11_15 nos (by omega) (q := 16) rfl ?_
  intro h5 W5 A5
  have z5 := W5.size
  have V5 : Arv Z h5 a1 k0 .long (16 : Int32) [(.long q1), (.long q1), (.long q1), (.long q1), (.long q1), (.long (0 : Int64)), (.long (0 : Int64)), (.long (0 : Int64)), (.long (0 : Int64)), (.long (0 : Int64)), (.long (0 : Int64)), (.long (0 : Int64)), (.long (0 : Int64)), (.long (0 : Int64)), (.long (0 : Int64)), (.long (0 : Int64))] (.long (0 : Int64)) := A5
  refine gs (mkF m 19 #[.val (.ref a1), .val (.long q1), .second, .val (.int (5 : Int32)), .val (.int (16 : Int32))] []) (fun T A t k => XS.iinc A B.x rfl (B.d d11_16) rfl (l' := #[.val (.ref a1), .val (.long q1), .second, .val (.int (5 : Int32)), .val (.int (16 : Int32))]) rfl k) ?_
  refine gs (mkF m 6 _ []) (fun T A t k => XS.goto A B.x rfl (pc0 := 19) (pc' := 6) rfl (B.d d11_19) (by decide) (by decide) k) ?_
  refine gs (mkF m 7 _ [(.int (5 : Int32))]) (fun T A t k => XS.iloadN A B.x rfl (B.d d11_6) rfl k) ?_
  refine gs (mkF m 9 _ [(.int (16 : Int32)), (.int (5 : Int32))]) (fun T A t k => XS.iload A B.x rfl (B.d d11_7) rfl k) ?_
  refine gs (mkF m 12 _ []) (fun T A t k => XS.icmpNo A B.x rfl (B.d d11_9) rfl (tlt (by decide : (5 : Int32) < (16 : Int32))).2.1 k) ?_
  refine gs (mkF m 13 _ [(.ref a1)]) (fun T A t k => XS.aloadN A B.x rfl (B.d d11_12) rfl rfl k) ?_
  refine gs (mkF m 14 _ [(.int (5 : Int32)), (.ref a1)]) (fun T A t k => XS.iloadN A B.x rfl (B.d d11_13) rfl k) ?_
  refine gs (mkF m 15 _ [(.long q1), (.int (5 : Int32)), (.ref a1)]) (fun T A t k => XS.lloadN A B.x rfl (B.d d11_14) rfl k) ?_
  refine g_stJ B V5 ⟨by decide, by decide⟩ (i := 5) rfl (Nat.le_of_ble_eq_true rfl) d11_15 nos (by omega) (q := 16) rfl ?_
  intro h6 W6 A6
  have z6 := W6.size
  have V6 : Arv Z h6 a1 k0 .long (16 : Int32) [(.long q1), (.long q1), (.long q1), (.long q1), (.long q1), (.long q1), (.long (0 : Int64)), (.long (0 : Int64)), (.long (0 : Int64)), (.long (0 : Int64)), (.long (0 : Int64)), (.long (0 : Int64)), (.long (0 : Int64)), (.long (0 : Int64)), (.long (0 : Int64)), (.long (0 : Int64))] (.long (0 : Int64)) := A6
  refine gs (mkF m 19 #[.val (.ref a1), .val (.long q1), .second, .val (.int (6 : Int32)), .val (.int (16 : Int32))] []) (fun T A t k => XS.iinc A B.x rfl (B.d d11_16) rfl (l' := #[.val (.ref a1), .val (.long q1), .second, .val (.int (6 : Int32)), .val (.int (16 : Int32))]) rfl k) ?_
  refine gs (mkF m 6 _ []) (fun T A t k => XS.goto A B.x rfl (pc0 := 19) (pc' := 6) rfl (B.d d11_19) (by decide) (by decide) k) ?_
  refine gs (mkF m 7 _ [(.int (6 : Int32))]) (fun T A t k => XS.iloadN A B.x rfl (B.d d11_6) rfl k) ?_
  refine gs (mkF m 9 _ [(.int (16 : Int32)), (.int (6 : Int32))]) (fun T A t k => XS.iload A B.x rfl (B.d d11_7) rfl k) ?_
  refine gs (mkF m 12 _ []) (fun T A t k => XS.icmpNo A B.x rfl (B.d d11_9) rfl (tlt (by decide : (6 : Int32) < (16 : Int32))).2.1 k) ?_
  refine gs (mkF m 13 _ [(.ref a1)]) (fun T A t k => XS.aloadN A B.x rfl (B.d d11_12) rfl rfl k) ?_
  refine gs (mkF m 14 _ [(.int (6 : Int32)), (.ref a1)]) (fun T A t k => XS.iloadN A B.x rfl (B.d d11_13) rfl k) ?_
  refine gs (mkF m 15 _ [(.long q1), (.int (6 : Int32)), (.ref a1)]) (fun T A t k => XS.lloadN A B.x rfl (B.d d11_14) rfl k) ?_
  refine g_stJ B V6 ⟨by decide, by decide⟩ (i := 6) rfl (Nat.le_of_ble_eq_true rfl) d11_15 nos (by omega) (q := 16) rfl ?_
  intro h7 W7 A7
  have z7 := W7.size
  have V7 : Arv Z h7 a1 k0 .long (16 : Int32) [(.long q1), (.long q1), (.long q1), (.long q1), (.long q1), (.long q1), (.long q1), (.long (0 : Int64)), (.long (0 : Int64)), (.long (0 : Int64)), (.long (0 : Int64)), (.long (0 : Int64)), (.long (0 : Int64)), (.long (0 : Int64)), (.long (0 : Int64)), (.long (0 : Int64))] (.long (0 : Int64)) := A7
  refine gs (mkF m 19 #[.val (.ref a1), .val (.long q1), .second, .val (.int (7 : Int32)), .val (.int (16 : Int32))] []) (fun T A t k => XS.iinc A B.x rfl (B.d d11_16) rfl (l' := #[.val (.ref a1), .val (.long q1), .second, .val (.int (7 : Int32)), .val (.int (16 : Int32))]) rfl k) ?_
  refine gs (mkF m 6 _ []) (fun T A t k => XS.goto A B.x rfl (pc0 := 19) (pc' := 6) rfl (B.d d11_19) (by decide) (by decide) k) ?_
  refine gs (mkF m 7 _ [(.int (7 : Int32))]) (fun T A t k => XS.iloadN A B.x rfl (B.d d11_6) rfl k) ?_
  refine gs (mkF m 9 _ [(.int (16 : Int32)), (.int (7 : Int32))]) (fun T A t k => XS.iload A B.x rfl (B.d d11_7) rfl k) ?_
  refine gs (mkF m 12 _ []) (fun T A t k => XS.icmpNo A B.x rfl (B.d d11_9) rfl (tlt (by decide : (7 : Int32) < (16 : Int32))).2.1 k) ?_
  refine gs (mkF m 13 _ [(.ref a1)]) (fun T A t k => XS.aloadN A B.x rfl (B.d d11_12) rfl rfl k) ?_
  refine gs (mkF m 14 _ [(.int (7 : Int32)), (.ref a1)]) (fun T A t k => XS.iloadN A B.x rfl (B.d d11_13) rfl k) ?_
  refine gs (mkF m 15 _ [(.long q1), (.int (7 : Int32)), (.ref a1)]) (fun T A t k => XS.lloadN A B.x rfl (B.d d11_14) rfl k) ?_
  refine g_stJ B V7 ⟨by decide, by decide⟩ (i := 7) rfl (Nat.le_of_ble_eq_true rfl) d11_15 nos (by omega) (q := 16) rfl ?_
  intro h8 W8 A8
  have z8 := W8.size
  have V8 : Arv Z h8 a1 k0 .long (16 : Int32) [(.long q1), (.long q1), (.long q1), (.long q1), (.long q1), (.long q1), (.long q1), (.long q1), (.long (0 : Int64)), (.long (0 : Int64)), (.long (0 : Int64)), (.long (0 : Int64)), (.long (0 : Int64)), (.long (0 : Int64)), (.long (0 : Int64)), (.long (0 : Int64))] (.long (0 : Int64)) := A8
  refine gs (mkF m 19 #[.val (.ref a1), .val (.long q1), .second, .val (.int (8 : Int32)), .val (.int (16 : Int32))] []) (fun T A t k => XS.iinc A B.x rfl (B.d d11_16) rfl (l' := #[.val (.ref a1), .val (.long q1), .second, .val (.int (8 : Int32)), .val (.int (16 : Int32))]) rfl k) ?_
  refine gs (mkF m 6 _ []) (fun T A t k => XS.goto A B.x rfl (pc0 := 19) (pc' := 6) rfl (B.d d11_19) (by decide) (by decide) k) ?_
  refine gs (mkF m 7 _ [(.int (8 : Int32))]) (fun T A t k => XS.iloadN A B.x rfl (B.d d11_6) rfl k) ?_
  refine gs (mkF m 9 _ [(.int (16 : Int32)), (.int (8 : Int32))]) (fun T A t k => XS.iload A B.x rfl (B.d d11_7) rfl k) ?_
  refine gs (mkF m 12 _ []) (fun T A t k => XS.icmpNo A B.x rfl (B.d d11_9) rfl (tlt (by decide : (8 : Int32) < (16 : Int32))).2.1 k) ?_
  refine gs (mkF m 13 _ [(.ref a1)]) (fun T A t k => XS.aloadN A B.x rfl (B.d d11_12) rfl rfl k) ?_
  refine gs (mkF m 14 _ [(.int (8 : Int32)), (.ref a1)]) (fun T A t k => XS.iloadN A B.x rfl (B.d d11_13) rfl k) ?_
  refine gs (mkF m 15 _ [(.long q1), (.int (8 : Int32)), (.ref a1)]) (fun T A t k => XS.lloadN A B.x rfl (B.d d11_14) rfl k) ?_
  refine g_stJ B V8 ⟨by decide, by decide⟩ (i := 8) rfl (Nat.le_of_ble_eq_true rfl) d11_15 nos (by omega) (q := 16) rfl ?_
  intro h9 W9 A9
  have z9 := W9.size
  have V9 : Arv Z h9 a1 k0 .long (16 : Int32) [(.long q1), (.long q1), (.long q1), (.long q1), (.long q1), (.long q1), (.long q1), (.long q1), (.long q1), (.long (0 : Int64)), (.long (0 : Int64)), (.long (0 : Int64)), (.long (0 : Int64)), (.long (0 : Int64)), (.long (0 : Int64)), (.long (0 : Int64))] (.long (0 : Int64)) := A9
  refine gs (mkF m 19 #[.val (.ref a1), .val (.long q1), .second, .val (.int (9 : Int32)), .val (.int (16 : Int32))] []) (fun T A t k => XS.iinc A B.x rfl (B.d d11_16) rfl (l' := #[.val (.ref a1), .val (.long q1), .second, .val (.int (9 : Int32)), .val (.int (16 : Int32))]) rfl k) ?_
  refine gs (mkF m 6 _ []) (fun T A t k => XS.goto A B.x rfl (pc0 := 19) (pc' := 6) rfl (B.d d11_19) (by decide) (by decide) k) ?_
  refine gs (mkF m 7 _ [(.int (9 : Int32))]) (fun T A t k => XS.iloadN A B.x rfl (B.d d11_6) rfl k) ?_
  refine gs (mkF m 9 _ [(.int (16 : Int32)), (.int (9 : Int32))]) (fun T A t k => XS.iload A B.x rfl (B.d d11_7) rfl k) ?_
  refine gs (mkF m 12 _ []) (fun T A t k => XS.icmpNo A B.x rfl (B.d d11_9) rfl (tlt (by decide : (9 : Int32) < (16 : Int32))).2.1 k) ?_
  refine gs (mkF m 13 _ [(.ref a1)]) (fun T A t k => XS.aloadN A B.x rfl (B.d d11_12) rfl rfl k) ?_
  refine gs (mkF m 14 _ [(.int (9 : Int32)), (.ref a1)]) (fun T A t k => XS.iloadN A B.x rfl (B.d d11_13) rfl k) ?_
  refine gs (mkF m 15 _ [(.long q1), (.int (9 : Int32)), (.ref a1)]) (fun T A t k => XS.lloadN A B.x rfl (B.d d11_14) rfl k) ?_
  refine g_stJ B V9 ⟨by decide, by decide⟩ (i := 9) rfl (Nat.le_of_ble_eq_true rfl) d11_15 nos (by omega) (q := 16) rfl ?_
  intro h10 W10 A10
  have z10 := W10.size
  have V10 : Arv Z h10 a1 k0 .long (16 : Int32) [(.long q1), (.long q1), (.long q1), (.long q1), (.long q1), (.long q1), (.long q1), (.long q1), (.long q1), (.long q1), (.long (0 : Int64)), (.long (0 : Int64)), (.long (0 : Int64)), (.long (0 : Int64)), (.long (0 : Int64)), (.long (0 : Int64))] (.long (0 : Int64)) := A10
  refine gs (mkF m 19 #[.val (.ref a1), .val (.long q1), .second, .val (.int (10 : Int32)), .val (.int (16 : Int32))] []) (fun T A t k => XS.iinc A B.x rfl (B.d d11_16) rfl (l' := #[.val (.ref a1), .val (.long q1), .second, .val (.int (10 : Int32)), .val (.int (16 : Int32))]) rfl k) ?_
  refine gs (mkF m 6 _ []) (fun T A t k => XS.goto A B.x rfl (pc0 := 19) (pc' := 6) rfl (B.d d11_19) (by decide) (by decide) k) ?_
  refine gs (mkF m 7 _ [(.int (10 : Int32))]) (fun T A t k => XS.iloadN A B.x rfl (B.d d11_6) rfl k) ?_
  refine gs (mkF m 9 _ [(.int (16 : Int32)), (.int (10 : Int32))]) (fun T A t k => XS.iload A B.x rfl (B.d d11_7) rfl k) ?_
  refine gs (mkF m 12 _ []) (fun T A t k => XS.icmpNo A B.x rfl (B.d d11_9) rfl (tlt (by decide : (10 : Int32) < (16 : Int32))).2.1 k) ?_
  refine gs (mkF m 13 _ [(.ref a1)]) (fun T A t k => XS.aloadN A B.x rfl (B.d d11_12) rfl rfl k) ?_
  refine gs (mkF m 14 _ [(.int (10 : Int32)), (.ref a1)]) (fun T A t k => XS.iloadN A B.x rfl (B.d d11_13) rfl k) ?_
  refine gs (mkF m 15 _ [(.long q1), (.int (10 : Int32)), (.ref a1)]) (fun T A t k => XS.lloadN A B.x rfl (B.d d11_14) rfl k) ?_
  refine g_stJ B V10 ⟨by decide, by decide⟩ (i := 10) rfl (Nat.le_of_ble_eq_true rfl) d11_15 nos (by omega) (q := 16) rfl ?_
  intro h11 W11 A11
  have z11 := W11.size
  have V11 : Arv Z h11 a1 k0 .long (16 : Int32) [(.long q1), (.long q1), (.long q1), (.long q1), (.long q1), (.long q1), (.long q1), (.long q1), (.long q1), (.long q1), (.long q1), (.long (0 : Int64)), (.long (0 : Int64)), (.long (0 : Int64)), (.long (0 : Int64)), (.long (0 : Int64))] (.long (0 : Int64)) := A11
  refine gs (mkF m 19 #[.val (.ref a1), .val (.long q1), .second, .val (.int (11 : Int32)), .val (.int (16 : Int32))] []) (fun T A t k => XS.iinc A B.x rfl (B.d d11_16) rfl (l' := #[.val (.ref a1), .val (.long q1), .second, .val (.int (11 : Int32)), .val (.int (16 : Int32))]) rfl k) ?_
  refine gs (mkF m 6 _ []) (fun T A t k => XS.goto A B.x rfl (pc0 := 19) (pc' := 6) rfl (B.d d11_19) (by decide) (by decide) k) ?_
  refine gs (mkF m 7 _ [(.int (11 : Int32))]) (fun T A t k => XS.iloadN A B.x rfl (B.d d11_6) rfl k) ?_
  refine gs (mkF m 9 _ [(.int (16 : Int32)), (.int (11 : Int32))]) (fun T A t k => XS.iload A B.x rfl (B.d d11_7) rfl k) ?_
  refine gs (mkF m 12 _ []) (fun T A t k => XS.icmpNo A B.x rfl (B.d d11_9) rfl (tlt (by decide : (11 : Int32) < (16 : Int32))).2.1 k) ?_
  refine gs (mkF m 13 _ [(.ref a1)]) (fun T A t k => XS.aloadN A B.x rfl (B.d d11_12) rfl rfl k) ?_
  refine gs (mkF m 14 _ [(.int (11 : Int32)), (.ref a1)]) (fun T A t k => XS.iloadN A B.x rfl (B.d d11_13) rfl k) ?_
  refine gs (mkF m 15 _ [(.long q1), (.int (11 : Int32)), (.ref a1)]) (fun T A t k => XS.lloadN A B.x rfl (B.d d11_14) rfl k) ?_
  refine g_stJ B V11 ⟨by decide, by decide⟩ (i := 11) rfl (Nat.le_of_ble_eq_true rfl) d11_15 nos (by omega) (q := 16) rfl ?_
  intro h12 W12 A12
  have z12 := W12.size
  have V12 : Arv Z h12 a1 k0 .long (16 : Int32) [(.long q1), (.long q1), (.long q1), (.long q1), (.long q1), (.long q1), (.long q1), (.long q1), (.long q1), (.long q1), (.long q1), (.long q1), (.long (0 : Int64)), (.long (0 : Int64)), (.long (0 : Int64)), (.long (0 : Int64))] (.long (0 : Int64)) := A12
  refine gs (mkF m 19 #[.val (.ref a1), .val (.long q1), .second, .val (.int (12 : Int32)), .val (.int (16 : Int32))] []) (fun T A t k => XS.iinc A B.x rfl (B.d d11_16) rfl (l' := #[.val (.ref a1), .val (.long q1), .second, .val (.int (12 : Int32)), .val (.int (16 : Int32))]) rfl k) ?_
  refine gs (mkF m 6 _ []) (fun T A t k => XS.goto A B.x rfl (pc0 := 19) (pc' := 6) rfl (B.d d11_19) (by decide) (by decide) k) ?_
  refine gs (mkF m 7 _ [(.int (12 : Int32))]) (fun T A t k => XS.iloadN A B.x rfl (B.d d11_6) rfl k) ?_
  refine gs (mkF m 9 _ [(.int (16 : Int32)), (.int (12 : Int32))]) (fun T A t k => XS.iload A B.x rfl (B.d d11_7) rfl k) ?_
  refine gs (mkF m 12 _ []) (fun T A t k => XS.icmpNo A B.x rfl (B.d d11_9) rfl (tlt (by decide : (12 : Int32) < (16 : Int32))).2.1 k) ?_
  refine gs (mkF m 13 _ [(.ref a1)]) (fun T A t k => XS.aloadN A B.x rfl (B.d d11_12) rfl rfl k) ?_
  refine gs (mkF m 14 _ [(.int (12 : Int32)), (.ref a1)]) (fun T A t k => XS.iloadN A B.x rfl (B.d d11_13) rfl k) ?_
  refine gs (mkF m 15 _ [(.long q1), (.int (12 : Int32)), (.ref a1)]) (fun T A t k => XS.lloadN A B.x rfl (B.d d11_14) rfl k) ?_
  refine g_stJ B V12 ⟨by decide, by decide⟩ (i := 12) rfl (Nat.le_of_ble_eq_true rfl) d11_15 nos (by omega) (q := 16) rfl ?_
  intro h13 W13 A13
  have z13 := W13.size
  have V13 : Arv Z h13 a1 k0 .long (16 : Int32) [(.long q1), (.long q1), (.long q1), (.long q1), (.long q1), (.long q1), (.long q1), (.long q1), (.long q1), (.long q1), (.long q1), (.long q1), (.long q1), (.long (0 : Int64)), (.long (0 : Int64)), (.long (0 : Int64))] (.long (0 : Int64)) := A13
  refine gs (mkF m 19 #[.val (.ref a1), .val (.long q1), .second, .val (.int (13 : Int32)), .val (.int (16 : Int32))] []) (fun T A t k => XS.iinc A B.x rfl (B.d d11_16) rfl (l' := #[.val (.ref a1), .val (.long q1), .second, .val (.int (13 : Int32)), .val (.int (16 : Int32))]) rfl k) ?_
  refine gs (mkF m 6 _ []) (fun T A t k => XS.goto A B.x rfl (pc0 := 19) (pc' := 6) rfl (B.d d11_19) (by decide) (by decide) k) ?_
  refine gs (mkF m 7 _ [(.int (13 : Int32))]) (fun T A t k => XS.iloadN A B.x rfl (B.d d11_6) rfl k) ?_
  refine gs (mkF m 9 _ [(.int (16 : Int32)), (.int (13 : Int32))]) (fun T A t k => XS.iload A B.x rfl (B.d d11_7) rfl k) ?_
  refine gs (mkF m 12 _ []) (fun T A t k => XS.icmpNo A B.x rfl (B.d d11_9) rfl (tlt (by decide : (13 : Int32) < (16 : Int32))).2.1 k) ?_
  refine gs (mkF m 13 _ [(.ref a1)]) (fun T A t k => XS.aloadN A B.x rfl (B.d d11_12) rfl rfl k) ?_
  refine gs (mkF m 14 _ [(.int (13 : Int32)), (.ref a1)]) (fun T A t k => XS.iloadN A B.x rfl (B.d d11_13) rfl k) ?_
  refine gs (mkF m 15 _ [(.long q1), (.int (13 : Int32)), (.ref a1)]) (fun T A t k => XS.lloadN A B.x rfl (B.d d11_14) rfl k) ?_
  refine g_stJ B V13 ⟨by decide, by decide⟩ (i := 13) rfl (Nat.le_of_ble_eq_true rfl) d11_15 nos (by omega) (q := 16) rfl ?_
  intro h14 W14 A14
  have z14 := W14.size
  have V14 : Arv Z h14 a1 k0 .long (16 : Int32) [(.long q1), (.long q1), (.long q1), (.long q1), (.long q1), (.long q1), (.long q1), (.long q1), (.long q1), (.long q1), (.long q1), (.long q1), (.long q1), (.long q1), (.long (0 : Int64)), (.long (0 : Int64))] (.long (0 : Int64)) := A14
  refine gs (mkF m 19 #[.val (.ref a1), .val (.long q1), .second, .val (.int (14 : Int32)), .val (.int (16 : Int32))] []) (fun T A t k => XS.iinc A B.x rfl (B.d d11_16) rfl (l' := #[.val (.ref a1), .val (.long q1), .second, .val (.int (14 : Int32)), .val (.int (16 : Int32))]) rfl k) ?_
  refine gs (mkF m 6 _ []) (fun T A t k => XS.goto A B.x rfl (pc0 := 19) (pc' := 6) rfl (B.d d11_19) (by decide) (by decide) k) ?_
  refine gs (mkF m 7 _ [(.int (14 : Int32))]) (fun T A t k => XS.iloadN A B.x rfl (B.d d11_6) rfl k) ?_
  refine gs (mkF m 9 _ [(.int (16 : Int32)), (.int (14 : Int32))]) (fun T A t k => XS.iload A B.x rfl (B.d d11_7) rfl k) ?_
  refine gs (mkF m 12 _ []) (fun T A t k => XS.icmpNo A B.x rfl (B.d d11_9) rfl (tlt (by decide : (14 : Int32) < (16 : Int32))).2.1 k) ?_
  refine gs (mkF m 13 _ [(.ref a1)]) (fun T A t k => XS.aloadN A B.x rfl (B.d d11_12) rfl rfl k) ?_
  refine gs (mkF m 14 _ [(.int (14 : Int32)), (.ref a1)]) (fun T A t k => XS.iloadN A B.x rfl (B.d d11_13) rfl k) ?_
  refine gs (mkF m 15 _ [(.long q1), (.int (14 : Int32)), (.ref a1)]) (fun T A t k => XS.lloadN A B.x rfl (B.d d11_14) rfl k) ?_
  refine g_stJ B V14 ⟨by decide, by decide⟩ (i := 14) rfl (Nat.le_of_ble_eq_true rfl) d11_15 nos (by omega) (q := 16) rfl ?_
  intro h15 W15 A15
  have z15 := W15.size
  have V15 : Arv Z h15 a1 k0 .long (16 : Int32) [(.long q1), (.long q1), (.long q1), (.long q1), (.long q1), (.long q1), (.long q1), (.long q1), (.long q1), (.long q1), (.long q1), (.long q1), (.long q1), (.long q1), (.long q1), (.long (0 : Int64))] (.long (0 : Int64)) := A15
  refine gs (mkF m 19 #[.val (.ref a1), .val (.long q1), .second, .val (.int (15 : Int32)), .val (.int (16 : Int32))] []) (fun T A t k => XS.iinc A B.x rfl (B.d d11_16) rfl (l' := #[.val (.ref a1), .val (.long q1), .second, .val (.int (15 : Int32)), .val (.int (16 : Int32))]) rfl k) ?_
  refine gs (mkF m 6 _ []) (fun T A t k => XS.goto A B.x rfl (pc0 := 19) (pc' := 6) rfl (B.d d11_19) (by decide) (by decide) k) ?_
  refine gs (mkF m 7 _ [(.int (15 : Int32))]) (fun T A t k => XS.iloadN A B.x rfl (B.d d11_6) rfl k) ?_
  refine gs (mkF m 9 _ [(.int (16 : Int32)), (.int (15 : Int32))]) (fun T A t k => XS.iload A B.x rfl (B.d d11_7) rfl k) ?_
  refine gs (mkF m 12 _ []) (fun T A t k => XS.icmpNo A B.x rfl (B.d d11_9) rfl (tlt (by decide : (15 : Int32) < (16 : Int32))).2.1 k) ?_
  refine gs (mkF m 13 _ [(.ref a1)]) (fun T A t k => XS.aloadN A B.x rfl (B.d d11_12) rfl rfl k) ?_
  refine gs (mkF m 14 _ [(.int (15 : Int32)), (.ref a1)]) (fun T A t k => XS.iloadN A B.x rfl (B.d d11_13) rfl k) ?_
  refine gs (mkF m 15 _ [(.long q1), (.int (15 : Int32)), (.ref a1)]) (fun T A t k => XS.lloadN A B.x rfl (B.d d11_14) rfl k) ?_
  refine g_stJ B V15 ⟨by decide, by decide⟩ (i := 15) rfl (Nat.le_of_ble_eq_true rfl) d11_15 nos (by omega) (q := 16) rfl ?_
  intro h16 W16 A16
  have z16 := W16.size
  have V16 : Arv Z h16 a1 k0 .long (16 : Int32) [(.long q1), (.long q1), (.long q1), (.long q1), (.long q1), (.long q1), (.long q1), (.long q1), (.long q1), (.long q1), (.long q1), (.long q1), (.long q1), (.long q1), (.long q1), (.long q1)] (.long (0 : Int64)) := A16
  refine gs (mkF m 19 #[.val (.ref a1), .val (.long q1), .second, .val (.int (16 : Int32)), .val (.int (16 : Int32))] []) (fun T A t k => XS.iinc A B.x rfl (B.d d11_16) rfl (l' := #[.val (.ref a1), .val (.long q1), .second, .val (.int (16 : Int32)), .val (.int (16 : Int32))]) rfl k) ?_
  refine gs (mkF m 6 _ []) (fun T A t k => XS.goto A B.x rfl (pc0 := 19) (pc' := 6) rfl (B.d d11_19) (by decide) (by decide) k) ?_
  refine gs (mkF m 7 _ [(.int (16 : Int32))]) (fun T A t k => XS.iloadN A B.x rfl (B.d d11_6) rfl k) ?_
  refine gs (mkF m 9 _ [(.int (16 : Int32)), (.int (16 : Int32))]) (fun T A t k => XS.iload A B.x rfl (B.d d11_7) rfl k) ?_
  refine gs (mkF m 22 _ []) (fun T A t k => XS.icmpYes A B.x rfl (pc0 := 9) (pc' := 22) rfl (B.d d11_9) rfl (flt (by decide : ¬ ((16 : Int32) < (16 : Int32)))).2.1 (by decide) (by decide) k) ?_
  exact g_ret0 B d11_22 (by decide) (by decide) ⟨rfl, (((((((((((((((((Keep.refl h0 [a1]).wr W1 (Or.inl (List.mem_singleton.mpr rfl))).wr W2 (Or.inl (List.mem_singleton.mpr rfl))).wr W3 (Or.inl (List.mem_singleton.mpr rfl))).wr W4 (Or.inl (List.mem_singleton.mpr rfl))).wr W5 (Or.inl (List.mem_singleton.mpr rfl))).wr W6 (Or.inl (List.mem_singleton.mpr rfl))).wr W7 (Or.inl (List.mem_singleton.mpr rfl))).wr W8 (Or.inl (List.mem_singleton.mpr rfl))).wr W9 (Or.inl (List.mem_singleton.mpr rfl))).wr W10 (Or.inl (List.mem_singleton.mpr rfl))).wr W11 (Or.inl (List.mem_singleton.mpr rfl))).wr W12 (Or.inl (List.mem_singleton.mpr rfl))).wr W13 (Or.inl (List.mem_singleton.mpr rfl))).wr W14 (Or.inl (List.mem_singleton.mpr rfl))).wr W15 (Or.inl (List.mem_singleton.mpr rfl))).wr W16 (Or.inl (List.mem_singleton.mpr rfl))), V16⟩
theorem pn_com_example_rateledger_rateledger_io_LoanNumberMap : plainName "com/example/rateledger/rateledger/io/LoanNumberMap" = true := by first | (simp [plainName, overriddenIn]; done) | decide +kernel
theorem d10_0 : decode prog_21_method_7_code 0 = .ok (.iload_n 0, 1) := by decide +kernel
theorem d10_1 : decode prog_21_method_7_code 1 = .ok (.newarray .long, 2) := by decide +kernel
theorem d10_3 : decode prog_21_method_7_code 3 = .ok (.astore_n 1, 1) := by decide +kernel
theorem d10_4 : decode prog_21_method_7_code 4 = .ok (.aload_n 1, 1) := by decide +kernel
theorem d10_5 : decode prog_21_method_7_code 5 = .ok (.ldc2_w 45, 3) := by decide +kernel
theorem pd_285bJJ29V : parseMethodDescriptor "([JJ)V" = some ⟨[(.array .long), .long], none⟩ := by decide +kernel
theorem d10_8 : decode prog_21_method_7_code 8 = .ok (.invokestatic 69, 3) := by decide +kernel
theorem d10_11 : decode prog_21_method_7_code 11 = .ok (.aload_n 1, 1) := by decide +kernel
theorem d10_12 : decode prog_21_method_7_code 12 = .ok (.areturn, 1) := by decide +kernel
set_option maxRecDepth 65536 in
set_option maxHeartbeats 40000000 in
theorem own_free (l : Launch) (Z : State) (a0 : Array Value) (hw : ∀ d ∈ tables_1, d.before a0 Z = true) (hEL : EW Z a0 [])   (h0 : Heap) (n0 : Nat) (hn : n0 ≤ h0.size) :
    Met false Z [] l (⟨"com/example/rateledger/rateledger/io/LoanNumberMap", "free", "(I)[J"⟩ : MethodName) prog_21_method_7_code 2 (some (.array .long)) ({ frames := 1, cells := 1, slots := 16, locals := 20 } : Room) #[(.int (16 : Int32))] h0 [] n0 (fun v h => ∃ (x : Addr) (kx : ClassId), v = some (.ref x) ∧ Keep h0 h [] ∧ h0.size ≤ x ∧ Arv Z h x kx .long 16 (List.replicate 16 (.long (-1))) (.long 0)) := by
  refine Met.of (a0 := a0) (Ls := #[.val (.int (16 : Int32)), .unset]) (fun z => rfl) (plainFor_of_name pn_com_example_rateledger_rateledger_io_LoanNumberMap) hEL (fun m => by first | (simp [entryFrame, mkF, argsToLocals, Value.category]; done) | rfl) ?_
  intro p e s m below meth c B hSf
  refine gs (mkF m 1 _ [(.int (16 : Int32))]) (fun T A t k => XS.iloadN A B.x rfl (B.d d10_0) rfl k) ?_
  refine g_newP B (hw _ (List.mem_of_getElem? (i := 51) rfl)) d10_1 (by decide) (cap := 16) (by decide) (by decide) (by decide) (by decide) (q := 3) rfl ?_
  intro h1 b1 k1 g1 E1 S1 A1
  have z1 := E1.1; have y1 : @LT.lt Nat _ b1 h1.size := A1.lt
  have V1 : Arv Z h1 b1 k1 .long (16 : Int32) [(.long (0 : Int64)), (.long (0 : Int64)), (.long (0 : Int64)), (.long (0 : Int64)), (.long (0 : Int64)), (.long (0 : Int64)), (.long (0 : Int64)), (.long (0 : Int64)), (.long (0 : Int64)), (.long (0 : Int64)), (.long (0 : Int64)), (.long (0 : Int64)), (.long (0 : Int64)), (.long (0 : Int64)), (.long (0 : Int64)), (.long (0 : Int64))] (.long (0 : Int64)) := A1
  refine gs (mkF m 4 #[.val (.int (16 : Int32)), .val (.ref b1)] []) (fun T A t k => XS.astoreN A B.x rfl (B.d d10_3) rfl rfl (l' := #[.val (.int (16 : Int32)), .val (.ref b1)]) rfl k) ?_
  refine gs (mkF m 5 _ [(.ref b1)]) (fun T A t k => XS.aloadN A B.x rfl (B.d d10_4) rfl rfl k) ?_
  refine g_ldc2J B (hw _ (List.mem_of_getElem? (i := 52) rfl)) d10_5 (q := 8) rfl ?_
  refine g_metN (c_static B (hw _ (List.mem_of_getElem? (i := 53) rfl)) (hw _ (List.mem_of_getElem? (i := 54) rfl)) (hw _ (List.mem_of_getElem? (i := 55) rfl)) (hw _ (List.mem_of_getElem? (i := 56) rfl)) (by decide) rfl (lenOf pd_285bJJ29V rfl) rfl (Nat.le_of_eq rfl) d10_8 rfl (argsL := [(.ref b1), (.long (-1 : Int64))]) (rest := []) (W := 0) (q := 11)) (own_fill l Z a0 hw hEL b1 ((-1 : Int64)) k1 h1 n0 V1 (by omega)) (hw _ (List.mem_of_getElem? (i := 56) rfl)) (hw _ (List.mem_of_getElem? (i := 55) rfl)) (by decide) (by decide) (by decide) (by decide) ?_
  intro v2 h2 hz2 hQ2
  obtain ⟨rfl, K2, V2⟩ := hQ2
  have z2 := K2.1
  refine gs (mkF m 12 _ [(.ref b1)]) (fun T A t k => XS.aloadN A B.x rfl (B.d d10_11) rfl rfl k) ?_
  exact g_retA B rfl rfl d10_12 (by decide) (by decide) ⟨_, _, rfl, (((Keep.refl h0 []).ext E1).trans K2 (allS (Or.inr (by omega)) all0)), (by omega), V2⟩
theorem d9_0 : decode prog_21_method_1_code 0 = .ok (.aload_n 0, 1) := by decide +kernel
theorem d9_1 : decode prog_21_method_1_code 1 = .ok (.invokespecial 1, 3) := by decide +kernel
theorem d9_4 : decode prog_21_method_1_code 4 = .ok (.aload_n 0, 1) := by decide +kernel
theorem d9_5 : decode prog_21_method_1_code 5 = .ok (.bipush 16, 2) := by decide +kernel
theorem pd_28I295bJ : parseMethodDescriptor "(I)[J" = some ⟨[.int], some (.array .long)⟩ := by decide +kernel
theorem d9_7 : decode prog_21_method_1_code 7 = .ok (.invokestatic 9, 3) := by decide +kernel
theorem d9_10 : decode prog_21_method_1_code 10 = .ok (.putfield 13, 3) := by decide +kernel
theorem d9_13 : decode prog_21_method_1_code 13 = .ok (.aload_n 0, 1) := by decide +kernel
theorem d9_14 : decode prog_21_method_1_code 14 = .ok (.bipush 16, 2) := by decide +kernel
theorem d9_16 : decode prog_21_method_1_code 16 = .ok (.newarray .int, 2) := by decide +kernel
theorem d9_18 : decode prog_21_method_1_code 18 = .ok (.putfield 17, 3) := by decide +kernel
theorem d9_21 : decode prog_21_method_1_code 21 = .ok (.return_, 1) := by decide +kernel
set_option maxRecDepth 65536 in
set_option maxHeartbeats 40000000 in
theorem own_init (l : Launch) (Z : State) (a0 : Array Value) (hw : ∀ d ∈ tables_1, d.before a0 Z = true) (hEL : EW Z a0 []) (a1 : Addr)  (h0 : Heap) (n0 : Nat) (PE : Exa Z h0 a1 "com/example/rateledger/rateledger/io/LoanNumberMap") (PF1 : Fld Z h0 a1 "com/example/rateledger/rateledger/io/LoanNumberMap" "loanNumbers" "[J" .null) (PF2 : Fld Z h0 a1 "com/example/rateledger/rateledger/io/LoanNumberMap" "values" "[I" .null) (PF3 : Fld Z h0 a1 "com/example/rateledger/rateledger/io/LoanNumberMap" "size" "I" (.int 0)) (hn : n0 ≤ a1) (hn2 : n0 ≤ h0.size) :
    Met false Z [] l (⟨"com/example/rateledger/rateledger/io/LoanNumberMap", "<init>", "()V"⟩ : MethodName) prog_21_method_1_code 1 none ({ frames := 2, cells := 2, slots := 32, locals := 45 } : Room) #[(.ref a1)] h0 [] n0 (fun v h => v = none ∧ Keep h0 h [a1] ∧ ∃ b1 b2 : Addr, h0.size ≤ b1 ∧ h0.size ≤ b2 ∧ MapAt Z h a1 b1 b2 L0 V0 0) := by
  refine Met.of (a0 := a0) (Ls := #[.val (.ref a1)]) (fun z => rfl) (plainFor_of_name pn_com_example_rateledger_rateledger_io_LoanNumberMap) hEL (fun m => by first | (simp [entryFrame, mkF, argsToLocals, Value.category]; done) | rfl) ?_
  intro p e s m below meth c B hSf
  have ya : @LT.lt Nat _ a1 h0.size := PE.lt
  refine gs (mkF m 1 _ [(.ref a1)]) (fun T A t k => XS.aloadN A B.x rfl (B.d d9_0) rfl rfl k) ?_
  refine g_initO B (hw _ (List.mem_of_getElem? (i := 47) rfl)) (hw _ (List.mem_of_getElem? (i := 23) rfl)) (hw _ (List.mem_of_getElem? (i := 24) rfl)) rfl d9_1 (by decide) (W := 0) (Nat.le_of_eq rfl) (by decide) (q := 4) rfl ?_
  refine gs (mkF m 5 _ [(.ref a1)]) (fun T A t k => XS.aloadN A B.x rfl (B.d d9_4) rfl rfl k) ?_
  refine gs (mkF m 7 _ [(.int (16 : Int32)), (.ref a1)]) (fun T A t k => XS.bipush A B.x rfl (B.d d9_5) k) ?_
  refine g_metN (c_static B (hw _ (List.mem_of_getElem? (i := 48) rfl)) (hw _ (List.mem_of_getElem? (i := 49) rfl)) (hw _ (List.mem_of_getElem? (i := 43) rfl)) (hw _ (List.mem_of_getElem? (i := 50) rfl)) (by decide) rfl (lenOf pd_28I295bJ rfl) rfl (Nat.le_of_eq rfl) d9_7 rfl (argsL := [(.int (16 : Int32))]) (rest := [(.ref a1)]) (W := 1) (q := 10)) (own_free l Z a0 hw hEL h0 n0 (by omega)) (hw _ (List.mem_of_getElem? (i := 50) rfl)) (hw _ (List.mem_of_getElem? (i := 43) rfl)) (by decide) (by decide) (by decide) (by decide) ?_
  intro v1 h1 hz1 hQ1
  obtain ⟨x1, k1, rfl, K1, g1, V1⟩ := hQ1
  have z1 := K1.1; have y1 : @LT.lt Nat _ x1 h1.size := V1.lt
  refine g_putF B (hw _ (List.mem_of_getElem? (i := 57) rfl)) Via.refl (PF1.keep K1 nin0) (PE.keep K1) (Or.inl (hw _ (List.mem_of_getElem? (i := 58) rfl))) (hw _ (List.mem_of_getElem? (i := 42) rfl)) (ty := (.array .long)) (by decide) rfl rfl d9_10 nos (by omega) (q := 13) rfl ?_
  intro h2 W2 F2
  have z2 := W2.size
  refine gs (mkF m 14 _ [(.ref a1)]) (fun T A t k => XS.aloadN A B.x rfl (B.d d9_13) rfl rfl k) ?_
  refine gs (mkF m 16 _ [(.int (16 : Int32)), (.ref a1)]) (fun T A t k => XS.bipush A B.x rfl (B.d d9_14) k) ?_
  refine g_newP B (hw _ (List.mem_of_getElem? (i := 59) rfl)) d9_16 (by decide) (cap := 16) (by decide) (by decide) (by decide) (by decide) (q := 18) rfl ?_
  intro h3 b3 k3 g3 E3 S3 A3
  have z3 := E3.1; have y3 : @LT.lt Nat _ b3 h3.size := A3.lt
  have V3 : Arv Z h3 b3 k3 .int (16 : Int32) [(.int (0 : Int32)), (.int (0 : Int32)), (.int (0 : Int32)), (.int (0 : Int32)), (.int (0 : Int32)), (.int (0 : Int32)), (.int (0 : Int32)), (.int (0 : Int32)), (.int (0 : Int32)), (.int (0 : Int32)), (.int (0 : Int32)), (.int (0 : Int32)), (.int (0 : Int32)), (.int (0 : Int32)), (.int (0 : Int32)), (.int (0 : Int32))] (.int (0 : Int32)) := A3
  refine g_putF B (hw _ (List.mem_of_getElem? (i := 60) rfl)) Via.refl (((PF2.keep K1 nin0).other W2 (Or.inr (slot_ne (Or.inl (hw _ (List.mem_of_getElem? (i := 61) rfl))) (Or.inl (hw _ (List.mem_of_getElem? (i := 58) rfl))) (by decide) (t := (.array .int)) (t' := (.array .long)) (by decide) (by decide)))).ext E3) (((PE.keep K1).wr W2).ext E3) (Or.inl (hw _ (List.mem_of_getElem? (i := 61) rfl))) (hw _ (List.mem_of_getElem? (i := 42) rfl)) (ty := (.array .int)) (by decide) rfl rfl d9_18 nos (by omega) (q := 21) rfl ?_
  intro h4 W4 F4
  have z4 := W4.size
  exact g_ret0 B d9_21 (by decide) (by decide) ⟨rfl, (((((Keep.refl h0 [a1]).trans K1 all0).wr W2 (Or.inl (List.mem_singleton.mpr rfl))).ext E3).wr W4 (Or.inl (List.mem_singleton.mpr rfl))), x1, b3, (by omega), (by omega), ((((PE.keep K1).wr W2).ext E3).wr W4), ((F2.ext E3).other W4 (Or.inr (slot_ne (Or.inl (hw _ (List.mem_of_getElem? (i := 58) rfl))) (Or.inl (hw _ (List.mem_of_getElem? (i := 61) rfl))) (by decide) (t := (.array .long)) (t' := (.array .int)) (by decide) (by decide)))), F4, ((((PF3.keep K1 nin0).other W2 (Or.inr (slot_ne (Or.inl (hw _ (List.mem_of_getElem? (i := 114) rfl))) (Or.inl (hw _ (List.mem_of_getElem? (i := 58) rfl))) (by decide) (t := .int) (t' := (.array .long)) (by decide) (by decide)))).ext E3).other W4 (Or.inr (slot_ne (Or.inl (hw _ (List.mem_of_getElem? (i := 114) rfl))) (Or.inl (hw _ (List.mem_of_getElem? (i := 61) rfl))) (by decide) (t := .int) (t' := (.array .int)) (by decide) (by decide)))), ⟨_, (((V1.other W2 (by omega : @Ne Nat x1 a1)).ext E3).other W4 (by omega : @Ne Nat x1 a1))⟩, ⟨_, (V3.other W4 (by omega : @Ne Nat b3 a1))⟩, (by omega : @Ne Nat a1 x1), (by omega : @Ne Nat a1 b3), (by omega : @Ne Nat x1 b3)⟩
theorem d13_0 : decode prog_21_method_8_code 0 = .ok (.aload_n 0, 1) := by decide +kernel
theorem pd_2829I : parseMethodDescriptor "()I" = some ⟨[], some .int⟩ := by decide +kernel
theorem d13_1 : decode prog_21_method_8_code 1 = .ok (.invokevirtual 75, 3) := by decide +kernel
theorem d13_4 : decode prog_21_method_8_code 4 = .ok (.bipush 10, 2) := by decide +kernel
theorem d13_6 : decode prog_21_method_8_code 6 = .ok (.if_icmp .eq 8, 3) := by decide +kernel
theorem d13_14 : decode prog_21_method_8_code 14 = .ok (.lconst 0, 1) := by decide +kernel
theorem d13_15 : decode prog_21_method_8_code 15 = .ok (.lstore_n 1, 1) := by decide +kernel
theorem d13_16 : decode prog_21_method_8_code 16 = .ok (.iconst 0, 1) := by decide +kernel
theorem d13_17 : decode prog_21_method_8_code 17 = .ok (.istore_n 3, 1) := by decide +kernel
theorem d13_18 : decode prog_21_method_8_code 18 = .ok (.iload_n 3, 1) := by decide +kernel
theorem d13_19 : decode prog_21_method_8_code 19 = .ok (.bipush 10, 2) := by decide +kernel
theorem d13_21 : decode prog_21_method_8_code 21 = .ok (.if_icmp .ge 48, 3) := by decide +kernel
theorem d13_24 : decode prog_21_method_8_code 24 = .ok (.aload_n 0, 1) := by decide +kernel
theorem d13_25 : decode prog_21_method_8_code 25 = .ok (.iload_n 3, 1) := by decide +kernel
theorem pd_28I29C : parseMethodDescriptor "(I)C" = some ⟨[.int], some .char⟩ := by decide +kernel
theorem d13_26 : decode prog_21_method_8_code 26 = .ok (.invokevirtual 83, 3) := by decide +kernel
theorem d13_29 : decode prog_21_method_8_code 29 = .ok (.istore 4, 2) := by decide +kernel
theorem d13_31 : decode prog_21_method_8_code 31 = .ok (.iload 4, 2) := by decide +kernel
theorem d13_33 : decode prog_21_method_8_code 33 = .ok (.bipush 48, 2) := by decide +kernel
theorem d13_35 : decode prog_21_method_8_code 35 = .ok (.if_icmp .lt 10, 3) := by decide +kernel
theorem d13_38 : decode prog_21_method_8_code 38 = .ok (.iload 4, 2) := by decide +kernel
theorem d13_40 : decode prog_21_method_8_code 40 = .ok (.bipush 57, 2) := by decide +kernel
theorem d13_42 : decode prog_21_method_8_code 42 = .ok (.if_icmp .le 8, 3) := by decide +kernel
theorem d13_50 : decode prog_21_method_8_code 50 = .ok (.lload_n 1, 1) := by decide +kernel
theorem d13_51 : decode prog_21_method_8_code 51 = .ok (.ldc2_w 87, 3) := by decide +kernel
theorem d13_54 : decode prog_21_method_8_code 54 = .ok (.lmul, 1) := by decide +kernel
theorem d13_55 : decode prog_21_method_8_code 55 = .ok (.iload 4, 2) := by decide +kernel
theorem d13_57 : decode prog_21_method_8_code 57 = .ok (.bipush 48, 2) := by decide +kernel
theorem d13_59 : decode prog_21_method_8_code 59 = .ok (.isub, 1) := by decide +kernel
theorem d13_60 : decode prog_21_method_8_code 60 = .ok (.i2l, 1) := by decide +kernel
theorem d13_61 : decode prog_21_method_8_code 61 = .ok (.ladd, 1) := by decide +kernel
theorem d13_62 : decode prog_21_method_8_code 62 = .ok (.lstore_n 1, 1) := by decide +kernel
theorem d13_63 : decode prog_21_method_8_code 63 = .ok (.iinc 3 1, 3) := by decide +kernel
theorem d13_66 : decode prog_21_method_8_code 66 = .ok (.goto (-48), 3) := by decide +kernel
theorem d13_69 : decode prog_21_method_8_code 69 = .ok (.lload_n 1, 1) := by decide +kernel
theorem d13_70 : decode prog_21_method_8_code 70 = .ok (.lreturn, 1) := by decide +kernel
set_option maxRecDepth 65536 in
set_option maxHeartbeats 40000000 in
theorem own_key (l : Launch) (Z : State) (a0 : Array Value) (hw : ∀ d ∈ tables_1, d.before a0 Z = true) (hEL : EW Z a0 []) (a1 : Addr) (zc : Int32) (fm : Value) (t : Addr) (c0 c1 c2 c3 c4 c5 c6 c7 c8 c9 : Int32) (h0 : Heap) (n0 : Nat) (PS : Str Z h0 a1 t [c0, c1, c2, c3, c4, c5, c6, c7, c8, c9]) (hd0 : ¬ c0 < 48 ∧ ¬ 57 < c0) (hd1 : ¬ c1 < 48 ∧ ¬ 57 < c1) (hd2 : ¬ c2 < 48 ∧ ¬ 57 < c2) (hd3 : ¬ c3 < 48 ∧ ¬ 57 < c3) (hd4 : ¬ c4 < 48 ∧ ¬ 57 < c4) (hd5 : ¬ c5 < 48 ∧ ¬ 57 < c5) (hd6 : ¬ c6 < 48 ∧ ¬ 57 < c6) (hd7 : ¬ c7 < 48 ∧ ¬ 57 < c7) (hd8 : ¬ c8 < 48 ∧ ¬ 57 < c8) (hd9 : ¬ c9 < 48 ∧ ¬ 57 < c9) (PO : Old Z n0 h0) (SC : Sta Z Z.heap "java/lang/String" "COMPACT_STRINGS" "Z" (.int zc)) (hzc : ¬ zc = 0) (SF : Sta Z Z.heap "jdk/internal/util/Preconditions" "SIOOBE_FORMATTER" "Ljava/util/function/BiFunction;" fm) (rf : fm.isRef = true) :
    Met false Z [] l (⟨"com/example/rateledger/rateledger/io/LoanNumberMap", "key", "(Ljava/lang/String;)J"⟩ : MethodName) prog_21_method_8_code 5 (some .long) ({ frames := 5, cells := 0, slots := 0, locals := 80 } : Room) #[(.ref a1)] h0 [] n0 (fun v h => v = some (.long (hor c0 c1 c2 c3 c4 c5 c6 c7 c8 c9)) ∧ h0 = h) := by
  refine Met.of (a0 := a0) (Ls := #[.val (.ref a1), .unset, .unset, .unset, .unset]) (fun z => rfl) (plainFor_of_name pn_com_example_rateledger_rateledger_io_LoanNumberMap) hEL (fun m => by first | (simp [entryFrame, mkF, argsToLocals, Value.category]; done) | rfl) ?_
  intro p e s m below meth c B hSf
  have hlat : ∀ c ∈ ([c0, c1, c2, c3, c4, c5, c6, c7, c8, c9] : List Int32), ¬ (255 : Int32) < c := own_lat hd0.2 hd1.2 hd2.2 hd3.2 hd4.2 hd5.2 hd6.2 hd7.2 hd8.2 hd9.2
  refine gs (mkF m 1 _ [(.ref a1)]) (fun T A t k => XS.aloadN A B.x rfl (B.d d13_0) rfl rfl k) ?_
  refine g_pay (Q' := fun v h' L => v = some (.int (10 : Int32)) ∧ L = [] ∧ h0 = h') (k := 0) (n := 0) (c_virt B PS.exa (hw _ (List.mem_of_getElem? (i := 70) rfl)) (hw _ (List.mem_of_getElem? (i := 71) rfl)) (hw _ (List.mem_of_getElem? (i := 73) rfl)) (hw _ (List.mem_of_getElem? (i := 72) rfl)) (nfs (z := (⟨"java/lang/String", "length", "()I"⟩ : MethodName)) (hw _ (List.mem_of_getElem? (i := 73) rfl))) (by decide) rfl (lenOf pd_2829I rfl) rfl (Nat.le_of_eq rfl) d13_1 rfl (argsL := []) (rest := []) (W := 0) (q := 4)) (fun hZ => own_len hZ (fun d hd => hw d (own_wlen d hd)) (hw _ (List.mem_of_getElem? (i := 13) rfl)) PS (SC.ext PO.2) hzc (by decide) (by decide)) (by decide) (by decide) (fun v h' L q => ⟨by rw [q.2.1]; exact Fr.nil _, [], by rw [← q.2.2]; exact Keep.refl _ _, all0⟩) ?_
  rintro v1 h1 L1 ⟨rfl, -, rfl⟩
  refine gs (mkF m 6 _ [(.int (10 : Int32)), (.int (10 : Int32))]) (fun T A t k => XS.bipush A B.x rfl (B.d d13_4) k) ?_
  refine gs (mkF m 14 _ []) (fun T A t k => XS.icmpYes A B.x rfl (pc0 := 6) (pc' := 14) rfl (B.d d13_6) rfl (teq (by decide : (10 : Int32) = (10 : Int32))).1 (by decide) (by decide) k) ?_
  refine gs (mkF m 15 _ [(.long (0 : Int64))]) (fun T A t k => XS.lconst A B.x rfl (B.d d13_14) k) ?_
  refine gs (mkF m 16 #[.val (.ref a1), .val (.long (0 : Int64)), .second, .unset, .unset] []) (fun T A t k => XS.lstoreN A B.x rfl (B.d d13_15) rfl (l' := #[.val (.ref a1), .val (.long (0 : Int64)), .second, .unset, .unset]) rfl k) ?_
  refine gs (mkF m 17 _ [(.int (0 : Int32))]) (fun T A t k => XS.iconst A B.x rfl (B.d d13_16) k) ?_
  refine gs (mkF m 18 #[.val (.ref a1), .val (.long (0 : Int64)), .second, .val (.int (0 : Int32)), .unset] []) (fun T A t k => XS.istoreN A B.x rfl (B.d d13_17) rfl (l' := #[.val (.ref a1), .val (.long (0 : Int64)), .second, .val (.int (0 : Int32)), .unset]) rfl k) ?_
  refine gs (mkF m 19 _ [(.int (0 : Int32))]) (fun T A t k => XS.iloadN A B.x rfl (B.d d13_18) rfl k) ?_
  refine gs (mkF m 21 _ [(.int (10 : Int32)), (.int (0 : Int32))]) (fun T A t k => XS.bipush A B.x rfl (B.d d13_19) k) ?_
  refine gs (mkF m 24 _ []) (fun T A t k => XS.icmpNo A B.x rfl (B.d d13_21) rfl (tlt (by decide : (0 : Int32) < (10 : Int32))).2.1 k) ?_
  refine gs (mkF m 25 _ [(.ref a1)]) (fun T A t k => XS.aloadN A B.x rfl (B.d d13_24) rfl rfl k) ?_
  refine gs (mkF m 26 _ [(.int (0 : Int32)), (.ref a1)]) (fun T A t k => XS.iloadN A B.x rfl (B.d d13_25) rfl k) ?_
  refine g_pay (Q' := fun v h' L => v = some (.int c0) ∧ L = [] ∧ h0 = h') (k := 0) (n := 0) (c_virt B PS.exa (hw _ (List.mem_of_getElem? (i := 80) rfl)) (hw _ (List.mem_of_getElem? (i := 81) rfl)) (hw _ (List.mem_of_getElem? (i := 83) rfl)) (hw _ (List.mem_of_getElem? (i := 82) rfl)) (nfs (z := (⟨"java/lang/String", "charAt", "(I)C"⟩ : MethodName)) (hw _ (List.mem_of_getElem? (i := 83) rfl))) (by decide) rfl (lenOf pd_28I29C rfl) rfl (Nat.le_of_eq rfl) d13_26 rfl (argsL := [(.int (0 : Int32))]) (rest := []) (W := 0) (q := 29)) (fun hZ => own_chr 0 hZ (fun d hd => hw d (own_wchr d hd)) (hw _ (List.mem_of_getElem? (i := 13) rfl)) PS hlat (SC.ext PO.2) hzc (SF.ext PO.2) rf (Nat.le_of_ble_eq_true rfl) rfl (by decide) (by decide)) (by decide) (by decide) (fun v h' L q => ⟨by rw [q.2.1]; exact Fr.nil _, [], by rw [← q.2.2]; exact Keep.refl _ _, all0⟩) ?_
  rintro v2 h2 L2 ⟨rfl, -, rfl⟩
  refine gs (mkF m 31 #[.val (.ref a1), .val (.long (0 : Int64)), .second, .val (.int (0 : Int32)), .val (.int c0)] []) (fun T A t k => XS.istore A B.x rfl (B.d d13_29) rfl (l' := #[.val (.ref a1), .val (.long (0 : Int64)), .second, .val (.int (0 : Int32)), .val (.int c0)]) rfl k) ?_
  refine gs (mkF m 33 _ [(.int c0)]) (fun T A t k => XS.iload A B.x rfl (B.d d13_31) rfl k) ?_
  refine gs (mkF m 35 _ [(.int (48 : Int32)), (.int c0)]) (fun T A t k => XS.bipush A B.x rfl (B.d d13_33) k) ?_
  refine gs (mkF m 38 _ []) (fun T A t k => XS.icmpNo A B.x rfl (B.d d13_35) rfl (flt (hd0.1 : ¬ (c0 < (48 : Int32)))).1 k) ?_
  refine gs (mkF m 40 _ [(.int c0)]) (fun T A t k => XS.iload A B.x rfl (B.d d13_38) rfl k) ?_
  refine gs (mkF m 42 _ [(.int (57 : Int32)), (.int c0)]) (fun T A t k => XS.bipush A B.x rfl (B.d d13_40) k) ?_
  refine gs (mkF m 50 _ []) (fun T A t k => XS.icmpYes A B.x rfl (pc0 := 42) (pc' := 50) rfl (B.d d13_42) rfl (flt (hd0.2 : ¬ ((57 : Int32) < c0))).2.2.2 (by decide) (by decide) k) ?_
  refine gs (mkF m 51 _ [(.long (0 : Int64))]) (fun T A t k => XS.lloadN A B.x rfl (B.d d13_50) rfl k) ?_
  refine g_ldc2J B (hw _ (List.mem_of_getElem? (i := 102) rfl)) d13_51 (q := 54) rfl ?_
  refine gs (mkF m 55 _ [(.long (0 : Int64))]) (fun T A t k => XS.lmul A B.x rfl (B.d d13_54) rfl k) ?_
  refine gs (mkF m 57 _ [(.int c0), (.long (0 : Int64))]) (fun T A t k => XS.iload A B.x rfl (B.d d13_55) rfl k) ?_
  refine gs (mkF m 59 _ [(.int (48 : Int32)), (.int c0), (.long (0 : Int64))]) (fun T A t k => XS.bipush A B.x rfl (B.d d13_57) k) ?_
  refine gs (mkF m 60 _ [(.int (c0 - (48 : Int32))), (.long (0 : Int64))]) (fun T A t k => XS.isub A B.x rfl (B.d d13_59) rfl k) ?_
  refine gs (mkF m 61 _ [(.long ((c0 - (48 : Int32)).toInt64)), (.long (0 : Int64))]) (fun T A t k => XS.i2l A B.x rfl (B.d d13_60) rfl k) ?_
  refine gs (mkF m 62 _ [(.long ((0 : Int64) + ((c0 - (48 : Int32)).toInt64)))]) (fun T A t k => XS.ladd A B.x rfl (B.d d13_61) rfl k) ?_
  refine gs (mkF m 63 #[.val (.ref a1), .val (.long ((0 : Int64) + ((c0 - (48 : Int32)).toInt64))), .second, .val (.int (0 : Int32)), .val (.int c0)] []) (fun T A t k => XS.lstoreN A B.x rfl (B.d d13_62) rfl (l' := #[.val (.ref a1), .val (.long ((0 : Int64) + ((c0 - (48 : Int32)).toInt64))), .second, .val (.int (0 : Int32)), .val (.int c0)]) rfl k) ?_
  refine gs (mkF m 66 #[.val (.ref a1), .val (.long ((0 : Int64) + ((c0 - (48 : Int32)).toInt64))), .second, .val (.int (1 : Int32)), .val (.int c0)] []) (fun T A t k => XS.iinc A B.x rfl (B.d d13_63) rfl (l' := #[.val (.ref a1), .val (.long ((0 : Int64) + ((c0 - (48 : Int32)).toInt64))), .second, .val (.int (1 : Int32)), .val (.int c0)]) rfl k) ?_
  refine gs (mkF m 18 _ []) (fun T A t k => XS.goto A B.x rfl (pc0 := 66) (pc' := 18) rfl (B.d d13_66) (by decide) (by decide) k) ?_
  generalize e_k0 : ((0 : Int64) + ((c0 - (48 : Int32)).toInt64)) = k0
  refine gs (mkF m 19 _ [(.int (1 : Int32))]) (fun T A t k => XS.iloadN A B.x rfl (B.d d13_18) rfl k) ?_
  refine gs (mkF m 21 _ [(.int (10 : Int32)), (.int (1 : Int32))]) (fun T A t k => XS.bipush A B.x rfl (B.d d13_19) k) ?_
  refine gs (mkF m 24 _ []) (fun T A t k => XS.icmpNo A B.x rfl (B.d d13_21) rfl (tlt (by decide : (1 : Int32) < (10 : Int32))).2.1 k) ?_
  refine gs (mkF m 25 _ [(.ref a1)]) (fun T A t k => XS.aloadN A B.x rfl (B.d d13_24) rfl rfl k) ?_
  refine gs (mkF m 26 _ [(.int (1 : Int32)), (.ref a1)]) (fun T A t k => XS.iloadN A B.x rfl (B.d d13_25) rfl k) ?_
  refine g_pay (Q' := fun v h' L => v = some (.int c1) ∧ L = [] ∧ h0 = h') (k := 0) (n := 0) (c_virt B PS.exa (hw _ (List.mem_of_getElem? (i := 80) rfl)) (hw _ (List.mem_of_getElem? (i := 81) rfl)) (hw _ (List.mem_of_getElem? (i := 83) rfl)) (hw _ (List.mem_of_getElem? (i := 82) rfl)) (nfs (z := (⟨"java/lang/String", "charAt", "(I)C"⟩ : MethodName)) (hw _ (List.mem_of_getElem? (i := 83) rfl))) (by decide) rfl (lenOf pd_28I29C rfl) rfl (Nat.le_of_eq rfl) d13_26 rfl (argsL := [(.int (1 : Int32))]) (rest := []) (W := 0) (q := 29)) (fun hZ => own_chr 1 hZ (fun d hd => hw d (own_wchr d hd)) (hw _ (List.mem_of_getElem? (i := 13) rfl)) PS hlat (SC.ext PO.2) hzc (SF.ext PO.2) rf (Nat.le_of_ble_eq_true rfl) rfl (by decide) (by decide)) (by decide) (by decide) (fun v h' L q => ⟨by rw [q.2.1]; exact Fr.nil _, [], by rw [← q.2.2]; exact Keep.refl _ _, all0⟩) ?_
  rintro v3 h3 L3 ⟨rfl, -, rfl⟩
  refine gs (mkF m 31 #[.val (.ref a1), .val (.long k0), .second, .val (.int (1 : Int32)), .val (.int c1)] []) (fun T A t k => XS.istore A B.x rfl (B.d d13_29) rfl (l' := #[.val (.ref a1), .val (.long k0), .second, .val (.int (1 : Int32)), .val (.int c1)]) rfl k) ?_
  refine gs (mkF m 33 _ [(.int c1)]) (fun T A t k => XS.iload A B.x rfl (B.d d13_31) rfl k) ?_
  refine gs (mkF m 35 _ [(.int (48 : Int32)), (.int c1)]) (fun T A t k => XS.bipush A B.x rfl (B.d d13_33) k) ?_
  refine gs (mkF m 38 _ []) (fun T A t k => XS.icmpNo A B.x rfl (B.d d13_35) rfl (flt (hd1.1 : ¬ (c1 < (48 : Int32)))).1 k) ?_
  refine gs (mkF m 40 _ [(.int c1)]) (fun T A t k => XS.iload A B.x rfl (B.d d13_38) rfl k) ?_
  refine gs (mkF m 42 _ [(.int (57 : Int32)), (.int c1)]) (fun T A t k => XS.bipush A B.x rfl (B.d d13_40) k) ?_
  refine gs (mkF m 50 _ []) (fun T A t k => XS.icmpYes A B.x rfl (pc0 := 42) (pc' := 50) rfl (B.d d13_42) rfl (flt (hd1.2 : ¬ ((57 : Int32) < c1))).2.2.2 (by decide) (by decide) k) ?_
  refine gs (mkF m 51 _ [(.long k0)]) (fun T A t k => XS.lloadN A B.x rfl (B.d d13_50) rfl k) ?_
  refine g_ldc2J B (hw _ (List.mem_of_getElem? (i := 102) rfl)) d13_51 (q := 54) rfl ?_
  refine gs (mkF m 55 _ [(.long (k0 * (10 : Int64)))]) (fun T A t k => XS.lmul A B.x rfl (B.d d13_54) rfl k) ?_
  refine gs (mkF m 57 _ [(.int c1), (.long (k0 * (10 : Int64)))]) (fun T A t k => XS.iload A B.x rfl (B.d d13_55) rfl k) ?_
  refine gs (mkF m 59 _ [(.int (48 : Int32)), (.int c1), (.long (k0 * (10 : Int64)))]) (fun T A t k => XS.bipush A B.x rfl (B.d d13_57) k) ?_
  refine gs (mkF m 60 _ [(.int (c1 - (48 : Int32))), (.long (k0 * (10 : Int64)))]) (fun T A t k => XS.isub A B.x rfl (B.d d13_59) rfl k) ?_
  refine gs (mkF m 61 _ [(.long ((c1 - (48 : Int32)).toInt64)), (.long (k0 * (10 : Int64)))]) (fun T A t k => XS.i2l A B.x rfl (B.d d13_60) rfl k) ?_
  refine gs (mkF m 62 _ [(.long ((k0 * (10 : Int64)) + ((c1 - (48 : Int32)).toInt64)))]) (fun T A t k => XS.ladd A B.x rfl (B.d d13_61) rfl k) ?_
  refine gs (mkF m 63 #[.val (.ref a1), .val (.long ((k0 * (10 : Int64)) + ((c1 - (48 : Int32)).toInt64))), .second, .val (.int (1 : Int32)), .val (.int c1)] []) (fun T A t k => XS.lstoreN A B.x rfl (B.d d13_62) rfl (l' := #[.val (.ref a1), .val (.long ((k0 * (10 : Int64)) + ((c1 - (48 : Int32)).toInt64))), .second, .val (.int (1 : Int32)), .val (.int c1)]) rfl k) ?_
  refine gs (mkF m 66 #[.val (.ref a1), .val (.long ((k0 * (10 : Int64)) + ((c1 - (48 : Int32)).toInt64))), .second, .val (.int (2 : Int32)), .val (.int c1)] []) (fun T A t k => XS.iinc A B.x rfl (B.d d13_63) rfl (l' := #[.val (.ref a1), .val (.long ((k0 * (10 : Int64)) + ((c1 - (48 : Int32)).toInt64))), .second, .val (.int (2 : Int32)), .val (.int c1)]) rfl k) ?_
  refine gs (mkF m 18 _ []) (fun T A t k => XS.goto A B.x rfl (pc0 := 66) (pc' := 18) rfl (B.d d13_66) (by decide) (by decide) k) ?_
  generalize e_k1 : ((k0 * (10 : Int64)) + ((c1 - (48 : Int32)).toInt64)) = k1
  refine gs (mkF m 19 _ [(.int (2 : Int32))]) (fun T A t k => XS.iloadN A B.x rfl (B.d d13_18) rfl k) ?_
  refine gs (mkF m 21 _ [(.int (10 : Int32)), (.int (2 : Int32))]) (fun T A t k => XS.bipush A B.x rfl (B.d d13_19) k) ?_
  refine gs (mkF m 24 _ []) (fun T A t k => XS.icmpNo A B.x rfl (B.d d13_21) rfl (tlt (by decide : (2 : Int32) < (10 : Int32))).2.1 k) ?_
  refine gs (mkF m 25 _ [(.ref a1)]) (fun T A t k => XS.aloadN A B.x rfl (B.d d13_24) rfl rfl k) ?_
  refine gs (mkF m 26 _ [(.int (2 : Int32)), (.ref a1)]) (fun T A t k => XS.iloadN A B.x rfl (B.d d13_25) rfl k) ?_
  refine g_pay (Q' := fun v h' L => v = some (.int c2) ∧ L = [] ∧ h0 = h') (k := 0) (n := 0) (c_virt B PS.exa (hw _ (List.mem_of_getElem? (i := 80) rfl)) (hw _ (List.mem_of_getElem? (i := 81) rfl)) (hw _ (List.mem_of_getElem? (i := 83) rfl)) (hw _ (List.mem_of_getElem? (i := 82) rfl)) (nfs (z := (⟨"java/lang/String", "charAt", "(I)C"⟩ : MethodName)) (hw _ (List.mem_of_getElem? (i := 83) rfl))) (by decide) rfl (lenOf pd_28I29C rfl) rfl (Nat.le_of_eq rfl) d13_26 rfl (argsL := [(.int (2 : Int32))]) (rest := []) (W := 0) (q := 29)) (fun hZ => own_chr 2 hZ (fun d hd => hw d (own_wchr d hd)) (hw _ (List.mem_of_getElem? (i := 13) rfl)) PS hlat (SC.ext PO.2) hzc (SF.ext PO.2) rf (Nat.le_of_ble_eq_true rfl) rfl (by decide) (by decide)) (by decide) (by decide) (fun v h' L q => ⟨by rw [q.2.1]; exact Fr.nil _, [], by rw [← q.2.2]; exact Keep.refl _ _, all0⟩) ?_
  rintro v4 h4 L4 ⟨rfl, -, rfl⟩
  refine gs (mkF m 31 #[.val (.ref a1), .val (.long k1), .second, .val (.int (2 : Int32)), .val (.int c2)] []) (fun T A t k => XS.istore A B.x rfl (B.d d13_29) rfl (l' := #[.val (.ref a1), .val (.long k1), .second, .val (.int (2 : Int32)), .val (.int c2)]) rfl k) ?_
  refine gs (mkF m 33 _ [(.int c2)]) (fun T A t k => XS.iload A B.x rfl (B.d d13_31) rfl k) ?_
  refine gs (mkF m 35 _ [(.int (48 : Int32)), (.int c2)]) (fun T A t k => XS.bipush A B.x rfl (B.d d13_33) k) ?_
  refine gs (mkF m 38 _ []) (fun T A t k => XS.icmpNo A B.x rfl (B.d d13_35) rfl (flt (hd2.1 : ¬ (c2 < (48 : Int32)))).1 k) ?_
  refine gs (mkF m 40 _ [(.int c2)]) (fun T A t k => XS.iload A B.x rfl (B.d d13_38) rfl k) ?_
  refine gs (mkF m 42 _ [(.int (57 : Int32)), (.int c2)]) (fun T A t k => XS.bipush A B.x rfl (B.d d13_40) k) ?_
  refine gs (mkF m 50 _ []) (fun T A t k => XS.icmpYes A B.x rfl (pc0 := 42) (pc' := 50) rfl (B.d d13_42) rfl (flt (hd2.2 : ¬ ((57 : Int32) < c2))).2.2.2 (by decide) (by decide) k) ?_
  refine gs (mkF m 51 _ [(.long k1)]) (fun T A t k => XS.lloadN A B.x rfl (B.d d13_50) rfl k) ?_
  refine g_ldc2J B (hw _ (List.mem_of_getElem? (i := 102) rfl)) d13_51 (q := 54) rfl ?_
  refine gs (mkF m 55 _ [(.long (k1 * (10 : Int64)))]) (fun T A t k => XS.lmul A B.x rfl (B.d d13_54) rfl k) ?_
  refine gs (mkF m 57 _ [(.int c2), (.long (k1 * (10 : Int64)))]) (fun T A t k => XS.iload A B.x rfl (B.d d13_55) rfl k) ?_
  refine gs (mkF m 59 _ [(.int (48 : Int32)), (.int c2), (.long (k1 * (10 : Int64)))]) (fun T A t k => XS.bipush A B.x rfl (B.d d13_57) k) ?_
  refine gs (mkF m 60 _ [(.int (c2 - (48 : Int32))), (.long (k1 * (10 : Int64)))]) (fun T A t k => XS.isub A B.x rfl (B.d d13_59) rfl k) ?_
  refine gs (mkF m 61 _ [(.long ((c2 - (48 : Int32)).toInt64)), (.long (k1 * (10 : Int64)))]) (fun T A t k => XS.i2l A B.x rfl (B.d d13_60) rfl k) ?_
  refine gs (mkF m 62 _ [(.long ((k1 * (10 : Int64)) + ((c2 - (48 : Int32)).toInt64)))]) (fun T A t k => XS.ladd A B.x rfl (B.d d13_61) rfl k) ?_
  refine gs (mkF m 63 #[.val (.ref a1), .val (.long ((k1 * (10 : Int64)) + ((c2 - (48 : Int32)).toInt64))), .second, .val (.int (2 : Int32)), .val (.int c2)] []) (fun T A t k => XS.lstoreN A B.x rfl (B.d d13_62) rfl (l' := #[.val (.ref a1), .val (.long ((k1 * (10 : Int64)) + ((c2 - (48 : Int32)).toInt64))), .second, .val (.int (2 : Int32)), .val (.int c2)]) rfl k) ?_
  refine gs (mkF m 66 #[.val (.ref a1), .val (.long ((k1 * (10 : Int64)) + ((c2 - (48 : Int32)).toInt64))), .second, .val (.int (3 : Int32)), .val (.int c2)] []) (fun T A t k => XS.iinc A B.x rfl (B.d d13_63) rfl (l' := #[.val (.ref a1), .val (.long ((k1 * (10 : Int64)) + ((c2 - (48 : Int32)).toInt64))), .second, .val (.int (3 : Int32)), .val (.int c2)]) rfl k) ?_
  refine gs (mkF m 18 _ []) (fun T A t k => XS.goto A B.x rfl (pc0 := 66) (pc' := 18) rfl (B.d d13_66) (by decide) (by decide) k) ?_
  generalize e_k2 : ((k1 * (10 : Int64)) + ((c2 - (48 : Int32)).toInt64)) = k2
  refine gs (mkF m 19 _ [(.int (3 : Int32))]) (fun T A t k => XS.iloadN A B.x rfl (B.d d13_18) rfl k) ?_
  refine gs (mkF m 21 _ [(.int (10 : Int32)), (.int (3 : Int32))]) (fun T A t k => XS.bipush A B.x rfl (B.d d13_19) k) ?_
  refine gs (mkF m 24 _ []) (fun T A t k => XS.icmpNo A B.x rfl (B.d d13_21) rfl (tlt (by decide : (3 : Int32) < (10 : Int32))).2.1 k) ?_
  refine gs (mkF m 25 _ [(.ref a1)]) (fun T A t k => XS.aloadN A B.x rfl (B.d d13_24) rfl rfl k) ?_
  refine gs (mkF m 26 _ [(.int (3 : Int32)), (.ref a1)]) (fun T A t k => XS.iloadN A B.x rfl (B.d d13_25) rfl k) ?_
  refine g_pay (Q' := fun v h' L => v = some (.int c3) ∧ L = [] ∧ h0 = h') (k := 0) (n := 0) (c_virt B PS.exa (hw _ (List.mem_of_getElem? (i := 80) rfl)) (hw _ (List.mem_of_getElem? (i := 81) rfl)) (hw _ (List.mem_of_getElem? (i := 83) rfl)) (hw _ (List.mem_of_getElem? (i := 82) rfl)) (nfs (z := (⟨"java/lang/String", "charAt", "(I)C"⟩ : MethodName)) (hw _ (List.mem_of_getElem? (i := 83) rfl))) (by decide) rfl (lenOf pd_28I29C rfl) rfl (Nat.le_of_eq rfl) d13_26 rfl (argsL := [(.int (3 : Int32))]) (rest := []) (W := 0) (q := 29)) (fun hZ => own_chr 3 hZ (fun d hd => hw d (own_wchr d hd)) (hw _ (List.mem_of_getElem? (i := 13) rfl)) PS hlat (SC.ext PO.2) hzc (SF.ext PO.2) rf (Nat.le_of_ble_eq_true rfl) rfl (by decide) (by decide)) (by decide) (by decide) (fun v h' L q => ⟨by rw [q.2.1]; exact Fr.nil _, [], by rw [← q.2.2]; exact Keep.refl _ _, all0⟩) ?_
  rintro v5 h5 L5 ⟨rfl, -, rfl⟩
  refine gs (mkF m 31 #[.val (.ref a1), .val (.long k2), .second, .val (.int (3 : Int32)), .val (.int c3)] []) (fun T A t k => XS.istore A B.x rfl (B.d d13_29) rfl (l' := #[.val (.ref a1), .val (.long k2), .second, .val (.int (3 : Int32)), .val (.int c3)]) rfl k) ?_
  refine gs (mkF m 33 _ [(.int c3)]) (fun T A t k => XS.iload A B.x rfl (B.d d13_31) rfl k) ?_
  refine gs (mkF m 35 _ [(.int (48 : Int32)), (.int c3)]) (fun T A t k => XS.bipush A B.x rfl (B.d d13_33) k) ?_
  refine gs (mkF m 38 _ []) (fun T A t k => XS.icmpNo A B.x rfl (B.d d13_35) rfl (flt (hd3.1 : ¬ (c3 < (48 : Int32)))).1 k) ?_
  refine gs (mkF m 40 _ [(.int c3)]) (fun T A t k => XS.iload A B.x rfl (B.d d13_38) rfl k) ?_
  refine gs (mkF m 42 _ [(.int (57 : Int32)), (.int c3)]) (fun T A t k => XS.bipush A B.x rfl (B.d d13_40) k) ?_
  refine gs (mkF m 50 _ []) (fun T A t k => XS.icmpYes A B.x rfl (pc0 := 42) (pc' := 50) rfl (B.d d13_42) rfl (flt (hd3.2 : ¬ ((57 : Int32) < c3))).2.2.2 (by decide) (by decide) k) ?_
  refine gs (mkF m 51 _ [(.long k2)]) (fun T A t k => XS.lloadN A B.x rfl (B.d d13_50) rfl k) ?_
  refine g_ldc2J B (hw _ (List.mem_of_getElem? (i := 102) rfl)) d13_51 (q := 54) rfl ?_
  refine gs (mkF m 55 _ [(.long (k2 * (10 : Int64)))]) (fun T A t k => XS.lmul A B.x rfl (B.d d13_54) rfl k) ?_
  refine gs (mkF m 57 _ [(.int c3), (.long (k2 * (10 : Int64)))]) (fun T A t k => XS.iload A B.x rfl (B.d d13_55) rfl k) ?_
  refine gs (mkF m 59 _ [(.int (48 : Int32)), (.int c3), (.long (k2 * (10 : Int64)))]) (fun T A t k => XS.bipush A B.x rfl (B.d d13_57) k) ?_
  refine gs (mkF m 60 _ [(.int (c3 - (48 : Int32))), (.long (k2 * (10 : Int64)))]) (fun T A t k => XS.isub A B.x rfl (B.d d13_59) rfl k) ?_
  refine gs (mkF m 61 _ [(.long ((c3 - (48 : Int32)).toInt64)), (.long (k2 * (10 : Int64)))]) (fun T A t k => XS.i2l A B.x rfl (B.d d13_60) rfl k) ?_
  refine gs (mkF m 62 _ [(.long ((k2 * (10 : Int64)) + ((c3 - (48 : Int32)).toInt64)))]) (fun T A t k => XS.ladd A B.x rfl (B.d d13_61) rfl k) ?_
  refine gs (mkF m 63 #[.val (.ref a1), .val (.long ((k2 * (10 : Int64)) + ((c3 - (48 : Int32)).toInt64))), .second, .val (.int (3 : Int32)), .val (.int c3)] []) (fun T A t k => XS.lstoreN A B.x rfl (B.d d13_62) rfl (l' := #[.val (.ref a1), .val (.long ((k2 * (10 : Int64)) + ((c3 - (48 : Int32)).toInt64))), .second, .val (.int (3 : Int32)), .val (.int c3)]) rfl k) ?_
  refine gs (mkF m 66 #[.val (.ref a1), .val (.long ((k2 * (10 : Int64)) + ((c3 - (48 : Int32)).toInt64))), .second, .val (.int (4 : Int32)), .val (.int c3)] []) (fun T A t k => XS.iinc A B.x rfl (B.d d13_63) rfl (l' := #[.val (.ref a1), .val (.long ((k2 * (10 : Int64)) + ((c3 - (48 : Int32)).toInt64))), .second, .val (.int (4 : Int32)), .val (.int c3)]) rfl k) ?_
  refine gs (mkF m 18 _ []) (fun T A t k => XS.goto A B.x rfl (pc0 := 66) (pc' := 18) rfl (B.d d13_66) (by decide) (by decide) k) ?_
  generalize e_k3 : ((k2 * (10 : Int64)) + ((c3 - (48 : Int32)).toInt64)) = k3
  refine gs (mkF m 19 _ [(.int (4 : Int32))]) (fun T A t k => XS.iloadN A B.x rfl (B.d d13_18) rfl k) ?_
  refine gs (mkF m 21 _ [(.int (10 : Int32)), (.int (4 : Int32))]) (fun T A t k => XS.bipush A B.x rfl (B.d d13_19) k) ?_
  refine gs (mkF m 24 _ []) (fun T A t k => XS.icmpNo A B.x rfl (B.d d13_21) rfl (tlt (by decide : (4 : Int32) < (10 : Int32))).2.1 k) ?_
  refine gs (mkF m 25 _ [(.ref a1)]) (fun T A t k => XS.aloadN A B.x rfl (B.d d13_24) rfl rfl k) ?_
  refine gs (mkF m 26 _ [(.int (4 : Int32)), (.ref a1)]) (fun T A t k => XS.iloadN A B.x rfl (B.d d13_25) rfl k) ?_
  refine g_pay (Q' := fun v h' L => v = some (.int c4) ∧ L = [] ∧ h0 = h') (k := 0) (n := 0) (c_virt B PS.exa (hw _ (List.mem_of_getElem? (i := 80) rfl)) (hw _ (List.mem_of_getElem? (i := 81) rfl)) (hw _ (List.mem_of_getElem? (i := 83) rfl)) (hw _ (List.mem_of_getElem? (i := 82) rfl)) (nfs (z := (⟨"java/lang/String", "charAt", "(I)C"⟩ : MethodName)) (hw _ (List.mem_of_getElem? (i := 83) rfl))) (by decide) rfl (lenOf pd_28I29C rfl) rfl (Nat.le_of_eq rfl) d13_26 rfl (argsL := [(.int (4 : Int32))]) (rest := []) (W := 0) (q := 29)) (fun hZ => own_chr 4 hZ (fun d hd => hw d (own_wchr d hd)) (hw _ (List.mem_of_getElem? (i := 13) rfl)) PS hlat (SC.ext PO.2) hzc (SF.ext PO.2) rf (Nat.le_of_ble_eq_true rfl) rfl (by decide) (by decide)) (by decide) (by decide) (fun v h' L q => ⟨by rw [q.2.1]; exact Fr.nil _, [], by rw [← q.2.2]; exact Keep.refl _ _, all0⟩) ?_
  rintro v6 h6 L6 ⟨rfl, -, rfl⟩
  refine gs (mkF m 31 #[.val (.ref a1), .val (.long k3), .second, .val (.int (4 : Int32)), .val (.int c4)] []) (fun T A t k => XS.istore A B.x rfl (B.d d13_29) rfl (l' := #[.val (.ref a1), .val (.long k3), .second, .val (.int (4 : Int32)), .val (.int c4)]) rfl k) ?_
  refine gs (mkF m 33 _ [(.int c4)]) (fun T A t k => XS.iload A B.x rfl (B.d d13_31) rfl k) ?_
  refine gs (mkF m 35 _ [(.int (48 : Int32)), (.int c4)]) (fun T A t k => XS.bipush A B.x rfl (B.d d13_33) k) ?_
  refine gs (mkF m 38 _ []) (fun T A t k => XS.icmpNo A B.x rfl (B.d d13_35) rfl (flt (hd4.1 : ¬ (c4 < (48 : Int32)))).1 k) ?_
  refine gs (mkF m 40 _ [(.int c4)]) (fun T A t k => XS.iload A B.x rfl (B.d d13_38) rfl k) ?_
  refine gs (mkF m 42 _ [(.int (57 : Int32)), (.int c4)]) (fun T A t k => XS.bipush A B.x rfl (B.d d13_40) k) ?_
  refine gs (mkF m 50 _ []) (fun T A t k => XS.icmpYes A B.x rfl (pc0 := 42) (pc' := 50) rfl (B.d d13_42) rfl (flt (hd4.2 : ¬ ((57 : Int32) < c4))).2.2.2 (by decide) (by decide) k) ?_
  refine gs (mkF m 51 _ [(.long k3)]) (fun T A t k => XS.lloadN A B.x rfl (B.d d13_50) rfl k) ?_
  refine g_ldc2J B (hw _ (List.mem_of_getElem? (i := 102) rfl)) d13_51 (q := 54) rfl ?_
  refine gs (mkF m 55 _ [(.long (k3 * (10 : Int64)))]) (fun T A t k => XS.lmul A B.x rfl (B.d d13_54) rfl k) ?_
  refine gs (mkF m 57 _ [(.int c4), (.long (k3 * (10 : Int64)))]) (fun T A t k => XS.iload A B.x rfl (B.d d13_55) rfl k) ?_
  refine gs (mkF m 59 _ [(.int (48 : Int32)), (.int c4), (.long (k3 * (10 : Int64)))]) (fun T A t k => XS.bipush A B.x rfl (B.d d13_57) k) ?_
  refine gs (mkF m 60 _ [(.int (c4 - (48 : Int32))), (.long (k3 * (10 : Int64)))]) (fun T A t k => XS.isub A B.x rfl (B.d d13_59) rfl k) ?_
  refine gs (mkF m 61 _ [(.long ((c4 - (48 : Int32)).toInt64)), (.long (k3 * (10 : Int64)))]) (fun T A t k => XS.i2l A B.x rfl (B.d d13_60) rfl k) ?_
  refine gs (mkF m 62 _ [(.long ((k3 * (10 : Int64)) + ((c4 - (48 : Int32)).toInt64)))]) (fun T A t k => XS.ladd A B.x rfl (B.d d13_61) rfl k) ?_
  refine gs (mkF m 63 #[.val (.ref a1), .val (.long ((k3 * (10 : Int64)) + ((c4 - (48 : Int32)).toInt64))), .second, .val (.int (4 : Int32)), .val (.int c4)] []) (fun T A t k => XS.lstoreN A B.x rfl (B.d d13_62) rfl (l' := #[.val (.ref a1), .val (.long ((k3 * (10 : Int64)) + ((c4 - (48 : Int32)).toInt64))), .second, .val (.int (4 : Int32)), .val (.int c4)]) rfl k) ?_
  refine gs (mkF m 66 #[.val (.ref a1), .val (.long ((k3 * (10 : Int64)) + ((c4 - (48 : Int32)).toInt64))), .second, .val (.int (5 : Int32)), .val (.int c4)] []) (fun T A t k => XS.iinc A B.x rfl (B.d d13_63) rfl (l' := #[.val (.ref a1), .val (.long ((k3 * (10 : Int64)) + ((c4 - (48 : Int32)).toInt64))), .second, .val (.int (5 : Int32)), .val (.int c4)]) rfl k) ?_
  refine gs (mkF m 18 _ []) (fun T A t k => XS.goto A B.x rfl (pc0 := 66) (pc' := 18) rfl (B.d d13_66) (by decide) (by decide) k) ?_
  generalize e_k4 : ((k3 * (10 : Int64)) + ((c4 - (48 : Int32)).toInt64)) = k4
  refine gs (mkF m 19 _ [(.int (5 : Int32))]) (fun T A t k => XS.iloadN A B.x rfl (B.d d13_18) rfl k) ?_
  refine gs (mkF m 21 _ [(.int (10 : Int32)), (.int (5 : Int32))]) (fun T A t k => XS.bipush A B.x rfl (B.d d13_19) k) ?_
  refine gs (mkF m 24 _ []) (fun T A t k => XS.icmpNo A B.x rfl (B.d d13_21) rfl (tlt (by decide : (5 : Int32) < (10 : Int32))).2.1 k) ?_
  refine gs (mkF m 25 _ [(.ref a1)]) (fun T A t k => XS.aloadN A B.x rfl (B.d d13_24) rfl rfl k) ?_
  refine gs (mkF m 26 _ [(.int (5 : Int32)), (.ref a1)]) (fun T A t k => XS.iloadN A B.x rfl (B.d d13_25) rfl k) ?_
  refine g_pay (Q' := fun v h' L => v = some (.int c5) ∧ L = [] ∧ h0 = h') (k := 0) (n := 0) (c_virt B PS.exa (hw _ (List.mem_of_getElem? (i := 80) rfl)) (hw _ (List.mem_of_getElem? (i := 81) rfl)) (hw _ (List.mem_of_getElem? (i := 83) rfl)) (hw _ (List.mem_of_getElem? (i := 82) rfl)) (nfs (z := (⟨"java/lang/String", "charAt", "(I)C"⟩ : MethodName)) (hw _ (List.mem_of_getElem? (i := 83) rfl))) (by decide) rfl (lenOf pd_28I29C rfl) rfl (Nat.le_of_eq rfl) d13_26 rfl (argsL := [(.int (5 : Int32))]) (rest := []) (W := 0) (q := 29)) (fun hZ => own_chr 5 hZ (fun d hd => hw d (own_wchr d hd)) (hw _ (List.mem_of_getElem? (i := 13) rfl)) PS hlat (SC.ext PO.2) hzc (SF.ext PO.2) rf (Nat.le_of_ble_eq_true rfl) rfl (by decide) (by decide)) (by decide) (by decide) (fun v h' L q => ⟨by rw [q.2.1]; exact Fr.nil _, [], by rw [← q.2.2]; exact Keep.refl _ _, all0⟩) ?_
  rintro v7 h7 L7 ⟨rfl, -, rfl⟩
  refine gs (mkF m 31 #[.val (.ref a1), .val (.long k4), .second, .val (.int (5 : Int32)), .val (.int c5)] []) (fun T A t k => XS.istore A B.x rfl (B.d d13_29) rfl (l' := #[.val (.ref a1), .val (.long k4), .second, .val (.int (5 : Int32)), .val (.int c5)]) rfl k) ?_
  refine gs (mkF m 33 _ [(.int c5)]) (fun T A t k => XS.iload A B.x rfl (B.d d13_31) rfl k) ?_
  refine gs (mkF m 35 _ [(.int (48 : Int32)), (.int c5)]) (fun T A t k => XS.bipush A B.x rfl (B.d d13_33) k) ?_
  refine gs (mkF m 38 _ []) (fun T A t k => XS.icmpNo A B.x rfl (B.d d13_35) rfl (flt (hd5.1 : ¬ (c5 < (48 : Int32)))).1 k) ?_
  refine gs (mkF m 40 _ [(.int c5)]) (fun T A t k => XS.iload A B.x rfl (B.d d13_38) rfl k) ?_
  refine gs (mkF m 42 _ [(.int (57 : Int32)), (.int c5)]) (fun T A t k => XS.bipush A B.x rfl (B.d d13_40) k) ?_
  refine gs (mkF m 50 _ []) (fun T A t k => XS.icmpYes A B.x rfl (pc0 := 42) (pc' := 50) rfl (B.d d13_42) rfl (flt (hd5.2 : ¬ ((57 : Int32) < c5))).2.2.2 (by decide) (by decide) k) ?_
  refine gs (mkF m 51 _ [(.long k4)]) (fun T A t k => XS.lloadN A B.x rfl (B.d d13_50) rfl k) ?_
  refine g_ldc2J B (hw _ (List.mem_of_getElem? (i := 102) rfl)) d13_51 (q := 54) rfl ?_
  refine gs (mkF m 55 _ [(.long (k4 * (10 : Int64)))]) (fun T A t k => XS.lmul A B.x rfl (B.d d13_54) rfl k) ?_
  refine gs (mkF m 57 _ [(.int c5), (.long (k4 * (10 : Int64)))]) (fun T A t k => XS.iload A B.x rfl (B.d d13_55) rfl k) ?_
  refine gs (mkF m 59 _ [(.int (48 : Int32)), (.int c5), (.long (k4 * (10 : Int64)))]) (fun T A t k => XS.bipush A B.x rfl (B.d d13_57) k) ?_
  refine gs (mkF m 60 _ [(.int (c5 - (48 : Int32))), (.long (k4 * (10 : Int64)))]) (fun T A t k => XS.isub A B.x rfl (B.d d13_59) rfl k) ?_
  refine gs (mkF m 61 _ [(.long ((c5 - (48 : Int32)).toInt64)), (.long (k4 * (10 : Int64)))]) (fun T A t k => XS.i2l A B.x rfl (B.d d13_60) rfl k) ?_
  refine gs (mkF m 62 _ [(.long ((k4 * (10 : Int64)) + ((c5 - (48 : Int32)).toInt64)))]) (fun T A t k => XS.ladd A B.x rfl (B.d d13_61) rfl k) ?_
  refine gs (mkF m 63 #[.val (.ref a1), .val (.long ((k4 * (10 : Int64)) + ((c5 - (48 : Int32)).toInt64))), .second, .val (.int (5 : Int32)), .val (.int c5)] []) (fun T A t k => XS.lstoreN A B.x rfl (B.d d13_62) rfl (l' := #[.val (.ref a1), .val (.long ((k4 * (10 : Int64)) + ((c5 - (48 : Int32)).toInt64))), .second, .val (.int (5 : Int32)), .val (.int c5)]) rfl k) ?_
  refine gs (mkF m 66 #[.val (.ref a1), .val (.long ((k4 * (10 : Int64)) + ((c5 - (48 : Int32)).toInt64))), .second, .val (.int (6 : Int32)), .val (.int c5)] []) (fun T A t k => XS.iinc A B.x rfl (B.d d13_63) rfl (l' := #[.val (.ref a1), .val (.long ((k4 * (10 : Int64)) + ((c5 - (48 : Int32)).toInt64))), .second, .val (.int (6 : Int32)), .val (.int c5)]) rfl k) ?_
  refine gs (mkF m 18 _ []) (fun T A t k => XS.goto A B.x rfl (pc0 := 66) (pc' := 18) rfl (B.d d13_66) (by decide) (by decide) k) ?_
  generalize e_k5 : ((k4 * (10 : Int64)) + ((c5 - (48 : Int32)).toInt64)) = k5
  refine gs (mkF m 19 _ [(.int (6 : Int32))]) (fun T A t k => XS.iloadN A B.x rfl (B.d d13_18) rfl k) ?_
  refine gs (mkF m 21 _ [(.int (10 : Int32)), (.int (6 : Int32))]) (fun T A t k => XS.bipush A B.x rfl (B.d d13_19) k) ?_
  refine gs (mkF m 24 _ []) (fun T A t k => XS.icmpNo A B.x rfl (B.d d13_21) rfl (tlt (by decide : (6 : Int32) < (10 : Int32))).2.1 k) ?_
  refine gs (mkF m 25 _ [(.ref a1)]) (fun T A t k => XS.aloadN A B.x rfl (B.d d13_24) rfl rfl k) ?_
  refine gs (mkF m 26 _ [(.int (6 : Int32)), (.ref a1)]) (fun T A t k => XS.iloadN A B.x rfl (B.d d13_25) rfl k) ?_
  refine g_pay (Q' := fun v h' L => v = some (.int c6) ∧ L = [] ∧ h0 = h') (k := 0) (n := 0) (c_virt B PS.exa (hw _ (List.mem_of_getElem? (i := 80) rfl)) (hw _ (List.mem_of_getElem? (i := 81) rfl)) (hw _ (List.mem_of_getElem? (i := 83) rfl)) (hw _ (List.mem_of_getElem? (i := 82) rfl)) (nfs (z := (⟨"java/lang/String", "charAt", "(I)C"⟩ : MethodName)) (hw _ (List.mem_of_getElem? (i := 83) rfl))) (by decide) rfl (lenOf pd_28I29C rfl) rfl (Nat.le_of_eq rfl) d13_26 rfl (argsL := [(.int (6 : Int32))]) (rest := []) (W := 0) (q := 29)) (fun hZ => own_chr 6 hZ (fun d hd => hw d (own_wchr d hd)) (hw _ (List.mem_of_getElem? (i := 13) rfl)) PS hlat (SC.ext PO.2) hzc (SF.ext PO.2) rf (Nat.le_of_ble_eq_true rfl) rfl (by decide) (by decide)) (by decide) (by decide) (fun v h' L q => ⟨by rw [q.2.1]; exact Fr.nil _, [], by rw [← q.2.2]; exact Keep.refl _ _, all0⟩) ?_
  rintro v8 h8 L8 ⟨rfl, -, rfl⟩
  refine gs (mkF m 31 #[.val (.ref a1), .val (.long k5), .second, .val (.int (6 : Int32)), .val (.int c6)] []) (fun T A t k => XS.istore A B.x rfl (B.d d13_29) rfl (l' := #[.val (.ref a1), .val (.long k5), .second, .val (.int (6 : Int32)), .val (.int c6)]) rfl k) ?_
  refine gs (mkF m 33 _ [(.int c6)]) (fun T A t k => XS.iload A B.x rfl (B.d d13_31) rfl k) ?_
  refine gs (mkF m 35 _ [(.int (48 : Int32)), (.int c6)]) (fun T A t k => XS.bipush A B.x rfl (B.d d13_33) k) ?_
  refine gs (mkF m 38 _ []) (fun T A t k => XS.icmpNo A B.x rfl (B.d d13_35) rfl (flt (hd6.1 : ¬ (c6 < (48 : Int32)))).1 k) ?_
  refine gs (mkF m 40 _ [(.int c6)]) (fun T A t k => XS.iload A B.x rfl (B.d d13_38) rfl k) ?_
  refine gs (mkF m 42 _ [(.int (57 : Int32)), (.int c6)]) (fun T A t k => XS.bipush A B.x rfl (B.d d13_40) k) ?_
  refine gs (mkF m 50 _ []) (fun T A t k => XS.icmpYes A B.x rfl (pc0 := 42) (pc' := 50) rfl (B.d d13_42) rfl (flt (hd6.2 : ¬ ((57 : Int32) < c6))).2.2.2 (by decide) (by decide) k) ?_
  refine gs (mkF m 51 _ [(.long k5)]) (fun T A t k => XS.lloadN A B.x rfl (B.d d13_50) rfl k) ?_
  refine g_ldc2J B (hw _ (List.mem_of_getElem? (i := 102) rfl)) d13_51 (q := 54) rfl ?_
  refine gs (mkF m 55 _ [(.long (k5 * (10 : Int64)))]) (fun T A t k => XS.lmul A B.x rfl (B.d d13_54) rfl k) ?_
  refine gs (mkF m 57 _ [(.int c6), (.long (k5 * (10 : Int64)))]) (fun T A t k => XS.iload A B.x rfl (B.d d13_55) rfl k) ?_
  refine gs (mkF m 59 _ [(.int (48 : Int32)), (.int c6), (.long (k5 * (10 : Int64)))]) (fun T A t k => XS.bipush A B.x rfl (B.d d13_57) k) ?_
  refine gs (mkF m 60 _ [(.int (c6 - (48 : Int32))), (.long (k5 * (10 : Int64)))]) (fun T A t k => XS.isub A B.x rfl (B.d d13_59) rfl k) ?_
  refine gs (mkF m 61 _ [(.long ((c6 - (48 : Int32)).toInt64)), (.long (k5 * (10 : Int64)))]) (fun T A t k => XS.i2l A B.x rfl (B.d d13_60) rfl k) ?_
  refine gs (mkF m 62 _ [(.long ((k5 * (10 : Int64)) + ((c6 - (48 : Int32)).toInt64)))]) (fun T A t k => XS.ladd A B.x rfl (B.d d13_61) rfl k) ?_
  refine gs (mkF m 63 #[.val (.ref a1), .val (.long ((k5 * (10 : Int64)) + ((c6 - (48 : Int32)).toInt64))), .second, .val (.int (6 : Int32)), .val (.int c6)] []) (fun T A t k => XS.lstoreN A B.x rfl (B.d d13_62) rfl (l' := #[.val (.ref a1), .val (.long ((k5 * (10 : Int64)) + ((c6 - (48 : Int32)).toInt64))), .second, .val (.int (6 : Int32)), .val (.int c6)]) rfl k) ?_
  refine gs (mkF m 66 #[.val (.ref a1), .val (.long ((k5 * (10 : Int64)) + ((c6 - (48 : Int32)).toInt64))), .second, .val (.int (7 : Int32)), .val (.int c6)] []) (fun T A t k => XS.iinc A B.x rfl (B.d d13_63) rfl (l' := #[.val (.ref a1), .val (.long ((k5 * (10 : Int64)) + ((c6 - (48 : Int32)).toInt64))), .second, .val (.int (7 : Int32)), .val (.int c6)]) rfl k) ?_
  refine gs (mkF m 18 _ []) (fun T A t k => XS.goto A B.x rfl (pc0 := 66) (pc' := 18) rfl (B.d d13_66) (by decide) (by decide) k) ?_
  generalize e_k6 : ((k5 * (10 : Int64)) + ((c6 - (48 : Int32)).toInt64)) = k6
  refine gs (mkF m 19 _ [(.int (7 : Int32))]) (fun T A t k => XS.iloadN A B.x rfl (B.d d13_18) rfl k) ?_
  refine gs (mkF m 21 _ [(.int (10 : Int32)), (.int (7 : Int32))]) (fun T A t k => XS.bipush A B.x rfl (B.d d13_19) k) ?_
  refine gs (mkF m 24 _ []) (fun T A t k => XS.icmpNo A B.x rfl (B.d d13_21) rfl (tlt (by decide : (7 : Int32) < (10 : Int32))).2.1 k) ?_
  refine gs (mkF m 25 _ [(.ref a1)]) (fun T A t k => XS.aloadN A B.x rfl (B.d d13_24) rfl rfl k) ?_
  refine gs (mkF m 26 _ [(.int (7 : Int32)), (.ref a1)]) (fun T A t k => XS.iloadN A B.x rfl (B.d d13_25) rfl k) ?_
  refine g_pay (Q' := fun v h' L => v = some (.int c7) ∧ L = [] ∧ h0 = h') (k := 0) (n := 0) (c_virt B PS.exa (hw _ (List.mem_of_getElem? (i := 80) rfl)) (hw _ (List.mem_of_getElem? (i := 81) rfl)) (hw _ (List.mem_of_getElem? (i := 83) rfl)) (hw _ (List.mem_of_getElem? (i := 82) rfl)) (nfs (z := (⟨"java/lang/String", "charAt", "(I)C"⟩ : MethodName)) (hw _ (List.mem_of_getElem? (i := 83) rfl))) (by decide) rfl (lenOf pd_28I29C rfl) rfl (Nat.le_of_eq rfl) d13_26 rfl (argsL := [(.int (7 : Int32))]) (rest := []) (W := 0) (q := 29)) (fun hZ => own_chr 7 hZ (fun d hd => hw d (own_wchr d hd)) (hw _ (List.mem_of_getElem? (i := 13) rfl)) PS hlat (SC.ext PO.2) hzc (SF.ext PO.2) rf (Nat.le_of_ble_eq_true rfl) rfl (by decide) (by decide)) (by decide) (by decide) (fun v h' L q => ⟨by rw [q.2.1]; exact Fr.nil _, [], by rw [← q.2.2]; exact Keep.refl _ _, all0⟩) ?_
  rintro v9 h9 L9 ⟨rfl, -, rfl⟩
  refine gs (mkF m 31 #[.val (.ref a1), .val (.long k6), .second, .val (.int (7 : Int32)), .val (.int c7)] []) (fun T A t k => XS.istore A B.x rfl (B.d d13_29) rfl (l' := #[.val (.ref a1), .val (.long k6), .second, .val (.int (7 : Int32)), .val (.int c7)]) rfl k) ?_
  refine gs (mkF m 33 _ [(.int c7)]) (fun T A t k => XS.iload A B.x rfl (B.d d13_31) rfl k) ?_
  refine gs (mkF m 35 _ [(.int (48 : Int32)), (.int c7)]) (fun T A t k => XS.bipush A B.x rfl (B.d d13_33) k) ?_
  refine gs (mkF m 38 _ []) (fun T A t k => XS.icmpNo A B.x rfl (B.d d13_35) rfl (flt (hd7.1 : ¬ (c7 < (48 : Int32)))).1 k) ?_
  refine gs (mkF m 40 _ [(.int c7)]) (fun T A t k => XS.iload A B.x rfl (B.d d13_38) rfl k) ?_
  refine gs (mkF m 42 _ [(.int (57 : Int32)), (.int c7)]) (fun T A t k => XS.bipush A B.x rfl (B.d d13_40) k) ?_
  refine gs (mkF m 50 _ []) (fun T A t k => XS.icmpYes A B.x rfl (pc0 := 42) (pc' := 50) rfl (B.d d13_42) rfl (flt (hd7.2 : ¬ ((57 : Int32) < c7))).2.2.2 (by decide) (by decide) k) ?_
  refine gs (mkF m 51 _ [(.long k6)]) (fun T A t k => XS.lloadN A B.x rfl (B.d d13_50) rfl k) ?_
  refine g_ldc2J B (hw _ (List.mem_of_getElem? (i := 102) rfl)) d13_51 (q := 54) rfl ?_
  refine gs (mkF m 55 _ [(.long (k6 * (10 : Int64)))]) (fun T A t k => XS.lmul A B.x rfl (B.d d13_54) rfl k) ?_
  refine gs (mkF m 57 _ [(.int c7), (.long (k6 * (10 : Int64)))]) (fun T A t k => XS.iload A B.x rfl (B.d d13_55) rfl k) ?_
  refine gs (mkF m 59 _ [(.int (48 : Int32)), (.int c7), (.long (k6 * (10 : Int64)))]) (fun T A t k => XS.bipush A B.x rfl (B.d d13_57) k) ?_
  refine gs (mkF m 60 _ [(.int (c7 - (48 : Int32))), (.long (k6 * (10 : Int64)))]) (fun T A t k => XS.isub A B.x rfl (B.d d13_59) rfl k) ?_
  refine gs (mkF m 61 _ [(.long ((c7 - (48 : Int32)).toInt64)), (.long (k6 * (10 : Int64)))]) (fun T A t k => XS.i2l A B.x rfl (B.d d13_60) rfl k) ?_
  refine gs (mkF m 62 _ [(.long ((k6 * (10 : Int64)) + ((c7 - (48 : Int32)).toInt64)))]) (fun T A t k => XS.ladd A B.x rfl (B.d d13_61) rfl k) ?_
  refine gs (mkF m 63 #[.val (.ref a1), .val (.long ((k6 * (10 : Int64)) + ((c7 - (48 : Int32)).toInt64))), .second, .val (.int (7 : Int32)), .val (.int c7)] []) (fun T A t k => XS.lstoreN A B.x rfl (B.d d13_62) rfl (l' := #[.val (.ref a1), .val (.long ((k6 * (10 : Int64)) + ((c7 - (48 : Int32)).toInt64))), .second, .val (.int (7 : Int32)), .val (.int c7)]) rfl k) ?_
  refine gs (mkF m 66 #[.val (.ref a1), .val (.long ((k6 * (10 : Int64)) + ((c7 - (48 : Int32)).toInt64))), .second, .val (.int (8 : Int32)), .val (.int c7)] []) (fun T A t k => XS.iinc A B.x rfl (B.d d13_63) rfl (l' := #[.val (.ref a1), .val (.long ((k6 * (10 : Int64)) + ((c7 - (48 : Int32)).toInt64))), .second, .val (.int (8 : Int32)), .val (.int c7)]) rfl k) ?_
  refine gs (mkF m 18 _ []) (fun T A t k => XS.goto A B.x rfl (pc0 := 66) (pc' := 18) rfl (B.d d13_66) (by decide) (by decide) k) ?_
  generalize e_k7 : ((k6 * (10 : Int64)) + ((c7 - (48 : Int32)).toInt64)) = k7
  refine gs (mkF m 19 _ [(.int (8 : Int32))]) (fun T A t k => XS.iloadN A B.x rfl (B.d d13_18) rfl k) ?_
  refine gs (mkF m 21 _ [(.int (10 : Int32)), (.int (8 : Int32))]) (fun T A t k => XS.bipush A B.x rfl (B.d d13_19) k) ?_
  refine gs (mkF m 24 _ []) (fun T A t k => XS.icmpNo A B.x rfl (B.d d13_21) rfl (tlt (by decide : (8 : Int32) < (10 : Int32))).2.1 k) ?_
  refine gs (mkF m 25 _ [(.ref a1)]) (fun T A t k => XS.aloadN A B.x rfl (B.d d13_24) rfl rfl k) ?_
  refine gs (mkF m 26 _ [(.int (8 : Int32)), (.ref a1)]) (fun T A t k => XS.iloadN A B.x rfl (B.d d13_25) rfl k) ?_
  refine g_pay (Q' := fun v h' L => v = some (.int c8) ∧ L = [] ∧ h0 = h') (k := 0) (n := 0) (c_virt B PS.exa (hw _ (List.mem_of_getElem? (i := 80) rfl)) (hw _ (List.mem_of_getElem? (i := 81) rfl)) (hw _ (List.mem_of_getElem? (i := 83) rfl)) (hw _ (List.mem_of_getElem? (i := 82) rfl)) (nfs (z := (⟨"java/lang/String", "charAt", "(I)C"⟩ : MethodName)) (hw _ (List.mem_of_getElem? (i := 83) rfl))) (by decide) rfl (lenOf pd_28I29C rfl) rfl (Nat.le_of_eq rfl) d13_26 rfl (argsL := [(.int (8 : Int32))]) (rest := []) (W := 0) (q := 29)) (fun hZ => own_chr 8 hZ (fun d hd => hw d (own_wchr d hd)) (hw _ (List.mem_of_getElem? (i := 13) rfl)) PS hlat (SC.ext PO.2) hzc (SF.ext PO.2) rf (Nat.le_of_ble_eq_true rfl) rfl (by decide) (by decide)) (by decide) (by decide) (fun v h' L q => ⟨by rw [q.2.1]; exact Fr.nil _, [], by rw [← q.2.2]; exact Keep.refl _ _, all0⟩) ?_
  rintro v10 h10 L10 ⟨rfl, -, rfl⟩
  refine gs (mkF m 31 #[.val (.ref a1), .val (.long k7), .second, .val (.int (8 : Int32)), .val (.int c8)] []) (fun T A t k => XS.istore A B.x rfl (B.d d13_29) rfl (l' := #[.val (.ref a1), .val (.long k7), .second, .val (.int (8 : Int32)), .val (.int c8)]) rfl k) ?_
  refine gs (mkF m 33 _ [(.int c8)]) (fun T A t k => XS.iload A B.x rfl (B.d d13_31) rfl k) ?_
  refine gs (mkF m 35 _ [(.int (48 : Int32)), (.int c8)]) (fun T A t k => XS.bipush A B.x rfl (B.d d13_33) k) ?_
  refine gs (mkF m 38 _ []) (fun T A t k => XS.icmpNo A B.x rfl (B.d d13_35) rfl (flt (hd8.1 : ¬ (c8 < (48 : Int32)))).1 k) ?_
  refine gs (mkF m 40 _ [(.int c8)]) (fun T A t k => XS.iload A B.x rfl (B.d d13_38) rfl k) ?_
  refine gs (mkF m 42 _ [(.int (57 : Int32)), (.int c8)]) (fun T A t k => XS.bipush A B.x rfl (B.d d13_40) k) ?_
  refine gs (mkF m 50 _ []) (fun T A t k => XS.icmpYes A B.x rfl (pc0 := 42) (pc' := 50) rfl (B.d d13_42) rfl (flt (hd8.2 : ¬ ((57 : Int32) < c8))).2.2.2 (by decide) (by decide) k) ?_
  refine gs (mkF m 51 _ [(.long k7)]) (fun T A t k => XS.lloadN A B.x rfl (B.d d13_50) rfl k) ?_
  refine g_ldc2J B (hw _ (List.mem_of_getElem? (i := 102) rfl)) d13_51 (q := 54) rfl ?_
  refine gs (mkF m 55 _ [(.long (k7 * (10 : Int64)))]) (fun T A t k => XS.lmul A B.x rfl (B.d d13_54) rfl k) ?_
  refine gs (mkF m 57 _ [(.int c8), (.long (k7 * (10 : Int64)))]) (fun T A t k => XS.iload A B.x rfl (B.d d13_55) rfl k) ?_
  refine gs (mkF m 59 _ [(.int (48 : Int32)), (.int c8), (.long (k7 * (10 : Int64)))]) (fun T A t k => XS.bipush A B.x rfl (B.d d13_57) k) ?_
  refine gs (mkF m 60 _ [(.int (c8 - (48 : Int32))), (.long (k7 * (10 : Int64)))]) (fun T A t k => XS.isub A B.x rfl (B.d d13_59) rfl k) ?_
  refine gs (mkF m 61 _ [(.long ((c8 - (48 : Int32)).toInt64)), (.long (k7 * (10 : Int64)))]) (fun T A t k => XS.i2l A B.x rfl (B.d d13_60) rfl k) ?_
  refine gs (mkF m 62 _ [(.long ((k7 * (10 : Int64)) + ((c8 - (48 : Int32)).toInt64)))]) (fun T A t k => XS.ladd A B.x rfl (B.d d13_61) rfl k) ?_
  refine gs (mkF m 63 #[.val (.ref a1), .val (.long ((k7 * (10 : Int64)) + ((c8 - (48 : Int32)).toInt64))), .second, .val (.int (8 : Int32)), .val (.int c8)] []) (fun T A t k => XS.lstoreN A B.x rfl (B.d d13_62) rfl (l' := #[.val (.ref a1), .val (.long ((k7 * (10 : Int64)) + ((c8 - (48 : Int32)).toInt64))), .second, .val (.int (8 : Int32)), .val (.int c8)]) rfl k) ?_
  refine gs (mkF m 66 #[.val (.ref a1), .val (.long ((k7 * (10 : Int64)) + ((c8 - (48 : Int32)).toInt64))), .second, .val (.int (9 : Int32)), .val (.int c8)] []) (fun T A t k => XS.iinc A B.x rfl (B.d d13_63) rfl (l' := #[.val (.ref a1), .val (.long ((k7 * (10 : Int64)) + ((c8 - (48 : Int32)).toInt64))), .second, .val (.int (9 : Int32)), .val (.int c8)]) rfl k) ?_
  refine gs (mkF m 18 _ []) (fun T A t k => XS.goto A B.x rfl (pc0 := 66) (pc' := 18) rfl (B.d d13_66) (by decide) (by decide) k) ?_
  generalize e_k8 : ((k7 * (10 : Int64)) + ((c8 - (48 : Int32)).toInt64)) = k8
  refine gs (mkF m 19 _ [(.int (9 : Int32))]) (fun T A t k => XS.iloadN A B.x rfl (B.d d13_18) rfl k) ?_
  refine gs (mkF m 21 _ [(.int (10 : Int32)), (.int (9 : Int32))]) (fun T A t k => XS.bipush A B.x rfl (B.d d13_19) k) ?_
  refine gs (mkF m 24 _ []) (fun T A t k => XS.icmpNo A B.x rfl (B.d d13_21) rfl (tlt (by decide : (9 : Int32) < (10 : Int32))).2.1 k) ?_
  refine gs (mkF m 25 _ [(.ref a1)]) (fun T A t k => XS.aloadN A B.x rfl (B.d d13_24) rfl rfl k) ?_
  refine gs (mkF m 26 _ [(.int (9 : Int32)), (.ref a1)]) (fun T A t k => XS.iloadN A B.x rfl (B.d d13_25) rfl k) ?_
  refine g_pay (Q' := fun v h' L => v = some (.int c9) ∧ L = [] ∧ h0 = h') (k := 0) (n := 0) (c_virt B PS.exa (hw _ (List.mem_of_getElem? (i := 80) rfl)) (hw _ (List.mem_of_getElem? (i := 81) rfl)) (hw _ (List.mem_of_getElem? (i := 83) rfl)) (hw _ (List.mem_of_getElem? (i := 82) rfl)) (nfs (z := (⟨"java/lang/String", "charAt", "(I)C"⟩ : MethodName)) (hw _ (List.mem_of_getElem? (i := 83) rfl))) (by decide) rfl (lenOf pd_28I29C rfl) rfl (Nat.le_of_eq rfl) d13_26 rfl (argsL := [(.int (9 : Int32))]) (rest := []) (W := 0) (q := 29)) (fun hZ => own_chr 9 hZ (fun d hd => hw d (own_wchr d hd)) (hw _ (List.mem_of_getElem? (i := 13) rfl)) PS hlat (SC.ext PO.2) hzc (SF.ext PO.2) rf (Nat.le_of_ble_eq_true rfl) rfl (by decide) (by decide)) (by decide) (by decide) (fun v h' L q => ⟨by rw [q.2.1]; exact Fr.nil _, [], by rw [← q.2.2]; exact Keep.refl _ _, all0⟩) ?_
  rintro v11 h11 L11 ⟨rfl, -, rfl⟩
  refine gs (mkF m 31 #[.val (.ref a1), .val (.long k8), .second, .val (.int (9 : Int32)), .val (.int c9)] []) (fun T A t k => XS.istore A B.x rfl (B.d d13_29) rfl (l' := #[.val (.ref a1), .val (.long k8), .second, .val (.int (9 : Int32)), .val (.int c9)]) rfl k) ?_
  refine gs (mkF m 33 _ [(.int c9)]) (fun T A t k => XS.iload A B.x rfl (B.d d13_31) rfl k) ?_
  refine gs (mkF m 35 _ [(.int (48 : Int32)), (.int c9)]) (fun T A t k => XS.bipush A B.x rfl (B.d d13_33) k) ?_
  refine gs (mkF m 38 _ []) (fun T A t k => XS.icmpNo A B.x rfl (B.d d13_35) rfl (flt (hd9.1 : ¬ (c9 < (48 : Int32)))).1 k) ?_
  refine gs (mkF m 40 _ [(.int c9)]) (fun T A t k => XS.iload A B.x rfl (B.d d13_38) rfl k) ?_
  refine gs (mkF m 42 _ [(.int (57 : Int32)), (.int c9)]) (fun T A t k => XS.bipush A B.x rfl (B.d d13_40) k) ?_
  refine gs (mkF m 50 _ []) (fun T A t k => XS.icmpYes A B.x rfl (pc0 := 42) (pc' := 50) rfl (B.d d13_42) rfl (flt (hd9.2 : ¬ ((57 : Int32) < c9))).2.2.2 (by decide) (by decide) k) ?_
  refine gs (mkF m 51 _ [(.long k8)]) (fun T A t k => XS.lloadN A B.x rfl (B.d d13_50) rfl k) ?_
  refine g_ldc2J B (hw _ (List.mem_of_getElem? (i := 102) rfl)) d13_51 (q := 54) rfl ?_
  refine gs (mkF m 55 _ [(.long (k8 * (10 : Int64)))]) (fun T A t k => XS.lmul A B.x rfl (B.d d13_54) rfl k) ?_
  refine gs (mkF m 57 _ [(.int c9), (.long (k8 * (10 : Int64)))]) (fun T A t k => XS.iload A B.x rfl (B.d d13_55) rfl k) ?_
  refine gs (mkF m 59 _ [(.int (48 : Int32)), (.int c9), (.long (k8 * (10 : Int64)))]) (fun T A t k => XS.bipush A B.x rfl (B.d d13_57) k) ?_
  refine gs (mkF m 60 _ [(.int (c9 - (48 : Int32))), (.long (k8 * (10 : Int64)))]) (fun T A t k => XS.isub A B.x rfl (B.d d13_59) rfl k) ?_
  refine gs (mkF m 61 _ [(.long ((c9 - (48 : Int32)).toInt64)), (.long (k8 * (10 : Int64)))]) (fun T A t k => XS.i2l A B.x rfl (B.d d13_60) rfl k) ?_
  refine gs (mkF m 62 _ [(.long ((k8 * (10 : Int64)) + ((c9 - (48 : Int32)).toInt64)))]) (fun T A t k => XS.ladd A B.x rfl (B.d d13_61) rfl k) ?_
  refine gs (mkF m 63 #[.val (.ref a1), .val (.long ((k8 * (10 : Int64)) + ((c9 - (48 : Int32)).toInt64))), .second, .val (.int (9 : Int32)), .val (.int c9)] []) (fun T A t k => XS.lstoreN A B.x rfl (B.d d13_62) rfl (l' := #[.val (.ref a1), .val (.long ((k8 * (10 : Int64)) + ((c9 - (48 : Int32)).toInt64))), .second, .val (.int (9 : Int32)), .val (.int c9)]) rfl k) ?_
  refine gs (mkF m 66 #[.val (.ref a1), .val (.long ((k8 * (10 : Int64)) + ((c9 - (48 : Int32)).toInt64))), .second, .val (.int (10 : Int32)), .val (.int c9)] []) (fun T A t k => XS.iinc A B.x rfl (B.d d13_63) rfl (l' := #[.val (.ref a1), .val (.long ((k8 * (10 : Int64)) + ((c9 - (48 : Int32)).toInt64))), .second, .val (.int (10 : Int32)), .val (.int c9)]) rfl k) ?_
  refine gs (mkF m 18 _ []) (fun T A t k => XS.goto A B.x rfl (pc0 := 66) (pc' := 18) rfl (B.d d13_66) (by decide) (by decide) k) ?_
  refine gs (mkF m 19 _ [(.int (10 : Int32))]) (fun T A t k => XS.iloadN A B.x rfl (B.d d13_18) rfl k) ?_
  refine gs (mkF m 21 _ [(.int (10 : Int32)), (.int (10 : Int32))]) (fun T A t k => XS.bipush A B.x rfl (B.d d13_19) k) ?_
  refine gs (mkF m 69 _ []) (fun T A t k => XS.icmpYes A B.x rfl (pc0 := 21) (pc' := 69) rfl (B.d d13_21) rfl (flt (by decide : ¬ ((10 : Int32) < (10 : Int32)))).2.1 (by decide) (by decide) k) ?_
  refine gs (mkF m 70 _ [(.long ((k8 * (10 : Int64)) + ((c9 - (48 : Int32)).toInt64)))]) (fun T A t k => XS.lloadN A B.x rfl (B.d d13_69) rfl k) ?_
  subst e_k8 e_k7 e_k6 e_k5 e_k4 e_k3 e_k2 e_k1 e_k0
  exact g_retJ B d13_70 (by decide) (by decide) ⟨rfl, rfl⟩
theorem pn_java_lang_Integer : plainName "java/lang/Integer" = true := by first | (simp [plainName, overriddenIn]; done) | decide +kernel
theorem d22_0 : decode jdk_33_method_48_code 0 = .ok (.iload_n 0, 1) := by decide +kernel
theorem d22_1 : decode jdk_33_method_48_code 1 = .ok (.iconst (-1), 1) := by decide +kernel
theorem d22_2 : decode jdk_33_method_48_code 2 = .ok (.ixor, 1) := by decide +kernel
theorem d22_3 : decode jdk_33_method_48_code 3 = .ok (.iload_n 0, 1) := by decide +kernel
theorem d22_4 : decode jdk_33_method_48_code 4 = .ok (.iconst 1, 1) := by decide +kernel
theorem d22_5 : decode jdk_33_method_48_code 5 = .ok (.isub, 1) := by decide +kernel
theorem d22_6 : decode jdk_33_method_48_code 6 = .ok (.iand, 1) := by decide +kernel
theorem d22_7 : decode jdk_33_method_48_code 7 = .ok (.istore_n 0, 1) := by decide +kernel
theorem d22_8 : decode jdk_33_method_48_code 8 = .ok (.iload_n 0, 1) := by decide +kernel
theorem d22_9 : decode jdk_33_method_48_code 9 = .ok (.ifCond .gt 8, 3) := by decide +kernel
theorem d22_17 : decode jdk_33_method_48_code 17 = .ok (.iconst 1, 1) := by decide +kernel
theorem d22_18 : decode jdk_33_method_48_code 18 = .ok (.istore_n 1, 1) := by decide +kernel
theorem d22_19 : decode jdk_33_method_48_code 19 = .ok (.iload_n 0, 1) := by decide +kernel
theorem d22_20 : decode jdk_33_method_48_code 20 = .ok (.ldc_w 264, 3) := by decide +kernel
theorem d22_23 : decode jdk_33_method_48_code 23 = .ok (.if_icmp .le 11, 3) := by decide +kernel
theorem d22_34 : decode jdk_33_method_48_code 34 = .ok (.iload_n 0, 1) := by decide +kernel
theorem d22_35 : decode jdk_33_method_48_code 35 = .ok (.sipush 256, 3) := by decide +kernel
theorem d22_38 : decode jdk_33_method_48_code 38 = .ok (.if_icmp .le 11, 3) := by decide +kernel
theorem d22_49 : decode jdk_33_method_48_code 49 = .ok (.iload_n 0, 1) := by decide +kernel
theorem d22_50 : decode jdk_33_method_48_code 50 = .ok (.bipush 16, 2) := by decide +kernel
theorem d22_52 : decode jdk_33_method_48_code 52 = .ok (.if_icmp .le 10, 3) := by decide +kernel
theorem d22_62 : decode jdk_33_method_48_code 62 = .ok (.iload_n 0, 1) := by decide +kernel
theorem d22_63 : decode jdk_33_method_48_code 63 = .ok (.iconst 4, 1) := by decide +kernel
theorem d22_64 : decode jdk_33_method_48_code 64 = .ok (.if_icmp .le 10, 3) := by decide +kernel
theorem d22_67 : decode jdk_33_method_48_code 67 = .ok (.iinc 1 2, 3) := by decide +kernel
theorem d22_70 : decode jdk_33_method_48_code 70 = .ok (.iload_n 0, 1) := by decide +kernel
theorem d22_71 : decode jdk_33_method_48_code 71 = .ok (.iconst 2, 1) := by decide +kernel
theorem d22_72 : decode jdk_33_method_48_code 72 = .ok (.iushr, 1) := by decide +kernel
theorem d22_73 : decode jdk_33_method_48_code 73 = .ok (.istore_n 0, 1) := by decide +kernel
theorem d22_74 : decode jdk_33_method_48_code 74 = .ok (.iload_n 1, 1) := by decide +kernel
theorem d22_75 : decode jdk_33_method_48_code 75 = .ok (.iload_n 0, 1) := by decide +kernel
theorem d22_76 : decode jdk_33_method_48_code 76 = .ok (.iconst 1, 1) := by decide +kernel
theorem d22_77 : decode jdk_33_method_48_code 77 = .ok (.iushr, 1) := by decide +kernel
theorem d22_78 : decode jdk_33_method_48_code 78 = .ok (.iadd, 1) := by decide +kernel
theorem d22_79 : decode jdk_33_method_48_code 79 = .ok (.ireturn, 1) := by decide +kernel
set_option maxRecDepth 65536 in
set_option maxHeartbeats 40000000 in
theorem own_ntz (l : Launch) (Z : State) (a0 : Array Value) (hw : ∀ d ∈ tables_1, d.before a0 Z = true) (hEL : EW Z a0 [])   (h0 : Heap) (n0 : Nat)  :
    Met false Z [] l (⟨"java/lang/Integer", "numberOfTrailingZeros", "(I)I"⟩ : MethodName) jdk_33_method_48_code 2 (some .int) ({ frames := 0, cells := 0, slots := 0, locals := 0 } : Room) #[(.int (16 : Int32))] h0 [] n0 (fun v h => v = some (.int 4) ∧ h0 = h) := by
  refine Met.of (a0 := a0) (Ls := #[.val (.int (16 : Int32)), .unset]) (fun z => rfl) (plainFor_of_name pn_java_lang_Integer) hEL (fun m => by first | (simp [entryFrame, mkF, argsToLocals, Value.category]; done) | rfl) ?_
  intro p e s m below meth c B hSf
  refine gs (mkF m 1 _ [(.int (16 : Int32))]) (fun T A t k => XS.iloadN A B.x rfl (B.d d22_0) rfl k) ?_
  refine gs (mkF m 2 _ [(.int (-1 : Int32)), (.int (16 : Int32))]) (fun T A t k => XS.iconst A B.x rfl (B.d d22_1) k) ?_
  refine gs (mkF m 3 _ [(.int (-17 : Int32))]) (fun T A t k => XS.ixor A B.x rfl (B.d d22_2) rfl k) ?_
  refine gs (mkF m 4 _ [(.int (16 : Int32)), (.int (-17 : Int32))]) (fun T A t k => XS.iloadN A B.x rfl (B.d d22_3) rfl k) ?_
  refine gs (mkF m 5 _ [(.int (1 : Int32)), (.int (16 : Int32)), (.int (-17 : Int32))]) (fun T A t k => XS.iconst A B.x rfl (B.d d22_4) k) ?_
  refine gs (mkF m 6 _ [(.int (15 : Int32)), (.int (-17 : Int32))]) (fun T A t k => XS.isub A B.x rfl (B.d d22_5) rfl k) ?_
  refine gs (mkF m 7 _ [(.int (15 : Int32))]) (fun T A t k => XS.iand A B.x rfl (B.d d22_6) rfl k) ?_
  refine gs (mkF m 8 #[.val (.int (15 : Int32)), .unset] []) (fun T A t k => XS.istoreN A B.x rfl (B.d d22_7) rfl (l' := #[.val (.int (15 : Int32)), .unset]) rfl k) ?_
  refine gs (mkF m 9 _ [(.int (15 : Int32))]) (fun T A t k => XS.iloadN A B.x rfl (B.d d22_8) rfl k) ?_
  refine gs (mkF m 17 _ []) (fun T A t k => XS.ifYes A B.x rfl (pc0 := 9) (pc' := 17) rfl (B.d d22_9) rfl ((if0 _ _).trans (tlt (by decide : (0 : Int32) < (15 : Int32))).2.2.1) (by decide) (by decide) k) ?_
  refine gs (mkF m 18 _ [(.int (1 : Int32))]) (fun T A t k => XS.iconst A B.x rfl (B.d d22_17) k) ?_
  refine gs (mkF m 19 #[.val (.int (15 : Int32)), .val (.int (1 : Int32))] []) (fun T A t k => XS.istoreN A B.x rfl (B.d d22_18) rfl (l' := #[.val (.int (15 : Int32)), .val (.int (1 : Int32))]) rfl k) ?_
  refine gs (mkF m 20 _ [(.int (15 : Int32))]) (fun T A t k => XS.iloadN A B.x rfl (B.d d22_19) rfl k) ?_
  refine g_ldcwI B (hw _ (List.mem_of_getElem? (i := 111) rfl)) d22_20 (q := 23) rfl ?_
  refine gs (mkF m 34 _ []) (fun T A t k => XS.icmpYes A B.x rfl (pc0 := 23) (pc' := 34) rfl (B.d d22_23) rfl (flt (by decide : ¬ ((65536 : Int32) < (15 : Int32)))).2.2.2 (by decide) (by decide) k) ?_
  refine gs (mkF m 35 _ [(.int (15 : Int32))]) (fun T A t k => XS.iloadN A B.x rfl (B.d d22_34) rfl k) ?_
  refine gs (mkF m 38 _ [(.int (256 : Int32)), (.int (15 : Int32))]) (fun T A t k => XS.sipush A B.x rfl (B.d d22_35) k) ?_
  refine gs (mkF m 49 _ []) (fun T A t k => XS.icmpYes A B.x rfl (pc0 := 38) (pc' := 49) rfl (B.d d22_38) rfl (flt (by decide : ¬ ((256 : Int32) < (15 : Int32)))).2.2.2 (by decide) (by decide) k) ?_
  refine gs (mkF m 50 _ [(.int (15 : Int32))]) (fun T A t k => XS.iloadN A B.x rfl (B.d d22_49) rfl k) ?_
  refine gs (mkF m 52 _ [(.int (16 : Int32)), (.int (15 : Int32))]) (fun T A t k => XS.bipush A B.x rfl (B.d d22_50) k) ?_
  refine gs (mkF m 62 _ []) (fun T A t k => XS.icmpYes A B.x rfl (pc0 := 52) (pc' := 62) rfl (B.d d22_52) rfl (flt (by decide : ¬ ((16 : Int32) < (15 : Int32)))).2.2.2 (by decide) (by decide) k) ?_
  refine gs (mkF m 63 _ [(.int (15 : Int32))]) (fun T A t k => XS.iloadN A B.x rfl (B.d d22_62) rfl k) ?_
  refine gs (mkF m 64 _ [(.int (4 : Int32)), (.int (15 : Int32))]) (fun T A t k => XS.iconst A B.x rfl (B.d d22_63) k) ?_
  refine gs (mkF m 67 _ []) (fun T A t k => XS.icmpNo A B.x rfl (B.d d22_64) rfl (tlt (by decide : (4 : Int32) < (15 : Int32))).2.2.2 k) ?_
  refine gs (mkF m 70 #[.val (.int (15 : Int32)), .val (.int (3 : Int32))] []) (fun T A t k => XS.iinc A B.x rfl (B.d d22_67) rfl (l' := #[.val (.int (15 : Int32)), .val (.int (3 : Int32))]) rfl k) ?_
  refine gs (mkF m 71 _ [(.int (15 : Int32))]) (fun T A t k => XS.iloadN A B.x rfl (B.d d22_70) rfl k) ?_
  refine gs (mkF m 72 _ [(.int (2 : Int32)), (.int (15 : Int32))]) (fun T A t k => XS.iconst A B.x rfl (B.d d22_71) k) ?_
  refine gs (mkF m 73 _ [(.int (3 : Int32))]) (fun T A t k => XS.iushr A B.x rfl (B.d d22_72) rfl k) ?_
  refine gs (mkF m 74 #[.val (.int (3 : Int32)), .val (.int (3 : Int32))] []) (fun T A t k => XS.istoreN A B.x rfl (B.d d22_73) rfl (l' := #[.val (.int (3 : Int32)), .val (.int (3 : Int32))]) rfl k) ?_
  refine gs (mkF m 75 _ [(.int (3 : Int32))]) (fun T A t k => XS.iloadN A B.x rfl (B.d d22_74) rfl k) ?_
  refine gs (mkF m 76 _ [(.int (3 : Int32)), (.int (3 : Int32))]) (fun T A t k => XS.iloadN A B.x rfl (B.d d22_75) rfl k) ?_
  refine gs (mkF m 77 _ [(.int (1 : Int32)), (.int (3 : Int32)), (.int (3 : Int32))]) (fun T A t k => XS.iconst A B.x rfl (B.d d22_76) k) ?_
  refine gs (mkF m 78 _ [(.int (1 : Int32)), (.int (3 : Int32))]) (fun T A t k => XS.iushr A B.x rfl (B.d d22_77) rfl k) ?_
  refine gs (mkF m 79 _ [(.int (4 : Int32))]) (fun T A t k => XS.iadd A B.x rfl (B.d d22_78) rfl k) ?_
  exact g_retI B d22_79 (by decide) (by decide) ⟨rfl, rfl⟩
theorem d21_0 : decode prog_21_method_5_code 0 = .ok (.aload_n 0, 1) := by decide +kernel
theorem d21_1 : decode prog_21_method_5_code 1 = .ok (.getfield 13, 3) := by decide +kernel
theorem d21_4 : decode prog_21_method_5_code 4 = .ok (.arraylength, 1) := by decide +kernel
theorem pd_28I29I : parseMethodDescriptor "(I)I" = some ⟨[.int], some .int⟩ := by decide +kernel
theorem d21_5 : decode prog_21_method_5_code 5 = .ok (.invokestatic 61, 3) := by decide +kernel
theorem d21_8 : decode prog_21_method_5_code 8 = .ok (.istore_n 3, 1) := by decide +kernel
theorem d21_9 : decode prog_21_method_5_code 9 = .ok (.lload_n 1, 1) := by decide +kernel
theorem d21_10 : decode prog_21_method_5_code 10 = .ok (.ldc2_w 67, 3) := by decide +kernel
theorem d21_13 : decode prog_21_method_5_code 13 = .ok (.lmul, 1) := by decide +kernel
theorem d21_14 : decode prog_21_method_5_code 14 = .ok (.bipush 64, 2) := by decide +kernel
theorem d21_16 : decode prog_21_method_5_code 16 = .ok (.iload_n 3, 1) := by decide +kernel
theorem d21_17 : decode prog_21_method_5_code 17 = .ok (.isub, 1) := by decide +kernel
theorem d21_18 : decode prog_21_method_5_code 18 = .ok (.lushr, 1) := by decide +kernel
theorem d21_19 : decode prog_21_method_5_code 19 = .ok (.l2i, 1) := by decide +kernel
theorem d21_20 : decode prog_21_method_5_code 20 = .ok (.istore 4, 2) := by decide +kernel
theorem d21_22 : decode prog_21_method_5_code 22 = .ok (.aload_n 0, 1) := by decide +kernel
theorem d21_23 : decode prog_21_method_5_code 23 = .ok (.getfield 13, 3) := by decide +kernel
theorem d21_26 : decode prog_21_method_5_code 26 = .ok (.iload 4, 2) := by decide +kernel
theorem d21_28 : decode prog_21_method_5_code 28 = .ok (.laload, 1) := by decide +kernel
theorem d21_29 : decode prog_21_method_5_code 29 = .ok (.ldc2_w 45, 3) := by decide +kernel
theorem d21_32 : decode prog_21_method_5_code 32 = .ok (.lcmp, 1) := by decide +kernel
theorem d21_33 : decode prog_21_method_5_code 33 = .ok (.ifCond .eq 32, 3) := by decide +kernel
theorem d21_65 : decode prog_21_method_5_code 65 = .ok (.iload 4, 2) := by decide +kernel
theorem d21_67 : decode prog_21_method_5_code 67 = .ok (.ireturn, 1) := by decide +kernel
theorem d21_36 : decode prog_21_method_5_code 36 = .ok (.aload_n 0, 1) := by decide +kernel
theorem d21_37 : decode prog_21_method_5_code 37 = .ok (.getfield 13, 3) := by decide +kernel
theorem d21_40 : decode prog_21_method_5_code 40 = .ok (.iload 4, 2) := by decide +kernel
theorem d21_42 : decode prog_21_method_5_code 42 = .ok (.laload, 1) := by decide +kernel
theorem d21_43 : decode prog_21_method_5_code 43 = .ok (.lload_n 1, 1) := by decide +kernel
theorem d21_44 : decode prog_21_method_5_code 44 = .ok (.lcmp, 1) := by decide +kernel
theorem d21_45 : decode prog_21_method_5_code 45 = .ok (.ifCond .eq 20, 3) := by decide +kernel
theorem d21_48 : decode prog_21_method_5_code 48 = .ok (.iload 4, 2) := by decide +kernel
theorem d21_50 : decode prog_21_method_5_code 50 = .ok (.iconst 1, 1) := by decide +kernel
theorem d21_51 : decode prog_21_method_5_code 51 = .ok (.iadd, 1) := by decide +kernel
theorem d21_52 : decode prog_21_method_5_code 52 = .ok (.aload_n 0, 1) := by decide +kernel
theorem d21_53 : decode prog_21_method_5_code 53 = .ok (.getfield 13, 3) := by decide +kernel
theorem d21_56 : decode prog_21_method_5_code 56 = .ok (.arraylength, 1) := by decide +kernel
theorem d21_57 : decode prog_21_method_5_code 57 = .ok (.iconst 1, 1) := by decide +kernel
theorem d21_58 : decode prog_21_method_5_code 58 = .ok (.isub, 1) := by decide +kernel
theorem d21_59 : decode prog_21_method_5_code 59 = .ok (.iand, 1) := by decide +kernel
theorem d21_60 : decode prog_21_method_5_code 60 = .ok (.istore 4, 2) := by decide +kernel
theorem d21_62 : decode prog_21_method_5_code 62 = .ok (.goto (-40), 3) := by decide +kernel
set_option maxRecDepth 65536 in
set_option maxHeartbeats 40000000 in
theorem own_place (l : Launch) (Z : State) (a0 : Array Value) (hw : ∀ d ∈ tables_1, d.before a0 Z = true) (hEL : EW Z a0 []) (a1 : Addr) (q1 : Int64) (b1 b2 : Addr) (ln : List Int64) (vs : List Int32) (sz : Int32) (h0 : Heap) (n0 : Nat) (PM : MapAt Z h0 a1 b1 b2 ln vs sz) (hl : ln.length = 16) (hok : okp ln q1 (plc ln q1)) :
    Met false Z [] l (⟨"com/example/rateledger/rateledger/io/LoanNumberMap", "placeOf", "(J)I"⟩ : MethodName) prog_21_method_5_code 5 (some .int) ({ frames := 1, cells := 0, slots := 0, locals := 20 } : Room) #[(.ref a1), (.long q1)] h0 [] n0 (fun v h => v = some (.int (plc ln q1)) ∧ h0 = h) := by
  refine Met.of (a0 := a0) (Ls := #[.val (.ref a1), .val (.long q1), .second, .unset, .unset]) (fun z => rfl) (plainFor_of_name pn_com_example_rateledger_rateledger_io_LoanNumberMap) hEL (fun m => by first | (simp [entryFrame, mkF, argsToLocals, Value.category]; done) | rfl) ?_
  intro p e s m below meth c B hSf
  obtain ⟨PE, PF1, PF2, PF3, ⟨kL, PV1⟩, ⟨kV, PV2⟩, hab⟩ := PM
  refine gs (mkF m 1 _ [(.ref a1)]) (fun T A t k => XS.aloadN A B.x rfl (B.d d21_0) rfl rfl k) ?_
  refine g_getF B (hw _ (List.mem_of_getElem? (i := 57) rfl)) Via.refl PF1 d21_1 (q := 4) rfl ?_
  refine g_len B PV1 d21_4 (q := 5) rfl ?_
  refine g_metN (c_static B (hw _ (List.mem_of_getElem? (i := 107) rfl)) (hw _ (List.mem_of_getElem? (i := 108) rfl)) (hw _ (List.mem_of_getElem? (i := 109) rfl)) (hw _ (List.mem_of_getElem? (i := 110) rfl)) (by decide) rfl (lenOf pd_28I29I rfl) rfl (Nat.le_of_eq rfl) d21_5 rfl (argsL := [(.int (16 : Int32))]) (rest := []) (W := 0) (q := 8)) (own_ntz l Z a0 hw hEL h0 n0) (hw _ (List.mem_of_getElem? (i := 110) rfl)) (hw _ (List.mem_of_getElem? (i := 109) rfl)) (by decide) (by decide) (by decide) (by decide) ?_
  intro v1 h1 hz1 hQ1
  obtain ⟨rfl, rfl⟩ := hQ1
  refine gs (mkF m 9 #[.val (.ref a1), .val (.long q1), .second, .val (.int (4 : Int32)), .unset] []) (fun T A t k => XS.istoreN A B.x rfl (B.d d21_8) rfl (l' := #[.val (.ref a1), .val (.long q1), .second, .val (.int (4 : Int32)), .unset]) rfl k) ?_
  refine gs (mkF m 10 _ [(.long q1)]) (fun T A t k => XS.lloadN A B.x rfl (B.d d21_9) rfl k) ?_
  refine g_ldc2J B (hw _ (List.mem_of_getElem? (i := 112) rfl)) d21_10 (q := 13) rfl ?_
  refine gs (mkF m 14 _ [(.long (q1 * (-7046029254386353131 : Int64)))]) (fun T A t k => XS.lmul A B.x rfl (B.d d21_13) rfl k) ?_
  refine gs (mkF m 16 _ [(.int (64 : Int32)), (.long (q1 * (-7046029254386353131 : Int64)))]) (fun T A t k => XS.bipush A B.x rfl (B.d d21_14) k) ?_
  refine gs (mkF m 17 _ [(.int (4 : Int32)), (.int (64 : Int32)), (.long (q1 * (-7046029254386353131 : Int64)))]) (fun T A t k => XS.iloadN A B.x rfl (B.d d21_16) rfl k) ?_
  refine gs (mkF m 18 _ [(.int (60 : Int32)), (.long (q1 * (-7046029254386353131 : Int64)))]) (fun T A t k => XS.isub A B.x rfl (B.d d21_17) rfl k) ?_
  refine gs (mkF m 19 _ [(.long (((q1 * (-7046029254386353131 : Int64)).toUInt64 >>> ((60 : Int32) &&& 0x3f).toInt64.toUInt64).toInt64))]) (fun T A t k => XS.lushr A B.x rfl (B.d d21_18) rfl k) ?_
  refine gs (mkF m 20 _ [(.int ((((q1 * (-7046029254386353131 : Int64)).toUInt64 >>> ((60 : Int32) &&& 0x3f).toInt64.toUInt64).toInt64).toInt32))]) (fun T A t k => XS.l2i A B.x rfl (B.d d21_19) rfl k) ?_
  refine gs (mkF m 22 #[.val (.ref a1), .val (.long q1), .second, .val (.int (4 : Int32)), .val (.int ((((q1 * (-7046029254386353131 : Int64)).toUInt64 >>> ((60 : Int32) &&& 0x3f).toInt64.toUInt64).toInt64).toInt32))] []) (fun T A t k => XS.istore A B.x rfl (B.d d21_20) rfl (l' := #[.val (.ref a1), .val (.long q1), .second, .val (.int (4 : Int32)), .val (.int ((((q1 * (-7046029254386353131 : Int64)).toUInt64 >>> ((60 : Int32) &&& 0x3f).toInt64.toUInt64).toInt64).toInt32))]) rfl k) ?_
  have hr0 := hsh_rng q1
  generalize e_p0 : ((((q1 * (-7046029254386353131 : Int64)).toUInt64 >>> ((60 : Int32) &&& 0x3f).toInt64.toUInt64).toInt64).toInt32) = p0
  have ep0 : hsh q1 = p0 := e_p0
  rw [ep0] at hr0
  refine gs (mkF m 23 _ [(.ref a1)]) (fun T A t k => XS.aloadN A B.x rfl (B.d d21_22) rfl rfl k) ?_
  refine g_getF B (hw _ (List.mem_of_getElem? (i := 57) rfl)) Via.refl PF1 d21_23 (q := 26) rfl ?_
  refine gs (mkF m 28 _ [(.int p0), (.ref b1)]) (fun T A t k => XS.iload A B.x rfl (B.d d21_26) rfl k) ?_
  refine g_ldJ B PV1 hr0 (v := (.long (lat ln p0))) (lat_v _ _) d21_28 (q := 29) rfl ?_
  refine g_ldc2J B (hw _ (List.mem_of_getElem? (i := 52) rfl)) d21_29 (q := 32) rfl ?_
  refine gs (mkF m 33 _ [(.int (lcmpW (lat ln p0) (-1 : Int64)))]) (fun T A t k => XS.lcmp A B.x rfl (B.d d21_32) rfl k) ?_
  by_cases hf0 : (lcmpW (lat ln p0) (-1 : Int64)) = (0 : Int32)
  · refine gs (mkF m 65 _ []) (fun T A t k => XS.ifYes A B.x rfl (pc0 := 33) (pc' := 65) rfl (B.d d21_33) rfl ((if0 _ _).trans (teq (hf0 : (lcmpW (lat ln p0) (-1 : Int64)) = (0 : Int32))).1) (by decide) (by decide) k) ?_
    refine gs (mkF m 67 _ [(.int p0)]) (fun T A t k => XS.iload A B.x rfl (B.d d21_65) rfl k) ?_
    exact g_retI B d21_67 (by decide) (by decide) ⟨by rw [plc0 ep0 (okp1 hf0)], rfl⟩
  · refine gs (mkF m 36 _ []) (fun T A t k => XS.ifNo A B.x rfl (B.d d21_33) rfl ((if0 _ _).trans (feq (hf0 : ¬ ((lcmpW (lat ln p0) (-1 : Int64)) = (0 : Int32)))).1) k) ?_
    refine gs (mkF m 37 _ [(.ref a1)]) (fun T A t k => XS.aloadN A B.x rfl (B.d d21_36) rfl rfl k) ?_
    refine g_getF B (hw _ (List.mem_of_getElem? (i := 57) rfl)) Via.refl PF1 d21_37 (q := 40) rfl ?_
    refine gs (mkF m 42 _ [(.int p0), (.ref b1)]) (fun T A t k => XS.iload A B.x rfl (B.d d21_40) rfl k) ?_
    refine g_ldJ B PV1 hr0 (v := (.long (lat ln p0))) (lat_v _ _) d21_42 (q := 43) rfl ?_
    refine gs (mkF m 44 _ [(.long q1), (.long (lat ln p0))]) (fun T A t k => XS.lloadN A B.x rfl (B.d d21_43) rfl k) ?_
    refine gs (mkF m 45 _ [(.int (lcmpW (lat ln p0) q1))]) (fun T A t k => XS.lcmp A B.x rfl (B.d d21_44) rfl k) ?_
    by_cases hk0 : (lcmpW (lat ln p0) q1) = (0 : Int32)
    · refine gs (mkF m 65 _ []) (fun T A t k => XS.ifYes A B.x rfl (pc0 := 45) (pc' := 65) rfl (B.d d21_45) rfl ((if0 _ _).trans (teq (hk0 : (lcmpW (lat ln p0) q1) = (0 : Int32))).1) (by decide) (by decide) k) ?_
      refine gs (mkF m 67 _ [(.int p0)]) (fun T A t k => XS.iload A B.x rfl (B.d d21_65) rfl k) ?_
      exact g_retI B d21_67 (by decide) (by decide) ⟨by rw [plc0 ep0 (okp2 hk0)], rfl⟩
    · refine gs (mkF m 48 _ []) (fun T A t k => XS.ifNo A B.x rfl (B.d d21_45) rfl ((if0 _ _).trans (feq (hk0 : ¬ ((lcmpW (lat ln p0) q1) = (0 : Int32)))).1) k) ?_
      have nf0 : ¬ okp ln q1 p0 := nokp hf0 hk0
      refine gs (mkF m 50 _ [(.int p0)]) (fun T A t k => XS.iload A B.x rfl (B.d d21_48) rfl k) ?_
      refine gs (mkF m 51 _ [(.int (1 : Int32)), (.int p0)]) (fun T A t k => XS.iconst A B.x rfl (B.d d21_50) k) ?_
      refine gs (mkF m 52 _ [(.int (p0 + (1 : Int32)))]) (fun T A t k => XS.iadd A B.x rfl (B.d d21_51) rfl k) ?_
      refine gs (mkF m 53 _ [(.ref a1), (.int (p0 + (1 : Int32)))]) (fun T A t k => XS.aloadN A B.x rfl (B.d d21_52) rfl rfl k) ?_
      refine g_getF B (hw _ (List.mem_of_getElem? (i := 57) rfl)) Via.refl PF1 d21_53 (q := 56) rfl ?_
      refine g_len B PV1 d21_56 (q := 57) rfl ?_
      refine gs (mkF m 58 _ [(.int (1 : Int32)), (.int (16 : Int32)), (.int (p0 + (1 : Int32)))]) (fun T A t k => XS.iconst A B.x rfl (B.d d21_57) k) ?_
      refine gs (mkF m 59 _ [(.int (15 : Int32)), (.int (p0 + (1 : Int32)))]) (fun T A t k => XS.isub A B.x rfl (B.d d21_58) rfl k) ?_
      refine gs (mkF m 60 _ [(.int ((p0 + (1 : Int32)) &&& (15 : Int32)))]) (fun T A t k => XS.iand A B.x rfl (B.d d21_59) rfl k) ?_
      refine gs (mkF m 62 #[.val (.ref a1), .val (.long q1), .second, .val (.int (4 : Int32)), .val (.int ((p0 + (1 : Int32)) &&& (15 : Int32)))] []) (fun T A t k => XS.istore A B.x rfl (B.d d21_60) rfl (l' := #[.val (.ref a1), .val (.long q1), .second, .val (.int (4 : Int32)), .val (.int ((p0 + (1 : Int32)) &&& (15 : Int32)))]) rfl k) ?_
      refine gs (mkF m 22 _ []) (fun T A t k => XS.goto A B.x rfl (pc0 := 62) (pc' := 22) rfl (B.d d21_62) (by decide) (by decide) k) ?_
      have hr1 := nxt_rng hr0
      generalize e_p1 : ((p0 + (1 : Int32)) &&& (15 : Int32)) = p1
      rw [show nxt p0 = p1 from e_p1] at hr1
      refine gs (mkF m 23 _ [(.ref a1)]) (fun T A t k => XS.aloadN A B.x rfl (B.d d21_22) rfl rfl k) ?_
      refine g_getF B (hw _ (List.mem_of_getElem? (i := 57) rfl)) Via.refl PF1 d21_23 (q := 26) rfl ?_
      refine gs (mkF m 28 _ [(.int p1), (.ref b1)]) (fun T A t k => XS.iload A B.x rfl (B.d d21_26) rfl k) ?_
      refine g_ldJ B PV1 hr1 (v := (.long (lat ln p1))) (lat_v _ _) d21_28 (q := 29) rfl ?_
      refine g_ldc2J B (hw _ (List.mem_of_getElem? (i := 52) rfl)) d21_29 (q := 32) rfl ?_
      refine gs (mkF m 33 _ [(.int (lcmpW (lat ln p1) (-1 : Int64)))]) (fun T A t k => XS.lcmp A B.x rfl (B.d d21_32) rfl k) ?_
      by_cases hf1 : (lcmpW (lat ln p1) (-1 : Int64)) = (0 : Int32)
      · refine gs (mkF m 65 _ []) (fun T A t k => XS.ifYes A B.x rfl (pc0 := 33) (pc' := 65) rfl (B.d d21_33) rfl ((if0 _ _).trans (teq (hf1 : (lcmpW (lat ln p1) (-1 : Int64)) = (0 : Int32))).1) (by decide) (by decide) k) ?_
        refine gs (mkF m 67 _ [(.int p1)]) (fun T A t k => XS.iload A B.x rfl (B.d d21_65) rfl k) ?_
        exact g_retI B d21_67 (by decide) (by decide) ⟨by rw [plc1 ep0 e_p1 nf0 (okp1 hf1)], rfl⟩
      · refine gs (mkF m 36 _ []) (fun T A t k => XS.ifNo A B.x rfl (B.d d21_33) rfl ((if0 _ _).trans (feq (hf1 : ¬ ((lcmpW (lat ln p1) (-1 : Int64)) = (0 : Int32)))).1) k) ?_
        refine gs (mkF m 37 _ [(.ref a1)]) (fun T A t k => XS.aloadN A B.x rfl (B.d d21_36) rfl rfl k) ?_
        refine g_getF B (hw _ (List.mem_of_getElem? (i := 57) rfl)) Via.refl PF1 d21_37 (q := 40) rfl ?_
        refine gs (mkF m 42 _ [(.int p1), (.ref b1)]) (fun T A t k => XS.iload A B.x rfl (B.d d21_40) rfl k) ?_
        refine g_ldJ B PV1 hr1 (v := (.long (lat ln p1))) (lat_v _ _) d21_42 (q := 43) rfl ?_
        refine gs (mkF m 44 _ [(.long q1), (.long (lat ln p1))]) (fun T A t k => XS.lloadN A B.x rfl (B.d d21_43) rfl k) ?_
        refine gs (mkF m 45 _ [(.int (lcmpW (lat ln p1) q1))]) (fun T A t k => XS.lcmp A B.x rfl (B.d d21_44) rfl k) ?_
        by_cases hk1 : (lcmpW (lat ln p1) q1) = (0 : Int32)
        · refine gs (mkF m 65 _ []) (fun T A t k => XS.ifYes A B.x rfl (pc0 := 45) (pc' := 65) rfl (B.d d21_45) rfl ((if0 _ _).trans (teq (hk1 : (lcmpW (lat ln p1) q1) = (0 : Int32))).1) (by decide) (by decide) k) ?_
          refine gs (mkF m 67 _ [(.int p1)]) (fun T A t k => XS.iload A B.x rfl (B.d d21_65) rfl k) ?_
          exact g_retI B d21_67 (by decide) (by decide) ⟨by rw [plc1 ep0 e_p1 nf0 (okp2 hk1)], rfl⟩
        · refine gs (mkF m 48 _ []) (fun T A t k => XS.ifNo A B.x rfl (B.d d21_45) rfl ((if0 _ _).trans (feq (hk1 : ¬ ((lcmpW (lat ln p1) q1) = (0 : Int32)))).1) k) ?_
          have nf1 : ¬ okp ln q1 p1 := nokp hf1 hk1
          refine gs (mkF m 50 _ [(.int p1)]) (fun T A t k => XS.iload A B.x rfl (B.d d21_48) rfl k) ?_
          refine gs (mkF m 51 _ [(.int (1 : Int32)), (.int p1)]) (fun T A t k => XS.iconst A B.x rfl (B.d d21_50) k) ?_
          refine gs (mkF m 52 _ [(.int (p1 + (1 : Int32)))]) (fun T A t k => XS.iadd A B.x rfl (B.d d21_51) rfl k) ?_
          refine gs (mkF m 53 _ [(.ref a1), (.int (p1 + (1 : Int32)))]) (fun T A t k => XS.aloadN A B.x rfl (B.d d21_52) rfl rfl k) ?_
          refine g_getF B (hw _ (List.mem_of_getElem? (i := 57) rfl)) Via.refl PF1 d21_53 (q := 56) rfl ?_
          refine g_len B PV1 d21_56 (q := 57) rfl ?_
          refine gs (mkF m 58 _ [(.int (1 : Int32)), (.int (16 : Int32)), (.int (p1 + (1 : Int32)))]) (fun T A t k => XS.iconst A B.x rfl (B.d d21_57) k) ?_
          refine gs (mkF m 59 _ [(.int (15 : Int32)), (.int (p1 + (1 : Int32)))]) (fun T A t k => XS.isub A B.x rfl (B.d d21_58) rfl k) ?_
          refine gs (mkF m 60 _ [(.int ((p1 + (1 : Int32)) &&& (15 : Int32)))]) (fun T A t k => XS.iand A B.x rfl (B.d d21_59) rfl k) ?_
          refine gs (mkF m 62 #[.val (.ref a1), .val (.long q1), .second, .val (.int (4 : Int32)), .val (.int ((p1 + (1 : Int32)) &&& (15 : Int32)))] []) (fun T A t k => XS.istore A B.x rfl (B.d d21_60) rfl (l' := #[.val (.ref a1), .val (.long q1), .second, .val (.int (4 : Int32)), .val (.int ((p1 + (1 : Int32)) &&& (15 : Int32)))]) rfl k) ?_
          refine gs (mkF m 22 _ []) (fun T A t k => XS.goto A B.x rfl (pc0 := 62) (pc' := 22) rfl (B.d d21_62) (by decide) (by decide) k) ?_
          have hr2 := nxt_rng hr1
          generalize e_p2 : ((p1 + (1 : Int32)) &&& (15 : Int32)) = p2
          rw [show nxt p1 = p2 from e_p2] at hr2
          refine gs (mkF m 23 _ [(.ref a1)]) (fun T A t k => XS.aloadN A B.x rfl (B.d d21_22) rfl rfl k) ?_
          refine g_getF B (hw _ (List.mem_of_getElem? (i := 57) rfl)) Via.refl PF1 d21_23 (q := 26) rfl ?_
          refine gs (mkF m 28 _ [(.int p2), (.ref b1)]) (fun T A t k => XS.iload A B.x rfl (B.d d21_26) rfl k) ?_
          refine g_ldJ B PV1 hr2 (v := (.long (lat ln p2))) (lat_v _ _) d21_28 (q := 29) rfl ?_
          refine g_ldc2J B (hw _ (List.mem_of_getElem? (i := 52) rfl)) d21_29 (q := 32) rfl ?_
          refine gs (mkF m 33 _ [(.int (lcmpW (lat ln p2) (-1 : Int64)))]) (fun T A t k => XS.lcmp A B.x rfl (B.d d21_32) rfl k) ?_
          by_cases hf2 : (lcmpW (lat ln p2) (-1 : Int64)) = (0 : Int32)
          · refine gs (mkF m 65 _ []) (fun T A t k => XS.ifYes A B.x rfl (pc0 := 33) (pc' := 65) rfl (B.d d21_33) rfl ((if0 _ _).trans (teq (hf2 : (lcmpW (lat ln p2) (-1 : Int64)) = (0 : Int32))).1) (by decide) (by decide) k) ?_
            refine gs (mkF m 67 _ [(.int p2)]) (fun T A t k => XS.iload A B.x rfl (B.d d21_65) rfl k) ?_
            exact g_retI B d21_67 (by decide) (by decide) ⟨by rw [plc2 ep0 e_p1 e_p2 nf0 nf1 (okp1 hf2)], rfl⟩
          · refine gs (mkF m 36 _ []) (fun T A t k => XS.ifNo A B.x rfl (B.d d21_33) rfl ((if0 _ _).trans (feq (hf2 : ¬ ((lcmpW (lat ln p2) (-1 : Int64)) = (0 : Int32)))).1) k) ?_
            refine gs (mkF m 37 _ [(.ref a1)]) (fun T A t k => XS.aloadN A B.x rfl (B.d d21_36) rfl rfl k) ?_
            refine g_getF B (hw _ (List.mem_of_getElem? (i := 57) rfl)) Via.refl PF1 d21_37 (q := 40) rfl ?_
            refine gs (mkF m 42 _ [(.int p2), (.ref b1)]) (fun T A t k => XS.iload A B.x rfl (B.d d21_40) rfl k) ?_
            refine g_ldJ B PV1 hr2 (v := (.long (lat ln p2))) (lat_v _ _) d21_42 (q := 43) rfl ?_
            refine gs (mkF m 44 _ [(.long q1), (.long (lat ln p2))]) (fun T A t k => XS.lloadN A B.x rfl (B.d d21_43) rfl k) ?_
            refine gs (mkF m 45 _ [(.int (lcmpW (lat ln p2) q1))]) (fun T A t k => XS.lcmp A B.x rfl (B.d d21_44) rfl k) ?_
            by_cases hk2 : (lcmpW (lat ln p2) q1) = (0 : Int32)
            · refine gs (mkF m 65 _ []) (fun T A t k => XS.ifYes A B.x rfl (pc0 := 45) (pc' := 65) rfl (B.d d21_45) rfl ((if0 _ _).trans (teq (hk2 : (lcmpW (lat ln p2) q1) = (0 : Int32))).1) (by decide) (by decide) k) ?_
              refine gs (mkF m 67 _ [(.int p2)]) (fun T A t k => XS.iload A B.x rfl (B.d d21_65) rfl k) ?_
              exact g_retI B d21_67 (by decide) (by decide) ⟨by rw [plc2 ep0 e_p1 e_p2 nf0 nf1 (okp2 hk2)], rfl⟩
            · refine gs (mkF m 48 _ []) (fun T A t k => XS.ifNo A B.x rfl (B.d d21_45) rfl ((if0 _ _).trans (feq (hk2 : ¬ ((lcmpW (lat ln p2) q1) = (0 : Int32)))).1) k) ?_
              have nf2 : ¬ okp ln q1 p2 := nokp hf2 hk2
              exact absurd (by rw [plc2' ep0 e_p1 e_p2 nf0 nf1] at hok; exact hok) nf2
theorem d23_0 : decode prog_21_method_2_code 0 = .ok (.aload_n 1, 1) := by decide +kernel
theorem pd_28Ljava2flang2fString3b29J : parseMethodDescriptor "(Ljava/lang/String;)J" = some ⟨[(.object "java/lang/String")], some .long⟩ := by decide +kernel
theorem d23_1 : decode prog_21_method_2_code 1 = .ok (.invokestatic 21, 3) := by decide +kernel
theorem d23_4 : decode prog_21_method_2_code 4 = .ok (.lstore_n 2, 1) := by decide +kernel
theorem d23_5 : decode prog_21_method_2_code 5 = .ok (.aload_n 0, 1) := by decide +kernel
theorem d23_6 : decode prog_21_method_2_code 6 = .ok (.lload_n 2, 1) := by decide +kernel
theorem pd_28J29I : parseMethodDescriptor "(J)I" = some ⟨[.long], some .int⟩ := by decide +kernel
theorem d23_7 : decode prog_21_method_2_code 7 = .ok (.invokevirtual 25, 3) := by decide +kernel
theorem d23_10 : decode prog_21_method_2_code 10 = .ok (.istore 4, 2) := by decide +kernel
theorem d23_12 : decode prog_21_method_2_code 12 = .ok (.aload_n 0, 1) := by decide +kernel
theorem d23_13 : decode prog_21_method_2_code 13 = .ok (.getfield 13, 3) := by decide +kernel
theorem d23_16 : decode prog_21_method_2_code 16 = .ok (.iload 4, 2) := by decide +kernel
theorem d23_18 : decode prog_21_method_2_code 18 = .ok (.laload, 1) := by decide +kernel
theorem d23_19 : decode prog_21_method_2_code 19 = .ok (.lload_n 2, 1) := by decide +kernel
theorem d23_20 : decode prog_21_method_2_code 20 = .ok (.lcmp, 1) := by decide +kernel
theorem d23_21 : decode prog_21_method_2_code 21 = .ok (.ifCond .ne 13, 3) := by decide +kernel
theorem d23_24 : decode prog_21_method_2_code 24 = .ok (.aload_n 0, 1) := by decide +kernel
theorem d23_25 : decode prog_21_method_2_code 25 = .ok (.getfield 17, 3) := by decide +kernel
theorem d23_28 : decode prog_21_method_2_code 28 = .ok (.iload 4, 2) := by decide +kernel
theorem d23_30 : decode prog_21_method_2_code 30 = .ok (.iaload, 1) := by decide +kernel
theorem d23_31 : decode prog_21_method_2_code 31 = .ok (.goto 4, 3) := by decide +kernel
theorem d23_35 : decode prog_21_method_2_code 35 = .ok (.ireturn, 1) := by decide +kernel
theorem d23_34 : decode prog_21_method_2_code 34 = .ok (.iconst (-1), 1) := by decide +kernel
set_option maxRecDepth 65536 in
set_option maxHeartbeats 40000000 in
theorem own_get (l : Launch) (Z : State) (a0 : Array Value) (hw : ∀ d ∈ tables_1, d.before a0 Z = true) (hEL : EW Z a0 []) (a1 : Addr) (a2 : Addr) (zc : Int32) (fm : Value) (b1 b2 : Addr) (ln : List Int64) (vs : List Int32) (sz : Int32) (kk : Int64) (t : Addr) (c0 c1 c2 c3 c4 c5 c6 c7 c8 c9 : Int32) (h0 : Heap) (n0 : Nat) (PM : MapAt Z h0 a1 b1 b2 ln vs sz) (hl : ln.length = 16) (hl2 : vs.length = 16) (hok : okp ln kk (plc ln kk)) (PS : Str Z h0 a2 t [c0, c1, c2, c3, c4, c5, c6, c7, c8, c9]) (hd0 : ¬ c0 < 48 ∧ ¬ 57 < c0) (hd1 : ¬ c1 < 48 ∧ ¬ 57 < c1) (hd2 : ¬ c2 < 48 ∧ ¬ 57 < c2) (hd3 : ¬ c3 < 48 ∧ ¬ 57 < c3) (hd4 : ¬ c4 < 48 ∧ ¬ 57 < c4) (hd5 : ¬ c5 < 48 ∧ ¬ 57 < c5) (hd6 : ¬ c6 < 48 ∧ ¬ 57 < c6) (hd7 : ¬ c7 < 48 ∧ ¬ 57 < c7) (hd8 : ¬ c8 < 48 ∧ ¬ 57 < c8) (hd9 : ¬ c9 < 48 ∧ ¬ 57 < c9) (hkk : hor c0 c1 c2 c3 c4 c5 c6 c7 c8 c9 = kk) (PO : Old Z n0 h0) (SC : Sta Z Z.heap "java/lang/String" "COMPACT_STRINGS" "Z" (.int zc)) (hzc : ¬ zc = 0) (SF : Sta Z Z.heap "jdk/internal/util/Preconditions" "SIOOBE_FORMATTER" "Ljava/util/function/BiFunction;" fm) (rf : fm.isRef = true) :
    Met false Z [] l (⟨"com/example/rateledger/rateledger/io/LoanNumberMap", "get", "(Ljava/lang/String;)I"⟩ : MethodName) prog_21_method_2_code 5 (some .int) ({ frames := 6, cells := 0, slots := 0, locals := 110 } : Room) #[(.ref a1), (.ref a2)] h0 [] n0 (fun v h => v = some (.int (getF ln vs kk)) ∧ h0 = h) := by
  refine Met.of (a0 := a0) (Ls := #[.val (.ref a1), .val (.ref a2), .unset, .unset, .unset]) (fun z => rfl) (plainFor_of_name pn_com_example_rateledger_rateledger_io_LoanNumberMap) hEL (fun m => by first | (simp [entryFrame, mkF, argsToLocals, Value.category]; done) | rfl) ?_
  intro p e s m below meth c B hSf
  obtain ⟨PE, PF1, PF2, PF3, ⟨kL, PV1⟩, ⟨kV, PV2⟩, hab⟩ := id PM
  refine gs (mkF m 1 _ [(.ref a2)]) (fun T A t k => XS.aloadN A B.x rfl (B.d d23_0) rfl rfl k) ?_
  refine g_metN (c_static B (hw _ (List.mem_of_getElem? (i := 67) rfl)) (hw _ (List.mem_of_getElem? (i := 68) rfl)) (hw _ (List.mem_of_getElem? (i := 43) rfl)) (hw _ (List.mem_of_getElem? (i := 69) rfl)) (by decide) rfl (lenOf pd_28Ljava2flang2fString3b29J rfl) rfl (Nat.le_of_eq rfl) d23_1 rfl (argsL := [(.ref a2)]) (rest := []) (W := 0) (q := 4)) (own_key l Z a0 hw hEL a2 zc fm t c0 c1 c2 c3 c4 c5 c6 c7 c8 c9 h0 n0 PS hd0 hd1 hd2 hd3 hd4 hd5 hd6 hd7 hd8 hd9 PO SC hzc SF rf) (hw _ (List.mem_of_getElem? (i := 69) rfl)) (hw _ (List.mem_of_getElem? (i := 43) rfl)) (by decide) (by decide) (by decide) (by decide) ?_
  intro v1 h1 hz1 hQ1
  obtain ⟨e1, rfl⟩ := hQ1
  rw [hkk] at e1; subst e1
  refine gs (mkF m 5 #[.val (.ref a1), .val (.ref a2), .val (.long kk), .second, .unset] []) (fun T A t k => XS.lstoreN A B.x rfl (B.d d23_4) rfl (l' := #[.val (.ref a1), .val (.ref a2), .val (.long kk), .second, .unset]) rfl k) ?_
  refine gs (mkF m 6 _ [(.ref a1)]) (fun T A t k => XS.aloadN A B.x rfl (B.d d23_5) rfl rfl k) ?_
  refine gs (mkF m 7 _ [(.long kk), (.ref a1)]) (fun T A t k => XS.lloadN A B.x rfl (B.d d23_6) rfl k) ?_
  refine g_metN (c_priv B PE (hw _ (List.mem_of_getElem? (i := 103) rfl)) (hw _ (List.mem_of_getElem? (i := 104) rfl)) (hw _ (List.mem_of_getElem? (i := 105) rfl)) (hw _ (List.mem_of_getElem? (i := 106) rfl)) (z := (⟨"com/example/rateledger/rateledger/io/LoanNumberMap", "putIfAbsent", "(Ljava/lang/String;I)I"⟩ : MethodName)) (hw _ (List.mem_of_getElem? (i := 65) rfl)) rfl (by decide) rfl (lenOf pd_28J29I rfl) rfl (Nat.le_of_eq rfl) d23_7 rfl (argsL := [(.long kk)]) (rest := []) (W := 0) (q := 10)) (own_place l Z a0 hw hEL a1 (kk) b1 b2 ln vs sz h0 n0 PM hl hok) (hw _ (List.mem_of_getElem? (i := 106) rfl)) (hw _ (List.mem_of_getElem? (i := 43) rfl)) (by decide) (by decide) (by decide) (by decide) ?_
  intro v2 h2 hz2 hQ2
  obtain ⟨rfl, rfl⟩ := hQ2
  generalize e_pp : (plc ln kk) = pp
  have hrp : ¬ pp < 0 ∧ pp < 16 := e_pp ▸ plc_rng ln kk
  refine gs (mkF m 12 #[.val (.ref a1), .val (.ref a2), .val (.long kk), .second, .val (.int pp)] []) (fun T A t k => XS.istore A B.x rfl (B.d d23_10) rfl (l' := #[.val (.ref a1), .val (.ref a2), .val (.long kk), .second, .val (.int pp)]) rfl k) ?_
  refine gs (mkF m 13 _ [(.ref a1)]) (fun T A t k => XS.aloadN A B.x rfl (B.d d23_12) rfl rfl k) ?_
  refine g_getF B (hw _ (List.mem_of_getElem? (i := 57) rfl)) Via.refl PF1 d23_13 (q := 16) rfl ?_
  refine gs (mkF m 18 _ [(.int pp), (.ref b1)]) (fun T A t k => XS.iload A B.x rfl (B.d d23_16) rfl k) ?_
  refine g_ldJ B PV1 hrp (v := (.long (lat ln pp))) (lat_v _ _) d23_18 (q := 19) rfl ?_
  refine gs (mkF m 20 _ [(.long kk), (.long (lat ln pp))]) (fun T A t k => XS.lloadN A B.x rfl (B.d d23_19) rfl k) ?_
  refine gs (mkF m 21 _ [(.int (lcmpW (lat ln pp) kk))]) (fun T A t k => XS.lcmp A B.x rfl (B.d d23_20) rfl k) ?_
  by_cases hg : (lcmpW (lat ln pp) kk) = (0 : Int32)
  · refine gs (mkF m 24 _ []) (fun T A t k => XS.ifNo A B.x rfl (B.d d23_21) rfl ((if0 _ _).trans (teq (hg : (lcmpW (lat ln pp) kk) = (0 : Int32))).2) k) ?_
    refine gs (mkF m 25 _ [(.ref a1)]) (fun T A t k => XS.aloadN A B.x rfl (B.d d23_24) rfl rfl k) ?_
    refine g_getF B (hw _ (List.mem_of_getElem? (i := 60) rfl)) Via.refl PF2 d23_25 (q := 28) rfl ?_
    refine gs (mkF m 30 _ [(.int pp), (.ref b2)]) (fun T A t k => XS.iload A B.x rfl (B.d d23_28) rfl k) ?_
    refine g_ldI B PV2 hrp (v := (.int (vat vs pp))) (vat_v _ _) d23_30 (q := 31) rfl ?_
    refine gs (mkF m 35 _ [(.int (vat vs pp))]) (fun T A t k => XS.goto A B.x rfl (pc0 := 31) (pc' := 35) rfl (B.d d23_31) (by decide) (by decide) k) ?_
    subst e_pp
    exact g_retI B d23_35 (by decide) (by decide) ⟨by rw [getF, if_pos (lc0.mp hg)], rfl⟩
  · refine gs (mkF m 34 _ []) (fun T A t k => XS.ifYes A B.x rfl (pc0 := 21) (pc' := 34) rfl (B.d d23_21) rfl ((if0 _ _).trans (feq (hg : ¬ ((lcmpW (lat ln pp) kk) = (0 : Int32)))).2) (by decide) (by decide) k) ?_
    refine gs (mkF m 35 _ [(.int (-1 : Int32))]) (fun T A t k => XS.iconst A B.x rfl (B.d d23_34) k) ?_
    subst e_pp
    exact g_retI B d23_35 (by decide) (by decide) ⟨by rw [getF, if_neg (fun z => hg (lc0.mpr z))], rfl⟩
theorem d12_0 : decode prog_21_method_3_code 0 = .ok (.iload_n 2, 1) := by decide +kernel
theorem d12_1 : decode prog_21_method_3_code 1 = .ok (.ifCond .ge 18, 3) := by decide +kernel
theorem d12_19 : decode prog_21_method_3_code 19 = .ok (.aload_n 1, 1) := by decide +kernel
theorem d12_20 : decode prog_21_method_3_code 20 = .ok (.invokestatic 21, 3) := by decide +kernel
theorem d12_23 : decode prog_21_method_3_code 23 = .ok (.lstore_n 3, 1) := by decide +kernel
theorem d12_24 : decode prog_21_method_3_code 24 = .ok (.aload_n 0, 1) := by decide +kernel
theorem d12_25 : decode prog_21_method_3_code 25 = .ok (.lload_n 3, 1) := by decide +kernel
theorem d12_26 : decode prog_21_method_3_code 26 = .ok (.invokevirtual 25, 3) := by decide +kernel
theorem d12_29 : decode prog_21_method_3_code 29 = .ok (.istore 5, 2) := by decide +kernel
theorem d12_31 : decode prog_21_method_3_code 31 = .ok (.aload_n 0, 1) := by decide +kernel
theorem d12_32 : decode prog_21_method_3_code 32 = .ok (.getfield 13, 3) := by decide +kernel
theorem d12_35 : decode prog_21_method_3_code 35 = .ok (.iload 5, 2) := by decide +kernel
theorem d12_37 : decode prog_21_method_3_code 37 = .ok (.laload, 1) := by decide +kernel
theorem d12_38 : decode prog_21_method_3_code 38 = .ok (.lload_n 3, 1) := by decide +kernel
theorem d12_39 : decode prog_21_method_3_code 39 = .ok (.lcmp, 1) := by decide +kernel
theorem d12_40 : decode prog_21_method_3_code 40 = .ok (.ifCond .ne 11, 3) := by decide +kernel
theorem d12_43 : decode prog_21_method_3_code 43 = .ok (.aload_n 0, 1) := by decide +kernel
theorem d12_44 : decode prog_21_method_3_code 44 = .ok (.getfield 17, 3) := by decide +kernel
theorem d12_47 : decode prog_21_method_3_code 47 = .ok (.iload 5, 2) := by decide +kernel
theorem d12_49 : decode prog_21_method_3_code 49 = .ok (.iaload, 1) := by decide +kernel
theorem d12_50 : decode prog_21_method_3_code 50 = .ok (.ireturn, 1) := by decide +kernel
theorem d12_51 : decode prog_21_method_3_code 51 = .ok (.aload_n 0, 1) := by decide +kernel
theorem d12_52 : decode prog_21_method_3_code 52 = .ok (.getfield 13, 3) := by decide +kernel
theorem d12_55 : decode prog_21_method_3_code 55 = .ok (.iload 5, 2) := by decide +kernel
theorem d12_57 : decode prog_21_method_3_code 57 = .ok (.lload_n 3, 1) := by decide +kernel
theorem d12_58 : decode prog_21_method_3_code 58 = .ok (.lastore, 1) := by decide +kernel
theorem d12_59 : decode prog_21_method_3_code 59 = .ok (.aload_n 0, 1) := by decide +kernel
theorem d12_60 : decode prog_21_method_3_code 60 = .ok (.getfield 17, 3) := by decide +kernel
theorem d12_63 : decode prog_21_method_3_code 63 = .ok (.iload 5, 2) := by decide +kernel
theorem d12_65 : decode prog_21_method_3_code 65 = .ok (.iload_n 2, 1) := by decide +kernel
theorem d12_66 : decode prog_21_method_3_code 66 = .ok (.iastore, 1) := by decide +kernel
theorem d12_67 : decode prog_21_method_3_code 67 = .ok (.aload_n 0, 1) := by decide +kernel
theorem d12_68 : decode prog_21_method_3_code 68 = .ok (.dup, 1) := by decide +kernel
theorem d12_69 : decode prog_21_method_3_code 69 = .ok (.getfield 38, 3) := by decide +kernel
theorem d12_72 : decode prog_21_method_3_code 72 = .ok (.iconst 1, 1) := by decide +kernel
theorem d12_73 : decode prog_21_method_3_code 73 = .ok (.iadd, 1) := by decide +kernel
theorem d12_74 : decode prog_21_method_3_code 74 = .ok (.putfield 38, 3) := by decide +kernel
theorem d12_77 : decode prog_21_method_3_code 77 = .ok (.aload_n 0, 1) := by decide +kernel
theorem d12_78 : decode prog_21_method_3_code 78 = .ok (.getfield 38, 3) := by decide +kernel
theorem d12_81 : decode prog_21_method_3_code 81 = .ok (.aload_n 0, 1) := by decide +kernel
theorem d12_82 : decode prog_21_method_3_code 82 = .ok (.getfield 13, 3) := by decide +kernel
theorem d12_85 : decode prog_21_method_3_code 85 = .ok (.arraylength, 1) := by decide +kernel
theorem d12_86 : decode prog_21_method_3_code 86 = .ok (.iconst 2, 1) := by decide +kernel
theorem d12_87 : decode prog_21_method_3_code 87 = .ok (.idiv, 1) := by decide +kernel
theorem d12_88 : decode prog_21_method_3_code 88 = .ok (.if_icmp .le 7, 3) := by decide +kernel
theorem d12_95 : decode prog_21_method_3_code 95 = .ok (.iconst (-1), 1) := by decide +kernel
theorem d12_96 : decode prog_21_method_3_code 96 = .ok (.ireturn, 1) := by decide +kernel
set_option maxRecDepth 65536 in
set_option maxHeartbeats 40000000 in
theorem own_put (l : Launch) (Z : State) (a0 : Array Value) (hw : ∀ d ∈ tables_1, d.before a0 Z = true) (hEL : EW Z a0 []) (a1 : Addr) (a2 : Addr) (x3 : Int32) (zc : Int32) (fm : Value) (b1 b2 : Addr) (ln : List Int64) (vs : List Int32) (sz : Int32) (kk : Int64) (t : Addr) (c0 c1 c2 c3 c4 c5 c6 c7 c8 c9 : Int32) (h0 : Heap) (n0 : Nat) (PM : MapAt Z h0 a1 b1 b2 ln vs sz) (hl : ln.length = 16) (hl2 : vs.length = 16) (hok : okp ln kk (plc ln kk)) (hx3 : ¬ x3 < 0) (hsz : ¬ (8 : Int32) < sz + 1) (hn1 : n0 ≤ a1) (hn2 : n0 ≤ b1) (hn3 : n0 ≤ b2) (PS : Str Z h0 a2 t [c0, c1, c2, c3, c4, c5, c6, c7, c8, c9]) (hd0 : ¬ c0 < 48 ∧ ¬ 57 < c0) (hd1 : ¬ c1 < 48 ∧ ¬ 57 < c1) (hd2 : ¬ c2 < 48 ∧ ¬ 57 < c2) (hd3 : ¬ c3 < 48 ∧ ¬ 57 < c3) (hd4 : ¬ c4 < 48 ∧ ¬ 57 < c4) (hd5 : ¬ c5 < 48 ∧ ¬ 57 < c5) (hd6 : ¬ c6 < 48 ∧ ¬ 57 < c6) (hd7 : ¬ c7 < 48 ∧ ¬ 57 < c7) (hd8 : ¬ c8 < 48 ∧ ¬ 57 < c8) (hd9 : ¬ c9 < 48 ∧ ¬ 57 < c9) (hkk : hor c0 c1 c2 c3 c4 c5 c6 c7 c8 c9 = kk) (PO : Old Z n0 h0) (SC : Sta Z Z.heap "java/lang/String" "COMPACT_STRINGS" "Z" (.int zc)) (hzc : ¬ zc = 0) (SF : Sta Z Z.heap "jdk/internal/util/Preconditions" "SIOOBE_FORMATTER" "Ljava/util/function/BiFunction;" fm) (rf : fm.isRef = true) :
    Met false Z [] l (⟨"com/example/rateledger/rateledger/io/LoanNumberMap", "putIfAbsent", "(Ljava/lang/String;I)I"⟩ : MethodName) prog_21_method_3_code 6 (some .int) ({ frames := 6, cells := 0, slots := 0, locals := 110 } : Room) #[(.ref a1), (.ref a2), (.int x3)] h0 [] n0 (fun v h => ∃ (r : Int32) (sz' : Int32), v = some (.int r) ∧ Keep h0 h [a1, b1, b2] ∧ MapAt Z h a1 b1 b2 (putL ln kk) (putV ln vs kk x3) sz' ∧ (sz' = sz ∨ sz' = sz + 1)) := by
  refine Met.of (a0 := a0) (Ls := #[.val (.ref a1), .val (.ref a2), .val (.int x3), .unset, .unset, .unset]) (fun z => rfl) (plainFor_of_name pn_com_example_rateledger_rateledger_io_LoanNumberMap) hEL (fun m => by first | (simp [entryFrame, mkF, argsToLocals, Value.category]; done) | rfl) ?_
  intro p e s m below meth c B hSf
  obtain ⟨PE, PF1, PF2, PF3, ⟨kL, PV1⟩, ⟨kV, PV2⟩, hab⟩ := id PM
  obtain ⟨hab1, hab2, hab3⟩ := hab
  refine gs (mkF m 1 _ [(.int x3)]) (fun T A t k => XS.iloadN A B.x rfl (B.d d12_0) rfl k) ?_
  refine gs (mkF m 19 _ []) (fun T A t k => XS.ifYes A B.x rfl (pc0 := 1) (pc' := 19) rfl (B.d d12_1) rfl ((if0 _ _).trans (flt (hx3 : ¬ (x3 < (0 : Int32)))).2.1) (by decide) (by decide) k) ?_
  refine gs (mkF m 20 _ [(.ref a2)]) (fun T A t k => XS.aloadN A B.x rfl (B.d d12_19) rfl rfl k) ?_
  refine g_metN (c_static B (hw _ (List.mem_of_getElem? (i := 67) rfl)) (hw _ (List.mem_of_getElem? (i := 68) rfl)) (hw _ (List.mem_of_getElem? (i := 43) rfl)) (hw _ (List.mem_of_getElem? (i := 69) rfl)) (by decide) rfl (lenOf pd_28Ljava2flang2fString3b29J rfl) rfl (Nat.le_of_eq rfl) d12_20 rfl (argsL := [(.ref a2)]) (rest := []) (W := 0) (q := 23)) (own_key l Z a0 hw hEL a2 zc fm t c0 c1 c2 c3 c4 c5 c6 c7 c8 c9 h0 n0 PS hd0 hd1 hd2 hd3 hd4 hd5 hd6 hd7 hd8 hd9 PO SC hzc SF rf) (hw _ (List.mem_of_getElem? (i := 69) rfl)) (hw _ (List.mem_of_getElem? (i := 43) rfl)) (by decide) (by decide) (by decide) (by decide) ?_
  intro v1 h1 hz1 hQ1
  obtain ⟨e1, rfl⟩ := hQ1
  rw [hkk] at e1; subst e1
  refine gs (mkF m 24 #[.val (.ref a1), .val (.ref a2), .val (.int x3), .val (.long kk), .second, .unset] []) (fun T A t k => XS.lstoreN A B.x rfl (B.d d12_23) rfl (l' := #[.val (.ref a1), .val (.ref a2), .val (.int x3), .val (.long kk), .second, .unset]) rfl k) ?_
  refine gs (mkF m 25 _ [(.ref a1)]) (fun T A t k => XS.aloadN A B.x rfl (B.d d12_24) rfl rfl k) ?_
  refine gs (mkF m 26 _ [(.long kk), (.ref a1)]) (fun T A t k => XS.lloadN A B.x rfl (B.d d12_25) rfl k) ?_
  refine g_metN (c_priv B PE (hw _ (List.mem_of_getElem? (i := 103) rfl)) (hw _ (List.mem_of_getElem? (i := 104) rfl)) (hw _ (List.mem_of_getElem? (i := 105) rfl)) (hw _ (List.mem_of_getElem? (i := 106) rfl)) (z := (⟨"com/example/rateledger/rateledger/io/LoanNumberMap", "putIfAbsent", "(Ljava/lang/String;I)I"⟩ : MethodName)) (hw _ (List.mem_of_getElem? (i := 65) rfl)) rfl (by decide) rfl (lenOf pd_28J29I rfl) rfl (Nat.le_of_eq rfl) d12_26 rfl (argsL := [(.long kk)]) (rest := []) (W := 0) (q := 29)) (own_place l Z a0 hw hEL a1 (kk) b1 b2 ln vs sz h0 n0 PM hl hok) (hw _ (List.mem_of_getElem? (i := 106) rfl)) (hw _ (List.mem_of_getElem? (i := 43) rfl)) (by decide) (by decide) (by decide) (by decide) ?_
  intro v2 h2 hz2 hQ2
  obtain ⟨rfl, rfl⟩ := hQ2
  generalize e_pp : (plc ln kk) = pp
  have hrp : ¬ pp < 0 ∧ pp < 16 := e_pp ▸ plc_rng ln kk
  refine gs (mkF m 31 #[.val (.ref a1), .val (.ref a2), .val (.int x3), .val (.long kk), .second, .val (.int pp)] []) (fun T A t k => XS.istore A B.x rfl (B.d d12_29) rfl (l' := #[.val (.ref a1), .val (.ref a2), .val (.int x3), .val (.long kk), .second, .val (.int pp)]) rfl k) ?_
  refine gs (mkF m 32 _ [(.ref a1)]) (fun T A t k => XS.aloadN A B.x rfl (B.d d12_31) rfl rfl k) ?_
  refine g_getF B (hw _ (List.mem_of_getElem? (i := 57) rfl)) Via.refl PF1 d12_32 (q := 35) rfl ?_
  refine gs (mkF m 37 _ [(.int pp), (.ref b1)]) (fun T A t k => XS.iload A B.x rfl (B.d d12_35) rfl k) ?_
  refine g_ldJ B PV1 hrp (v := (.long (lat ln pp))) (lat_v _ _) d12_37 (q := 38) rfl ?_
  refine gs (mkF m 39 _ [(.long kk), (.long (lat ln pp))]) (fun T A t k => XS.lloadN A B.x rfl (B.d d12_38) rfl k) ?_
  refine gs (mkF m 40 _ [(.int (lcmpW (lat ln pp) kk))]) (fun T A t k => XS.lcmp A B.x rfl (B.d d12_39) rfl k) ?_
  by_cases hg : (lcmpW (lat ln pp) kk) = (0 : Int32)
  · refine gs (mkF m 43 _ []) (fun T A t k => XS.ifNo A B.x rfl (B.d d12_40) rfl ((if0 _ _).trans (teq (hg : (lcmpW (lat ln pp) kk) = (0 : Int32))).2) k) ?_
    refine gs (mkF m 44 _ [(.ref a1)]) (fun T A t k => XS.aloadN A B.x rfl (B.d d12_43) rfl rfl k) ?_
    refine g_getF B (hw _ (List.mem_of_getElem? (i := 60) rfl)) Via.refl PF2 d12_44 (q := 47) rfl ?_
    refine gs (mkF m 49 _ [(.int pp), (.ref b2)]) (fun T A t k => XS.iload A B.x rfl (B.d d12_47) rfl k) ?_
    refine g_ldI B PV2 hrp (v := (.int (vat vs pp))) (vat_v _ _) d12_49 (q := 50) rfl ?_
    have hyf : lat ln (plc ln kk) = kk := e_pp ▸ lc0.mp hg
    subst e_pp
    exact g_retI B d12_50 (by decide) (by decide) ⟨_, sz, rfl, Keep.refl _ _, by rw [putL, putV, if_pos hyf, if_pos hyf]; exact PM, Or.inl rfl⟩
  · refine gs (mkF m 51 _ []) (fun T A t k => XS.ifYes A B.x rfl (pc0 := 40) (pc' := 51) rfl (B.d d12_40) rfl ((if0 _ _).trans (feq (hg : ¬ ((lcmpW (lat ln pp) kk) = (0 : Int32)))).2) (by decide) (by decide) k) ?_
    refine gs (mkF m 52 _ [(.ref a1)]) (fun T A t k => XS.aloadN A B.x rfl (B.d d12_51) rfl rfl k) ?_
    refine g_getF B (hw _ (List.mem_of_getElem? (i := 57) rfl)) Via.refl PF1 d12_52 (q := 55) rfl ?_
    refine gs (mkF m 57 _ [(.int pp), (.ref b1)]) (fun T A t k => XS.iload A B.x rfl (B.d d12_55) rfl k) ?_
    refine gs (mkF m 58 _ [(.long kk), (.int pp), (.ref b1)]) (fun T A t k => XS.lloadN A B.x rfl (B.d d12_57) rfl k) ?_
    refine g_stJ B PV1 hrp (i := pp.toNatClampNeg) rfl (by rw [List.length_map, hl]; exact i32_clamp hrp rfl) d12_58 nos (by omega) (q := 59) rfl ?_
    intro h3 W3 A3
    have z3 := W3.size
    have V3 : Arv Z h3 b1 kL .long (16 : Int32) ((ln.set pp.toNatClampNeg kk).map Value.long) (.long (0 : Int64)) := by rw [List.map_set]; exact A3
    refine gs (mkF m 60 _ [(.ref a1)]) (fun T A t k => XS.aloadN A B.x rfl (B.d d12_59) rfl rfl k) ?_
    refine g_getF B (hw _ (List.mem_of_getElem? (i := 60) rfl)) Via.refl (PF2.other W3 (Or.inl hab1)) d12_60 (q := 63) rfl ?_
    refine gs (mkF m 65 _ [(.int pp), (.ref b2)]) (fun T A t k => XS.iload A B.x rfl (B.d d12_63) rfl k) ?_
    refine gs (mkF m 66 _ [(.int x3), (.int pp), (.ref b2)]) (fun T A t k => XS.iloadN A B.x rfl (B.d d12_65) rfl k) ?_
    refine g_stI B (PV2.other W3 (Ne.symm hab3)) hrp (i := pp.toNatClampNeg) rfl (by rw [List.length_map, hl2]; exact i32_clamp hrp rfl) d12_66 nos (by omega) (q := 67) rfl ?_
    intro h4 W4 A4
    have z4 := W4.size
    have V4 : Arv Z h4 b2 kV .int (16 : Int32) ((vs.set pp.toNatClampNeg x3).map Value.int) (.int (0 : Int32)) := by rw [List.map_set]; exact A4
    refine gs (mkF m 68 _ [(.ref a1)]) (fun T A t k => XS.aloadN A B.x rfl (B.d d12_67) rfl rfl k) ?_
    refine gs (mkF m 69 _ [(.ref a1), (.ref a1)]) (fun T A t k => XS.dup A B.x rfl (B.d d12_68) rfl rfl k) ?_
    refine g_getF B (hw _ (List.mem_of_getElem? (i := 113) rfl)) Via.refl ((PF3.other W3 (Or.inl hab1)).other W4 (Or.inl hab2)) d12_69 (q := 72) rfl ?_
    refine gs (mkF m 73 _ [(.int (1 : Int32)), (.int sz), (.ref a1)]) (fun T A t k => XS.iconst A B.x rfl (B.d d12_72) k) ?_
    refine gs (mkF m 74 _ [(.int (sz + (1 : Int32))), (.ref a1)]) (fun T A t k => XS.iadd A B.x rfl (B.d d12_73) rfl k) ?_
    refine g_putF B (hw _ (List.mem_of_getElem? (i := 113) rfl)) Via.refl ((PF3.other W3 (Or.inl hab1)).other W4 (Or.inl hab2)) ((PE.wr W3).wr W4) (Or.inl (hw _ (List.mem_of_getElem? (i := 114) rfl))) (hw _ (List.mem_of_getElem? (i := 42) rfl)) (ty := .int) (by decide) rfl rfl d12_74 nos (by omega) (q := 77) rfl ?_
    intro h5 W5 F5
    have z5 := W5.size
    refine gs (mkF m 78 _ [(.ref a1)]) (fun T A t k => XS.aloadN A B.x rfl (B.d d12_77) rfl rfl k) ?_
    refine g_getF B (hw _ (List.mem_of_getElem? (i := 113) rfl)) Via.refl F5 d12_78 (q := 81) rfl ?_
    refine gs (mkF m 82 _ [(.ref a1), (.int (sz + (1 : Int32)))]) (fun T A t k => XS.aloadN A B.x rfl (B.d d12_81) rfl rfl k) ?_
    refine g_getF B (hw _ (List.mem_of_getElem? (i := 57) rfl)) Via.refl (((PF1.other W3 (Or.inl hab1)).other W4 (Or.inl hab2)).other W5 (Or.inr (slot_ne (Or.inl (hw _ (List.mem_of_getElem? (i := 58) rfl))) (Or.inl (hw _ (List.mem_of_getElem? (i := 114) rfl))) (by decide) (t := (.array .long)) (t' := .int) (by decide) (by decide)))) d12_82 (q := 85) rfl ?_
    refine g_len B ((V3.other W4 hab3).other W5 (Ne.symm hab1)) d12_85 (q := 86) rfl ?_
    refine gs (mkF m 87 _ [(.int (2 : Int32)), (.int (16 : Int32)), (.int (sz + (1 : Int32)))]) (fun T A t k => XS.iconst A B.x rfl (B.d d12_86) k) ?_
    refine gs (mkF m 88 _ [(.int (8 : Int32)), (.int (sz + (1 : Int32)))]) (fun T A t k => XS.idiv A B.x rfl (B.d d12_87) rfl (by decide) k) ?_
    refine gs (mkF m 95 _ []) (fun T A t k => XS.icmpYes A B.x rfl (pc0 := 88) (pc' := 95) rfl (B.d d12_88) rfl (flt (hsz : ¬ ((8 : Int32) < (sz + (1 : Int32))))).2.2.2 (by decide) (by decide) k) ?_
    refine gs (mkF m 96 _ [(.int (-1 : Int32))]) (fun T A t k => XS.iconst A B.x rfl (B.d d12_95) k) ?_
    have hnf : ¬ lat ln (plc ln kk) = kk := fun z => hg (lc0.mpr (e_pp ▸ z))
    subst e_pp
    exact g_retI B d12_96 (by decide) (by decide) ⟨_, _, rfl, ((((Keep.refl h0 [a1, b1, b2]).wr W3 (Or.inl (by simp))).wr W4 (Or.inl (by simp))).wr W5 (Or.inl (by simp))), ⟨(((PE.wr W3).wr W4).wr W5), (((PF1.other W3 (Or.inl hab1)).other W4 (Or.inl hab2)).other W5 (Or.inr (slot_ne (Or.inl (hw _ (List.mem_of_getElem? (i := 58) rfl))) (Or.inl (hw _ (List.mem_of_getElem? (i := 114) rfl))) (by decide) (t := (.array .long)) (t' := .int) (by decide) (by decide)))), (((PF2.other W3 (Or.inl hab1)).other W4 (Or.inl hab2)).other W5 (Or.inr (slot_ne (Or.inl (hw _ (List.mem_of_getElem? (i := 61) rfl))) (Or.inl (hw _ (List.mem_of_getElem? (i := 114) rfl))) (by decide) (t := (.array .int)) (t' := .int) (by decide) (by decide)))), F5, ⟨_, by rw [putL, if_neg hnf]; exact ((V3.other W4 hab3).other W5 (Ne.symm hab1))⟩, ⟨_, by rw [putV, if_neg hnf]; exact (V4.other W5 (Ne.symm hab2))⟩, hab1, hab2, hab3⟩, Or.inr rfl⟩
theorem dvn {r : Int64} (h : 0 ≤ r.toInt) : 0 ≤ (r / (10 : Int64)).toInt := (div10 h rfl).1
theorem own_putk (l : Launch) (Z : State) (a0 : Array Value) (hw : ∀ d ∈ tables_1, d.before a0 Z = true) (hEL : EW Z a0 []) (a1 a2 : Addr) (x3 : Int32) (zc : Int32) (fm : Value) (b1 b2 : Addr) (ln : List Int64) (vs : List Int32) (sz : Int32) (kk : Int64) (t : Addr) (h0 : Heap) (n0 : Nat) (PM : MapAt Z h0 a1 b1 b2 ln vs sz) (hl : ln.length = 16) (hl2 : vs.length = 16) (hok : okp ln kk (plc ln kk)) (hx3 : ¬ x3 < 0) (hsz : ¬ (8 : Int32) < sz + 1) (hn1 : n0 ≤ a1) (hn2 : n0 ≤ b1) (hn3 : n0 ≤ b2) (PS : Str Z h0 a2 t (digs kk)) (hk0 : 0 ≤ kk.toInt) (hk1 : kk.toInt < 10000000000) (PO : Old Z n0 h0) (SC : Sta Z Z.heap "java/lang/String" "COMPACT_STRINGS" "Z" (.int zc)) (hzc : ¬ zc = 0) (SF : Sta Z Z.heap "jdk/internal/util/Preconditions" "SIOOBE_FORMATTER" "Ljava/util/function/BiFunction;" fm) (rf : fm.isRef = true) :
    Met false Z [] l (⟨"com/example/rateledger/rateledger/io/LoanNumberMap", "putIfAbsent", "(Ljava/lang/String;I)I"⟩ : MethodName) prog_21_method_3_code 6 (some .int) ({ frames := 6, cells := 0, slots := 0, locals := 110 } : Room) #[(.ref a1), (.ref a2), (.int x3)] h0 [] n0 (fun v h => ∃ (r : Int32) (sz' : Int32), v = some (.int r) ∧ Keep h0 h [a1, b1, b2] ∧ MapAt Z h a1 b1 b2 (putL ln kk) (putV ln vs kk x3) sz' ∧ (sz' = sz ∨ sz' = sz + 1)) :=
  own_put l Z a0 hw hEL a1 a2 x3 zc fm b1 b2 ln vs sz kk t (dg (((((((((kk / (10 : Int64)) / (10 : Int64)) / (10 : Int64)) / (10 : Int64)) / (10 : Int64)) / (10 : Int64)) / (10 : Int64)) / (10 : Int64)) / (10 : Int64))) (dg ((((((((kk / (10 : Int64)) / (10 : Int64)) / (10 : Int64)) / (10 : Int64)) / (10 : Int64)) / (10 : Int64)) / (10 : Int64)) / (10 : Int64))) (dg (((((((kk / (10 : Int64)) / (10 : Int64)) / (10 : Int64)) / (10 : Int64)) / (10 : Int64)) / (10 : Int64)) / (10 : Int64))) (dg ((((((kk / (10 : Int64)) / (10 : Int64)) / (10 : Int64)) / (10 : Int64)) / (10 : Int64)) / (10 : Int64))) (dg (((((kk / (10 : Int64)) / (10 : Int64)) / (10 : Int64)) / (10 : Int64)) / (10 : Int64))) (dg ((((kk / (10 : Int64)) / (10 : Int64)) / (10 : Int64)) / (10 : Int64))) (dg (((kk / (10 : Int64)) / (10 : Int64)) / (10 : Int64))) (dg ((kk / (10 : Int64)) / (10 : Int64))) (dg (kk / (10 : Int64))) (dg kk) h0 n0 PM hl hl2 hok hx3 hsz hn1 hn2 hn3 PS (dg_rng (dvn (dvn (dvn (dvn (dvn (dvn (dvn (dvn (dvn hk0)))))))))).1 (dg_rng (dvn (dvn (dvn (dvn (dvn (dvn (dvn (dvn hk0))))))))).1 (dg_rng (dvn (dvn (dvn (dvn (dvn (dvn (dvn hk0)))))))).1 (dg_rng (dvn (dvn (dvn (dvn (dvn (dvn hk0))))))).1 (dg_rng (dvn (dvn (dvn (dvn (dvn hk0)))))).1 (dg_rng (dvn (dvn (dvn (dvn hk0))))).1 (dg_rng (dvn (dvn (dvn hk0)))).1 (dg_rng (dvn (dvn hk0))).1 (dg_rng (dvn hk0)).1 (dg_rng hk0).1 (hor_digs hk0 hk1) PO SC hzc SF rf
theorem own_getk (l : Launch) (Z : State) (a0 : Array Value) (hw : ∀ d ∈ tables_1, d.before a0 Z = true) (hEL : EW Z a0 []) (a1 a2 : Addr)  (zc : Int32) (fm : Value) (b1 b2 : Addr) (ln : List Int64) (vs : List Int32) (sz : Int32) (kk : Int64) (t : Addr) (h0 : Heap) (n0 : Nat) (PM : MapAt Z h0 a1 b1 b2 ln vs sz) (hl : ln.length = 16) (hl2 : vs.length = 16) (hok : okp ln kk (plc ln kk))  (PS : Str Z h0 a2 t (digs kk)) (hk0 : 0 ≤ kk.toInt) (hk1 : kk.toInt < 10000000000) (PO : Old Z n0 h0) (SC : Sta Z Z.heap "java/lang/String" "COMPACT_STRINGS" "Z" (.int zc)) (hzc : ¬ zc = 0) (SF : Sta Z Z.heap "jdk/internal/util/Preconditions" "SIOOBE_FORMATTER" "Ljava/util/function/BiFunction;" fm) (rf : fm.isRef = true) :
    Met false Z [] l (⟨"com/example/rateledger/rateledger/io/LoanNumberMap", "get", "(Ljava/lang/String;)I"⟩ : MethodName) prog_21_method_2_code 5 (some .int) ({ frames := 6, cells := 0, slots := 0, locals := 110 } : Room) #[(.ref a1), (.ref a2)] h0 [] n0 (fun v h => v = some (.int (getF ln vs kk)) ∧ h0 = h) :=
  own_get l Z a0 hw hEL a1 a2  zc fm b1 b2 ln vs sz kk t (dg (((((((((kk / (10 : Int64)) / (10 : Int64)) / (10 : Int64)) / (10 : Int64)) / (10 : Int64)) / (10 : Int64)) / (10 : Int64)) / (10 : Int64)) / (10 : Int64))) (dg ((((((((kk / (10 : Int64)) / (10 : Int64)) / (10 : Int64)) / (10 : Int64)) / (10 : Int64)) / (10 : Int64)) / (10 : Int64)) / (10 : Int64))) (dg (((((((kk / (10 : Int64)) / (10 : Int64)) / (10 : Int64)) / (10 : Int64)) / (10 : Int64)) / (10 : Int64)) / (10 : Int64))) (dg ((((((kk / (10 : Int64)) / (10 : Int64)) / (10 : Int64)) / (10 : Int64)) / (10 : Int64)) / (10 : Int64))) (dg (((((kk / (10 : Int64)) / (10 : Int64)) / (10 : Int64)) / (10 : Int64)) / (10 : Int64))) (dg ((((kk / (10 : Int64)) / (10 : Int64)) / (10 : Int64)) / (10 : Int64))) (dg (((kk / (10 : Int64)) / (10 : Int64)) / (10 : Int64))) (dg ((kk / (10 : Int64)) / (10 : Int64))) (dg (kk / (10 : Int64))) (dg kk) h0 n0 PM hl hl2 hok  PS (dg_rng (dvn (dvn (dvn (dvn (dvn (dvn (dvn (dvn (dvn hk0)))))))))).1 (dg_rng (dvn (dvn (dvn (dvn (dvn (dvn (dvn (dvn hk0))))))))).1 (dg_rng (dvn (dvn (dvn (dvn (dvn (dvn (dvn hk0)))))))).1 (dg_rng (dvn (dvn (dvn (dvn (dvn (dvn hk0))))))).1 (dg_rng (dvn (dvn (dvn (dvn (dvn hk0)))))).1 (dg_rng (dvn (dvn (dvn (dvn hk0))))).1 (dg_rng (dvn (dvn (dvn hk0)))).1 (dg_rng (dvn (dvn hk0))).1 (dg_rng (dvn hk0)).1 (dg_rng hk0).1 (hor_digs hk0 hk1) PO SC hzc SF rf
theorem pd_28J29J : parseMethodDescriptor "(J)J" = some ⟨[.long], some .long⟩ := by decide +kernel
theorem pd_28J29Ljava2flang2fString3b : parseMethodDescriptor "(J)Ljava/lang/String;" = some ⟨[.long], some (.object "java/lang/String")⟩ := by decide +kernel
theorem pd_2829V : parseMethodDescriptor "()V" = some ⟨[], none⟩ := by decide +kernel
theorem pd_28Ljava2flang2fString3b29I : parseMethodDescriptor "(Ljava/lang/String;)I" = some ⟨[(.object "java/lang/String")], some .int⟩ := by decide +kernel
theorem pd_28Ljava2flang2fString3bI29I : parseMethodDescriptor "(Ljava/lang/String;I)I" = some ⟨[(.object "java/lang/String"), .int], some .int⟩ := by decide +kernel
set_option maxRecDepth 65536 in
set_option maxHeartbeats 40000000 in
theorem own_law (l : Launch) (Z : State) (a0 : Array Value) (hw : ∀ d ∈ tables_1, d.before a0 Z = true) (hEL : EW Z a0 []) (q1 : Int64) (q2 : Int64) (q3 : Int64) (x4 : Int32) (x5 : Int32) (x6 : Int32) (zc : Int32) (fm : Value) (h0 : Heap) (n0 : Nat) (hn : n0 ≤ h0.size) (PO : Old Z n0 h0) (SC : Sta Z Z.heap "java/lang/String" "COMPACT_STRINGS" "Z" (.int zc)) (hzc : ¬ zc = 0) (SF : Sta Z Z.heap "jdk/internal/util/Preconditions" "SIOOBE_FORMATTER" "Ljava/util/function/BiFunction;" fm) (rf : fm.isRef = true) :
    Met false Z [] l x code maxLocals ret room_1 #[(.long q1), (.long q2), (.long q3), (.int x4), (.int x5), (.int x6)] h0 [] n0 (fun v h => v = some (.int 1)) := by
  refine Met.of (a0 := a0) (Ls := #[.val (.long q1), .second, .val (.long q2), .second, .val (.long q3), .second, .val (.int x4), .val (.int x5), .val (.int x6), .unset, .unset, .unset, .unset, .unset, .unset, .unset, .unset, .unset, .unset, .unset, .unset, .unset, .unset, .unset, .unset, .unset, .unset]) (fun z => rfl) (plainFor_of_name pn_com_example_rateledger_rateledger_io_LoanNumberMapGetPinLaw) hEL (fun m => by first | (simp [entryFrame, mkF, argsToLocals, Value.category, maxLocals]; done) | rfl) ?_
  intro p e s m below meth c B hSf
  refine gs (mkF m 1 _ [(.long q1)]) (fun T A t k => XS.lloadN A B.x rfl (B.d at_0) rfl k) ?_
  refine g_metN (c_static B (hw _ (List.mem_of_getElem? (i := 0) rfl)) (hw _ (List.mem_of_getElem? (i := 1) rfl)) (hw _ (List.mem_of_getElem? (i := 2) rfl)) (hw _ (List.mem_of_getElem? (i := 3) rfl)) (by decide) rfl (lenOf pd_28J29J rfl) rfl (Nat.le_of_eq rfl) at_1 rfl (argsL := [(.long q1)]) (rest := []) (W := 0) (q := 4)) (own_norm l Z a0 hw hEL (q1) h0 n0) (hw _ (List.mem_of_getElem? (i := 3) rfl)) (hw _ (List.mem_of_getElem? (i := 2) rfl)) (by decide) (by decide) (by decide) (by decide) ?_
  intro v1 h1 hz1 hQ1
  obtain ⟨rfl, rfl⟩ := hQ1
  generalize e_ka : (nrm q1) = ka
  have hka : 0 ≤ ka.toInt ∧ ka.toInt < 10000000000 := e_ka ▸ nrm_rng q1
  refine gs (mkF m 6 #[.val (.long q1), .second, .val (.long q2), .second, .val (.long q3), .second, .val (.int x4), .val (.int x5), .val (.int x6), .val (.long ka), .second, .unset, .unset, .unset, .unset, .unset, .unset, .unset, .unset, .unset, .unset, .unset, .unset, .unset, .unset, .unset, .unset] []) (fun T A t k => XS.lstore A B.x rfl (B.d at_4) rfl (l' := #[.val (.long q1), .second, .val (.long q2), .second, .val (.long q3), .second, .val (.int x4), .val (.int x5), .val (.int x6), .val (.long ka), .second, .unset, .unset, .unset, .unset, .unset, .unset, .unset, .unset, .unset, .unset, .unset, .unset, .unset, .unset, .unset, .unset]) rfl k) ?_
  refine gs (mkF m 7 _ [(.long q2)]) (fun T A t k => XS.lloadN A B.x rfl (B.d at_6) rfl k) ?_
  refine g_metN (c_static B (hw _ (List.mem_of_getElem? (i := 0) rfl)) (hw _ (List.mem_of_getElem? (i := 1) rfl)) (hw _ (List.mem_of_getElem? (i := 2) rfl)) (hw _ (List.mem_of_getElem? (i := 3) rfl)) (by decide) rfl (lenOf pd_28J29J rfl) rfl (Nat.le_of_eq rfl) at_7 rfl (argsL := [(.long q2)]) (rest := []) (W := 0) (q := 10)) (own_norm l Z a0 hw hEL (q2) h0 n0) (hw _ (List.mem_of_getElem? (i := 3) rfl)) (hw _ (List.mem_of_getElem? (i := 2) rfl)) (by decide) (by decide) (by decide) (by decide) ?_
  intro v2 h2 hz2 hQ2
  obtain ⟨rfl, rfl⟩ := hQ2
  generalize e_kb : (nrm q2) = kb
  have hkb : 0 ≤ kb.toInt ∧ kb.toInt < 10000000000 := e_kb ▸ nrm_rng q2
  refine gs (mkF m 12 #[.val (.long q1), .second, .val (.long q2), .second, .val (.long q3), .second, .val (.int x4), .val (.int x5), .val (.int x6), .val (.long ka), .second, .val (.long kb), .second, .unset, .unset, .unset, .unset, .unset, .unset, .unset, .unset, .unset, .unset, .unset, .unset, .unset, .unset] []) (fun T A t k => XS.lstore A B.x rfl (B.d at_10) rfl (l' := #[.val (.long q1), .second, .val (.long q2), .second, .val (.long q3), .second, .val (.int x4), .val (.int x5), .val (.int x6), .val (.long ka), .second, .val (.long kb), .second, .unset, .unset, .unset, .unset, .unset, .unset, .unset, .unset, .unset, .unset, .unset, .unset, .unset, .unset]) rfl k) ?_
  refine gs (mkF m 14 _ [(.int x6)]) (fun T A t k => XS.iload A B.x rfl (B.d at_12) rfl k) ?_
  refine gs (mkF m 15 _ [(.int (2 : Int32)), (.int x6)]) (fun T A t k => XS.iconst A B.x rfl (B.d at_14) k) ?_
  refine gs (mkF m 16 _ [(.int ((x6.toUInt32 >>> ((2 : Int32) &&& 31).toUInt32).toInt32))]) (fun T A t k => XS.iushr A B.x rfl (B.d at_15) rfl k) ?_
  refine gs (mkF m 17 _ [(.int (3 : Int32)), (.int ((x6.toUInt32 >>> ((2 : Int32) &&& 31).toUInt32).toInt32))]) (fun T A t k => XS.iconst A B.x rfl (B.d at_16) k) ?_
  refine gs (mkF m 18 _ [(.int (((x6.toUInt32 >>> ((2 : Int32) &&& 31).toUInt32).toInt32) &&& (3 : Int32)))]) (fun T A t k => XS.iand A B.x rfl (B.d at_17) rfl k) ?_
  refine gs (mkF m 20 #[.val (.long q1), .second, .val (.long q2), .second, .val (.long q3), .second, .val (.int x4), .val (.int x5), .val (.int x6), .val (.long ka), .second, .val (.long kb), .second, .val (.int (((x6.toUInt32 >>> ((2 : Int32) &&& 31).toUInt32).toInt32) &&& (3 : Int32))), .unset, .unset, .unset, .unset, .unset, .unset, .unset, .unset, .unset, .unset, .unset, .unset, .unset] []) (fun T A t k => XS.istore A B.x rfl (B.d at_18) rfl (l' := #[.val (.long q1), .second, .val (.long q2), .second, .val (.long q3), .second, .val (.int x4), .val (.int x5), .val (.int x6), .val (.long ka), .second, .val (.long kb), .second, .val (.int (((x6.toUInt32 >>> ((2 : Int32) &&& 31).toUInt32).toInt32) &&& (3 : Int32))), .unset, .unset, .unset, .unset, .unset, .unset, .unset, .unset, .unset, .unset, .unset, .unset, .unset]) rfl k) ?_
  refine gs (mkF m 22 _ [(.int (((x6.toUInt32 >>> ((2 : Int32) &&& 31).toUInt32).toInt32) &&& (3 : Int32)))]) (fun T A t k => XS.iload A B.x rfl (B.d at_20) rfl k) ?_
  refine gjA (fun k => mkF m 46 #[.val (.long q1), .second, .val (.long q2), .second, .val (.long q3), .second, .val (.int x4), .val (.int x5), .val (.int x6), .val (.long ka), .second, .val (.long kb), .second, .val (.int (((x6.toUInt32 >>> ((2 : Int32) &&& 31).toUInt32).toInt32) &&& (3 : Int32))), .unset, .unset, .unset, .unset, .unset, .unset, .unset, .unset, .unset, .unset, .unset, .unset, .unset] [(.long k)]) (fun k => 0 ≤ k.toInt ∧ k.toInt < 10000000000) ?_ (fun J => ?_)
  · intro kc hkc
    refine gs (mkF m 48 #[.val (.long q1), .second, .val (.long q2), .second, .val (.long q3), .second, .val (.int x4), .val (.int x5), .val (.int x6), .val (.long ka), .second, .val (.long kb), .second, .val (.int (((x6.toUInt32 >>> ((2 : Int32) &&& 31).toUInt32).toInt32) &&& (3 : Int32))), .val (.long kc), .second, .unset, .unset, .unset, .unset, .unset, .unset, .unset, .unset, .unset, .unset, .unset] []) (fun T A t k => XS.lstore A B.x rfl (B.d at_46) rfl (l' := #[.val (.long q1), .second, .val (.long q2), .second, .val (.long q3), .second, .val (.int x4), .val (.int x5), .val (.int x6), .val (.long ka), .second, .val (.long kb), .second, .val (.int (((x6.toUInt32 >>> ((2 : Int32) &&& 31).toUInt32).toInt32) &&& (3 : Int32))), .val (.long kc), .second, .unset, .unset, .unset, .unset, .unset, .unset, .unset, .unset, .unset, .unset, .unset]) rfl k) ?_
    refine gs (mkF m 50 _ [(.int x6)]) (fun T A t k => XS.iload A B.x rfl (B.d at_48) rfl k) ?_
    refine gs (mkF m 51 _ [(.int (1 : Int32)), (.int x6)]) (fun T A t k => XS.iconst A B.x rfl (B.d at_50) k) ?_
    refine gs (mkF m 52 _ [(.int (x6 &&& (1 : Int32)))]) (fun T A t k => XS.iand A B.x rfl (B.d at_51) rfl k) ?_
    refine gjA (fun b => mkF m 62 #[.val (.long q1), .second, .val (.long q2), .second, .val (.long q3), .second, .val (.int x4), .val (.int x5), .val (.int x6), .val (.long ka), .second, .val (.long kb), .second, .val (.int (((x6.toUInt32 >>> ((2 : Int32) &&& 31).toUInt32).toInt32) &&& (3 : Int32))), .val (.long kc), .second, .val (.int b), .unset, .unset, .unset, .unset, .unset, .unset, .unset, .unset, .unset, .unset] []) (fun b => b = 0 ∨ b = 1) ?_ (fun J => ?_)
    · intro f16 hf16
      refine gs (mkF m 64 _ [(.int x6)]) (fun T A t k => XS.iload A B.x rfl (B.d at_62) rfl k) ?_
      refine gs (mkF m 65 _ [(.int (2 : Int32)), (.int x6)]) (fun T A t k => XS.iconst A B.x rfl (B.d at_64) k) ?_
      refine gs (mkF m 66 _ [(.int (x6 &&& (2 : Int32)))]) (fun T A t k => XS.iand A B.x rfl (B.d at_65) rfl k) ?_
      refine gjA (fun b => mkF m 76 #[.val (.long q1), .second, .val (.long q2), .second, .val (.long q3), .second, .val (.int x4), .val (.int x5), .val (.int x6), .val (.long ka), .second, .val (.long kb), .second, .val (.int (((x6.toUInt32 >>> ((2 : Int32) &&& 31).toUInt32).toInt32) &&& (3 : Int32))), .val (.long kc), .second, .val (.int f16), .val (.int b), .unset, .unset, .unset, .unset, .unset, .unset, .unset, .unset, .unset] []) (fun b => b = 0 ∨ b = 1) ?_ (fun J => ?_)
      · intro f17 hf17
        refine gs (mkF m 78 _ [(.int x4)]) (fun T A t k => XS.iload A B.x rfl (B.d at_76) rfl k) ?_
        refine g_ldcI B (hw _ (List.mem_of_getElem? (i := 6) rfl)) at_78 (q := 80) rfl ?_
        refine gs (mkF m 81 _ [(.int (x4 &&& (2147483647 : Int32)))]) (fun T A t k => XS.iand A B.x rfl (B.d at_80) rfl k) ?_
        generalize e_xa : (x4 &&& (2147483647 : Int32)) = xa
        have hxa : ¬ xa < 0 := e_xa ▸ max32 x4
        refine gs (mkF m 83 #[.val (.long q1), .second, .val (.long q2), .second, .val (.long q3), .second, .val (.int x4), .val (.int x5), .val (.int x6), .val (.long ka), .second, .val (.long kb), .second, .val (.int (((x6.toUInt32 >>> ((2 : Int32) &&& 31).toUInt32).toInt32) &&& (3 : Int32))), .val (.long kc), .second, .val (.int f16), .val (.int f17), .val (.int xa), .unset, .unset, .unset, .unset, .unset, .unset, .unset, .unset] []) (fun T A t k => XS.istore A B.x rfl (B.d at_81) rfl (l' := #[.val (.long q1), .second, .val (.long q2), .second, .val (.long q3), .second, .val (.int x4), .val (.int x5), .val (.int x6), .val (.long ka), .second, .val (.long kb), .second, .val (.int (((x6.toUInt32 >>> ((2 : Int32) &&& 31).toUInt32).toInt32) &&& (3 : Int32))), .val (.long kc), .second, .val (.int f16), .val (.int f17), .val (.int xa), .unset, .unset, .unset, .unset, .unset, .unset, .unset, .unset]) rfl k) ?_
        refine gs (mkF m 85 _ [(.int x5)]) (fun T A t k => XS.iload A B.x rfl (B.d at_83) rfl k) ?_
        refine g_ldcI B (hw _ (List.mem_of_getElem? (i := 6) rfl)) at_85 (q := 87) rfl ?_
        refine gs (mkF m 88 _ [(.int (x5 &&& (2147483647 : Int32)))]) (fun T A t k => XS.iand A B.x rfl (B.d at_87) rfl k) ?_
        generalize e_xb : (x5 &&& (2147483647 : Int32)) = xb
        have hxb : ¬ xb < 0 := e_xb ▸ max32 x5
        refine gs (mkF m 90 #[.val (.long q1), .second, .val (.long q2), .second, .val (.long q3), .second, .val (.int x4), .val (.int x5), .val (.int x6), .val (.long ka), .second, .val (.long kb), .second, .val (.int (((x6.toUInt32 >>> ((2 : Int32) &&& 31).toUInt32).toInt32) &&& (3 : Int32))), .val (.long kc), .second, .val (.int f16), .val (.int f17), .val (.int xa), .val (.int xb), .unset, .unset, .unset, .unset, .unset, .unset, .unset] []) (fun T A t k => XS.istore A B.x rfl (B.d at_88) rfl (l' := #[.val (.long q1), .second, .val (.long q2), .second, .val (.long q3), .second, .val (.int x4), .val (.int x5), .val (.int x6), .val (.long ka), .second, .val (.long kb), .second, .val (.int (((x6.toUInt32 >>> ((2 : Int32) &&& 31).toUInt32).toInt32) &&& (3 : Int32))), .val (.long kc), .second, .val (.int f16), .val (.int f17), .val (.int xa), .val (.int xb), .unset, .unset, .unset, .unset, .unset, .unset, .unset]) rfl k) ?_
        refine gs (mkF m 92 _ [(.long ka)]) (fun T A t k => XS.lload A B.x rfl (B.d at_90) rfl k) ?_
        refine g_metN (c_static B (hw _ (List.mem_of_getElem? (i := 7) rfl)) (hw _ (List.mem_of_getElem? (i := 8) rfl)) (hw _ (List.mem_of_getElem? (i := 2) rfl)) (hw _ (List.mem_of_getElem? (i := 9) rfl)) (by decide) rfl (lenOf pd_28J29Ljava2flang2fString3b rfl) rfl (Nat.le_of_eq rfl) at_92 rfl (argsL := [(.long ka)]) (rest := []) (W := 0) (q := 95)) (own_loan l Z a0 hw hEL (ka) zc h0 n0 hka.1 (by omega) PO SC hzc) (hw _ (List.mem_of_getElem? (i := 9) rfl)) (hw _ (List.mem_of_getElem? (i := 2) rfl)) (by decide) (by decide) (by decide) (by decide) ?_
        intro v3 h3 hz3 hQ3
        obtain ⟨so3, t3, rfl, K3, g3, f3, X3⟩ := hQ3
        have z3 := K3.1; have y3 := X3.lt; have w3 := X3.lt'
        refine gs (mkF m 97 #[.val (.long q1), .second, .val (.long q2), .second, .val (.long q3), .second, .val (.int x4), .val (.int x5), .val (.int x6), .val (.long ka), .second, .val (.long kb), .second, .val (.int (((x6.toUInt32 >>> ((2 : Int32) &&& 31).toUInt32).toInt32) &&& (3 : Int32))), .val (.long kc), .second, .val (.int f16), .val (.int f17), .val (.int xa), .val (.int xb), .val (.ref so3), .unset, .unset, .unset, .unset, .unset, .unset] []) (fun T A t k => XS.astore A B.x rfl (B.d at_95) rfl rfl (l' := #[.val (.long q1), .second, .val (.long q2), .second, .val (.long q3), .second, .val (.int x4), .val (.int x5), .val (.int x6), .val (.long ka), .second, .val (.long kb), .second, .val (.int (((x6.toUInt32 >>> ((2 : Int32) &&& 31).toUInt32).toInt32) &&& (3 : Int32))), .val (.long kc), .second, .val (.int f16), .val (.int f17), .val (.int xa), .val (.int xb), .val (.ref so3), .unset, .unset, .unset, .unset, .unset, .unset]) rfl k) ?_
        refine gs (mkF m 99 _ [(.long kb)]) (fun T A t k => XS.lload A B.x rfl (B.d at_97) rfl k) ?_
        refine g_metN (c_static B (hw _ (List.mem_of_getElem? (i := 7) rfl)) (hw _ (List.mem_of_getElem? (i := 8) rfl)) (hw _ (List.mem_of_getElem? (i := 2) rfl)) (hw _ (List.mem_of_getElem? (i := 9) rfl)) (by decide) rfl (lenOf pd_28J29Ljava2flang2fString3b rfl) rfl (Nat.le_of_eq rfl) at_99 rfl (argsL := [(.long kb)]) (rest := []) (W := 0) (q := 102)) (own_loan l Z a0 hw hEL (kb) zc h3 n0 hkb.1 (by omega) (PO.keep K3 all0) SC hzc) (hw _ (List.mem_of_getElem? (i := 9) rfl)) (hw _ (List.mem_of_getElem? (i := 2) rfl)) (by decide) (by decide) (by decide) (by decide) ?_
        intro v4 h4 hz4 hQ4
        obtain ⟨so4, t4, rfl, K4, g4, f4, X4⟩ := hQ4
        have z4 := K4.1; have y4 := X4.lt; have w4 := X4.lt'
        refine gs (mkF m 104 #[.val (.long q1), .second, .val (.long q2), .second, .val (.long q3), .second, .val (.int x4), .val (.int x5), .val (.int x6), .val (.long ka), .second, .val (.long kb), .second, .val (.int (((x6.toUInt32 >>> ((2 : Int32) &&& 31).toUInt32).toInt32) &&& (3 : Int32))), .val (.long kc), .second, .val (.int f16), .val (.int f17), .val (.int xa), .val (.int xb), .val (.ref so3), .val (.ref so4), .unset, .unset, .unset, .unset, .unset] []) (fun T A t k => XS.astore A B.x rfl (B.d at_102) rfl rfl (l' := #[.val (.long q1), .second, .val (.long q2), .second, .val (.long q3), .second, .val (.int x4), .val (.int x5), .val (.int x6), .val (.long ka), .second, .val (.long kb), .second, .val (.int (((x6.toUInt32 >>> ((2 : Int32) &&& 31).toUInt32).toInt32) &&& (3 : Int32))), .val (.long kc), .second, .val (.int f16), .val (.int f17), .val (.int xa), .val (.int xb), .val (.ref so3), .val (.ref so4), .unset, .unset, .unset, .unset, .unset]) rfl k) ?_
        refine gs (mkF m 106 _ [(.long kc)]) (fun T A t k => XS.lload A B.x rfl (B.d at_104) rfl k) ?_
        refine g_metN (c_static B (hw _ (List.mem_of_getElem? (i := 7) rfl)) (hw _ (List.mem_of_getElem? (i := 8) rfl)) (hw _ (List.mem_of_getElem? (i := 2) rfl)) (hw _ (List.mem_of_getElem? (i := 9) rfl)) (by decide) rfl (lenOf pd_28J29Ljava2flang2fString3b rfl) rfl (Nat.le_of_eq rfl) at_106 rfl (argsL := [(.long kc)]) (rest := []) (W := 0) (q := 109)) (own_loan l Z a0 hw hEL (kc) zc h4 n0 hkc.1 (by omega) ((PO.keep K3 all0).keep K4 all0) SC hzc) (hw _ (List.mem_of_getElem? (i := 9) rfl)) (hw _ (List.mem_of_getElem? (i := 2) rfl)) (by decide) (by decide) (by decide) (by decide) ?_
        intro v5 h5 hz5 hQ5
        obtain ⟨so5, t5, rfl, K5, g5, f5, X5⟩ := hQ5
        have z5 := K5.1; have y5 := X5.lt; have w5 := X5.lt'
        refine gs (mkF m 111 #[.val (.long q1), .second, .val (.long q2), .second, .val (.long q3), .second, .val (.int x4), .val (.int x5), .val (.int x6), .val (.long ka), .second, .val (.long kb), .second, .val (.int (((x6.toUInt32 >>> ((2 : Int32) &&& 31).toUInt32).toInt32) &&& (3 : Int32))), .val (.long kc), .second, .val (.int f16), .val (.int f17), .val (.int xa), .val (.int xb), .val (.ref so3), .val (.ref so4), .val (.ref so5), .unset, .unset, .unset, .unset] []) (fun T A t k => XS.astore A B.x rfl (B.d at_109) rfl rfl (l' := #[.val (.long q1), .second, .val (.long q2), .second, .val (.long q3), .second, .val (.int x4), .val (.int x5), .val (.int x6), .val (.long ka), .second, .val (.long kb), .second, .val (.int (((x6.toUInt32 >>> ((2 : Int32) &&& 31).toUInt32).toInt32) &&& (3 : Int32))), .val (.long kc), .second, .val (.int f16), .val (.int f17), .val (.int xa), .val (.int xb), .val (.ref so3), .val (.ref so4), .val (.ref so5), .unset, .unset, .unset, .unset]) rfl k) ?_
        refine g_newO B (hw _ (List.mem_of_getElem? (i := 41) rfl)) (hw _ (List.mem_of_getElem? (i := 42) rfl)) (hw _ (List.mem_of_getElem? (i := 43) rfl)) at_111 (by decide) (by decide) (q := 114) rfl ?_
        intro h6 b6 g6 E6 S6 A6 D6
        have z6 := E6.1; have y6 : @LT.lt Nat _ b6 h6.size := A6.lt
        have F6_loanNumbers : Fld Z h6 b6 "com/example/rateledger/rateledger/io/LoanNumberMap" "loanNumbers" "[J" .null := D6 (Or.inl (hw _ (List.mem_of_getElem? (i := 58) rfl))) (ty := (.array .long)) (by decide)
        have F6_values : Fld Z h6 b6 "com/example/rateledger/rateledger/io/LoanNumberMap" "values" "[I" .null := D6 (Or.inl (hw _ (List.mem_of_getElem? (i := 61) rfl))) (ty := (.array .int)) (by decide)
        have F6_size : Fld Z h6 b6 "com/example/rateledger/rateledger/io/LoanNumberMap" "size" "I" (.int (0 : Int32)) := D6 (Or.inl (hw _ (List.mem_of_getElem? (i := 114) rfl))) (ty := .int) (by decide)
        refine gs (mkF m 115 _ [(.ref b6), (.ref b6)]) (fun T A t k => XS.dup A B.x rfl (B.d at_114) rfl rfl k) ?_
        refine g_metN (c_init B rfl (hw _ (List.mem_of_getElem? (i := 44) rfl)) (hw _ (List.mem_of_getElem? (i := 45) rfl)) (hw _ (List.mem_of_getElem? (i := 46) rfl)) (by decide) rfl (lenOf pd_2829V rfl) rfl (Nat.le_of_eq rfl) at_115 rfl (argsL := []) (rest := [(.ref b6)]) (W := 1) (q := 118)) (own_init l Z a0 hw hEL b6 h6 n0 A6 F6_loanNumbers F6_values F6_size (by omega) (by omega)) (hw _ (List.mem_of_getElem? (i := 46) rfl)) (hw _ (List.mem_of_getElem? (i := 43) rfl)) (by decide) (by decide) (by decide) (by decide) ?_
        intro v7 h7 hz7 hQ7
        obtain ⟨rfl, K7, b7a, b7b, g7, f7, M7⟩ := hQ7
        have z7 := K7.1
        refine gs (mkF m 120 #[.val (.long q1), .second, .val (.long q2), .second, .val (.long q3), .second, .val (.int x4), .val (.int x5), .val (.int x6), .val (.long ka), .second, .val (.long kb), .second, .val (.int (((x6.toUInt32 >>> ((2 : Int32) &&& 31).toUInt32).toInt32) &&& (3 : Int32))), .val (.long kc), .second, .val (.int f16), .val (.int f17), .val (.int xa), .val (.int xb), .val (.ref so3), .val (.ref so4), .val (.ref so5), .val (.ref b6), .unset, .unset, .unset] []) (fun T A t k => XS.astore A B.x rfl (B.d at_118) rfl rfl (l' := #[.val (.long q1), .second, .val (.long q2), .second, .val (.long q3), .second, .val (.int x4), .val (.int x5), .val (.int x6), .val (.long ka), .second, .val (.long kb), .second, .val (.int (((x6.toUInt32 >>> ((2 : Int32) &&& 31).toUInt32).toInt32) &&& (3 : Int32))), .val (.long kc), .second, .val (.int f16), .val (.int f17), .val (.int xa), .val (.int xb), .val (.ref so3), .val (.ref so4), .val (.ref so5), .val (.ref b6), .unset, .unset, .unset]) rfl k) ?_
        rcases hf16 with rfl | rfl <;> rcases hf17 with rfl | rfl
        · refine gs (mkF m 122 _ [(.int (0 : Int32))]) (fun T A t k => XS.iload A B.x rfl (B.d at_120) rfl k) ?_
          refine gs (mkF m 135 _ []) (fun T A t k => XS.ifYes A B.x rfl (pc0 := 122) (pc' := 135) rfl (B.d at_122) rfl ((if0 _ _).trans (teq (by decide : (0 : Int32) = (0 : Int32))).1) (by decide) (by decide) k) ?_
          refine gs (mkF m 137 _ [(.int (0 : Int32))]) (fun T A t k => XS.iload A B.x rfl (B.d at_135) rfl k) ?_
          refine gs (mkF m 150 _ []) (fun T A t k => XS.ifYes A B.x rfl (pc0 := 137) (pc' := 150) rfl (B.d at_137) rfl ((if0 _ _).trans (teq (by decide : (0 : Int32) = (0 : Int32))).1) (by decide) (by decide) k) ?_
          refine gs (mkF m 152 _ [(.int (0 : Int32))]) (fun T A t k => XS.iload A B.x rfl (B.d at_150) rfl k) ?_
          refine gs (mkF m 170 _ []) (fun T A t k => XS.ifYes A B.x rfl (pc0 := 152) (pc' := 170) rfl (B.d at_152) rfl ((if0 _ _).trans (teq (by decide : (0 : Int32) = (0 : Int32))).1) (by decide) (by decide) k) ?_
          refine gs (mkF m 172 _ [(.int (0 : Int32))]) (fun T A t k => XS.iload A B.x rfl (B.d at_170) rfl k) ?_
          refine gs (mkF m 190 _ []) (fun T A t k => XS.ifYes A B.x rfl (pc0 := 172) (pc' := 190) rfl (B.d at_172) rfl ((if0 _ _).trans (teq (by decide : (0 : Int32) = (0 : Int32))).1) (by decide) (by decide) k) ?_
          refine gs (mkF m 191 _ [(.int (-1 : Int32))]) (fun T A t k => XS.iconst A B.x rfl (B.d at_190) k) ?_
          refine gs (mkF m 193 #[.val (.long q1), .second, .val (.long q2), .second, .val (.long q3), .second, .val (.int x4), .val (.int x5), .val (.int x6), .val (.long ka), .second, .val (.long kb), .second, .val (.int (((x6.toUInt32 >>> ((2 : Int32) &&& 31).toUInt32).toInt32) &&& (3 : Int32))), .val (.long kc), .second, .val (.int (0 : Int32)), .val (.int (0 : Int32)), .val (.int xa), .val (.int xb), .val (.ref so3), .val (.ref so4), .val (.ref so5), .val (.ref b6), .val (.int (-1 : Int32)), .unset, .unset] []) (fun T A t k => XS.istore A B.x rfl (B.d at_191) rfl (l' := #[.val (.long q1), .second, .val (.long q2), .second, .val (.long q3), .second, .val (.int x4), .val (.int x5), .val (.int x6), .val (.long ka), .second, .val (.long kb), .second, .val (.int (((x6.toUInt32 >>> ((2 : Int32) &&& 31).toUInt32).toInt32) &&& (3 : Int32))), .val (.long kc), .second, .val (.int (0 : Int32)), .val (.int (0 : Int32)), .val (.int xa), .val (.int xb), .val (.ref so3), .val (.ref so4), .val (.ref so5), .val (.ref b6), .val (.int (-1 : Int32)), .unset, .unset]) rfl k) ?_
          refine gs (mkF m 195 _ [(.int (0 : Int32))]) (fun T A t k => XS.iload A B.x rfl (B.d at_193) rfl k) ?_
          refine gs (mkF m 205 _ []) (fun T A t k => XS.ifYes A B.x rfl (pc0 := 195) (pc' := 205) rfl (B.d at_195) rfl ((if0 _ _).trans (teq (by decide : (0 : Int32) = (0 : Int32))).1) (by decide) (by decide) k) ?_
          refine gs (mkF m 207 _ [(.int (0 : Int32))]) (fun T A t k => XS.iload A B.x rfl (B.d at_205) rfl k) ?_
          refine gs (mkF m 225 _ []) (fun T A t k => XS.ifYes A B.x rfl (pc0 := 207) (pc' := 225) rfl (B.d at_207) rfl ((if0 _ _).trans (teq (by decide : (0 : Int32) = (0 : Int32))).1) (by decide) (by decide) k) ?_
          refine gs (mkF m 226 _ [(.int (-1 : Int32))]) (fun T A t k => XS.iconst A B.x rfl (B.d at_225) k) ?_
          refine gs (mkF m 228 #[.val (.long q1), .second, .val (.long q2), .second, .val (.long q3), .second, .val (.int x4), .val (.int x5), .val (.int x6), .val (.long ka), .second, .val (.long kb), .second, .val (.int (((x6.toUInt32 >>> ((2 : Int32) &&& 31).toUInt32).toInt32) &&& (3 : Int32))), .val (.long kc), .second, .val (.int (0 : Int32)), .val (.int (0 : Int32)), .val (.int xa), .val (.int xb), .val (.ref so3), .val (.ref so4), .val (.ref so5), .val (.ref b6), .val (.int (-1 : Int32)), .val (.int (-1 : Int32)), .unset] []) (fun T A t k => XS.istore A B.x rfl (B.d at_226) rfl (l' := #[.val (.long q1), .second, .val (.long q2), .second, .val (.long q3), .second, .val (.int x4), .val (.int x5), .val (.int x6), .val (.long ka), .second, .val (.long kb), .second, .val (.int (((x6.toUInt32 >>> ((2 : Int32) &&& 31).toUInt32).toInt32) &&& (3 : Int32))), .val (.long kc), .second, .val (.int (0 : Int32)), .val (.int (0 : Int32)), .val (.int xa), .val (.int xb), .val (.ref so3), .val (.ref so4), .val (.ref so5), .val (.ref b6), .val (.int (-1 : Int32)), .val (.int (-1 : Int32)), .unset]) rfl k) ?_
          refine gs (mkF m 230 _ [(.ref b6)]) (fun T A t k => XS.aload A B.x rfl (B.d at_228) rfl rfl k) ?_
          refine gs (mkF m 232 _ [(.ref so5), (.ref b6)]) (fun T A t k => XS.aload A B.x rfl (B.d at_230) rfl rfl k) ?_
          refine g_metN (c_virt B (A6.keep K7) (hw _ (List.mem_of_getElem? (i := 115) rfl)) (hw _ (List.mem_of_getElem? (i := 116) rfl)) (hw _ (List.mem_of_getElem? (i := 118) rfl)) (hw _ (List.mem_of_getElem? (i := 117) rfl)) (nfs (z := (⟨"com/example/rateledger/rateledger/io/LoanNumberMap", "get", "(Ljava/lang/String;)I"⟩ : MethodName)) (hw _ (List.mem_of_getElem? (i := 118) rfl))) (by decide) rfl (lenOf pd_28Ljava2flang2fString3b29I rfl) rfl (Nat.le_of_eq rfl) at_232 rfl (argsL := [(.ref so5)]) (rest := []) (W := 0) (q := 235)) (own_getk l Z a0 hw hEL b6 so5 zc fm b7a b7b L0 V0 0 kc t5 h7 n0 M7 (by decide) (by decide) (ok_L0 kc) ((X5.ext E6).keep K7 ⟨(ninS (by omega : @Ne Nat so5 b6) nin0), (ninS (by omega : @Ne Nat t5 b6) nin0)⟩) hkc.1 hkc.2 (((((PO.keep K3 all0).keep K4 all0).keep K5 all0).ext E6).keep K7 (allS (by omega) all0)) SC hzc SF rf) (hw _ (List.mem_of_getElem? (i := 119) rfl)) (hw _ (List.mem_of_getElem? (i := 43) rfl)) (by decide) (by decide) (by decide) (by decide) ?_
          intro v8 h8 hz8 hQ8
          obtain ⟨rfl, rfl⟩ := hQ8
          refine gs (mkF m 237 _ [(.int (-1 : Int32)), (.int (getF L0 V0 kc))]) (fun T A t k => XS.iload A B.x rfl (B.d at_235) rfl k) ?_
          have hg9 : (getF L0 V0 kc) = (-1 : Int32) := by rw [get_L0 hkc.1]
          refine gs (mkF m 240 _ []) (fun T A t k => XS.icmpNo A B.x rfl (B.d at_237) rfl (teq (hg9 : (getF L0 V0 kc) = (-1 : Int32))).2 k) ?_
          refine gs (mkF m 241 _ [(.int (1 : Int32))]) (fun T A t k => XS.iconst A B.x rfl (B.d at_240) k) ?_
          refine gs (mkF m 245 _ [(.int (1 : Int32))]) (fun T A t k => XS.goto A B.x rfl (pc0 := 241) (pc' := 245) rfl (B.d at_241) (by decide) (by decide) k) ?_
          refine gs (mkF m 247 #[.val (.long q1), .second, .val (.long q2), .second, .val (.long q3), .second, .val (.int x4), .val (.int x5), .val (.int x6), .val (.long ka), .second, .val (.long kb), .second, .val (.int (((x6.toUInt32 >>> ((2 : Int32) &&& 31).toUInt32).toInt32) &&& (3 : Int32))), .val (.long kc), .second, .val (.int (0 : Int32)), .val (.int (0 : Int32)), .val (.int xa), .val (.int xb), .val (.ref so3), .val (.ref so4), .val (.ref so5), .val (.ref b6), .val (.int (-1 : Int32)), .val (.int (-1 : Int32)), .val (.int (1 : Int32))] []) (fun T A t k => XS.istore A B.x rfl (B.d at_245) rfl (l' := #[.val (.long q1), .second, .val (.long q2), .second, .val (.long q3), .second, .val (.int x4), .val (.int x5), .val (.int x6), .val (.long ka), .second, .val (.long kb), .second, .val (.int (((x6.toUInt32 >>> ((2 : Int32) &&& 31).toUInt32).toInt32) &&& (3 : Int32))), .val (.long kc), .second, .val (.int (0 : Int32)), .val (.int (0 : Int32)), .val (.int xa), .val (.int xb), .val (.ref so3), .val (.ref so4), .val (.ref so5), .val (.ref b6), .val (.int (-1 : Int32)), .val (.int (-1 : Int32)), .val (.int (1 : Int32))]) rfl k) ?_
          refine gs (mkF m 249 _ [(.int (1 : Int32))]) (fun T A t k => XS.iload A B.x rfl (B.d at_247) rfl k) ?_
          refine gs (mkF m 252 _ []) (fun T A t k => XS.ifNo A B.x rfl (B.d at_249) rfl ((if0 _ _).trans (feq (by decide : ¬ ((1 : Int32) = (0 : Int32)))).1) k) ?_
          refine gs (mkF m 254 _ [(.ref b6)]) (fun T A t k => XS.aload A B.x rfl (B.d at_252) rfl rfl k) ?_
          refine gs (mkF m 256 _ [(.ref so3), (.ref b6)]) (fun T A t k => XS.aload A B.x rfl (B.d at_254) rfl rfl k) ?_
          refine g_metN (c_virt B (A6.keep K7) (hw _ (List.mem_of_getElem? (i := 115) rfl)) (hw _ (List.mem_of_getElem? (i := 116) rfl)) (hw _ (List.mem_of_getElem? (i := 118) rfl)) (hw _ (List.mem_of_getElem? (i := 117) rfl)) (nfs (z := (⟨"com/example/rateledger/rateledger/io/LoanNumberMap", "get", "(Ljava/lang/String;)I"⟩ : MethodName)) (hw _ (List.mem_of_getElem? (i := 118) rfl))) (by decide) rfl (lenOf pd_28Ljava2flang2fString3b29I rfl) rfl (Nat.le_of_eq rfl) at_256 rfl (argsL := [(.ref so3)]) (rest := []) (W := 0) (q := 259)) (own_getk l Z a0 hw hEL b6 so3 zc fm b7a b7b L0 V0 0 ka t3 h7 n0 M7 (by decide) (by decide) (ok_L0 ka) ((((X3.keep K4 ⟨nin0, nin0⟩).keep K5 ⟨nin0, nin0⟩).ext E6).keep K7 ⟨(ninS (by omega : @Ne Nat so3 b6) nin0), (ninS (by omega : @Ne Nat t3 b6) nin0)⟩) hka.1 hka.2 (((((PO.keep K3 all0).keep K4 all0).keep K5 all0).ext E6).keep K7 (allS (by omega) all0)) SC hzc SF rf) (hw _ (List.mem_of_getElem? (i := 119) rfl)) (hw _ (List.mem_of_getElem? (i := 43) rfl)) (by decide) (by decide) (by decide) (by decide) ?_
          intro v10 h10 hz10 hQ10
          obtain ⟨rfl, rfl⟩ := hQ10
          refine gs (mkF m 261 _ [(.int (-1 : Int32)), (.int (getF L0 V0 ka))]) (fun T A t k => XS.iload A B.x rfl (B.d at_259) rfl k) ?_
          have hg11 : (getF L0 V0 ka) = (-1 : Int32) := by rw [get_L0 hka.1]
          refine gs (mkF m 264 _ []) (fun T A t k => XS.icmpNo A B.x rfl (B.d at_261) rfl (teq (hg11 : (getF L0 V0 ka) = (-1 : Int32))).2 k) ?_
          refine gs (mkF m 265 _ [(.int (1 : Int32))]) (fun T A t k => XS.iconst A B.x rfl (B.d at_264) k) ?_
          refine gs (mkF m 269 _ [(.int (1 : Int32))]) (fun T A t k => XS.goto A B.x rfl (pc0 := 265) (pc' := 269) rfl (B.d at_265) (by decide) (by decide) k) ?_
          exact g_retN (t := .boolean) B (by simp) at_269 (by decide) (by decide) rfl
        · refine gs (mkF m 122 _ [(.int (0 : Int32))]) (fun T A t k => XS.iload A B.x rfl (B.d at_120) rfl k) ?_
          refine gs (mkF m 135 _ []) (fun T A t k => XS.ifYes A B.x rfl (pc0 := 122) (pc' := 135) rfl (B.d at_122) rfl ((if0 _ _).trans (teq (by decide : (0 : Int32) = (0 : Int32))).1) (by decide) (by decide) k) ?_
          refine gs (mkF m 137 _ [(.int (1 : Int32))]) (fun T A t k => XS.iload A B.x rfl (B.d at_135) rfl k) ?_
          refine gs (mkF m 140 _ []) (fun T A t k => XS.ifNo A B.x rfl (B.d at_137) rfl ((if0 _ _).trans (feq (by decide : ¬ ((1 : Int32) = (0 : Int32)))).1) k) ?_
          refine gs (mkF m 142 _ [(.ref b6)]) (fun T A t k => XS.aload A B.x rfl (B.d at_140) rfl rfl k) ?_
          refine gs (mkF m 144 _ [(.ref so4), (.ref b6)]) (fun T A t k => XS.aload A B.x rfl (B.d at_142) rfl rfl k) ?_
          refine gs (mkF m 146 _ [(.int xb), (.ref so4), (.ref b6)]) (fun T A t k => XS.iload A B.x rfl (B.d at_144) rfl k) ?_
          refine g_metN (c_virt B (A6.keep K7) (hw _ (List.mem_of_getElem? (i := 62) rfl)) (hw _ (List.mem_of_getElem? (i := 63) rfl)) (hw _ (List.mem_of_getElem? (i := 65) rfl)) (hw _ (List.mem_of_getElem? (i := 64) rfl)) (nfs (z := (⟨"com/example/rateledger/rateledger/io/LoanNumberMap", "putIfAbsent", "(Ljava/lang/String;I)I"⟩ : MethodName)) (hw _ (List.mem_of_getElem? (i := 65) rfl))) (by decide) rfl (lenOf pd_28Ljava2flang2fString3bI29I rfl) rfl (Nat.le_of_eq rfl) at_146 rfl (argsL := [(.ref so4), (.int xb)]) (rest := []) (W := 0) (q := 149)) (own_putk l Z a0 hw hEL b6 so4 (xb) zc fm b7a b7b L0 V0 0 kb t4 h7 n0 M7 (by decide) (by decide) (ok_L0 kb) hxb (by decide) (by omega) (by omega) (by omega) (((X4.keep K5 ⟨nin0, nin0⟩).ext E6).keep K7 ⟨(ninS (by omega : @Ne Nat so4 b6) nin0), (ninS (by omega : @Ne Nat t4 b6) nin0)⟩) hkb.1 hkb.2 (((((PO.keep K3 all0).keep K4 all0).keep K5 all0).ext E6).keep K7 (allS (by omega) all0)) SC hzc SF rf) (hw _ (List.mem_of_getElem? (i := 66) rfl)) (hw _ (List.mem_of_getElem? (i := 43) rfl)) (by decide) (by decide) (by decide) (by decide) ?_
          intro v12 h12 hz12 hQ12
          obtain ⟨r12, sz12, rfl, K12, M12, hs12⟩ := hQ12
          have z12 := K12.1
          refine gs (mkF m 150 _ []) (fun T A t k => XS.pop A B.x rfl (B.d at_149) rfl rfl k) ?_
          rw [putL_L0 hkb.1, putV_L0 hkb.1] at M12
          have M12b : MapAt Z h12 b6 b7a b7b (L1 kb) (V1 kb xb) sz12 := M12
          have hz12 : ¬ (8 : Int32) < sz12 + 1 := by rcases hs12 with rfl | rfl <;> decide
          refine gs (mkF m 152 _ [(.int (0 : Int32))]) (fun T A t k => XS.iload A B.x rfl (B.d at_150) rfl k) ?_
          refine gs (mkF m 170 _ []) (fun T A t k => XS.ifYes A B.x rfl (pc0 := 152) (pc' := 170) rfl (B.d at_152) rfl ((if0 _ _).trans (teq (by decide : (0 : Int32) = (0 : Int32))).1) (by decide) (by decide) k) ?_
          refine gs (mkF m 172 _ [(.int (1 : Int32))]) (fun T A t k => XS.iload A B.x rfl (B.d at_170) rfl k) ?_
          refine gs (mkF m 175 _ []) (fun T A t k => XS.ifNo A B.x rfl (B.d at_172) rfl ((if0 _ _).trans (feq (by decide : ¬ ((1 : Int32) = (0 : Int32)))).1) k) ?_
          refine gs (mkF m 177 _ [(.long kc)]) (fun T A t k => XS.lload A B.x rfl (B.d at_175) rfl k) ?_
          refine gs (mkF m 179 _ [(.long kb), (.long kc)]) (fun T A t k => XS.lload A B.x rfl (B.d at_177) rfl k) ?_
          refine gs (mkF m 180 _ [(.int (lcmpW kc kb))]) (fun T A t k => XS.lcmp A B.x rfl (B.d at_179) rfl k) ?_
          by_cases hq13 : (lcmpW kc kb) = (0 : Int32)
          · refine gs (mkF m 183 _ []) (fun T A t k => XS.ifNo A B.x rfl (B.d at_180) rfl ((if0 _ _).trans (teq (hq13 : (lcmpW kc kb) = (0 : Int32))).2) k) ?_
            have Ehq13 : kc = kb := lc0.mp hq13
            refine gs (mkF m 185 _ [(.int xb)]) (fun T A t k => XS.iload A B.x rfl (B.d at_183) rfl k) ?_
            refine gs (mkF m 187 #[.val (.long q1), .second, .val (.long q2), .second, .val (.long q3), .second, .val (.int x4), .val (.int x5), .val (.int x6), .val (.long ka), .second, .val (.long kb), .second, .val (.int (((x6.toUInt32 >>> ((2 : Int32) &&& 31).toUInt32).toInt32) &&& (3 : Int32))), .val (.long kc), .second, .val (.int (0 : Int32)), .val (.int (1 : Int32)), .val (.int xa), .val (.int xb), .val (.ref so3), .val (.ref so4), .val (.ref so5), .val (.ref b6), .val (.int xb), .unset, .unset] []) (fun T A t k => XS.istore A B.x rfl (B.d at_185) rfl (l' := #[.val (.long q1), .second, .val (.long q2), .second, .val (.long q3), .second, .val (.int x4), .val (.int x5), .val (.int x6), .val (.long ka), .second, .val (.long kb), .second, .val (.int (((x6.toUInt32 >>> ((2 : Int32) &&& 31).toUInt32).toInt32) &&& (3 : Int32))), .val (.long kc), .second, .val (.int (0 : Int32)), .val (.int (1 : Int32)), .val (.int xa), .val (.int xb), .val (.ref so3), .val (.ref so4), .val (.ref so5), .val (.ref b6), .val (.int xb), .unset, .unset]) rfl k) ?_
            refine gs (mkF m 193 _ []) (fun T A t k => XS.goto A B.x rfl (pc0 := 187) (pc' := 193) rfl (B.d at_187) (by decide) (by decide) k) ?_
            refine gs (mkF m 195 _ [(.int (0 : Int32))]) (fun T A t k => XS.iload A B.x rfl (B.d at_193) rfl k) ?_
            refine gs (mkF m 205 _ []) (fun T A t k => XS.ifYes A B.x rfl (pc0 := 195) (pc' := 205) rfl (B.d at_195) rfl ((if0 _ _).trans (teq (by decide : (0 : Int32) = (0 : Int32))).1) (by decide) (by decide) k) ?_
            refine gs (mkF m 207 _ [(.int (1 : Int32))]) (fun T A t k => XS.iload A B.x rfl (B.d at_205) rfl k) ?_
            refine gs (mkF m 210 _ []) (fun T A t k => XS.ifNo A B.x rfl (B.d at_207) rfl ((if0 _ _).trans (feq (by decide : ¬ ((1 : Int32) = (0 : Int32)))).1) k) ?_
            refine gs (mkF m 212 _ [(.long ka)]) (fun T A t k => XS.lload A B.x rfl (B.d at_210) rfl k) ?_
            refine gs (mkF m 214 _ [(.long kb), (.long ka)]) (fun T A t k => XS.lload A B.x rfl (B.d at_212) rfl k) ?_
            refine gs (mkF m 215 _ [(.int (lcmpW ka kb))]) (fun T A t k => XS.lcmp A B.x rfl (B.d at_214) rfl k) ?_
            by_cases hq14 : (lcmpW ka kb) = (0 : Int32)
            · refine gs (mkF m 218 _ []) (fun T A t k => XS.ifNo A B.x rfl (B.d at_215) rfl ((if0 _ _).trans (teq (hq14 : (lcmpW ka kb) = (0 : Int32))).2) k) ?_
              have Ehq14 : ka = kb := lc0.mp hq14
              refine gs (mkF m 220 _ [(.int xb)]) (fun T A t k => XS.iload A B.x rfl (B.d at_218) rfl k) ?_
              refine gs (mkF m 222 #[.val (.long q1), .second, .val (.long q2), .second, .val (.long q3), .second, .val (.int x4), .val (.int x5), .val (.int x6), .val (.long ka), .second, .val (.long kb), .second, .val (.int (((x6.toUInt32 >>> ((2 : Int32) &&& 31).toUInt32).toInt32) &&& (3 : Int32))), .val (.long kc), .second, .val (.int (0 : Int32)), .val (.int (1 : Int32)), .val (.int xa), .val (.int xb), .val (.ref so3), .val (.ref so4), .val (.ref so5), .val (.ref b6), .val (.int xb), .val (.int xb), .unset] []) (fun T A t k => XS.istore A B.x rfl (B.d at_220) rfl (l' := #[.val (.long q1), .second, .val (.long q2), .second, .val (.long q3), .second, .val (.int x4), .val (.int x5), .val (.int x6), .val (.long ka), .second, .val (.long kb), .second, .val (.int (((x6.toUInt32 >>> ((2 : Int32) &&& 31).toUInt32).toInt32) &&& (3 : Int32))), .val (.long kc), .second, .val (.int (0 : Int32)), .val (.int (1 : Int32)), .val (.int xa), .val (.int xb), .val (.ref so3), .val (.ref so4), .val (.ref so5), .val (.ref b6), .val (.int xb), .val (.int xb), .unset]) rfl k) ?_
              refine gs (mkF m 228 _ []) (fun T A t k => XS.goto A B.x rfl (pc0 := 222) (pc' := 228) rfl (B.d at_222) (by decide) (by decide) k) ?_
              refine gs (mkF m 230 _ [(.ref b6)]) (fun T A t k => XS.aload A B.x rfl (B.d at_228) rfl rfl k) ?_
              refine gs (mkF m 232 _ [(.ref so5), (.ref b6)]) (fun T A t k => XS.aload A B.x rfl (B.d at_230) rfl rfl k) ?_
              refine g_metN (c_virt B ((A6.keep K7).keep K12) (hw _ (List.mem_of_getElem? (i := 115) rfl)) (hw _ (List.mem_of_getElem? (i := 116) rfl)) (hw _ (List.mem_of_getElem? (i := 118) rfl)) (hw _ (List.mem_of_getElem? (i := 117) rfl)) (nfs (z := (⟨"com/example/rateledger/rateledger/io/LoanNumberMap", "get", "(Ljava/lang/String;)I"⟩ : MethodName)) (hw _ (List.mem_of_getElem? (i := 118) rfl))) (by decide) rfl (lenOf pd_28Ljava2flang2fString3b29I rfl) rfl (Nat.le_of_eq rfl) at_232 rfl (argsL := [(.ref so5)]) (rest := []) (W := 0) (q := 235)) (own_getk l Z a0 hw hEL b6 so5 zc fm b7a b7b (L1 kb) (V1 kb xb) sz12 kc t5 h12 n0 M12b (by simp [L1, L0]) (by simp [V1, V0]) (ok_L1 (k := kc)) (((X5.ext E6).keep K7 ⟨(ninS (by omega : @Ne Nat so5 b6) nin0), (ninS (by omega : @Ne Nat t5 b6) nin0)⟩).keep K12 ⟨(ninS (by omega : @Ne Nat so5 b6) (ninS (by omega : @Ne Nat so5 b7a) (ninS (by omega : @Ne Nat so5 b7b) nin0))), (ninS (by omega : @Ne Nat t5 b6) (ninS (by omega : @Ne Nat t5 b7a) (ninS (by omega : @Ne Nat t5 b7b) nin0)))⟩) hkc.1 hkc.2 ((((((PO.keep K3 all0).keep K4 all0).keep K5 all0).ext E6).keep K7 (allS (by omega) all0)).keep K12 (allS (by omega) (allS (by omega) (allS (by omega) all0)))) SC hzc SF rf) (hw _ (List.mem_of_getElem? (i := 119) rfl)) (hw _ (List.mem_of_getElem? (i := 43) rfl)) (by decide) (by decide) (by decide) (by decide) ?_
              intro v15 h15 hz15 hQ15
              obtain ⟨rfl, rfl⟩ := hQ15
              refine gs (mkF m 237 _ [(.int xb), (.int (getF (L1 kb) (V1 kb xb) kc))]) (fun T A t k => XS.iload A B.x rfl (B.d at_235) rfl k) ?_
              have hg16 : (getF (L1 kb) (V1 kb xb) kc) = xb := by rw [get_L1 hkb.1 hkc.1, if_pos Ehq13]
              refine gs (mkF m 240 _ []) (fun T A t k => XS.icmpNo A B.x rfl (B.d at_237) rfl (teq (hg16 : (getF (L1 kb) (V1 kb xb) kc) = xb)).2 k) ?_
              refine gs (mkF m 241 _ [(.int (1 : Int32))]) (fun T A t k => XS.iconst A B.x rfl (B.d at_240) k) ?_
              refine gs (mkF m 245 _ [(.int (1 : Int32))]) (fun T A t k => XS.goto A B.x rfl (pc0 := 241) (pc' := 245) rfl (B.d at_241) (by decide) (by decide) k) ?_
              refine gs (mkF m 247 #[.val (.long q1), .second, .val (.long q2), .second, .val (.long q3), .second, .val (.int x4), .val (.int x5), .val (.int x6), .val (.long ka), .second, .val (.long kb), .second, .val (.int (((x6.toUInt32 >>> ((2 : Int32) &&& 31).toUInt32).toInt32) &&& (3 : Int32))), .val (.long kc), .second, .val (.int (0 : Int32)), .val (.int (1 : Int32)), .val (.int xa), .val (.int xb), .val (.ref so3), .val (.ref so4), .val (.ref so5), .val (.ref b6), .val (.int xb), .val (.int xb), .val (.int (1 : Int32))] []) (fun T A t k => XS.istore A B.x rfl (B.d at_245) rfl (l' := #[.val (.long q1), .second, .val (.long q2), .second, .val (.long q3), .second, .val (.int x4), .val (.int x5), .val (.int x6), .val (.long ka), .second, .val (.long kb), .second, .val (.int (((x6.toUInt32 >>> ((2 : Int32) &&& 31).toUInt32).toInt32) &&& (3 : Int32))), .val (.long kc), .second, .val (.int (0 : Int32)), .val (.int (1 : Int32)), .val (.int xa), .val (.int xb), .val (.ref so3), .val (.ref so4), .val (.ref so5), .val (.ref b6), .val (.int xb), .val (.int xb), .val (.int (1 : Int32))]) rfl k) ?_
              refine gs (mkF m 249 _ [(.int (1 : Int32))]) (fun T A t k => XS.iload A B.x rfl (B.d at_247) rfl k) ?_
              refine gs (mkF m 252 _ []) (fun T A t k => XS.ifNo A B.x rfl (B.d at_249) rfl ((if0 _ _).trans (feq (by decide : ¬ ((1 : Int32) = (0 : Int32)))).1) k) ?_
              refine gs (mkF m 254 _ [(.ref b6)]) (fun T A t k => XS.aload A B.x rfl (B.d at_252) rfl rfl k) ?_
              refine gs (mkF m 256 _ [(.ref so3), (.ref b6)]) (fun T A t k => XS.aload A B.x rfl (B.d at_254) rfl rfl k) ?_
              refine g_metN (c_virt B ((A6.keep K7).keep K12) (hw _ (List.mem_of_getElem? (i := 115) rfl)) (hw _ (List.mem_of_getElem? (i := 116) rfl)) (hw _ (List.mem_of_getElem? (i := 118) rfl)) (hw _ (List.mem_of_getElem? (i := 117) rfl)) (nfs (z := (⟨"com/example/rateledger/rateledger/io/LoanNumberMap", "get", "(Ljava/lang/String;)I"⟩ : MethodName)) (hw _ (List.mem_of_getElem? (i := 118) rfl))) (by decide) rfl (lenOf pd_28Ljava2flang2fString3b29I rfl) rfl (Nat.le_of_eq rfl) at_256 rfl (argsL := [(.ref so3)]) (rest := []) (W := 0) (q := 259)) (own_getk l Z a0 hw hEL b6 so3 zc fm b7a b7b (L1 kb) (V1 kb xb) sz12 ka t3 h12 n0 M12b (by simp [L1, L0]) (by simp [V1, V0]) (ok_L1 (k := ka)) (((((X3.keep K4 ⟨nin0, nin0⟩).keep K5 ⟨nin0, nin0⟩).ext E6).keep K7 ⟨(ninS (by omega : @Ne Nat so3 b6) nin0), (ninS (by omega : @Ne Nat t3 b6) nin0)⟩).keep K12 ⟨(ninS (by omega : @Ne Nat so3 b6) (ninS (by omega : @Ne Nat so3 b7a) (ninS (by omega : @Ne Nat so3 b7b) nin0))), (ninS (by omega : @Ne Nat t3 b6) (ninS (by omega : @Ne Nat t3 b7a) (ninS (by omega : @Ne Nat t3 b7b) nin0)))⟩) hka.1 hka.2 ((((((PO.keep K3 all0).keep K4 all0).keep K5 all0).ext E6).keep K7 (allS (by omega) all0)).keep K12 (allS (by omega) (allS (by omega) (allS (by omega) all0)))) SC hzc SF rf) (hw _ (List.mem_of_getElem? (i := 119) rfl)) (hw _ (List.mem_of_getElem? (i := 43) rfl)) (by decide) (by decide) (by decide) (by decide) ?_
              intro v17 h17 hz17 hQ17
              obtain ⟨rfl, rfl⟩ := hQ17
              refine gs (mkF m 261 _ [(.int xb), (.int (getF (L1 kb) (V1 kb xb) ka))]) (fun T A t k => XS.iload A B.x rfl (B.d at_259) rfl k) ?_
              have hg18 : (getF (L1 kb) (V1 kb xb) ka) = xb := by rw [get_L1 hkb.1 hka.1, if_pos Ehq14]
              refine gs (mkF m 264 _ []) (fun T A t k => XS.icmpNo A B.x rfl (B.d at_261) rfl (teq (hg18 : (getF (L1 kb) (V1 kb xb) ka) = xb)).2 k) ?_
              refine gs (mkF m 265 _ [(.int (1 : Int32))]) (fun T A t k => XS.iconst A B.x rfl (B.d at_264) k) ?_
              refine gs (mkF m 269 _ [(.int (1 : Int32))]) (fun T A t k => XS.goto A B.x rfl (pc0 := 265) (pc' := 269) rfl (B.d at_265) (by decide) (by decide) k) ?_
              exact g_retN (t := .boolean) B (by simp) at_269 (by decide) (by decide) rfl
            · refine gs (mkF m 225 _ []) (fun T A t k => XS.ifYes A B.x rfl (pc0 := 215) (pc' := 225) rfl (B.d at_215) rfl ((if0 _ _).trans (feq (hq14 : ¬ ((lcmpW ka kb) = (0 : Int32)))).2) (by decide) (by decide) k) ?_
              have Ehq14 : ¬ ka = kb := fun z => hq14 (lc0.mpr z)
              refine gs (mkF m 226 _ [(.int (-1 : Int32))]) (fun T A t k => XS.iconst A B.x rfl (B.d at_225) k) ?_
              refine gs (mkF m 228 #[.val (.long q1), .second, .val (.long q2), .second, .val (.long q3), .second, .val (.int x4), .val (.int x5), .val (.int x6), .val (.long ka), .second, .val (.long kb), .second, .val (.int (((x6.toUInt32 >>> ((2 : Int32) &&& 31).toUInt32).toInt32) &&& (3 : Int32))), .val (.long kc), .second, .val (.int (0 : Int32)), .val (.int (1 : Int32)), .val (.int xa), .val (.int xb), .val (.ref so3), .val (.ref so4), .val (.ref so5), .val (.ref b6), .val (.int xb), .val (.int (-1 : Int32)), .unset] []) (fun T A t k => XS.istore A B.x rfl (B.d at_226) rfl (l' := #[.val (.long q1), .second, .val (.long q2), .second, .val (.long q3), .second, .val (.int x4), .val (.int x5), .val (.int x6), .val (.long ka), .second, .val (.long kb), .second, .val (.int (((x6.toUInt32 >>> ((2 : Int32) &&& 31).toUInt32).toInt32) &&& (3 : Int32))), .val (.long kc), .second, .val (.int (0 : Int32)), .val (.int (1 : Int32)), .val (.int xa), .val (.int xb), .val (.ref so3), .val (.ref so4), .val (.ref so5), .val (.ref b6), .val (.int xb), .val (.int (-1 : Int32)), .unset]) rfl k) ?_
              refine gs (mkF m 230 _ [(.ref b6)]) (fun T A t k => XS.aload A B.x rfl (B.d at_228) rfl rfl k) ?_
              refine gs (mkF m 232 _ [(.ref so5), (.ref b6)]) (fun T A t k => XS.aload A B.x rfl (B.d at_230) rfl rfl k) ?_
              refine g_metN (c_virt B ((A6.keep K7).keep K12) (hw _ (List.mem_of_getElem? (i := 115) rfl)) (hw _ (List.mem_of_getElem? (i := 116) rfl)) (hw _ (List.mem_of_getElem? (i := 118) rfl)) (hw _ (List.mem_of_getElem? (i := 117) rfl)) (nfs (z := (⟨"com/example/rateledger/rateledger/io/LoanNumberMap", "get", "(Ljava/lang/String;)I"⟩ : MethodName)) (hw _ (List.mem_of_getElem? (i := 118) rfl))) (by decide) rfl (lenOf pd_28Ljava2flang2fString3b29I rfl) rfl (Nat.le_of_eq rfl) at_232 rfl (argsL := [(.ref so5)]) (rest := []) (W := 0) (q := 235)) (own_getk l Z a0 hw hEL b6 so5 zc fm b7a b7b (L1 kb) (V1 kb xb) sz12 kc t5 h12 n0 M12b (by simp [L1, L0]) (by simp [V1, V0]) (ok_L1 (k := kc)) (((X5.ext E6).keep K7 ⟨(ninS (by omega : @Ne Nat so5 b6) nin0), (ninS (by omega : @Ne Nat t5 b6) nin0)⟩).keep K12 ⟨(ninS (by omega : @Ne Nat so5 b6) (ninS (by omega : @Ne Nat so5 b7a) (ninS (by omega : @Ne Nat so5 b7b) nin0))), (ninS (by omega : @Ne Nat t5 b6) (ninS (by omega : @Ne Nat t5 b7a) (ninS (by omega : @Ne Nat t5 b7b) nin0)))⟩) hkc.1 hkc.2 ((((((PO.keep K3 all0).keep K4 all0).keep K5 all0).ext E6).keep K7 (allS (by omega) all0)).keep K12 (allS (by omega) (allS (by omega) (allS (by omega) all0)))) SC hzc SF rf) (hw _ (List.mem_of_getElem? (i := 119) rfl)) (hw _ (List.mem_of_getElem? (i := 43) rfl)) (by decide) (by decide) (by decide) (by decide) ?_
              intro v19 h19 hz19 hQ19
              obtain ⟨rfl, rfl⟩ := hQ19
              refine gs (mkF m 237 _ [(.int xb), (.int (getF (L1 kb) (V1 kb xb) kc))]) (fun T A t k => XS.iload A B.x rfl (B.d at_235) rfl k) ?_
              have hg20 : (getF (L1 kb) (V1 kb xb) kc) = xb := by rw [get_L1 hkb.1 hkc.1, if_pos Ehq13]
              refine gs (mkF m 240 _ []) (fun T A t k => XS.icmpNo A B.x rfl (B.d at_237) rfl (teq (hg20 : (getF (L1 kb) (V1 kb xb) kc) = xb)).2 k) ?_
              refine gs (mkF m 241 _ [(.int (1 : Int32))]) (fun T A t k => XS.iconst A B.x rfl (B.d at_240) k) ?_
              refine gs (mkF m 245 _ [(.int (1 : Int32))]) (fun T A t k => XS.goto A B.x rfl (pc0 := 241) (pc' := 245) rfl (B.d at_241) (by decide) (by decide) k) ?_
              refine gs (mkF m 247 #[.val (.long q1), .second, .val (.long q2), .second, .val (.long q3), .second, .val (.int x4), .val (.int x5), .val (.int x6), .val (.long ka), .second, .val (.long kb), .second, .val (.int (((x6.toUInt32 >>> ((2 : Int32) &&& 31).toUInt32).toInt32) &&& (3 : Int32))), .val (.long kc), .second, .val (.int (0 : Int32)), .val (.int (1 : Int32)), .val (.int xa), .val (.int xb), .val (.ref so3), .val (.ref so4), .val (.ref so5), .val (.ref b6), .val (.int xb), .val (.int (-1 : Int32)), .val (.int (1 : Int32))] []) (fun T A t k => XS.istore A B.x rfl (B.d at_245) rfl (l' := #[.val (.long q1), .second, .val (.long q2), .second, .val (.long q3), .second, .val (.int x4), .val (.int x5), .val (.int x6), .val (.long ka), .second, .val (.long kb), .second, .val (.int (((x6.toUInt32 >>> ((2 : Int32) &&& 31).toUInt32).toInt32) &&& (3 : Int32))), .val (.long kc), .second, .val (.int (0 : Int32)), .val (.int (1 : Int32)), .val (.int xa), .val (.int xb), .val (.ref so3), .val (.ref so4), .val (.ref so5), .val (.ref b6), .val (.int xb), .val (.int (-1 : Int32)), .val (.int (1 : Int32))]) rfl k) ?_
              refine gs (mkF m 249 _ [(.int (1 : Int32))]) (fun T A t k => XS.iload A B.x rfl (B.d at_247) rfl k) ?_
              refine gs (mkF m 252 _ []) (fun T A t k => XS.ifNo A B.x rfl (B.d at_249) rfl ((if0 _ _).trans (feq (by decide : ¬ ((1 : Int32) = (0 : Int32)))).1) k) ?_
              refine gs (mkF m 254 _ [(.ref b6)]) (fun T A t k => XS.aload A B.x rfl (B.d at_252) rfl rfl k) ?_
              refine gs (mkF m 256 _ [(.ref so3), (.ref b6)]) (fun T A t k => XS.aload A B.x rfl (B.d at_254) rfl rfl k) ?_
              refine g_metN (c_virt B ((A6.keep K7).keep K12) (hw _ (List.mem_of_getElem? (i := 115) rfl)) (hw _ (List.mem_of_getElem? (i := 116) rfl)) (hw _ (List.mem_of_getElem? (i := 118) rfl)) (hw _ (List.mem_of_getElem? (i := 117) rfl)) (nfs (z := (⟨"com/example/rateledger/rateledger/io/LoanNumberMap", "get", "(Ljava/lang/String;)I"⟩ : MethodName)) (hw _ (List.mem_of_getElem? (i := 118) rfl))) (by decide) rfl (lenOf pd_28Ljava2flang2fString3b29I rfl) rfl (Nat.le_of_eq rfl) at_256 rfl (argsL := [(.ref so3)]) (rest := []) (W := 0) (q := 259)) (own_getk l Z a0 hw hEL b6 so3 zc fm b7a b7b (L1 kb) (V1 kb xb) sz12 ka t3 h12 n0 M12b (by simp [L1, L0]) (by simp [V1, V0]) (ok_L1 (k := ka)) (((((X3.keep K4 ⟨nin0, nin0⟩).keep K5 ⟨nin0, nin0⟩).ext E6).keep K7 ⟨(ninS (by omega : @Ne Nat so3 b6) nin0), (ninS (by omega : @Ne Nat t3 b6) nin0)⟩).keep K12 ⟨(ninS (by omega : @Ne Nat so3 b6) (ninS (by omega : @Ne Nat so3 b7a) (ninS (by omega : @Ne Nat so3 b7b) nin0))), (ninS (by omega : @Ne Nat t3 b6) (ninS (by omega : @Ne Nat t3 b7a) (ninS (by omega : @Ne Nat t3 b7b) nin0)))⟩) hka.1 hka.2 ((((((PO.keep K3 all0).keep K4 all0).keep K5 all0).ext E6).keep K7 (allS (by omega) all0)).keep K12 (allS (by omega) (allS (by omega) (allS (by omega) all0)))) SC hzc SF rf) (hw _ (List.mem_of_getElem? (i := 119) rfl)) (hw _ (List.mem_of_getElem? (i := 43) rfl)) (by decide) (by decide) (by decide) (by decide) ?_
              intro v21 h21 hz21 hQ21
              obtain ⟨rfl, rfl⟩ := hQ21
              refine gs (mkF m 261 _ [(.int (-1 : Int32)), (.int (getF (L1 kb) (V1 kb xb) ka))]) (fun T A t k => XS.iload A B.x rfl (B.d at_259) rfl k) ?_
              have hg22 : (getF (L1 kb) (V1 kb xb) ka) = (-1 : Int32) := by rw [get_L1 hkb.1 hka.1, if_neg Ehq14]
              refine gs (mkF m 264 _ []) (fun T A t k => XS.icmpNo A B.x rfl (B.d at_261) rfl (teq (hg22 : (getF (L1 kb) (V1 kb xb) ka) = (-1 : Int32))).2 k) ?_
              refine gs (mkF m 265 _ [(.int (1 : Int32))]) (fun T A t k => XS.iconst A B.x rfl (B.d at_264) k) ?_
              refine gs (mkF m 269 _ [(.int (1 : Int32))]) (fun T A t k => XS.goto A B.x rfl (pc0 := 265) (pc' := 269) rfl (B.d at_265) (by decide) (by decide) k) ?_
              exact g_retN (t := .boolean) B (by simp) at_269 (by decide) (by decide) rfl
          · refine gs (mkF m 190 _ []) (fun T A t k => XS.ifYes A B.x rfl (pc0 := 180) (pc' := 190) rfl (B.d at_180) rfl ((if0 _ _).trans (feq (hq13 : ¬ ((lcmpW kc kb) = (0 : Int32)))).2) (by decide) (by decide) k) ?_
            have Ehq13 : ¬ kc = kb := fun z => hq13 (lc0.mpr z)
            refine gs (mkF m 191 _ [(.int (-1 : Int32))]) (fun T A t k => XS.iconst A B.x rfl (B.d at_190) k) ?_
            refine gs (mkF m 193 #[.val (.long q1), .second, .val (.long q2), .second, .val (.long q3), .second, .val (.int x4), .val (.int x5), .val (.int x6), .val (.long ka), .second, .val (.long kb), .second, .val (.int (((x6.toUInt32 >>> ((2 : Int32) &&& 31).toUInt32).toInt32) &&& (3 : Int32))), .val (.long kc), .second, .val (.int (0 : Int32)), .val (.int (1 : Int32)), .val (.int xa), .val (.int xb), .val (.ref so3), .val (.ref so4), .val (.ref so5), .val (.ref b6), .val (.int (-1 : Int32)), .unset, .unset] []) (fun T A t k => XS.istore A B.x rfl (B.d at_191) rfl (l' := #[.val (.long q1), .second, .val (.long q2), .second, .val (.long q3), .second, .val (.int x4), .val (.int x5), .val (.int x6), .val (.long ka), .second, .val (.long kb), .second, .val (.int (((x6.toUInt32 >>> ((2 : Int32) &&& 31).toUInt32).toInt32) &&& (3 : Int32))), .val (.long kc), .second, .val (.int (0 : Int32)), .val (.int (1 : Int32)), .val (.int xa), .val (.int xb), .val (.ref so3), .val (.ref so4), .val (.ref so5), .val (.ref b6), .val (.int (-1 : Int32)), .unset, .unset]) rfl k) ?_
            refine gs (mkF m 195 _ [(.int (0 : Int32))]) (fun T A t k => XS.iload A B.x rfl (B.d at_193) rfl k) ?_
            refine gs (mkF m 205 _ []) (fun T A t k => XS.ifYes A B.x rfl (pc0 := 195) (pc' := 205) rfl (B.d at_195) rfl ((if0 _ _).trans (teq (by decide : (0 : Int32) = (0 : Int32))).1) (by decide) (by decide) k) ?_
            refine gs (mkF m 207 _ [(.int (1 : Int32))]) (fun T A t k => XS.iload A B.x rfl (B.d at_205) rfl k) ?_
            refine gs (mkF m 210 _ []) (fun T A t k => XS.ifNo A B.x rfl (B.d at_207) rfl ((if0 _ _).trans (feq (by decide : ¬ ((1 : Int32) = (0 : Int32)))).1) k) ?_
            refine gs (mkF m 212 _ [(.long ka)]) (fun T A t k => XS.lload A B.x rfl (B.d at_210) rfl k) ?_
            refine gs (mkF m 214 _ [(.long kb), (.long ka)]) (fun T A t k => XS.lload A B.x rfl (B.d at_212) rfl k) ?_
            refine gs (mkF m 215 _ [(.int (lcmpW ka kb))]) (fun T A t k => XS.lcmp A B.x rfl (B.d at_214) rfl k) ?_
            by_cases hq23 : (lcmpW ka kb) = (0 : Int32)
            · refine gs (mkF m 218 _ []) (fun T A t k => XS.ifNo A B.x rfl (B.d at_215) rfl ((if0 _ _).trans (teq (hq23 : (lcmpW ka kb) = (0 : Int32))).2) k) ?_
              have Ehq23 : ka = kb := lc0.mp hq23
              refine gs (mkF m 220 _ [(.int xb)]) (fun T A t k => XS.iload A B.x rfl (B.d at_218) rfl k) ?_
              refine gs (mkF m 222 #[.val (.long q1), .second, .val (.long q2), .second, .val (.long q3), .second, .val (.int x4), .val (.int x5), .val (.int x6), .val (.long ka), .second, .val (.long kb), .second, .val (.int (((x6.toUInt32 >>> ((2 : Int32) &&& 31).toUInt32).toInt32) &&& (3 : Int32))), .val (.long kc), .second, .val (.int (0 : Int32)), .val (.int (1 : Int32)), .val (.int xa), .val (.int xb), .val (.ref so3), .val (.ref so4), .val (.ref so5), .val (.ref b6), .val (.int (-1 : Int32)), .val (.int xb), .unset] []) (fun T A t k => XS.istore A B.x rfl (B.d at_220) rfl (l' := #[.val (.long q1), .second, .val (.long q2), .second, .val (.long q3), .second, .val (.int x4), .val (.int x5), .val (.int x6), .val (.long ka), .second, .val (.long kb), .second, .val (.int (((x6.toUInt32 >>> ((2 : Int32) &&& 31).toUInt32).toInt32) &&& (3 : Int32))), .val (.long kc), .second, .val (.int (0 : Int32)), .val (.int (1 : Int32)), .val (.int xa), .val (.int xb), .val (.ref so3), .val (.ref so4), .val (.ref so5), .val (.ref b6), .val (.int (-1 : Int32)), .val (.int xb), .unset]) rfl k) ?_
              refine gs (mkF m 228 _ []) (fun T A t k => XS.goto A B.x rfl (pc0 := 222) (pc' := 228) rfl (B.d at_222) (by decide) (by decide) k) ?_
              refine gs (mkF m 230 _ [(.ref b6)]) (fun T A t k => XS.aload A B.x rfl (B.d at_228) rfl rfl k) ?_
              refine gs (mkF m 232 _ [(.ref so5), (.ref b6)]) (fun T A t k => XS.aload A B.x rfl (B.d at_230) rfl rfl k) ?_
              refine g_metN (c_virt B ((A6.keep K7).keep K12) (hw _ (List.mem_of_getElem? (i := 115) rfl)) (hw _ (List.mem_of_getElem? (i := 116) rfl)) (hw _ (List.mem_of_getElem? (i := 118) rfl)) (hw _ (List.mem_of_getElem? (i := 117) rfl)) (nfs (z := (⟨"com/example/rateledger/rateledger/io/LoanNumberMap", "get", "(Ljava/lang/String;)I"⟩ : MethodName)) (hw _ (List.mem_of_getElem? (i := 118) rfl))) (by decide) rfl (lenOf pd_28Ljava2flang2fString3b29I rfl) rfl (Nat.le_of_eq rfl) at_232 rfl (argsL := [(.ref so5)]) (rest := []) (W := 0) (q := 235)) (own_getk l Z a0 hw hEL b6 so5 zc fm b7a b7b (L1 kb) (V1 kb xb) sz12 kc t5 h12 n0 M12b (by simp [L1, L0]) (by simp [V1, V0]) (ok_L1 (k := kc)) (((X5.ext E6).keep K7 ⟨(ninS (by omega : @Ne Nat so5 b6) nin0), (ninS (by omega : @Ne Nat t5 b6) nin0)⟩).keep K12 ⟨(ninS (by omega : @Ne Nat so5 b6) (ninS (by omega : @Ne Nat so5 b7a) (ninS (by omega : @Ne Nat so5 b7b) nin0))), (ninS (by omega : @Ne Nat t5 b6) (ninS (by omega : @Ne Nat t5 b7a) (ninS (by omega : @Ne Nat t5 b7b) nin0)))⟩) hkc.1 hkc.2 ((((((PO.keep K3 all0).keep K4 all0).keep K5 all0).ext E6).keep K7 (allS (by omega) all0)).keep K12 (allS (by omega) (allS (by omega) (allS (by omega) all0)))) SC hzc SF rf) (hw _ (List.mem_of_getElem? (i := 119) rfl)) (hw _ (List.mem_of_getElem? (i := 43) rfl)) (by decide) (by decide) (by decide) (by decide) ?_
              intro v24 h24 hz24 hQ24
              obtain ⟨rfl, rfl⟩ := hQ24
              refine gs (mkF m 237 _ [(.int (-1 : Int32)), (.int (getF (L1 kb) (V1 kb xb) kc))]) (fun T A t k => XS.iload A B.x rfl (B.d at_235) rfl k) ?_
              have hg25 : (getF (L1 kb) (V1 kb xb) kc) = (-1 : Int32) := by rw [get_L1 hkb.1 hkc.1, if_neg Ehq13]
              refine gs (mkF m 240 _ []) (fun T A t k => XS.icmpNo A B.x rfl (B.d at_237) rfl (teq (hg25 : (getF (L1 kb) (V1 kb xb) kc) = (-1 : Int32))).2 k) ?_
              refine gs (mkF m 241 _ [(.int (1 : Int32))]) (fun T A t k => XS.iconst A B.x rfl (B.d at_240) k) ?_
              refine gs (mkF m 245 _ [(.int (1 : Int32))]) (fun T A t k => XS.goto A B.x rfl (pc0 := 241) (pc' := 245) rfl (B.d at_241) (by decide) (by decide) k) ?_
              refine gs (mkF m 247 #[.val (.long q1), .second, .val (.long q2), .second, .val (.long q3), .second, .val (.int x4), .val (.int x5), .val (.int x6), .val (.long ka), .second, .val (.long kb), .second, .val (.int (((x6.toUInt32 >>> ((2 : Int32) &&& 31).toUInt32).toInt32) &&& (3 : Int32))), .val (.long kc), .second, .val (.int (0 : Int32)), .val (.int (1 : Int32)), .val (.int xa), .val (.int xb), .val (.ref so3), .val (.ref so4), .val (.ref so5), .val (.ref b6), .val (.int (-1 : Int32)), .val (.int xb), .val (.int (1 : Int32))] []) (fun T A t k => XS.istore A B.x rfl (B.d at_245) rfl (l' := #[.val (.long q1), .second, .val (.long q2), .second, .val (.long q3), .second, .val (.int x4), .val (.int x5), .val (.int x6), .val (.long ka), .second, .val (.long kb), .second, .val (.int (((x6.toUInt32 >>> ((2 : Int32) &&& 31).toUInt32).toInt32) &&& (3 : Int32))), .val (.long kc), .second, .val (.int (0 : Int32)), .val (.int (1 : Int32)), .val (.int xa), .val (.int xb), .val (.ref so3), .val (.ref so4), .val (.ref so5), .val (.ref b6), .val (.int (-1 : Int32)), .val (.int xb), .val (.int (1 : Int32))]) rfl k) ?_
              refine gs (mkF m 249 _ [(.int (1 : Int32))]) (fun T A t k => XS.iload A B.x rfl (B.d at_247) rfl k) ?_
              refine gs (mkF m 252 _ []) (fun T A t k => XS.ifNo A B.x rfl (B.d at_249) rfl ((if0 _ _).trans (feq (by decide : ¬ ((1 : Int32) = (0 : Int32)))).1) k) ?_
              refine gs (mkF m 254 _ [(.ref b6)]) (fun T A t k => XS.aload A B.x rfl (B.d at_252) rfl rfl k) ?_
              refine gs (mkF m 256 _ [(.ref so3), (.ref b6)]) (fun T A t k => XS.aload A B.x rfl (B.d at_254) rfl rfl k) ?_
              refine g_metN (c_virt B ((A6.keep K7).keep K12) (hw _ (List.mem_of_getElem? (i := 115) rfl)) (hw _ (List.mem_of_getElem? (i := 116) rfl)) (hw _ (List.mem_of_getElem? (i := 118) rfl)) (hw _ (List.mem_of_getElem? (i := 117) rfl)) (nfs (z := (⟨"com/example/rateledger/rateledger/io/LoanNumberMap", "get", "(Ljava/lang/String;)I"⟩ : MethodName)) (hw _ (List.mem_of_getElem? (i := 118) rfl))) (by decide) rfl (lenOf pd_28Ljava2flang2fString3b29I rfl) rfl (Nat.le_of_eq rfl) at_256 rfl (argsL := [(.ref so3)]) (rest := []) (W := 0) (q := 259)) (own_getk l Z a0 hw hEL b6 so3 zc fm b7a b7b (L1 kb) (V1 kb xb) sz12 ka t3 h12 n0 M12b (by simp [L1, L0]) (by simp [V1, V0]) (ok_L1 (k := ka)) (((((X3.keep K4 ⟨nin0, nin0⟩).keep K5 ⟨nin0, nin0⟩).ext E6).keep K7 ⟨(ninS (by omega : @Ne Nat so3 b6) nin0), (ninS (by omega : @Ne Nat t3 b6) nin0)⟩).keep K12 ⟨(ninS (by omega : @Ne Nat so3 b6) (ninS (by omega : @Ne Nat so3 b7a) (ninS (by omega : @Ne Nat so3 b7b) nin0))), (ninS (by omega : @Ne Nat t3 b6) (ninS (by omega : @Ne Nat t3 b7a) (ninS (by omega : @Ne Nat t3 b7b) nin0)))⟩) hka.1 hka.2 ((((((PO.keep K3 all0).keep K4 all0).keep K5 all0).ext E6).keep K7 (allS (by omega) all0)).keep K12 (allS (by omega) (allS (by omega) (allS (by omega) all0)))) SC hzc SF rf) (hw _ (List.mem_of_getElem? (i := 119) rfl)) (hw _ (List.mem_of_getElem? (i := 43) rfl)) (by decide) (by decide) (by decide) (by decide) ?_
              intro v26 h26 hz26 hQ26
              obtain ⟨rfl, rfl⟩ := hQ26
              refine gs (mkF m 261 _ [(.int xb), (.int (getF (L1 kb) (V1 kb xb) ka))]) (fun T A t k => XS.iload A B.x rfl (B.d at_259) rfl k) ?_
              have hg27 : (getF (L1 kb) (V1 kb xb) ka) = xb := by rw [get_L1 hkb.1 hka.1, if_pos Ehq23]
              refine gs (mkF m 264 _ []) (fun T A t k => XS.icmpNo A B.x rfl (B.d at_261) rfl (teq (hg27 : (getF (L1 kb) (V1 kb xb) ka) = xb)).2 k) ?_
              refine gs (mkF m 265 _ [(.int (1 : Int32))]) (fun T A t k => XS.iconst A B.x rfl (B.d at_264) k) ?_
              refine gs (mkF m 269 _ [(.int (1 : Int32))]) (fun T A t k => XS.goto A B.x rfl (pc0 := 265) (pc' := 269) rfl (B.d at_265) (by decide) (by decide) k) ?_
              exact g_retN (t := .boolean) B (by simp) at_269 (by decide) (by decide) rfl
            · refine gs (mkF m 225 _ []) (fun T A t k => XS.ifYes A B.x rfl (pc0 := 215) (pc' := 225) rfl (B.d at_215) rfl ((if0 _ _).trans (feq (hq23 : ¬ ((lcmpW ka kb) = (0 : Int32)))).2) (by decide) (by decide) k) ?_
              have Ehq23 : ¬ ka = kb := fun z => hq23 (lc0.mpr z)
              refine gs (mkF m 226 _ [(.int (-1 : Int32))]) (fun T A t k => XS.iconst A B.x rfl (B.d at_225) k) ?_
              refine gs (mkF m 228 #[.val (.long q1), .second, .val (.long q2), .second, .val (.long q3), .second, .val (.int x4), .val (.int x5), .val (.int x6), .val (.long ka), .second, .val (.long kb), .second, .val (.int (((x6.toUInt32 >>> ((2 : Int32) &&& 31).toUInt32).toInt32) &&& (3 : Int32))), .val (.long kc), .second, .val (.int (0 : Int32)), .val (.int (1 : Int32)), .val (.int xa), .val (.int xb), .val (.ref so3), .val (.ref so4), .val (.ref so5), .val (.ref b6), .val (.int (-1 : Int32)), .val (.int (-1 : Int32)), .unset] []) (fun T A t k => XS.istore A B.x rfl (B.d at_226) rfl (l' := #[.val (.long q1), .second, .val (.long q2), .second, .val (.long q3), .second, .val (.int x4), .val (.int x5), .val (.int x6), .val (.long ka), .second, .val (.long kb), .second, .val (.int (((x6.toUInt32 >>> ((2 : Int32) &&& 31).toUInt32).toInt32) &&& (3 : Int32))), .val (.long kc), .second, .val (.int (0 : Int32)), .val (.int (1 : Int32)), .val (.int xa), .val (.int xb), .val (.ref so3), .val (.ref so4), .val (.ref so5), .val (.ref b6), .val (.int (-1 : Int32)), .val (.int (-1 : Int32)), .unset]) rfl k) ?_
              refine gs (mkF m 230 _ [(.ref b6)]) (fun T A t k => XS.aload A B.x rfl (B.d at_228) rfl rfl k) ?_
              refine gs (mkF m 232 _ [(.ref so5), (.ref b6)]) (fun T A t k => XS.aload A B.x rfl (B.d at_230) rfl rfl k) ?_
              refine g_metN (c_virt B ((A6.keep K7).keep K12) (hw _ (List.mem_of_getElem? (i := 115) rfl)) (hw _ (List.mem_of_getElem? (i := 116) rfl)) (hw _ (List.mem_of_getElem? (i := 118) rfl)) (hw _ (List.mem_of_getElem? (i := 117) rfl)) (nfs (z := (⟨"com/example/rateledger/rateledger/io/LoanNumberMap", "get", "(Ljava/lang/String;)I"⟩ : MethodName)) (hw _ (List.mem_of_getElem? (i := 118) rfl))) (by decide) rfl (lenOf pd_28Ljava2flang2fString3b29I rfl) rfl (Nat.le_of_eq rfl) at_232 rfl (argsL := [(.ref so5)]) (rest := []) (W := 0) (q := 235)) (own_getk l Z a0 hw hEL b6 so5 zc fm b7a b7b (L1 kb) (V1 kb xb) sz12 kc t5 h12 n0 M12b (by simp [L1, L0]) (by simp [V1, V0]) (ok_L1 (k := kc)) (((X5.ext E6).keep K7 ⟨(ninS (by omega : @Ne Nat so5 b6) nin0), (ninS (by omega : @Ne Nat t5 b6) nin0)⟩).keep K12 ⟨(ninS (by omega : @Ne Nat so5 b6) (ninS (by omega : @Ne Nat so5 b7a) (ninS (by omega : @Ne Nat so5 b7b) nin0))), (ninS (by omega : @Ne Nat t5 b6) (ninS (by omega : @Ne Nat t5 b7a) (ninS (by omega : @Ne Nat t5 b7b) nin0)))⟩) hkc.1 hkc.2 ((((((PO.keep K3 all0).keep K4 all0).keep K5 all0).ext E6).keep K7 (allS (by omega) all0)).keep K12 (allS (by omega) (allS (by omega) (allS (by omega) all0)))) SC hzc SF rf) (hw _ (List.mem_of_getElem? (i := 119) rfl)) (hw _ (List.mem_of_getElem? (i := 43) rfl)) (by decide) (by decide) (by decide) (by decide) ?_
              intro v28 h28 hz28 hQ28
              obtain ⟨rfl, rfl⟩ := hQ28
              refine gs (mkF m 237 _ [(.int (-1 : Int32)), (.int (getF (L1 kb) (V1 kb xb) kc))]) (fun T A t k => XS.iload A B.x rfl (B.d at_235) rfl k) ?_
              have hg29 : (getF (L1 kb) (V1 kb xb) kc) = (-1 : Int32) := by rw [get_L1 hkb.1 hkc.1, if_neg Ehq13]
              refine gs (mkF m 240 _ []) (fun T A t k => XS.icmpNo A B.x rfl (B.d at_237) rfl (teq (hg29 : (getF (L1 kb) (V1 kb xb) kc) = (-1 : Int32))).2 k) ?_
              refine gs (mkF m 241 _ [(.int (1 : Int32))]) (fun T A t k => XS.iconst A B.x rfl (B.d at_240) k) ?_
              refine gs (mkF m 245 _ [(.int (1 : Int32))]) (fun T A t k => XS.goto A B.x rfl (pc0 := 241) (pc' := 245) rfl (B.d at_241) (by decide) (by decide) k) ?_
              refine gs (mkF m 247 #[.val (.long q1), .second, .val (.long q2), .second, .val (.long q3), .second, .val (.int x4), .val (.int x5), .val (.int x6), .val (.long ka), .second, .val (.long kb), .second, .val (.int (((x6.toUInt32 >>> ((2 : Int32) &&& 31).toUInt32).toInt32) &&& (3 : Int32))), .val (.long kc), .second, .val (.int (0 : Int32)), .val (.int (1 : Int32)), .val (.int xa), .val (.int xb), .val (.ref so3), .val (.ref so4), .val (.ref so5), .val (.ref b6), .val (.int (-1 : Int32)), .val (.int (-1 : Int32)), .val (.int (1 : Int32))] []) (fun T A t k => XS.istore A B.x rfl (B.d at_245) rfl (l' := #[.val (.long q1), .second, .val (.long q2), .second, .val (.long q3), .second, .val (.int x4), .val (.int x5), .val (.int x6), .val (.long ka), .second, .val (.long kb), .second, .val (.int (((x6.toUInt32 >>> ((2 : Int32) &&& 31).toUInt32).toInt32) &&& (3 : Int32))), .val (.long kc), .second, .val (.int (0 : Int32)), .val (.int (1 : Int32)), .val (.int xa), .val (.int xb), .val (.ref so3), .val (.ref so4), .val (.ref so5), .val (.ref b6), .val (.int (-1 : Int32)), .val (.int (-1 : Int32)), .val (.int (1 : Int32))]) rfl k) ?_
              refine gs (mkF m 249 _ [(.int (1 : Int32))]) (fun T A t k => XS.iload A B.x rfl (B.d at_247) rfl k) ?_
              refine gs (mkF m 252 _ []) (fun T A t k => XS.ifNo A B.x rfl (B.d at_249) rfl ((if0 _ _).trans (feq (by decide : ¬ ((1 : Int32) = (0 : Int32)))).1) k) ?_
              refine gs (mkF m 254 _ [(.ref b6)]) (fun T A t k => XS.aload A B.x rfl (B.d at_252) rfl rfl k) ?_
              refine gs (mkF m 256 _ [(.ref so3), (.ref b6)]) (fun T A t k => XS.aload A B.x rfl (B.d at_254) rfl rfl k) ?_
              refine g_metN (c_virt B ((A6.keep K7).keep K12) (hw _ (List.mem_of_getElem? (i := 115) rfl)) (hw _ (List.mem_of_getElem? (i := 116) rfl)) (hw _ (List.mem_of_getElem? (i := 118) rfl)) (hw _ (List.mem_of_getElem? (i := 117) rfl)) (nfs (z := (⟨"com/example/rateledger/rateledger/io/LoanNumberMap", "get", "(Ljava/lang/String;)I"⟩ : MethodName)) (hw _ (List.mem_of_getElem? (i := 118) rfl))) (by decide) rfl (lenOf pd_28Ljava2flang2fString3b29I rfl) rfl (Nat.le_of_eq rfl) at_256 rfl (argsL := [(.ref so3)]) (rest := []) (W := 0) (q := 259)) (own_getk l Z a0 hw hEL b6 so3 zc fm b7a b7b (L1 kb) (V1 kb xb) sz12 ka t3 h12 n0 M12b (by simp [L1, L0]) (by simp [V1, V0]) (ok_L1 (k := ka)) (((((X3.keep K4 ⟨nin0, nin0⟩).keep K5 ⟨nin0, nin0⟩).ext E6).keep K7 ⟨(ninS (by omega : @Ne Nat so3 b6) nin0), (ninS (by omega : @Ne Nat t3 b6) nin0)⟩).keep K12 ⟨(ninS (by omega : @Ne Nat so3 b6) (ninS (by omega : @Ne Nat so3 b7a) (ninS (by omega : @Ne Nat so3 b7b) nin0))), (ninS (by omega : @Ne Nat t3 b6) (ninS (by omega : @Ne Nat t3 b7a) (ninS (by omega : @Ne Nat t3 b7b) nin0)))⟩) hka.1 hka.2 ((((((PO.keep K3 all0).keep K4 all0).keep K5 all0).ext E6).keep K7 (allS (by omega) all0)).keep K12 (allS (by omega) (allS (by omega) (allS (by omega) all0)))) SC hzc SF rf) (hw _ (List.mem_of_getElem? (i := 119) rfl)) (hw _ (List.mem_of_getElem? (i := 43) rfl)) (by decide) (by decide) (by decide) (by decide) ?_
              intro v30 h30 hz30 hQ30
              obtain ⟨rfl, rfl⟩ := hQ30
              refine gs (mkF m 261 _ [(.int (-1 : Int32)), (.int (getF (L1 kb) (V1 kb xb) ka))]) (fun T A t k => XS.iload A B.x rfl (B.d at_259) rfl k) ?_
              have hg31 : (getF (L1 kb) (V1 kb xb) ka) = (-1 : Int32) := by rw [get_L1 hkb.1 hka.1, if_neg Ehq23]
              refine gs (mkF m 264 _ []) (fun T A t k => XS.icmpNo A B.x rfl (B.d at_261) rfl (teq (hg31 : (getF (L1 kb) (V1 kb xb) ka) = (-1 : Int32))).2 k) ?_
              refine gs (mkF m 265 _ [(.int (1 : Int32))]) (fun T A t k => XS.iconst A B.x rfl (B.d at_264) k) ?_
              refine gs (mkF m 269 _ [(.int (1 : Int32))]) (fun T A t k => XS.goto A B.x rfl (pc0 := 265) (pc' := 269) rfl (B.d at_265) (by decide) (by decide) k) ?_
              exact g_retN (t := .boolean) B (by simp) at_269 (by decide) (by decide) rfl
        · refine gs (mkF m 122 _ [(.int (1 : Int32))]) (fun T A t k => XS.iload A B.x rfl (B.d at_120) rfl k) ?_
          refine gs (mkF m 125 _ []) (fun T A t k => XS.ifNo A B.x rfl (B.d at_122) rfl ((if0 _ _).trans (feq (by decide : ¬ ((1 : Int32) = (0 : Int32)))).1) k) ?_
          refine gs (mkF m 127 _ [(.ref b6)]) (fun T A t k => XS.aload A B.x rfl (B.d at_125) rfl rfl k) ?_
          refine gs (mkF m 129 _ [(.ref so3), (.ref b6)]) (fun T A t k => XS.aload A B.x rfl (B.d at_127) rfl rfl k) ?_
          refine gs (mkF m 131 _ [(.int xa), (.ref so3), (.ref b6)]) (fun T A t k => XS.iload A B.x rfl (B.d at_129) rfl k) ?_
          refine g_metN (c_virt B (A6.keep K7) (hw _ (List.mem_of_getElem? (i := 62) rfl)) (hw _ (List.mem_of_getElem? (i := 63) rfl)) (hw _ (List.mem_of_getElem? (i := 65) rfl)) (hw _ (List.mem_of_getElem? (i := 64) rfl)) (nfs (z := (⟨"com/example/rateledger/rateledger/io/LoanNumberMap", "putIfAbsent", "(Ljava/lang/String;I)I"⟩ : MethodName)) (hw _ (List.mem_of_getElem? (i := 65) rfl))) (by decide) rfl (lenOf pd_28Ljava2flang2fString3bI29I rfl) rfl (Nat.le_of_eq rfl) at_131 rfl (argsL := [(.ref so3), (.int xa)]) (rest := []) (W := 0) (q := 134)) (own_putk l Z a0 hw hEL b6 so3 (xa) zc fm b7a b7b L0 V0 0 ka t3 h7 n0 M7 (by decide) (by decide) (ok_L0 ka) hxa (by decide) (by omega) (by omega) (by omega) ((((X3.keep K4 ⟨nin0, nin0⟩).keep K5 ⟨nin0, nin0⟩).ext E6).keep K7 ⟨(ninS (by omega : @Ne Nat so3 b6) nin0), (ninS (by omega : @Ne Nat t3 b6) nin0)⟩) hka.1 hka.2 (((((PO.keep K3 all0).keep K4 all0).keep K5 all0).ext E6).keep K7 (allS (by omega) all0)) SC hzc SF rf) (hw _ (List.mem_of_getElem? (i := 66) rfl)) (hw _ (List.mem_of_getElem? (i := 43) rfl)) (by decide) (by decide) (by decide) (by decide) ?_
          intro v32 h32 hz32 hQ32
          obtain ⟨r32, sz32, rfl, K32, M32, hs32⟩ := hQ32
          have z32 := K32.1
          refine gs (mkF m 135 _ []) (fun T A t k => XS.pop A B.x rfl (B.d at_134) rfl rfl k) ?_
          rw [putL_L0 hka.1, putV_L0 hka.1] at M32
          have M32b : MapAt Z h32 b6 b7a b7b (L1 ka) (V1 ka xa) sz32 := M32
          have hz32 : ¬ (8 : Int32) < sz32 + 1 := by rcases hs32 with rfl | rfl <;> decide
          refine gs (mkF m 137 _ [(.int (0 : Int32))]) (fun T A t k => XS.iload A B.x rfl (B.d at_135) rfl k) ?_
          refine gs (mkF m 150 _ []) (fun T A t k => XS.ifYes A B.x rfl (pc0 := 137) (pc' := 150) rfl (B.d at_137) rfl ((if0 _ _).trans (teq (by decide : (0 : Int32) = (0 : Int32))).1) (by decide) (by decide) k) ?_
          refine gs (mkF m 152 _ [(.int (1 : Int32))]) (fun T A t k => XS.iload A B.x rfl (B.d at_150) rfl k) ?_
          refine gs (mkF m 155 _ []) (fun T A t k => XS.ifNo A B.x rfl (B.d at_152) rfl ((if0 _ _).trans (feq (by decide : ¬ ((1 : Int32) = (0 : Int32)))).1) k) ?_
          refine gs (mkF m 157 _ [(.long kc)]) (fun T A t k => XS.lload A B.x rfl (B.d at_155) rfl k) ?_
          refine gs (mkF m 159 _ [(.long ka), (.long kc)]) (fun T A t k => XS.lload A B.x rfl (B.d at_157) rfl k) ?_
          refine gs (mkF m 160 _ [(.int (lcmpW kc ka))]) (fun T A t k => XS.lcmp A B.x rfl (B.d at_159) rfl k) ?_
          by_cases hq33 : (lcmpW kc ka) = (0 : Int32)
          · refine gs (mkF m 163 _ []) (fun T A t k => XS.ifNo A B.x rfl (B.d at_160) rfl ((if0 _ _).trans (teq (hq33 : (lcmpW kc ka) = (0 : Int32))).2) k) ?_
            have Ehq33 : kc = ka := lc0.mp hq33
            refine gs (mkF m 165 _ [(.int xa)]) (fun T A t k => XS.iload A B.x rfl (B.d at_163) rfl k) ?_
            refine gs (mkF m 167 #[.val (.long q1), .second, .val (.long q2), .second, .val (.long q3), .second, .val (.int x4), .val (.int x5), .val (.int x6), .val (.long ka), .second, .val (.long kb), .second, .val (.int (((x6.toUInt32 >>> ((2 : Int32) &&& 31).toUInt32).toInt32) &&& (3 : Int32))), .val (.long kc), .second, .val (.int (1 : Int32)), .val (.int (0 : Int32)), .val (.int xa), .val (.int xb), .val (.ref so3), .val (.ref so4), .val (.ref so5), .val (.ref b6), .val (.int xa), .unset, .unset] []) (fun T A t k => XS.istore A B.x rfl (B.d at_165) rfl (l' := #[.val (.long q1), .second, .val (.long q2), .second, .val (.long q3), .second, .val (.int x4), .val (.int x5), .val (.int x6), .val (.long ka), .second, .val (.long kb), .second, .val (.int (((x6.toUInt32 >>> ((2 : Int32) &&& 31).toUInt32).toInt32) &&& (3 : Int32))), .val (.long kc), .second, .val (.int (1 : Int32)), .val (.int (0 : Int32)), .val (.int xa), .val (.int xb), .val (.ref so3), .val (.ref so4), .val (.ref so5), .val (.ref b6), .val (.int xa), .unset, .unset]) rfl k) ?_
            refine gs (mkF m 193 _ []) (fun T A t k => XS.goto A B.x rfl (pc0 := 167) (pc' := 193) rfl (B.d at_167) (by decide) (by decide) k) ?_
            refine gs (mkF m 195 _ [(.int (1 : Int32))]) (fun T A t k => XS.iload A B.x rfl (B.d at_193) rfl k) ?_
            refine gs (mkF m 198 _ []) (fun T A t k => XS.ifNo A B.x rfl (B.d at_195) rfl ((if0 _ _).trans (feq (by decide : ¬ ((1 : Int32) = (0 : Int32)))).1) k) ?_
            refine gs (mkF m 200 _ [(.int xa)]) (fun T A t k => XS.iload A B.x rfl (B.d at_198) rfl k) ?_
            refine gs (mkF m 202 #[.val (.long q1), .second, .val (.long q2), .second, .val (.long q3), .second, .val (.int x4), .val (.int x5), .val (.int x6), .val (.long ka), .second, .val (.long kb), .second, .val (.int (((x6.toUInt32 >>> ((2 : Int32) &&& 31).toUInt32).toInt32) &&& (3 : Int32))), .val (.long kc), .second, .val (.int (1 : Int32)), .val (.int (0 : Int32)), .val (.int xa), .val (.int xb), .val (.ref so3), .val (.ref so4), .val (.ref so5), .val (.ref b6), .val (.int xa), .val (.int xa), .unset] []) (fun T A t k => XS.istore A B.x rfl (B.d at_200) rfl (l' := #[.val (.long q1), .second, .val (.long q2), .second, .val (.long q3), .second, .val (.int x4), .val (.int x5), .val (.int x6), .val (.long ka), .second, .val (.long kb), .second, .val (.int (((x6.toUInt32 >>> ((2 : Int32) &&& 31).toUInt32).toInt32) &&& (3 : Int32))), .val (.long kc), .second, .val (.int (1 : Int32)), .val (.int (0 : Int32)), .val (.int xa), .val (.int xb), .val (.ref so3), .val (.ref so4), .val (.ref so5), .val (.ref b6), .val (.int xa), .val (.int xa), .unset]) rfl k) ?_
            refine gs (mkF m 228 _ []) (fun T A t k => XS.goto A B.x rfl (pc0 := 202) (pc' := 228) rfl (B.d at_202) (by decide) (by decide) k) ?_
            refine gs (mkF m 230 _ [(.ref b6)]) (fun T A t k => XS.aload A B.x rfl (B.d at_228) rfl rfl k) ?_
            refine gs (mkF m 232 _ [(.ref so5), (.ref b6)]) (fun T A t k => XS.aload A B.x rfl (B.d at_230) rfl rfl k) ?_
            refine g_metN (c_virt B ((A6.keep K7).keep K32) (hw _ (List.mem_of_getElem? (i := 115) rfl)) (hw _ (List.mem_of_getElem? (i := 116) rfl)) (hw _ (List.mem_of_getElem? (i := 118) rfl)) (hw _ (List.mem_of_getElem? (i := 117) rfl)) (nfs (z := (⟨"com/example/rateledger/rateledger/io/LoanNumberMap", "get", "(Ljava/lang/String;)I"⟩ : MethodName)) (hw _ (List.mem_of_getElem? (i := 118) rfl))) (by decide) rfl (lenOf pd_28Ljava2flang2fString3b29I rfl) rfl (Nat.le_of_eq rfl) at_232 rfl (argsL := [(.ref so5)]) (rest := []) (W := 0) (q := 235)) (own_getk l Z a0 hw hEL b6 so5 zc fm b7a b7b (L1 ka) (V1 ka xa) sz32 kc t5 h32 n0 M32b (by simp [L1, L0]) (by simp [V1, V0]) (ok_L1 (k := kc)) (((X5.ext E6).keep K7 ⟨(ninS (by omega : @Ne Nat so5 b6) nin0), (ninS (by omega : @Ne Nat t5 b6) nin0)⟩).keep K32 ⟨(ninS (by omega : @Ne Nat so5 b6) (ninS (by omega : @Ne Nat so5 b7a) (ninS (by omega : @Ne Nat so5 b7b) nin0))), (ninS (by omega : @Ne Nat t5 b6) (ninS (by omega : @Ne Nat t5 b7a) (ninS (by omega : @Ne Nat t5 b7b) nin0)))⟩) hkc.1 hkc.2 ((((((PO.keep K3 all0).keep K4 all0).keep K5 all0).ext E6).keep K7 (allS (by omega) all0)).keep K32 (allS (by omega) (allS (by omega) (allS (by omega) all0)))) SC hzc SF rf) (hw _ (List.mem_of_getElem? (i := 119) rfl)) (hw _ (List.mem_of_getElem? (i := 43) rfl)) (by decide) (by decide) (by decide) (by decide) ?_
            intro v34 h34 hz34 hQ34
            obtain ⟨rfl, rfl⟩ := hQ34
            refine gs (mkF m 237 _ [(.int xa), (.int (getF (L1 ka) (V1 ka xa) kc))]) (fun T A t k => XS.iload A B.x rfl (B.d at_235) rfl k) ?_
            have hg35 : (getF (L1 ka) (V1 ka xa) kc) = xa := by rw [get_L1 hka.1 hkc.1, if_pos Ehq33]
            refine gs (mkF m 240 _ []) (fun T A t k => XS.icmpNo A B.x rfl (B.d at_237) rfl (teq (hg35 : (getF (L1 ka) (V1 ka xa) kc) = xa)).2 k) ?_
            refine gs (mkF m 241 _ [(.int (1 : Int32))]) (fun T A t k => XS.iconst A B.x rfl (B.d at_240) k) ?_
            refine gs (mkF m 245 _ [(.int (1 : Int32))]) (fun T A t k => XS.goto A B.x rfl (pc0 := 241) (pc' := 245) rfl (B.d at_241) (by decide) (by decide) k) ?_
            refine gs (mkF m 247 #[.val (.long q1), .second, .val (.long q2), .second, .val (.long q3), .second, .val (.int x4), .val (.int x5), .val (.int x6), .val (.long ka), .second, .val (.long kb), .second, .val (.int (((x6.toUInt32 >>> ((2 : Int32) &&& 31).toUInt32).toInt32) &&& (3 : Int32))), .val (.long kc), .second, .val (.int (1 : Int32)), .val (.int (0 : Int32)), .val (.int xa), .val (.int xb), .val (.ref so3), .val (.ref so4), .val (.ref so5), .val (.ref b6), .val (.int xa), .val (.int xa), .val (.int (1 : Int32))] []) (fun T A t k => XS.istore A B.x rfl (B.d at_245) rfl (l' := #[.val (.long q1), .second, .val (.long q2), .second, .val (.long q3), .second, .val (.int x4), .val (.int x5), .val (.int x6), .val (.long ka), .second, .val (.long kb), .second, .val (.int (((x6.toUInt32 >>> ((2 : Int32) &&& 31).toUInt32).toInt32) &&& (3 : Int32))), .val (.long kc), .second, .val (.int (1 : Int32)), .val (.int (0 : Int32)), .val (.int xa), .val (.int xb), .val (.ref so3), .val (.ref so4), .val (.ref so5), .val (.ref b6), .val (.int xa), .val (.int xa), .val (.int (1 : Int32))]) rfl k) ?_
            refine gs (mkF m 249 _ [(.int (1 : Int32))]) (fun T A t k => XS.iload A B.x rfl (B.d at_247) rfl k) ?_
            refine gs (mkF m 252 _ []) (fun T A t k => XS.ifNo A B.x rfl (B.d at_249) rfl ((if0 _ _).trans (feq (by decide : ¬ ((1 : Int32) = (0 : Int32)))).1) k) ?_
            refine gs (mkF m 254 _ [(.ref b6)]) (fun T A t k => XS.aload A B.x rfl (B.d at_252) rfl rfl k) ?_
            refine gs (mkF m 256 _ [(.ref so3), (.ref b6)]) (fun T A t k => XS.aload A B.x rfl (B.d at_254) rfl rfl k) ?_
            refine g_metN (c_virt B ((A6.keep K7).keep K32) (hw _ (List.mem_of_getElem? (i := 115) rfl)) (hw _ (List.mem_of_getElem? (i := 116) rfl)) (hw _ (List.mem_of_getElem? (i := 118) rfl)) (hw _ (List.mem_of_getElem? (i := 117) rfl)) (nfs (z := (⟨"com/example/rateledger/rateledger/io/LoanNumberMap", "get", "(Ljava/lang/String;)I"⟩ : MethodName)) (hw _ (List.mem_of_getElem? (i := 118) rfl))) (by decide) rfl (lenOf pd_28Ljava2flang2fString3b29I rfl) rfl (Nat.le_of_eq rfl) at_256 rfl (argsL := [(.ref so3)]) (rest := []) (W := 0) (q := 259)) (own_getk l Z a0 hw hEL b6 so3 zc fm b7a b7b (L1 ka) (V1 ka xa) sz32 ka t3 h32 n0 M32b (by simp [L1, L0]) (by simp [V1, V0]) (ok_L1 (k := ka)) (((((X3.keep K4 ⟨nin0, nin0⟩).keep K5 ⟨nin0, nin0⟩).ext E6).keep K7 ⟨(ninS (by omega : @Ne Nat so3 b6) nin0), (ninS (by omega : @Ne Nat t3 b6) nin0)⟩).keep K32 ⟨(ninS (by omega : @Ne Nat so3 b6) (ninS (by omega : @Ne Nat so3 b7a) (ninS (by omega : @Ne Nat so3 b7b) nin0))), (ninS (by omega : @Ne Nat t3 b6) (ninS (by omega : @Ne Nat t3 b7a) (ninS (by omega : @Ne Nat t3 b7b) nin0)))⟩) hka.1 hka.2 ((((((PO.keep K3 all0).keep K4 all0).keep K5 all0).ext E6).keep K7 (allS (by omega) all0)).keep K32 (allS (by omega) (allS (by omega) (allS (by omega) all0)))) SC hzc SF rf) (hw _ (List.mem_of_getElem? (i := 119) rfl)) (hw _ (List.mem_of_getElem? (i := 43) rfl)) (by decide) (by decide) (by decide) (by decide) ?_
            intro v36 h36 hz36 hQ36
            obtain ⟨rfl, rfl⟩ := hQ36
            refine gs (mkF m 261 _ [(.int xa), (.int (getF (L1 ka) (V1 ka xa) ka))]) (fun T A t k => XS.iload A B.x rfl (B.d at_259) rfl k) ?_
            have hg37 : (getF (L1 ka) (V1 ka xa) ka) = xa := by rw [get_L1 hka.1 hka.1, if_pos rfl]
            refine gs (mkF m 264 _ []) (fun T A t k => XS.icmpNo A B.x rfl (B.d at_261) rfl (teq (hg37 : (getF (L1 ka) (V1 ka xa) ka) = xa)).2 k) ?_
            refine gs (mkF m 265 _ [(.int (1 : Int32))]) (fun T A t k => XS.iconst A B.x rfl (B.d at_264) k) ?_
            refine gs (mkF m 269 _ [(.int (1 : Int32))]) (fun T A t k => XS.goto A B.x rfl (pc0 := 265) (pc' := 269) rfl (B.d at_265) (by decide) (by decide) k) ?_
            exact g_retN (t := .boolean) B (by simp) at_269 (by decide) (by decide) rfl
          · refine gs (mkF m 170 _ []) (fun T A t k => XS.ifYes A B.x rfl (pc0 := 160) (pc' := 170) rfl (B.d at_160) rfl ((if0 _ _).trans (feq (hq33 : ¬ ((lcmpW kc ka) = (0 : Int32)))).2) (by decide) (by decide) k) ?_
            have Ehq33 : ¬ kc = ka := fun z => hq33 (lc0.mpr z)
            refine gs (mkF m 172 _ [(.int (0 : Int32))]) (fun T A t k => XS.iload A B.x rfl (B.d at_170) rfl k) ?_
            refine gs (mkF m 190 _ []) (fun T A t k => XS.ifYes A B.x rfl (pc0 := 172) (pc' := 190) rfl (B.d at_172) rfl ((if0 _ _).trans (teq (by decide : (0 : Int32) = (0 : Int32))).1) (by decide) (by decide) k) ?_
            refine gs (mkF m 191 _ [(.int (-1 : Int32))]) (fun T A t k => XS.iconst A B.x rfl (B.d at_190) k) ?_
            refine gs (mkF m 193 #[.val (.long q1), .second, .val (.long q2), .second, .val (.long q3), .second, .val (.int x4), .val (.int x5), .val (.int x6), .val (.long ka), .second, .val (.long kb), .second, .val (.int (((x6.toUInt32 >>> ((2 : Int32) &&& 31).toUInt32).toInt32) &&& (3 : Int32))), .val (.long kc), .second, .val (.int (1 : Int32)), .val (.int (0 : Int32)), .val (.int xa), .val (.int xb), .val (.ref so3), .val (.ref so4), .val (.ref so5), .val (.ref b6), .val (.int (-1 : Int32)), .unset, .unset] []) (fun T A t k => XS.istore A B.x rfl (B.d at_191) rfl (l' := #[.val (.long q1), .second, .val (.long q2), .second, .val (.long q3), .second, .val (.int x4), .val (.int x5), .val (.int x6), .val (.long ka), .second, .val (.long kb), .second, .val (.int (((x6.toUInt32 >>> ((2 : Int32) &&& 31).toUInt32).toInt32) &&& (3 : Int32))), .val (.long kc), .second, .val (.int (1 : Int32)), .val (.int (0 : Int32)), .val (.int xa), .val (.int xb), .val (.ref so3), .val (.ref so4), .val (.ref so5), .val (.ref b6), .val (.int (-1 : Int32)), .unset, .unset]) rfl k) ?_
            refine gs (mkF m 195 _ [(.int (1 : Int32))]) (fun T A t k => XS.iload A B.x rfl (B.d at_193) rfl k) ?_
            refine gs (mkF m 198 _ []) (fun T A t k => XS.ifNo A B.x rfl (B.d at_195) rfl ((if0 _ _).trans (feq (by decide : ¬ ((1 : Int32) = (0 : Int32)))).1) k) ?_
            refine gs (mkF m 200 _ [(.int xa)]) (fun T A t k => XS.iload A B.x rfl (B.d at_198) rfl k) ?_
            refine gs (mkF m 202 #[.val (.long q1), .second, .val (.long q2), .second, .val (.long q3), .second, .val (.int x4), .val (.int x5), .val (.int x6), .val (.long ka), .second, .val (.long kb), .second, .val (.int (((x6.toUInt32 >>> ((2 : Int32) &&& 31).toUInt32).toInt32) &&& (3 : Int32))), .val (.long kc), .second, .val (.int (1 : Int32)), .val (.int (0 : Int32)), .val (.int xa), .val (.int xb), .val (.ref so3), .val (.ref so4), .val (.ref so5), .val (.ref b6), .val (.int (-1 : Int32)), .val (.int xa), .unset] []) (fun T A t k => XS.istore A B.x rfl (B.d at_200) rfl (l' := #[.val (.long q1), .second, .val (.long q2), .second, .val (.long q3), .second, .val (.int x4), .val (.int x5), .val (.int x6), .val (.long ka), .second, .val (.long kb), .second, .val (.int (((x6.toUInt32 >>> ((2 : Int32) &&& 31).toUInt32).toInt32) &&& (3 : Int32))), .val (.long kc), .second, .val (.int (1 : Int32)), .val (.int (0 : Int32)), .val (.int xa), .val (.int xb), .val (.ref so3), .val (.ref so4), .val (.ref so5), .val (.ref b6), .val (.int (-1 : Int32)), .val (.int xa), .unset]) rfl k) ?_
            refine gs (mkF m 228 _ []) (fun T A t k => XS.goto A B.x rfl (pc0 := 202) (pc' := 228) rfl (B.d at_202) (by decide) (by decide) k) ?_
            refine gs (mkF m 230 _ [(.ref b6)]) (fun T A t k => XS.aload A B.x rfl (B.d at_228) rfl rfl k) ?_
            refine gs (mkF m 232 _ [(.ref so5), (.ref b6)]) (fun T A t k => XS.aload A B.x rfl (B.d at_230) rfl rfl k) ?_
            refine g_metN (c_virt B ((A6.keep K7).keep K32) (hw _ (List.mem_of_getElem? (i := 115) rfl)) (hw _ (List.mem_of_getElem? (i := 116) rfl)) (hw _ (List.mem_of_getElem? (i := 118) rfl)) (hw _ (List.mem_of_getElem? (i := 117) rfl)) (nfs (z := (⟨"com/example/rateledger/rateledger/io/LoanNumberMap", "get", "(Ljava/lang/String;)I"⟩ : MethodName)) (hw _ (List.mem_of_getElem? (i := 118) rfl))) (by decide) rfl (lenOf pd_28Ljava2flang2fString3b29I rfl) rfl (Nat.le_of_eq rfl) at_232 rfl (argsL := [(.ref so5)]) (rest := []) (W := 0) (q := 235)) (own_getk l Z a0 hw hEL b6 so5 zc fm b7a b7b (L1 ka) (V1 ka xa) sz32 kc t5 h32 n0 M32b (by simp [L1, L0]) (by simp [V1, V0]) (ok_L1 (k := kc)) (((X5.ext E6).keep K7 ⟨(ninS (by omega : @Ne Nat so5 b6) nin0), (ninS (by omega : @Ne Nat t5 b6) nin0)⟩).keep K32 ⟨(ninS (by omega : @Ne Nat so5 b6) (ninS (by omega : @Ne Nat so5 b7a) (ninS (by omega : @Ne Nat so5 b7b) nin0))), (ninS (by omega : @Ne Nat t5 b6) (ninS (by omega : @Ne Nat t5 b7a) (ninS (by omega : @Ne Nat t5 b7b) nin0)))⟩) hkc.1 hkc.2 ((((((PO.keep K3 all0).keep K4 all0).keep K5 all0).ext E6).keep K7 (allS (by omega) all0)).keep K32 (allS (by omega) (allS (by omega) (allS (by omega) all0)))) SC hzc SF rf) (hw _ (List.mem_of_getElem? (i := 119) rfl)) (hw _ (List.mem_of_getElem? (i := 43) rfl)) (by decide) (by decide) (by decide) (by decide) ?_
            intro v38 h38 hz38 hQ38
            obtain ⟨rfl, rfl⟩ := hQ38
            refine gs (mkF m 237 _ [(.int (-1 : Int32)), (.int (getF (L1 ka) (V1 ka xa) kc))]) (fun T A t k => XS.iload A B.x rfl (B.d at_235) rfl k) ?_
            have hg39 : (getF (L1 ka) (V1 ka xa) kc) = (-1 : Int32) := by rw [get_L1 hka.1 hkc.1, if_neg Ehq33]
            refine gs (mkF m 240 _ []) (fun T A t k => XS.icmpNo A B.x rfl (B.d at_237) rfl (teq (hg39 : (getF (L1 ka) (V1 ka xa) kc) = (-1 : Int32))).2 k) ?_
            refine gs (mkF m 241 _ [(.int (1 : Int32))]) (fun T A t k => XS.iconst A B.x rfl (B.d at_240) k) ?_
            refine gs (mkF m 245 _ [(.int (1 : Int32))]) (fun T A t k => XS.goto A B.x rfl (pc0 := 241) (pc' := 245) rfl (B.d at_241) (by decide) (by decide) k) ?_
            refine gs (mkF m 247 #[.val (.long q1), .second, .val (.long q2), .second, .val (.long q3), .second, .val (.int x4), .val (.int x5), .val (.int x6), .val (.long ka), .second, .val (.long kb), .second, .val (.int (((x6.toUInt32 >>> ((2 : Int32) &&& 31).toUInt32).toInt32) &&& (3 : Int32))), .val (.long kc), .second, .val (.int (1 : Int32)), .val (.int (0 : Int32)), .val (.int xa), .val (.int xb), .val (.ref so3), .val (.ref so4), .val (.ref so5), .val (.ref b6), .val (.int (-1 : Int32)), .val (.int xa), .val (.int (1 : Int32))] []) (fun T A t k => XS.istore A B.x rfl (B.d at_245) rfl (l' := #[.val (.long q1), .second, .val (.long q2), .second, .val (.long q3), .second, .val (.int x4), .val (.int x5), .val (.int x6), .val (.long ka), .second, .val (.long kb), .second, .val (.int (((x6.toUInt32 >>> ((2 : Int32) &&& 31).toUInt32).toInt32) &&& (3 : Int32))), .val (.long kc), .second, .val (.int (1 : Int32)), .val (.int (0 : Int32)), .val (.int xa), .val (.int xb), .val (.ref so3), .val (.ref so4), .val (.ref so5), .val (.ref b6), .val (.int (-1 : Int32)), .val (.int xa), .val (.int (1 : Int32))]) rfl k) ?_
            refine gs (mkF m 249 _ [(.int (1 : Int32))]) (fun T A t k => XS.iload A B.x rfl (B.d at_247) rfl k) ?_
            refine gs (mkF m 252 _ []) (fun T A t k => XS.ifNo A B.x rfl (B.d at_249) rfl ((if0 _ _).trans (feq (by decide : ¬ ((1 : Int32) = (0 : Int32)))).1) k) ?_
            refine gs (mkF m 254 _ [(.ref b6)]) (fun T A t k => XS.aload A B.x rfl (B.d at_252) rfl rfl k) ?_
            refine gs (mkF m 256 _ [(.ref so3), (.ref b6)]) (fun T A t k => XS.aload A B.x rfl (B.d at_254) rfl rfl k) ?_
            refine g_metN (c_virt B ((A6.keep K7).keep K32) (hw _ (List.mem_of_getElem? (i := 115) rfl)) (hw _ (List.mem_of_getElem? (i := 116) rfl)) (hw _ (List.mem_of_getElem? (i := 118) rfl)) (hw _ (List.mem_of_getElem? (i := 117) rfl)) (nfs (z := (⟨"com/example/rateledger/rateledger/io/LoanNumberMap", "get", "(Ljava/lang/String;)I"⟩ : MethodName)) (hw _ (List.mem_of_getElem? (i := 118) rfl))) (by decide) rfl (lenOf pd_28Ljava2flang2fString3b29I rfl) rfl (Nat.le_of_eq rfl) at_256 rfl (argsL := [(.ref so3)]) (rest := []) (W := 0) (q := 259)) (own_getk l Z a0 hw hEL b6 so3 zc fm b7a b7b (L1 ka) (V1 ka xa) sz32 ka t3 h32 n0 M32b (by simp [L1, L0]) (by simp [V1, V0]) (ok_L1 (k := ka)) (((((X3.keep K4 ⟨nin0, nin0⟩).keep K5 ⟨nin0, nin0⟩).ext E6).keep K7 ⟨(ninS (by omega : @Ne Nat so3 b6) nin0), (ninS (by omega : @Ne Nat t3 b6) nin0)⟩).keep K32 ⟨(ninS (by omega : @Ne Nat so3 b6) (ninS (by omega : @Ne Nat so3 b7a) (ninS (by omega : @Ne Nat so3 b7b) nin0))), (ninS (by omega : @Ne Nat t3 b6) (ninS (by omega : @Ne Nat t3 b7a) (ninS (by omega : @Ne Nat t3 b7b) nin0)))⟩) hka.1 hka.2 ((((((PO.keep K3 all0).keep K4 all0).keep K5 all0).ext E6).keep K7 (allS (by omega) all0)).keep K32 (allS (by omega) (allS (by omega) (allS (by omega) all0)))) SC hzc SF rf) (hw _ (List.mem_of_getElem? (i := 119) rfl)) (hw _ (List.mem_of_getElem? (i := 43) rfl)) (by decide) (by decide) (by decide) (by decide) ?_
            intro v40 h40 hz40 hQ40
            obtain ⟨rfl, rfl⟩ := hQ40
            refine gs (mkF m 261 _ [(.int xa), (.int (getF (L1 ka) (V1 ka xa) ka))]) (fun T A t k => XS.iload A B.x rfl (B.d at_259) rfl k) ?_
            have hg41 : (getF (L1 ka) (V1 ka xa) ka) = xa := by rw [get_L1 hka.1 hka.1, if_pos rfl]
            refine gs (mkF m 264 _ []) (fun T A t k => XS.icmpNo A B.x rfl (B.d at_261) rfl (teq (hg41 : (getF (L1 ka) (V1 ka xa) ka) = xa)).2 k) ?_
            refine gs (mkF m 265 _ [(.int (1 : Int32))]) (fun T A t k => XS.iconst A B.x rfl (B.d at_264) k) ?_
            refine gs (mkF m 269 _ [(.int (1 : Int32))]) (fun T A t k => XS.goto A B.x rfl (pc0 := 265) (pc' := 269) rfl (B.d at_265) (by decide) (by decide) k) ?_
            exact g_retN (t := .boolean) B (by simp) at_269 (by decide) (by decide) rfl
        · refine gs (mkF m 122 _ [(.int (1 : Int32))]) (fun T A t k => XS.iload A B.x rfl (B.d at_120) rfl k) ?_
          refine gs (mkF m 125 _ []) (fun T A t k => XS.ifNo A B.x rfl (B.d at_122) rfl ((if0 _ _).trans (feq (by decide : ¬ ((1 : Int32) = (0 : Int32)))).1) k) ?_
          refine gs (mkF m 127 _ [(.ref b6)]) (fun T A t k => XS.aload A B.x rfl (B.d at_125) rfl rfl k) ?_
          refine gs (mkF m 129 _ [(.ref so3), (.ref b6)]) (fun T A t k => XS.aload A B.x rfl (B.d at_127) rfl rfl k) ?_
          refine gs (mkF m 131 _ [(.int xa), (.ref so3), (.ref b6)]) (fun T A t k => XS.iload A B.x rfl (B.d at_129) rfl k) ?_
          refine g_metN (c_virt B (A6.keep K7) (hw _ (List.mem_of_getElem? (i := 62) rfl)) (hw _ (List.mem_of_getElem? (i := 63) rfl)) (hw _ (List.mem_of_getElem? (i := 65) rfl)) (hw _ (List.mem_of_getElem? (i := 64) rfl)) (nfs (z := (⟨"com/example/rateledger/rateledger/io/LoanNumberMap", "putIfAbsent", "(Ljava/lang/String;I)I"⟩ : MethodName)) (hw _ (List.mem_of_getElem? (i := 65) rfl))) (by decide) rfl (lenOf pd_28Ljava2flang2fString3bI29I rfl) rfl (Nat.le_of_eq rfl) at_131 rfl (argsL := [(.ref so3), (.int xa)]) (rest := []) (W := 0) (q := 134)) (own_putk l Z a0 hw hEL b6 so3 (xa) zc fm b7a b7b L0 V0 0 ka t3 h7 n0 M7 (by decide) (by decide) (ok_L0 ka) hxa (by decide) (by omega) (by omega) (by omega) ((((X3.keep K4 ⟨nin0, nin0⟩).keep K5 ⟨nin0, nin0⟩).ext E6).keep K7 ⟨(ninS (by omega : @Ne Nat so3 b6) nin0), (ninS (by omega : @Ne Nat t3 b6) nin0)⟩) hka.1 hka.2 (((((PO.keep K3 all0).keep K4 all0).keep K5 all0).ext E6).keep K7 (allS (by omega) all0)) SC hzc SF rf) (hw _ (List.mem_of_getElem? (i := 66) rfl)) (hw _ (List.mem_of_getElem? (i := 43) rfl)) (by decide) (by decide) (by decide) (by decide) ?_
          intro v42 h42 hz42 hQ42
          obtain ⟨r42, sz42, rfl, K42, M42, hs42⟩ := hQ42
          have z42 := K42.1
          refine gs (mkF m 135 _ []) (fun T A t k => XS.pop A B.x rfl (B.d at_134) rfl rfl k) ?_
          rw [putL_L0 hka.1, putV_L0 hka.1] at M42
          have M42b : MapAt Z h42 b6 b7a b7b (L1 ka) (V1 ka xa) sz42 := M42
          have hz42 : ¬ (8 : Int32) < sz42 + 1 := by rcases hs42 with rfl | rfl <;> decide
          refine gs (mkF m 137 _ [(.int (1 : Int32))]) (fun T A t k => XS.iload A B.x rfl (B.d at_135) rfl k) ?_
          refine gs (mkF m 140 _ []) (fun T A t k => XS.ifNo A B.x rfl (B.d at_137) rfl ((if0 _ _).trans (feq (by decide : ¬ ((1 : Int32) = (0 : Int32)))).1) k) ?_
          refine gs (mkF m 142 _ [(.ref b6)]) (fun T A t k => XS.aload A B.x rfl (B.d at_140) rfl rfl k) ?_
          refine gs (mkF m 144 _ [(.ref so4), (.ref b6)]) (fun T A t k => XS.aload A B.x rfl (B.d at_142) rfl rfl k) ?_
          refine gs (mkF m 146 _ [(.int xb), (.ref so4), (.ref b6)]) (fun T A t k => XS.iload A B.x rfl (B.d at_144) rfl k) ?_
          refine g_metN (c_virt B ((A6.keep K7).keep K42) (hw _ (List.mem_of_getElem? (i := 62) rfl)) (hw _ (List.mem_of_getElem? (i := 63) rfl)) (hw _ (List.mem_of_getElem? (i := 65) rfl)) (hw _ (List.mem_of_getElem? (i := 64) rfl)) (nfs (z := (⟨"com/example/rateledger/rateledger/io/LoanNumberMap", "putIfAbsent", "(Ljava/lang/String;I)I"⟩ : MethodName)) (hw _ (List.mem_of_getElem? (i := 65) rfl))) (by decide) rfl (lenOf pd_28Ljava2flang2fString3bI29I rfl) rfl (Nat.le_of_eq rfl) at_146 rfl (argsL := [(.ref so4), (.int xb)]) (rest := []) (W := 0) (q := 149)) (own_putk l Z a0 hw hEL b6 so4 (xb) zc fm b7a b7b (L1 ka) (V1 ka xa) sz42 kb t4 h42 n0 M42b (by simp [L1, L0]) (by simp [V1, V0]) (ok_L1 (k := kb)) hxb hz42 (by omega) (by omega) (by omega) ((((X4.keep K5 ⟨nin0, nin0⟩).ext E6).keep K7 ⟨(ninS (by omega : @Ne Nat so4 b6) nin0), (ninS (by omega : @Ne Nat t4 b6) nin0)⟩).keep K42 ⟨(ninS (by omega : @Ne Nat so4 b6) (ninS (by omega : @Ne Nat so4 b7a) (ninS (by omega : @Ne Nat so4 b7b) nin0))), (ninS (by omega : @Ne Nat t4 b6) (ninS (by omega : @Ne Nat t4 b7a) (ninS (by omega : @Ne Nat t4 b7b) nin0)))⟩) hkb.1 hkb.2 ((((((PO.keep K3 all0).keep K4 all0).keep K5 all0).ext E6).keep K7 (allS (by omega) all0)).keep K42 (allS (by omega) (allS (by omega) (allS (by omega) all0)))) SC hzc SF rf) (hw _ (List.mem_of_getElem? (i := 66) rfl)) (hw _ (List.mem_of_getElem? (i := 43) rfl)) (by decide) (by decide) (by decide) (by decide) ?_
          intro v43 h43 hz43 hQ43
          obtain ⟨r43, sz43, rfl, K43, M43, hs43⟩ := hQ43
          have z43 := K43.1
          refine gs (mkF m 150 _ []) (fun T A t k => XS.pop A B.x rfl (B.d at_149) rfl rfl k) ?_
          by_cases hba : kb = ka
          · rw [hba, putL_same hka.1, putV_same hka.1] at M43
            refine gs (mkF m 152 _ [(.int (1 : Int32))]) (fun T A t k => XS.iload A B.x rfl (B.d at_150) rfl k) ?_
            refine gs (mkF m 155 _ []) (fun T A t k => XS.ifNo A B.x rfl (B.d at_152) rfl ((if0 _ _).trans (feq (by decide : ¬ ((1 : Int32) = (0 : Int32)))).1) k) ?_
            refine gs (mkF m 157 _ [(.long kc)]) (fun T A t k => XS.lload A B.x rfl (B.d at_155) rfl k) ?_
            refine gs (mkF m 159 _ [(.long ka), (.long kc)]) (fun T A t k => XS.lload A B.x rfl (B.d at_157) rfl k) ?_
            refine gs (mkF m 160 _ [(.int (lcmpW kc ka))]) (fun T A t k => XS.lcmp A B.x rfl (B.d at_159) rfl k) ?_
            by_cases hq44 : (lcmpW kc ka) = (0 : Int32)
            · refine gs (mkF m 163 _ []) (fun T A t k => XS.ifNo A B.x rfl (B.d at_160) rfl ((if0 _ _).trans (teq (hq44 : (lcmpW kc ka) = (0 : Int32))).2) k) ?_
              have Ehq44 : kc = ka := lc0.mp hq44
              refine gs (mkF m 165 _ [(.int xa)]) (fun T A t k => XS.iload A B.x rfl (B.d at_163) rfl k) ?_
              refine gs (mkF m 167 #[.val (.long q1), .second, .val (.long q2), .second, .val (.long q3), .second, .val (.int x4), .val (.int x5), .val (.int x6), .val (.long ka), .second, .val (.long kb), .second, .val (.int (((x6.toUInt32 >>> ((2 : Int32) &&& 31).toUInt32).toInt32) &&& (3 : Int32))), .val (.long kc), .second, .val (.int (1 : Int32)), .val (.int (1 : Int32)), .val (.int xa), .val (.int xb), .val (.ref so3), .val (.ref so4), .val (.ref so5), .val (.ref b6), .val (.int xa), .unset, .unset] []) (fun T A t k => XS.istore A B.x rfl (B.d at_165) rfl (l' := #[.val (.long q1), .second, .val (.long q2), .second, .val (.long q3), .second, .val (.int x4), .val (.int x5), .val (.int x6), .val (.long ka), .second, .val (.long kb), .second, .val (.int (((x6.toUInt32 >>> ((2 : Int32) &&& 31).toUInt32).toInt32) &&& (3 : Int32))), .val (.long kc), .second, .val (.int (1 : Int32)), .val (.int (1 : Int32)), .val (.int xa), .val (.int xb), .val (.ref so3), .val (.ref so4), .val (.ref so5), .val (.ref b6), .val (.int xa), .unset, .unset]) rfl k) ?_
              refine gs (mkF m 193 _ []) (fun T A t k => XS.goto A B.x rfl (pc0 := 167) (pc' := 193) rfl (B.d at_167) (by decide) (by decide) k) ?_
              refine gs (mkF m 195 _ [(.int (1 : Int32))]) (fun T A t k => XS.iload A B.x rfl (B.d at_193) rfl k) ?_
              refine gs (mkF m 198 _ []) (fun T A t k => XS.ifNo A B.x rfl (B.d at_195) rfl ((if0 _ _).trans (feq (by decide : ¬ ((1 : Int32) = (0 : Int32)))).1) k) ?_
              refine gs (mkF m 200 _ [(.int xa)]) (fun T A t k => XS.iload A B.x rfl (B.d at_198) rfl k) ?_
              refine gs (mkF m 202 #[.val (.long q1), .second, .val (.long q2), .second, .val (.long q3), .second, .val (.int x4), .val (.int x5), .val (.int x6), .val (.long ka), .second, .val (.long kb), .second, .val (.int (((x6.toUInt32 >>> ((2 : Int32) &&& 31).toUInt32).toInt32) &&& (3 : Int32))), .val (.long kc), .second, .val (.int (1 : Int32)), .val (.int (1 : Int32)), .val (.int xa), .val (.int xb), .val (.ref so3), .val (.ref so4), .val (.ref so5), .val (.ref b6), .val (.int xa), .val (.int xa), .unset] []) (fun T A t k => XS.istore A B.x rfl (B.d at_200) rfl (l' := #[.val (.long q1), .second, .val (.long q2), .second, .val (.long q3), .second, .val (.int x4), .val (.int x5), .val (.int x6), .val (.long ka), .second, .val (.long kb), .second, .val (.int (((x6.toUInt32 >>> ((2 : Int32) &&& 31).toUInt32).toInt32) &&& (3 : Int32))), .val (.long kc), .second, .val (.int (1 : Int32)), .val (.int (1 : Int32)), .val (.int xa), .val (.int xb), .val (.ref so3), .val (.ref so4), .val (.ref so5), .val (.ref b6), .val (.int xa), .val (.int xa), .unset]) rfl k) ?_
              refine gs (mkF m 228 _ []) (fun T A t k => XS.goto A B.x rfl (pc0 := 202) (pc' := 228) rfl (B.d at_202) (by decide) (by decide) k) ?_
              refine gs (mkF m 230 _ [(.ref b6)]) (fun T A t k => XS.aload A B.x rfl (B.d at_228) rfl rfl k) ?_
              refine gs (mkF m 232 _ [(.ref so5), (.ref b6)]) (fun T A t k => XS.aload A B.x rfl (B.d at_230) rfl rfl k) ?_
              refine g_metN (c_virt B (((A6.keep K7).keep K42).keep K43) (hw _ (List.mem_of_getElem? (i := 115) rfl)) (hw _ (List.mem_of_getElem? (i := 116) rfl)) (hw _ (List.mem_of_getElem? (i := 118) rfl)) (hw _ (List.mem_of_getElem? (i := 117) rfl)) (nfs (z := (⟨"com/example/rateledger/rateledger/io/LoanNumberMap", "get", "(Ljava/lang/String;)I"⟩ : MethodName)) (hw _ (List.mem_of_getElem? (i := 118) rfl))) (by decide) rfl (lenOf pd_28Ljava2flang2fString3b29I rfl) rfl (Nat.le_of_eq rfl) at_232 rfl (argsL := [(.ref so5)]) (rest := []) (W := 0) (q := 235)) (own_getk l Z a0 hw hEL b6 so5 zc fm b7a b7b (L1 ka) (V1 ka xa) sz43 kc t5 h43 n0 M43 (by simp [L1, L0]) (by simp [V1, V0]) (ok_L1 (k := kc)) ((((X5.ext E6).keep K7 ⟨(ninS (by omega : @Ne Nat so5 b6) nin0), (ninS (by omega : @Ne Nat t5 b6) nin0)⟩).keep K42 ⟨(ninS (by omega : @Ne Nat so5 b6) (ninS (by omega : @Ne Nat so5 b7a) (ninS (by omega : @Ne Nat so5 b7b) nin0))), (ninS (by omega : @Ne Nat t5 b6) (ninS (by omega : @Ne Nat t5 b7a) (ninS (by omega : @Ne Nat t5 b7b) nin0)))⟩).keep K43 ⟨(ninS (by omega : @Ne Nat so5 b6) (ninS (by omega : @Ne Nat so5 b7a) (ninS (by omega : @Ne Nat so5 b7b) nin0))), (ninS (by omega : @Ne Nat t5 b6) (ninS (by omega : @Ne Nat t5 b7a) (ninS (by omega : @Ne Nat t5 b7b) nin0)))⟩) hkc.1 hkc.2 (((((((PO.keep K3 all0).keep K4 all0).keep K5 all0).ext E6).keep K7 (allS (by omega) all0)).keep K42 (allS (by omega) (allS (by omega) (allS (by omega) all0)))).keep K43 (allS (by omega) (allS (by omega) (allS (by omega) all0)))) SC hzc SF rf) (hw _ (List.mem_of_getElem? (i := 119) rfl)) (hw _ (List.mem_of_getElem? (i := 43) rfl)) (by decide) (by decide) (by decide) (by decide) ?_
              intro v45 h45 hz45 hQ45
              obtain ⟨rfl, rfl⟩ := hQ45
              refine gs (mkF m 237 _ [(.int xa), (.int (getF (L1 ka) (V1 ka xa) kc))]) (fun T A t k => XS.iload A B.x rfl (B.d at_235) rfl k) ?_
              have hg46 : (getF (L1 ka) (V1 ka xa) kc) = xa := by rw [get_L1 hka.1 hkc.1, if_pos Ehq44]
              refine gs (mkF m 240 _ []) (fun T A t k => XS.icmpNo A B.x rfl (B.d at_237) rfl (teq (hg46 : (getF (L1 ka) (V1 ka xa) kc) = xa)).2 k) ?_
              refine gs (mkF m 241 _ [(.int (1 : Int32))]) (fun T A t k => XS.iconst A B.x rfl (B.d at_240) k) ?_
              refine gs (mkF m 245 _ [(.int (1 : Int32))]) (fun T A t k => XS.goto A B.x rfl (pc0 := 241) (pc' := 245) rfl (B.d at_241) (by decide) (by decide) k) ?_
              refine gs (mkF m 247 #[.val (.long q1), .second, .val (.long q2), .second, .val (.long q3), .second, .val (.int x4), .val (.int x5), .val (.int x6), .val (.long ka), .second, .val (.long kb), .second, .val (.int (((x6.toUInt32 >>> ((2 : Int32) &&& 31).toUInt32).toInt32) &&& (3 : Int32))), .val (.long kc), .second, .val (.int (1 : Int32)), .val (.int (1 : Int32)), .val (.int xa), .val (.int xb), .val (.ref so3), .val (.ref so4), .val (.ref so5), .val (.ref b6), .val (.int xa), .val (.int xa), .val (.int (1 : Int32))] []) (fun T A t k => XS.istore A B.x rfl (B.d at_245) rfl (l' := #[.val (.long q1), .second, .val (.long q2), .second, .val (.long q3), .second, .val (.int x4), .val (.int x5), .val (.int x6), .val (.long ka), .second, .val (.long kb), .second, .val (.int (((x6.toUInt32 >>> ((2 : Int32) &&& 31).toUInt32).toInt32) &&& (3 : Int32))), .val (.long kc), .second, .val (.int (1 : Int32)), .val (.int (1 : Int32)), .val (.int xa), .val (.int xb), .val (.ref so3), .val (.ref so4), .val (.ref so5), .val (.ref b6), .val (.int xa), .val (.int xa), .val (.int (1 : Int32))]) rfl k) ?_
              refine gs (mkF m 249 _ [(.int (1 : Int32))]) (fun T A t k => XS.iload A B.x rfl (B.d at_247) rfl k) ?_
              refine gs (mkF m 252 _ []) (fun T A t k => XS.ifNo A B.x rfl (B.d at_249) rfl ((if0 _ _).trans (feq (by decide : ¬ ((1 : Int32) = (0 : Int32)))).1) k) ?_
              refine gs (mkF m 254 _ [(.ref b6)]) (fun T A t k => XS.aload A B.x rfl (B.d at_252) rfl rfl k) ?_
              refine gs (mkF m 256 _ [(.ref so3), (.ref b6)]) (fun T A t k => XS.aload A B.x rfl (B.d at_254) rfl rfl k) ?_
              refine g_metN (c_virt B (((A6.keep K7).keep K42).keep K43) (hw _ (List.mem_of_getElem? (i := 115) rfl)) (hw _ (List.mem_of_getElem? (i := 116) rfl)) (hw _ (List.mem_of_getElem? (i := 118) rfl)) (hw _ (List.mem_of_getElem? (i := 117) rfl)) (nfs (z := (⟨"com/example/rateledger/rateledger/io/LoanNumberMap", "get", "(Ljava/lang/String;)I"⟩ : MethodName)) (hw _ (List.mem_of_getElem? (i := 118) rfl))) (by decide) rfl (lenOf pd_28Ljava2flang2fString3b29I rfl) rfl (Nat.le_of_eq rfl) at_256 rfl (argsL := [(.ref so3)]) (rest := []) (W := 0) (q := 259)) (own_getk l Z a0 hw hEL b6 so3 zc fm b7a b7b (L1 ka) (V1 ka xa) sz43 ka t3 h43 n0 M43 (by simp [L1, L0]) (by simp [V1, V0]) (ok_L1 (k := ka)) ((((((X3.keep K4 ⟨nin0, nin0⟩).keep K5 ⟨nin0, nin0⟩).ext E6).keep K7 ⟨(ninS (by omega : @Ne Nat so3 b6) nin0), (ninS (by omega : @Ne Nat t3 b6) nin0)⟩).keep K42 ⟨(ninS (by omega : @Ne Nat so3 b6) (ninS (by omega : @Ne Nat so3 b7a) (ninS (by omega : @Ne Nat so3 b7b) nin0))), (ninS (by omega : @Ne Nat t3 b6) (ninS (by omega : @Ne Nat t3 b7a) (ninS (by omega : @Ne Nat t3 b7b) nin0)))⟩).keep K43 ⟨(ninS (by omega : @Ne Nat so3 b6) (ninS (by omega : @Ne Nat so3 b7a) (ninS (by omega : @Ne Nat so3 b7b) nin0))), (ninS (by omega : @Ne Nat t3 b6) (ninS (by omega : @Ne Nat t3 b7a) (ninS (by omega : @Ne Nat t3 b7b) nin0)))⟩) hka.1 hka.2 (((((((PO.keep K3 all0).keep K4 all0).keep K5 all0).ext E6).keep K7 (allS (by omega) all0)).keep K42 (allS (by omega) (allS (by omega) (allS (by omega) all0)))).keep K43 (allS (by omega) (allS (by omega) (allS (by omega) all0)))) SC hzc SF rf) (hw _ (List.mem_of_getElem? (i := 119) rfl)) (hw _ (List.mem_of_getElem? (i := 43) rfl)) (by decide) (by decide) (by decide) (by decide) ?_
              intro v47 h47 hz47 hQ47
              obtain ⟨rfl, rfl⟩ := hQ47
              refine gs (mkF m 261 _ [(.int xa), (.int (getF (L1 ka) (V1 ka xa) ka))]) (fun T A t k => XS.iload A B.x rfl (B.d at_259) rfl k) ?_
              have hg48 : (getF (L1 ka) (V1 ka xa) ka) = xa := by rw [get_L1 hka.1 hka.1, if_pos rfl]
              refine gs (mkF m 264 _ []) (fun T A t k => XS.icmpNo A B.x rfl (B.d at_261) rfl (teq (hg48 : (getF (L1 ka) (V1 ka xa) ka) = xa)).2 k) ?_
              refine gs (mkF m 265 _ [(.int (1 : Int32))]) (fun T A t k => XS.iconst A B.x rfl (B.d at_264) k) ?_
              refine gs (mkF m 269 _ [(.int (1 : Int32))]) (fun T A t k => XS.goto A B.x rfl (pc0 := 265) (pc' := 269) rfl (B.d at_265) (by decide) (by decide) k) ?_
              exact g_retN (t := .boolean) B (by simp) at_269 (by decide) (by decide) rfl
            · refine gs (mkF m 170 _ []) (fun T A t k => XS.ifYes A B.x rfl (pc0 := 160) (pc' := 170) rfl (B.d at_160) rfl ((if0 _ _).trans (feq (hq44 : ¬ ((lcmpW kc ka) = (0 : Int32)))).2) (by decide) (by decide) k) ?_
              have Ehq44 : ¬ kc = ka := fun z => hq44 (lc0.mpr z)
              refine gs (mkF m 172 _ [(.int (1 : Int32))]) (fun T A t k => XS.iload A B.x rfl (B.d at_170) rfl k) ?_
              refine gs (mkF m 175 _ []) (fun T A t k => XS.ifNo A B.x rfl (B.d at_172) rfl ((if0 _ _).trans (feq (by decide : ¬ ((1 : Int32) = (0 : Int32)))).1) k) ?_
              refine gs (mkF m 177 _ [(.long kc)]) (fun T A t k => XS.lload A B.x rfl (B.d at_175) rfl k) ?_
              refine gs (mkF m 179 _ [(.long kb), (.long kc)]) (fun T A t k => XS.lload A B.x rfl (B.d at_177) rfl k) ?_
              refine gs (mkF m 180 _ [(.int (lcmpW kc kb))]) (fun T A t k => XS.lcmp A B.x rfl (B.d at_179) rfl k) ?_
              by_cases hq49 : (lcmpW kc kb) = (0 : Int32)
              · refine gs (mkF m 183 _ []) (fun T A t k => XS.ifNo A B.x rfl (B.d at_180) rfl ((if0 _ _).trans (teq (hq49 : (lcmpW kc kb) = (0 : Int32))).2) k) ?_
                have Ehq49 : kc = kb := lc0.mp hq49
                exact absurd (Ehq49.trans hba) Ehq44
              · refine gs (mkF m 190 _ []) (fun T A t k => XS.ifYes A B.x rfl (pc0 := 180) (pc' := 190) rfl (B.d at_180) rfl ((if0 _ _).trans (feq (hq49 : ¬ ((lcmpW kc kb) = (0 : Int32)))).2) (by decide) (by decide) k) ?_
                have Ehq49 : ¬ kc = kb := fun z => hq49 (lc0.mpr z)
                refine gs (mkF m 191 _ [(.int (-1 : Int32))]) (fun T A t k => XS.iconst A B.x rfl (B.d at_190) k) ?_
                refine gs (mkF m 193 #[.val (.long q1), .second, .val (.long q2), .second, .val (.long q3), .second, .val (.int x4), .val (.int x5), .val (.int x6), .val (.long ka), .second, .val (.long kb), .second, .val (.int (((x6.toUInt32 >>> ((2 : Int32) &&& 31).toUInt32).toInt32) &&& (3 : Int32))), .val (.long kc), .second, .val (.int (1 : Int32)), .val (.int (1 : Int32)), .val (.int xa), .val (.int xb), .val (.ref so3), .val (.ref so4), .val (.ref so5), .val (.ref b6), .val (.int (-1 : Int32)), .unset, .unset] []) (fun T A t k => XS.istore A B.x rfl (B.d at_191) rfl (l' := #[.val (.long q1), .second, .val (.long q2), .second, .val (.long q3), .second, .val (.int x4), .val (.int x5), .val (.int x6), .val (.long ka), .second, .val (.long kb), .second, .val (.int (((x6.toUInt32 >>> ((2 : Int32) &&& 31).toUInt32).toInt32) &&& (3 : Int32))), .val (.long kc), .second, .val (.int (1 : Int32)), .val (.int (1 : Int32)), .val (.int xa), .val (.int xb), .val (.ref so3), .val (.ref so4), .val (.ref so5), .val (.ref b6), .val (.int (-1 : Int32)), .unset, .unset]) rfl k) ?_
                refine gs (mkF m 195 _ [(.int (1 : Int32))]) (fun T A t k => XS.iload A B.x rfl (B.d at_193) rfl k) ?_
                refine gs (mkF m 198 _ []) (fun T A t k => XS.ifNo A B.x rfl (B.d at_195) rfl ((if0 _ _).trans (feq (by decide : ¬ ((1 : Int32) = (0 : Int32)))).1) k) ?_
                refine gs (mkF m 200 _ [(.int xa)]) (fun T A t k => XS.iload A B.x rfl (B.d at_198) rfl k) ?_
                refine gs (mkF m 202 #[.val (.long q1), .second, .val (.long q2), .second, .val (.long q3), .second, .val (.int x4), .val (.int x5), .val (.int x6), .val (.long ka), .second, .val (.long kb), .second, .val (.int (((x6.toUInt32 >>> ((2 : Int32) &&& 31).toUInt32).toInt32) &&& (3 : Int32))), .val (.long kc), .second, .val (.int (1 : Int32)), .val (.int (1 : Int32)), .val (.int xa), .val (.int xb), .val (.ref so3), .val (.ref so4), .val (.ref so5), .val (.ref b6), .val (.int (-1 : Int32)), .val (.int xa), .unset] []) (fun T A t k => XS.istore A B.x rfl (B.d at_200) rfl (l' := #[.val (.long q1), .second, .val (.long q2), .second, .val (.long q3), .second, .val (.int x4), .val (.int x5), .val (.int x6), .val (.long ka), .second, .val (.long kb), .second, .val (.int (((x6.toUInt32 >>> ((2 : Int32) &&& 31).toUInt32).toInt32) &&& (3 : Int32))), .val (.long kc), .second, .val (.int (1 : Int32)), .val (.int (1 : Int32)), .val (.int xa), .val (.int xb), .val (.ref so3), .val (.ref so4), .val (.ref so5), .val (.ref b6), .val (.int (-1 : Int32)), .val (.int xa), .unset]) rfl k) ?_
                refine gs (mkF m 228 _ []) (fun T A t k => XS.goto A B.x rfl (pc0 := 202) (pc' := 228) rfl (B.d at_202) (by decide) (by decide) k) ?_
                refine gs (mkF m 230 _ [(.ref b6)]) (fun T A t k => XS.aload A B.x rfl (B.d at_228) rfl rfl k) ?_
                refine gs (mkF m 232 _ [(.ref so5), (.ref b6)]) (fun T A t k => XS.aload A B.x rfl (B.d at_230) rfl rfl k) ?_
                refine g_metN (c_virt B (((A6.keep K7).keep K42).keep K43) (hw _ (List.mem_of_getElem? (i := 115) rfl)) (hw _ (List.mem_of_getElem? (i := 116) rfl)) (hw _ (List.mem_of_getElem? (i := 118) rfl)) (hw _ (List.mem_of_getElem? (i := 117) rfl)) (nfs (z := (⟨"com/example/rateledger/rateledger/io/LoanNumberMap", "get", "(Ljava/lang/String;)I"⟩ : MethodName)) (hw _ (List.mem_of_getElem? (i := 118) rfl))) (by decide) rfl (lenOf pd_28Ljava2flang2fString3b29I rfl) rfl (Nat.le_of_eq rfl) at_232 rfl (argsL := [(.ref so5)]) (rest := []) (W := 0) (q := 235)) (own_getk l Z a0 hw hEL b6 so5 zc fm b7a b7b (L1 ka) (V1 ka xa) sz43 kc t5 h43 n0 M43 (by simp [L1, L0]) (by simp [V1, V0]) (ok_L1 (k := kc)) ((((X5.ext E6).keep K7 ⟨(ninS (by omega : @Ne Nat so5 b6) nin0), (ninS (by omega : @Ne Nat t5 b6) nin0)⟩).keep K42 ⟨(ninS (by omega : @Ne Nat so5 b6) (ninS (by omega : @Ne Nat so5 b7a) (ninS (by omega : @Ne Nat so5 b7b) nin0))), (ninS (by omega : @Ne Nat t5 b6) (ninS (by omega : @Ne Nat t5 b7a) (ninS (by omega : @Ne Nat t5 b7b) nin0)))⟩).keep K43 ⟨(ninS (by omega : @Ne Nat so5 b6) (ninS (by omega : @Ne Nat so5 b7a) (ninS (by omega : @Ne Nat so5 b7b) nin0))), (ninS (by omega : @Ne Nat t5 b6) (ninS (by omega : @Ne Nat t5 b7a) (ninS (by omega : @Ne Nat t5 b7b) nin0)))⟩) hkc.1 hkc.2 (((((((PO.keep K3 all0).keep K4 all0).keep K5 all0).ext E6).keep K7 (allS (by omega) all0)).keep K42 (allS (by omega) (allS (by omega) (allS (by omega) all0)))).keep K43 (allS (by omega) (allS (by omega) (allS (by omega) all0)))) SC hzc SF rf) (hw _ (List.mem_of_getElem? (i := 119) rfl)) (hw _ (List.mem_of_getElem? (i := 43) rfl)) (by decide) (by decide) (by decide) (by decide) ?_
                intro v50 h50 hz50 hQ50
                obtain ⟨rfl, rfl⟩ := hQ50
                refine gs (mkF m 237 _ [(.int (-1 : Int32)), (.int (getF (L1 ka) (V1 ka xa) kc))]) (fun T A t k => XS.iload A B.x rfl (B.d at_235) rfl k) ?_
                have hg51 : (getF (L1 ka) (V1 ka xa) kc) = (-1 : Int32) := by rw [get_L1 hka.1 hkc.1, if_neg Ehq44]
                refine gs (mkF m 240 _ []) (fun T A t k => XS.icmpNo A B.x rfl (B.d at_237) rfl (teq (hg51 : (getF (L1 ka) (V1 ka xa) kc) = (-1 : Int32))).2 k) ?_
                refine gs (mkF m 241 _ [(.int (1 : Int32))]) (fun T A t k => XS.iconst A B.x rfl (B.d at_240) k) ?_
                refine gs (mkF m 245 _ [(.int (1 : Int32))]) (fun T A t k => XS.goto A B.x rfl (pc0 := 241) (pc' := 245) rfl (B.d at_241) (by decide) (by decide) k) ?_
                refine gs (mkF m 247 #[.val (.long q1), .second, .val (.long q2), .second, .val (.long q3), .second, .val (.int x4), .val (.int x5), .val (.int x6), .val (.long ka), .second, .val (.long kb), .second, .val (.int (((x6.toUInt32 >>> ((2 : Int32) &&& 31).toUInt32).toInt32) &&& (3 : Int32))), .val (.long kc), .second, .val (.int (1 : Int32)), .val (.int (1 : Int32)), .val (.int xa), .val (.int xb), .val (.ref so3), .val (.ref so4), .val (.ref so5), .val (.ref b6), .val (.int (-1 : Int32)), .val (.int xa), .val (.int (1 : Int32))] []) (fun T A t k => XS.istore A B.x rfl (B.d at_245) rfl (l' := #[.val (.long q1), .second, .val (.long q2), .second, .val (.long q3), .second, .val (.int x4), .val (.int x5), .val (.int x6), .val (.long ka), .second, .val (.long kb), .second, .val (.int (((x6.toUInt32 >>> ((2 : Int32) &&& 31).toUInt32).toInt32) &&& (3 : Int32))), .val (.long kc), .second, .val (.int (1 : Int32)), .val (.int (1 : Int32)), .val (.int xa), .val (.int xb), .val (.ref so3), .val (.ref so4), .val (.ref so5), .val (.ref b6), .val (.int (-1 : Int32)), .val (.int xa), .val (.int (1 : Int32))]) rfl k) ?_
                refine gs (mkF m 249 _ [(.int (1 : Int32))]) (fun T A t k => XS.iload A B.x rfl (B.d at_247) rfl k) ?_
                refine gs (mkF m 252 _ []) (fun T A t k => XS.ifNo A B.x rfl (B.d at_249) rfl ((if0 _ _).trans (feq (by decide : ¬ ((1 : Int32) = (0 : Int32)))).1) k) ?_
                refine gs (mkF m 254 _ [(.ref b6)]) (fun T A t k => XS.aload A B.x rfl (B.d at_252) rfl rfl k) ?_
                refine gs (mkF m 256 _ [(.ref so3), (.ref b6)]) (fun T A t k => XS.aload A B.x rfl (B.d at_254) rfl rfl k) ?_
                refine g_metN (c_virt B (((A6.keep K7).keep K42).keep K43) (hw _ (List.mem_of_getElem? (i := 115) rfl)) (hw _ (List.mem_of_getElem? (i := 116) rfl)) (hw _ (List.mem_of_getElem? (i := 118) rfl)) (hw _ (List.mem_of_getElem? (i := 117) rfl)) (nfs (z := (⟨"com/example/rateledger/rateledger/io/LoanNumberMap", "get", "(Ljava/lang/String;)I"⟩ : MethodName)) (hw _ (List.mem_of_getElem? (i := 118) rfl))) (by decide) rfl (lenOf pd_28Ljava2flang2fString3b29I rfl) rfl (Nat.le_of_eq rfl) at_256 rfl (argsL := [(.ref so3)]) (rest := []) (W := 0) (q := 259)) (own_getk l Z a0 hw hEL b6 so3 zc fm b7a b7b (L1 ka) (V1 ka xa) sz43 ka t3 h43 n0 M43 (by simp [L1, L0]) (by simp [V1, V0]) (ok_L1 (k := ka)) ((((((X3.keep K4 ⟨nin0, nin0⟩).keep K5 ⟨nin0, nin0⟩).ext E6).keep K7 ⟨(ninS (by omega : @Ne Nat so3 b6) nin0), (ninS (by omega : @Ne Nat t3 b6) nin0)⟩).keep K42 ⟨(ninS (by omega : @Ne Nat so3 b6) (ninS (by omega : @Ne Nat so3 b7a) (ninS (by omega : @Ne Nat so3 b7b) nin0))), (ninS (by omega : @Ne Nat t3 b6) (ninS (by omega : @Ne Nat t3 b7a) (ninS (by omega : @Ne Nat t3 b7b) nin0)))⟩).keep K43 ⟨(ninS (by omega : @Ne Nat so3 b6) (ninS (by omega : @Ne Nat so3 b7a) (ninS (by omega : @Ne Nat so3 b7b) nin0))), (ninS (by omega : @Ne Nat t3 b6) (ninS (by omega : @Ne Nat t3 b7a) (ninS (by omega : @Ne Nat t3 b7b) nin0)))⟩) hka.1 hka.2 (((((((PO.keep K3 all0).keep K4 all0).keep K5 all0).ext E6).keep K7 (allS (by omega) all0)).keep K42 (allS (by omega) (allS (by omega) (allS (by omega) all0)))).keep K43 (allS (by omega) (allS (by omega) (allS (by omega) all0)))) SC hzc SF rf) (hw _ (List.mem_of_getElem? (i := 119) rfl)) (hw _ (List.mem_of_getElem? (i := 43) rfl)) (by decide) (by decide) (by decide) (by decide) ?_
                intro v52 h52 hz52 hQ52
                obtain ⟨rfl, rfl⟩ := hQ52
                refine gs (mkF m 261 _ [(.int xa), (.int (getF (L1 ka) (V1 ka xa) ka))]) (fun T A t k => XS.iload A B.x rfl (B.d at_259) rfl k) ?_
                have hg53 : (getF (L1 ka) (V1 ka xa) ka) = xa := by rw [get_L1 hka.1 hka.1, if_pos rfl]
                refine gs (mkF m 264 _ []) (fun T A t k => XS.icmpNo A B.x rfl (B.d at_261) rfl (teq (hg53 : (getF (L1 ka) (V1 ka xa) ka) = xa)).2 k) ?_
                refine gs (mkF m 265 _ [(.int (1 : Int32))]) (fun T A t k => XS.iconst A B.x rfl (B.d at_264) k) ?_
                refine gs (mkF m 269 _ [(.int (1 : Int32))]) (fun T A t k => XS.goto A B.x rfl (pc0 := 265) (pc' := 269) rfl (B.d at_265) (by decide) (by decide) k) ?_
                exact g_retN (t := .boolean) B (by simp) at_269 (by decide) (by decide) rfl
          · rw [putL_L1 hka.1 hkb.1 hba, putV_L1 hka.1 hkb.1 hba] at M43
            refine gs (mkF m 152 _ [(.int (1 : Int32))]) (fun T A t k => XS.iload A B.x rfl (B.d at_150) rfl k) ?_
            refine gs (mkF m 155 _ []) (fun T A t k => XS.ifNo A B.x rfl (B.d at_152) rfl ((if0 _ _).trans (feq (by decide : ¬ ((1 : Int32) = (0 : Int32)))).1) k) ?_
            refine gs (mkF m 157 _ [(.long kc)]) (fun T A t k => XS.lload A B.x rfl (B.d at_155) rfl k) ?_
            refine gs (mkF m 159 _ [(.long ka), (.long kc)]) (fun T A t k => XS.lload A B.x rfl (B.d at_157) rfl k) ?_
            refine gs (mkF m 160 _ [(.int (lcmpW kc ka))]) (fun T A t k => XS.lcmp A B.x rfl (B.d at_159) rfl k) ?_
            by_cases hq54 : (lcmpW kc ka) = (0 : Int32)
            · refine gs (mkF m 163 _ []) (fun T A t k => XS.ifNo A B.x rfl (B.d at_160) rfl ((if0 _ _).trans (teq (hq54 : (lcmpW kc ka) = (0 : Int32))).2) k) ?_
              have Ehq54 : kc = ka := lc0.mp hq54
              refine gs (mkF m 165 _ [(.int xa)]) (fun T A t k => XS.iload A B.x rfl (B.d at_163) rfl k) ?_
              refine gs (mkF m 167 #[.val (.long q1), .second, .val (.long q2), .second, .val (.long q3), .second, .val (.int x4), .val (.int x5), .val (.int x6), .val (.long ka), .second, .val (.long kb), .second, .val (.int (((x6.toUInt32 >>> ((2 : Int32) &&& 31).toUInt32).toInt32) &&& (3 : Int32))), .val (.long kc), .second, .val (.int (1 : Int32)), .val (.int (1 : Int32)), .val (.int xa), .val (.int xb), .val (.ref so3), .val (.ref so4), .val (.ref so5), .val (.ref b6), .val (.int xa), .unset, .unset] []) (fun T A t k => XS.istore A B.x rfl (B.d at_165) rfl (l' := #[.val (.long q1), .second, .val (.long q2), .second, .val (.long q3), .second, .val (.int x4), .val (.int x5), .val (.int x6), .val (.long ka), .second, .val (.long kb), .second, .val (.int (((x6.toUInt32 >>> ((2 : Int32) &&& 31).toUInt32).toInt32) &&& (3 : Int32))), .val (.long kc), .second, .val (.int (1 : Int32)), .val (.int (1 : Int32)), .val (.int xa), .val (.int xb), .val (.ref so3), .val (.ref so4), .val (.ref so5), .val (.ref b6), .val (.int xa), .unset, .unset]) rfl k) ?_
              refine gs (mkF m 193 _ []) (fun T A t k => XS.goto A B.x rfl (pc0 := 167) (pc' := 193) rfl (B.d at_167) (by decide) (by decide) k) ?_
              refine gs (mkF m 195 _ [(.int (1 : Int32))]) (fun T A t k => XS.iload A B.x rfl (B.d at_193) rfl k) ?_
              refine gs (mkF m 198 _ []) (fun T A t k => XS.ifNo A B.x rfl (B.d at_195) rfl ((if0 _ _).trans (feq (by decide : ¬ ((1 : Int32) = (0 : Int32)))).1) k) ?_
              refine gs (mkF m 200 _ [(.int xa)]) (fun T A t k => XS.iload A B.x rfl (B.d at_198) rfl k) ?_
              refine gs (mkF m 202 #[.val (.long q1), .second, .val (.long q2), .second, .val (.long q3), .second, .val (.int x4), .val (.int x5), .val (.int x6), .val (.long ka), .second, .val (.long kb), .second, .val (.int (((x6.toUInt32 >>> ((2 : Int32) &&& 31).toUInt32).toInt32) &&& (3 : Int32))), .val (.long kc), .second, .val (.int (1 : Int32)), .val (.int (1 : Int32)), .val (.int xa), .val (.int xb), .val (.ref so3), .val (.ref so4), .val (.ref so5), .val (.ref b6), .val (.int xa), .val (.int xa), .unset] []) (fun T A t k => XS.istore A B.x rfl (B.d at_200) rfl (l' := #[.val (.long q1), .second, .val (.long q2), .second, .val (.long q3), .second, .val (.int x4), .val (.int x5), .val (.int x6), .val (.long ka), .second, .val (.long kb), .second, .val (.int (((x6.toUInt32 >>> ((2 : Int32) &&& 31).toUInt32).toInt32) &&& (3 : Int32))), .val (.long kc), .second, .val (.int (1 : Int32)), .val (.int (1 : Int32)), .val (.int xa), .val (.int xb), .val (.ref so3), .val (.ref so4), .val (.ref so5), .val (.ref b6), .val (.int xa), .val (.int xa), .unset]) rfl k) ?_
              refine gs (mkF m 228 _ []) (fun T A t k => XS.goto A B.x rfl (pc0 := 202) (pc' := 228) rfl (B.d at_202) (by decide) (by decide) k) ?_
              refine gs (mkF m 230 _ [(.ref b6)]) (fun T A t k => XS.aload A B.x rfl (B.d at_228) rfl rfl k) ?_
              refine gs (mkF m 232 _ [(.ref so5), (.ref b6)]) (fun T A t k => XS.aload A B.x rfl (B.d at_230) rfl rfl k) ?_
              refine g_metN (c_virt B (((A6.keep K7).keep K42).keep K43) (hw _ (List.mem_of_getElem? (i := 115) rfl)) (hw _ (List.mem_of_getElem? (i := 116) rfl)) (hw _ (List.mem_of_getElem? (i := 118) rfl)) (hw _ (List.mem_of_getElem? (i := 117) rfl)) (nfs (z := (⟨"com/example/rateledger/rateledger/io/LoanNumberMap", "get", "(Ljava/lang/String;)I"⟩ : MethodName)) (hw _ (List.mem_of_getElem? (i := 118) rfl))) (by decide) rfl (lenOf pd_28Ljava2flang2fString3b29I rfl) rfl (Nat.le_of_eq rfl) at_232 rfl (argsL := [(.ref so5)]) (rest := []) (W := 0) (q := 235)) (own_getk l Z a0 hw hEL b6 so5 zc fm b7a b7b (L2 ka kb) (V2 ka kb xa xb) sz43 kc t5 h43 n0 M43 (by simp [L2, L1, L0]) (by simp [V2, V1, V0]) (ok_L2 kc) ((((X5.ext E6).keep K7 ⟨(ninS (by omega : @Ne Nat so5 b6) nin0), (ninS (by omega : @Ne Nat t5 b6) nin0)⟩).keep K42 ⟨(ninS (by omega : @Ne Nat so5 b6) (ninS (by omega : @Ne Nat so5 b7a) (ninS (by omega : @Ne Nat so5 b7b) nin0))), (ninS (by omega : @Ne Nat t5 b6) (ninS (by omega : @Ne Nat t5 b7a) (ninS (by omega : @Ne Nat t5 b7b) nin0)))⟩).keep K43 ⟨(ninS (by omega : @Ne Nat so5 b6) (ninS (by omega : @Ne Nat so5 b7a) (ninS (by omega : @Ne Nat so5 b7b) nin0))), (ninS (by omega : @Ne Nat t5 b6) (ninS (by omega : @Ne Nat t5 b7a) (ninS (by omega : @Ne Nat t5 b7b) nin0)))⟩) hkc.1 hkc.2 (((((((PO.keep K3 all0).keep K4 all0).keep K5 all0).ext E6).keep K7 (allS (by omega) all0)).keep K42 (allS (by omega) (allS (by omega) (allS (by omega) all0)))).keep K43 (allS (by omega) (allS (by omega) (allS (by omega) all0)))) SC hzc SF rf) (hw _ (List.mem_of_getElem? (i := 119) rfl)) (hw _ (List.mem_of_getElem? (i := 43) rfl)) (by decide) (by decide) (by decide) (by decide) ?_
              intro v55 h55 hz55 hQ55
              obtain ⟨rfl, rfl⟩ := hQ55
              refine gs (mkF m 237 _ [(.int xa), (.int (getF (L2 ka kb) (V2 ka kb xa xb) kc))]) (fun T A t k => XS.iload A B.x rfl (B.d at_235) rfl k) ?_
              have hg56 : (getF (L2 ka kb) (V2 ka kb xa xb) kc) = xa := by rw [get_L2 hka.1 hkb.1 hkc.1 hba, if_pos Ehq54]
              refine gs (mkF m 240 _ []) (fun T A t k => XS.icmpNo A B.x rfl (B.d at_237) rfl (teq (hg56 : (getF (L2 ka kb) (V2 ka kb xa xb) kc) = xa)).2 k) ?_
              refine gs (mkF m 241 _ [(.int (1 : Int32))]) (fun T A t k => XS.iconst A B.x rfl (B.d at_240) k) ?_
              refine gs (mkF m 245 _ [(.int (1 : Int32))]) (fun T A t k => XS.goto A B.x rfl (pc0 := 241) (pc' := 245) rfl (B.d at_241) (by decide) (by decide) k) ?_
              refine gs (mkF m 247 #[.val (.long q1), .second, .val (.long q2), .second, .val (.long q3), .second, .val (.int x4), .val (.int x5), .val (.int x6), .val (.long ka), .second, .val (.long kb), .second, .val (.int (((x6.toUInt32 >>> ((2 : Int32) &&& 31).toUInt32).toInt32) &&& (3 : Int32))), .val (.long kc), .second, .val (.int (1 : Int32)), .val (.int (1 : Int32)), .val (.int xa), .val (.int xb), .val (.ref so3), .val (.ref so4), .val (.ref so5), .val (.ref b6), .val (.int xa), .val (.int xa), .val (.int (1 : Int32))] []) (fun T A t k => XS.istore A B.x rfl (B.d at_245) rfl (l' := #[.val (.long q1), .second, .val (.long q2), .second, .val (.long q3), .second, .val (.int x4), .val (.int x5), .val (.int x6), .val (.long ka), .second, .val (.long kb), .second, .val (.int (((x6.toUInt32 >>> ((2 : Int32) &&& 31).toUInt32).toInt32) &&& (3 : Int32))), .val (.long kc), .second, .val (.int (1 : Int32)), .val (.int (1 : Int32)), .val (.int xa), .val (.int xb), .val (.ref so3), .val (.ref so4), .val (.ref so5), .val (.ref b6), .val (.int xa), .val (.int xa), .val (.int (1 : Int32))]) rfl k) ?_
              refine gs (mkF m 249 _ [(.int (1 : Int32))]) (fun T A t k => XS.iload A B.x rfl (B.d at_247) rfl k) ?_
              refine gs (mkF m 252 _ []) (fun T A t k => XS.ifNo A B.x rfl (B.d at_249) rfl ((if0 _ _).trans (feq (by decide : ¬ ((1 : Int32) = (0 : Int32)))).1) k) ?_
              refine gs (mkF m 254 _ [(.ref b6)]) (fun T A t k => XS.aload A B.x rfl (B.d at_252) rfl rfl k) ?_
              refine gs (mkF m 256 _ [(.ref so3), (.ref b6)]) (fun T A t k => XS.aload A B.x rfl (B.d at_254) rfl rfl k) ?_
              refine g_metN (c_virt B (((A6.keep K7).keep K42).keep K43) (hw _ (List.mem_of_getElem? (i := 115) rfl)) (hw _ (List.mem_of_getElem? (i := 116) rfl)) (hw _ (List.mem_of_getElem? (i := 118) rfl)) (hw _ (List.mem_of_getElem? (i := 117) rfl)) (nfs (z := (⟨"com/example/rateledger/rateledger/io/LoanNumberMap", "get", "(Ljava/lang/String;)I"⟩ : MethodName)) (hw _ (List.mem_of_getElem? (i := 118) rfl))) (by decide) rfl (lenOf pd_28Ljava2flang2fString3b29I rfl) rfl (Nat.le_of_eq rfl) at_256 rfl (argsL := [(.ref so3)]) (rest := []) (W := 0) (q := 259)) (own_getk l Z a0 hw hEL b6 so3 zc fm b7a b7b (L2 ka kb) (V2 ka kb xa xb) sz43 ka t3 h43 n0 M43 (by simp [L2, L1, L0]) (by simp [V2, V1, V0]) (ok_L2 ka) ((((((X3.keep K4 ⟨nin0, nin0⟩).keep K5 ⟨nin0, nin0⟩).ext E6).keep K7 ⟨(ninS (by omega : @Ne Nat so3 b6) nin0), (ninS (by omega : @Ne Nat t3 b6) nin0)⟩).keep K42 ⟨(ninS (by omega : @Ne Nat so3 b6) (ninS (by omega : @Ne Nat so3 b7a) (ninS (by omega : @Ne Nat so3 b7b) nin0))), (ninS (by omega : @Ne Nat t3 b6) (ninS (by omega : @Ne Nat t3 b7a) (ninS (by omega : @Ne Nat t3 b7b) nin0)))⟩).keep K43 ⟨(ninS (by omega : @Ne Nat so3 b6) (ninS (by omega : @Ne Nat so3 b7a) (ninS (by omega : @Ne Nat so3 b7b) nin0))), (ninS (by omega : @Ne Nat t3 b6) (ninS (by omega : @Ne Nat t3 b7a) (ninS (by omega : @Ne Nat t3 b7b) nin0)))⟩) hka.1 hka.2 (((((((PO.keep K3 all0).keep K4 all0).keep K5 all0).ext E6).keep K7 (allS (by omega) all0)).keep K42 (allS (by omega) (allS (by omega) (allS (by omega) all0)))).keep K43 (allS (by omega) (allS (by omega) (allS (by omega) all0)))) SC hzc SF rf) (hw _ (List.mem_of_getElem? (i := 119) rfl)) (hw _ (List.mem_of_getElem? (i := 43) rfl)) (by decide) (by decide) (by decide) (by decide) ?_
              intro v57 h57 hz57 hQ57
              obtain ⟨rfl, rfl⟩ := hQ57
              refine gs (mkF m 261 _ [(.int xa), (.int (getF (L2 ka kb) (V2 ka kb xa xb) ka))]) (fun T A t k => XS.iload A B.x rfl (B.d at_259) rfl k) ?_
              have hg58 : (getF (L2 ka kb) (V2 ka kb xa xb) ka) = xa := by rw [get_L2 hka.1 hkb.1 hka.1 hba, if_pos rfl]
              refine gs (mkF m 264 _ []) (fun T A t k => XS.icmpNo A B.x rfl (B.d at_261) rfl (teq (hg58 : (getF (L2 ka kb) (V2 ka kb xa xb) ka) = xa)).2 k) ?_
              refine gs (mkF m 265 _ [(.int (1 : Int32))]) (fun T A t k => XS.iconst A B.x rfl (B.d at_264) k) ?_
              refine gs (mkF m 269 _ [(.int (1 : Int32))]) (fun T A t k => XS.goto A B.x rfl (pc0 := 265) (pc' := 269) rfl (B.d at_265) (by decide) (by decide) k) ?_
              exact g_retN (t := .boolean) B (by simp) at_269 (by decide) (by decide) rfl
            · refine gs (mkF m 170 _ []) (fun T A t k => XS.ifYes A B.x rfl (pc0 := 160) (pc' := 170) rfl (B.d at_160) rfl ((if0 _ _).trans (feq (hq54 : ¬ ((lcmpW kc ka) = (0 : Int32)))).2) (by decide) (by decide) k) ?_
              have Ehq54 : ¬ kc = ka := fun z => hq54 (lc0.mpr z)
              refine gs (mkF m 172 _ [(.int (1 : Int32))]) (fun T A t k => XS.iload A B.x rfl (B.d at_170) rfl k) ?_
              refine gs (mkF m 175 _ []) (fun T A t k => XS.ifNo A B.x rfl (B.d at_172) rfl ((if0 _ _).trans (feq (by decide : ¬ ((1 : Int32) = (0 : Int32)))).1) k) ?_
              refine gs (mkF m 177 _ [(.long kc)]) (fun T A t k => XS.lload A B.x rfl (B.d at_175) rfl k) ?_
              refine gs (mkF m 179 _ [(.long kb), (.long kc)]) (fun T A t k => XS.lload A B.x rfl (B.d at_177) rfl k) ?_
              refine gs (mkF m 180 _ [(.int (lcmpW kc kb))]) (fun T A t k => XS.lcmp A B.x rfl (B.d at_179) rfl k) ?_
              by_cases hq59 : (lcmpW kc kb) = (0 : Int32)
              · refine gs (mkF m 183 _ []) (fun T A t k => XS.ifNo A B.x rfl (B.d at_180) rfl ((if0 _ _).trans (teq (hq59 : (lcmpW kc kb) = (0 : Int32))).2) k) ?_
                have Ehq59 : kc = kb := lc0.mp hq59
                refine gs (mkF m 185 _ [(.int xb)]) (fun T A t k => XS.iload A B.x rfl (B.d at_183) rfl k) ?_
                refine gs (mkF m 187 #[.val (.long q1), .second, .val (.long q2), .second, .val (.long q3), .second, .val (.int x4), .val (.int x5), .val (.int x6), .val (.long ka), .second, .val (.long kb), .second, .val (.int (((x6.toUInt32 >>> ((2 : Int32) &&& 31).toUInt32).toInt32) &&& (3 : Int32))), .val (.long kc), .second, .val (.int (1 : Int32)), .val (.int (1 : Int32)), .val (.int xa), .val (.int xb), .val (.ref so3), .val (.ref so4), .val (.ref so5), .val (.ref b6), .val (.int xb), .unset, .unset] []) (fun T A t k => XS.istore A B.x rfl (B.d at_185) rfl (l' := #[.val (.long q1), .second, .val (.long q2), .second, .val (.long q3), .second, .val (.int x4), .val (.int x5), .val (.int x6), .val (.long ka), .second, .val (.long kb), .second, .val (.int (((x6.toUInt32 >>> ((2 : Int32) &&& 31).toUInt32).toInt32) &&& (3 : Int32))), .val (.long kc), .second, .val (.int (1 : Int32)), .val (.int (1 : Int32)), .val (.int xa), .val (.int xb), .val (.ref so3), .val (.ref so4), .val (.ref so5), .val (.ref b6), .val (.int xb), .unset, .unset]) rfl k) ?_
                refine gs (mkF m 193 _ []) (fun T A t k => XS.goto A B.x rfl (pc0 := 187) (pc' := 193) rfl (B.d at_187) (by decide) (by decide) k) ?_
                refine gs (mkF m 195 _ [(.int (1 : Int32))]) (fun T A t k => XS.iload A B.x rfl (B.d at_193) rfl k) ?_
                refine gs (mkF m 198 _ []) (fun T A t k => XS.ifNo A B.x rfl (B.d at_195) rfl ((if0 _ _).trans (feq (by decide : ¬ ((1 : Int32) = (0 : Int32)))).1) k) ?_
                refine gs (mkF m 200 _ [(.int xa)]) (fun T A t k => XS.iload A B.x rfl (B.d at_198) rfl k) ?_
                refine gs (mkF m 202 #[.val (.long q1), .second, .val (.long q2), .second, .val (.long q3), .second, .val (.int x4), .val (.int x5), .val (.int x6), .val (.long ka), .second, .val (.long kb), .second, .val (.int (((x6.toUInt32 >>> ((2 : Int32) &&& 31).toUInt32).toInt32) &&& (3 : Int32))), .val (.long kc), .second, .val (.int (1 : Int32)), .val (.int (1 : Int32)), .val (.int xa), .val (.int xb), .val (.ref so3), .val (.ref so4), .val (.ref so5), .val (.ref b6), .val (.int xb), .val (.int xa), .unset] []) (fun T A t k => XS.istore A B.x rfl (B.d at_200) rfl (l' := #[.val (.long q1), .second, .val (.long q2), .second, .val (.long q3), .second, .val (.int x4), .val (.int x5), .val (.int x6), .val (.long ka), .second, .val (.long kb), .second, .val (.int (((x6.toUInt32 >>> ((2 : Int32) &&& 31).toUInt32).toInt32) &&& (3 : Int32))), .val (.long kc), .second, .val (.int (1 : Int32)), .val (.int (1 : Int32)), .val (.int xa), .val (.int xb), .val (.ref so3), .val (.ref so4), .val (.ref so5), .val (.ref b6), .val (.int xb), .val (.int xa), .unset]) rfl k) ?_
                refine gs (mkF m 228 _ []) (fun T A t k => XS.goto A B.x rfl (pc0 := 202) (pc' := 228) rfl (B.d at_202) (by decide) (by decide) k) ?_
                refine gs (mkF m 230 _ [(.ref b6)]) (fun T A t k => XS.aload A B.x rfl (B.d at_228) rfl rfl k) ?_
                refine gs (mkF m 232 _ [(.ref so5), (.ref b6)]) (fun T A t k => XS.aload A B.x rfl (B.d at_230) rfl rfl k) ?_
                refine g_metN (c_virt B (((A6.keep K7).keep K42).keep K43) (hw _ (List.mem_of_getElem? (i := 115) rfl)) (hw _ (List.mem_of_getElem? (i := 116) rfl)) (hw _ (List.mem_of_getElem? (i := 118) rfl)) (hw _ (List.mem_of_getElem? (i := 117) rfl)) (nfs (z := (⟨"com/example/rateledger/rateledger/io/LoanNumberMap", "get", "(Ljava/lang/String;)I"⟩ : MethodName)) (hw _ (List.mem_of_getElem? (i := 118) rfl))) (by decide) rfl (lenOf pd_28Ljava2flang2fString3b29I rfl) rfl (Nat.le_of_eq rfl) at_232 rfl (argsL := [(.ref so5)]) (rest := []) (W := 0) (q := 235)) (own_getk l Z a0 hw hEL b6 so5 zc fm b7a b7b (L2 ka kb) (V2 ka kb xa xb) sz43 kc t5 h43 n0 M43 (by simp [L2, L1, L0]) (by simp [V2, V1, V0]) (ok_L2 kc) ((((X5.ext E6).keep K7 ⟨(ninS (by omega : @Ne Nat so5 b6) nin0), (ninS (by omega : @Ne Nat t5 b6) nin0)⟩).keep K42 ⟨(ninS (by omega : @Ne Nat so5 b6) (ninS (by omega : @Ne Nat so5 b7a) (ninS (by omega : @Ne Nat so5 b7b) nin0))), (ninS (by omega : @Ne Nat t5 b6) (ninS (by omega : @Ne Nat t5 b7a) (ninS (by omega : @Ne Nat t5 b7b) nin0)))⟩).keep K43 ⟨(ninS (by omega : @Ne Nat so5 b6) (ninS (by omega : @Ne Nat so5 b7a) (ninS (by omega : @Ne Nat so5 b7b) nin0))), (ninS (by omega : @Ne Nat t5 b6) (ninS (by omega : @Ne Nat t5 b7a) (ninS (by omega : @Ne Nat t5 b7b) nin0)))⟩) hkc.1 hkc.2 (((((((PO.keep K3 all0).keep K4 all0).keep K5 all0).ext E6).keep K7 (allS (by omega) all0)).keep K42 (allS (by omega) (allS (by omega) (allS (by omega) all0)))).keep K43 (allS (by omega) (allS (by omega) (allS (by omega) all0)))) SC hzc SF rf) (hw _ (List.mem_of_getElem? (i := 119) rfl)) (hw _ (List.mem_of_getElem? (i := 43) rfl)) (by decide) (by decide) (by decide) (by decide) ?_
                intro v60 h60 hz60 hQ60
                obtain ⟨rfl, rfl⟩ := hQ60
                refine gs (mkF m 237 _ [(.int xb), (.int (getF (L2 ka kb) (V2 ka kb xa xb) kc))]) (fun T A t k => XS.iload A B.x rfl (B.d at_235) rfl k) ?_
                have hg61 : (getF (L2 ka kb) (V2 ka kb xa xb) kc) = xb := by rw [get_L2 hka.1 hkb.1 hkc.1 hba, if_neg Ehq54, if_pos Ehq59]
                refine gs (mkF m 240 _ []) (fun T A t k => XS.icmpNo A B.x rfl (B.d at_237) rfl (teq (hg61 : (getF (L2 ka kb) (V2 ka kb xa xb) kc) = xb)).2 k) ?_
                refine gs (mkF m 241 _ [(.int (1 : Int32))]) (fun T A t k => XS.iconst A B.x rfl (B.d at_240) k) ?_
                refine gs (mkF m 245 _ [(.int (1 : Int32))]) (fun T A t k => XS.goto A B.x rfl (pc0 := 241) (pc' := 245) rfl (B.d at_241) (by decide) (by decide) k) ?_
                refine gs (mkF m 247 #[.val (.long q1), .second, .val (.long q2), .second, .val (.long q3), .second, .val (.int x4), .val (.int x5), .val (.int x6), .val (.long ka), .second, .val (.long kb), .second, .val (.int (((x6.toUInt32 >>> ((2 : Int32) &&& 31).toUInt32).toInt32) &&& (3 : Int32))), .val (.long kc), .second, .val (.int (1 : Int32)), .val (.int (1 : Int32)), .val (.int xa), .val (.int xb), .val (.ref so3), .val (.ref so4), .val (.ref so5), .val (.ref b6), .val (.int xb), .val (.int xa), .val (.int (1 : Int32))] []) (fun T A t k => XS.istore A B.x rfl (B.d at_245) rfl (l' := #[.val (.long q1), .second, .val (.long q2), .second, .val (.long q3), .second, .val (.int x4), .val (.int x5), .val (.int x6), .val (.long ka), .second, .val (.long kb), .second, .val (.int (((x6.toUInt32 >>> ((2 : Int32) &&& 31).toUInt32).toInt32) &&& (3 : Int32))), .val (.long kc), .second, .val (.int (1 : Int32)), .val (.int (1 : Int32)), .val (.int xa), .val (.int xb), .val (.ref so3), .val (.ref so4), .val (.ref so5), .val (.ref b6), .val (.int xb), .val (.int xa), .val (.int (1 : Int32))]) rfl k) ?_
                refine gs (mkF m 249 _ [(.int (1 : Int32))]) (fun T A t k => XS.iload A B.x rfl (B.d at_247) rfl k) ?_
                refine gs (mkF m 252 _ []) (fun T A t k => XS.ifNo A B.x rfl (B.d at_249) rfl ((if0 _ _).trans (feq (by decide : ¬ ((1 : Int32) = (0 : Int32)))).1) k) ?_
                refine gs (mkF m 254 _ [(.ref b6)]) (fun T A t k => XS.aload A B.x rfl (B.d at_252) rfl rfl k) ?_
                refine gs (mkF m 256 _ [(.ref so3), (.ref b6)]) (fun T A t k => XS.aload A B.x rfl (B.d at_254) rfl rfl k) ?_
                refine g_metN (c_virt B (((A6.keep K7).keep K42).keep K43) (hw _ (List.mem_of_getElem? (i := 115) rfl)) (hw _ (List.mem_of_getElem? (i := 116) rfl)) (hw _ (List.mem_of_getElem? (i := 118) rfl)) (hw _ (List.mem_of_getElem? (i := 117) rfl)) (nfs (z := (⟨"com/example/rateledger/rateledger/io/LoanNumberMap", "get", "(Ljava/lang/String;)I"⟩ : MethodName)) (hw _ (List.mem_of_getElem? (i := 118) rfl))) (by decide) rfl (lenOf pd_28Ljava2flang2fString3b29I rfl) rfl (Nat.le_of_eq rfl) at_256 rfl (argsL := [(.ref so3)]) (rest := []) (W := 0) (q := 259)) (own_getk l Z a0 hw hEL b6 so3 zc fm b7a b7b (L2 ka kb) (V2 ka kb xa xb) sz43 ka t3 h43 n0 M43 (by simp [L2, L1, L0]) (by simp [V2, V1, V0]) (ok_L2 ka) ((((((X3.keep K4 ⟨nin0, nin0⟩).keep K5 ⟨nin0, nin0⟩).ext E6).keep K7 ⟨(ninS (by omega : @Ne Nat so3 b6) nin0), (ninS (by omega : @Ne Nat t3 b6) nin0)⟩).keep K42 ⟨(ninS (by omega : @Ne Nat so3 b6) (ninS (by omega : @Ne Nat so3 b7a) (ninS (by omega : @Ne Nat so3 b7b) nin0))), (ninS (by omega : @Ne Nat t3 b6) (ninS (by omega : @Ne Nat t3 b7a) (ninS (by omega : @Ne Nat t3 b7b) nin0)))⟩).keep K43 ⟨(ninS (by omega : @Ne Nat so3 b6) (ninS (by omega : @Ne Nat so3 b7a) (ninS (by omega : @Ne Nat so3 b7b) nin0))), (ninS (by omega : @Ne Nat t3 b6) (ninS (by omega : @Ne Nat t3 b7a) (ninS (by omega : @Ne Nat t3 b7b) nin0)))⟩) hka.1 hka.2 (((((((PO.keep K3 all0).keep K4 all0).keep K5 all0).ext E6).keep K7 (allS (by omega) all0)).keep K42 (allS (by omega) (allS (by omega) (allS (by omega) all0)))).keep K43 (allS (by omega) (allS (by omega) (allS (by omega) all0)))) SC hzc SF rf) (hw _ (List.mem_of_getElem? (i := 119) rfl)) (hw _ (List.mem_of_getElem? (i := 43) rfl)) (by decide) (by decide) (by decide) (by decide) ?_
                intro v62 h62 hz62 hQ62
                obtain ⟨rfl, rfl⟩ := hQ62
                refine gs (mkF m 261 _ [(.int xa), (.int (getF (L2 ka kb) (V2 ka kb xa xb) ka))]) (fun T A t k => XS.iload A B.x rfl (B.d at_259) rfl k) ?_
                have hg63 : (getF (L2 ka kb) (V2 ka kb xa xb) ka) = xa := by rw [get_L2 hka.1 hkb.1 hka.1 hba, if_pos rfl]
                refine gs (mkF m 264 _ []) (fun T A t k => XS.icmpNo A B.x rfl (B.d at_261) rfl (teq (hg63 : (getF (L2 ka kb) (V2 ka kb xa xb) ka) = xa)).2 k) ?_
                refine gs (mkF m 265 _ [(.int (1 : Int32))]) (fun T A t k => XS.iconst A B.x rfl (B.d at_264) k) ?_
                refine gs (mkF m 269 _ [(.int (1 : Int32))]) (fun T A t k => XS.goto A B.x rfl (pc0 := 265) (pc' := 269) rfl (B.d at_265) (by decide) (by decide) k) ?_
                exact g_retN (t := .boolean) B (by simp) at_269 (by decide) (by decide) rfl
              · refine gs (mkF m 190 _ []) (fun T A t k => XS.ifYes A B.x rfl (pc0 := 180) (pc' := 190) rfl (B.d at_180) rfl ((if0 _ _).trans (feq (hq59 : ¬ ((lcmpW kc kb) = (0 : Int32)))).2) (by decide) (by decide) k) ?_
                have Ehq59 : ¬ kc = kb := fun z => hq59 (lc0.mpr z)
                refine gs (mkF m 191 _ [(.int (-1 : Int32))]) (fun T A t k => XS.iconst A B.x rfl (B.d at_190) k) ?_
                refine gs (mkF m 193 #[.val (.long q1), .second, .val (.long q2), .second, .val (.long q3), .second, .val (.int x4), .val (.int x5), .val (.int x6), .val (.long ka), .second, .val (.long kb), .second, .val (.int (((x6.toUInt32 >>> ((2 : Int32) &&& 31).toUInt32).toInt32) &&& (3 : Int32))), .val (.long kc), .second, .val (.int (1 : Int32)), .val (.int (1 : Int32)), .val (.int xa), .val (.int xb), .val (.ref so3), .val (.ref so4), .val (.ref so5), .val (.ref b6), .val (.int (-1 : Int32)), .unset, .unset] []) (fun T A t k => XS.istore A B.x rfl (B.d at_191) rfl (l' := #[.val (.long q1), .second, .val (.long q2), .second, .val (.long q3), .second, .val (.int x4), .val (.int x5), .val (.int x6), .val (.long ka), .second, .val (.long kb), .second, .val (.int (((x6.toUInt32 >>> ((2 : Int32) &&& 31).toUInt32).toInt32) &&& (3 : Int32))), .val (.long kc), .second, .val (.int (1 : Int32)), .val (.int (1 : Int32)), .val (.int xa), .val (.int xb), .val (.ref so3), .val (.ref so4), .val (.ref so5), .val (.ref b6), .val (.int (-1 : Int32)), .unset, .unset]) rfl k) ?_
                refine gs (mkF m 195 _ [(.int (1 : Int32))]) (fun T A t k => XS.iload A B.x rfl (B.d at_193) rfl k) ?_
                refine gs (mkF m 198 _ []) (fun T A t k => XS.ifNo A B.x rfl (B.d at_195) rfl ((if0 _ _).trans (feq (by decide : ¬ ((1 : Int32) = (0 : Int32)))).1) k) ?_
                refine gs (mkF m 200 _ [(.int xa)]) (fun T A t k => XS.iload A B.x rfl (B.d at_198) rfl k) ?_
                refine gs (mkF m 202 #[.val (.long q1), .second, .val (.long q2), .second, .val (.long q3), .second, .val (.int x4), .val (.int x5), .val (.int x6), .val (.long ka), .second, .val (.long kb), .second, .val (.int (((x6.toUInt32 >>> ((2 : Int32) &&& 31).toUInt32).toInt32) &&& (3 : Int32))), .val (.long kc), .second, .val (.int (1 : Int32)), .val (.int (1 : Int32)), .val (.int xa), .val (.int xb), .val (.ref so3), .val (.ref so4), .val (.ref so5), .val (.ref b6), .val (.int (-1 : Int32)), .val (.int xa), .unset] []) (fun T A t k => XS.istore A B.x rfl (B.d at_200) rfl (l' := #[.val (.long q1), .second, .val (.long q2), .second, .val (.long q3), .second, .val (.int x4), .val (.int x5), .val (.int x6), .val (.long ka), .second, .val (.long kb), .second, .val (.int (((x6.toUInt32 >>> ((2 : Int32) &&& 31).toUInt32).toInt32) &&& (3 : Int32))), .val (.long kc), .second, .val (.int (1 : Int32)), .val (.int (1 : Int32)), .val (.int xa), .val (.int xb), .val (.ref so3), .val (.ref so4), .val (.ref so5), .val (.ref b6), .val (.int (-1 : Int32)), .val (.int xa), .unset]) rfl k) ?_
                refine gs (mkF m 228 _ []) (fun T A t k => XS.goto A B.x rfl (pc0 := 202) (pc' := 228) rfl (B.d at_202) (by decide) (by decide) k) ?_
                refine gs (mkF m 230 _ [(.ref b6)]) (fun T A t k => XS.aload A B.x rfl (B.d at_228) rfl rfl k) ?_
                refine gs (mkF m 232 _ [(.ref so5), (.ref b6)]) (fun T A t k => XS.aload A B.x rfl (B.d at_230) rfl rfl k) ?_
                refine g_metN (c_virt B (((A6.keep K7).keep K42).keep K43) (hw _ (List.mem_of_getElem? (i := 115) rfl)) (hw _ (List.mem_of_getElem? (i := 116) rfl)) (hw _ (List.mem_of_getElem? (i := 118) rfl)) (hw _ (List.mem_of_getElem? (i := 117) rfl)) (nfs (z := (⟨"com/example/rateledger/rateledger/io/LoanNumberMap", "get", "(Ljava/lang/String;)I"⟩ : MethodName)) (hw _ (List.mem_of_getElem? (i := 118) rfl))) (by decide) rfl (lenOf pd_28Ljava2flang2fString3b29I rfl) rfl (Nat.le_of_eq rfl) at_232 rfl (argsL := [(.ref so5)]) (rest := []) (W := 0) (q := 235)) (own_getk l Z a0 hw hEL b6 so5 zc fm b7a b7b (L2 ka kb) (V2 ka kb xa xb) sz43 kc t5 h43 n0 M43 (by simp [L2, L1, L0]) (by simp [V2, V1, V0]) (ok_L2 kc) ((((X5.ext E6).keep K7 ⟨(ninS (by omega : @Ne Nat so5 b6) nin0), (ninS (by omega : @Ne Nat t5 b6) nin0)⟩).keep K42 ⟨(ninS (by omega : @Ne Nat so5 b6) (ninS (by omega : @Ne Nat so5 b7a) (ninS (by omega : @Ne Nat so5 b7b) nin0))), (ninS (by omega : @Ne Nat t5 b6) (ninS (by omega : @Ne Nat t5 b7a) (ninS (by omega : @Ne Nat t5 b7b) nin0)))⟩).keep K43 ⟨(ninS (by omega : @Ne Nat so5 b6) (ninS (by omega : @Ne Nat so5 b7a) (ninS (by omega : @Ne Nat so5 b7b) nin0))), (ninS (by omega : @Ne Nat t5 b6) (ninS (by omega : @Ne Nat t5 b7a) (ninS (by omega : @Ne Nat t5 b7b) nin0)))⟩) hkc.1 hkc.2 (((((((PO.keep K3 all0).keep K4 all0).keep K5 all0).ext E6).keep K7 (allS (by omega) all0)).keep K42 (allS (by omega) (allS (by omega) (allS (by omega) all0)))).keep K43 (allS (by omega) (allS (by omega) (allS (by omega) all0)))) SC hzc SF rf) (hw _ (List.mem_of_getElem? (i := 119) rfl)) (hw _ (List.mem_of_getElem? (i := 43) rfl)) (by decide) (by decide) (by decide) (by decide) ?_
                intro v64 h64 hz64 hQ64
                obtain ⟨rfl, rfl⟩ := hQ64
                refine gs (mkF m 237 _ [(.int (-1 : Int32)), (.int (getF (L2 ka kb) (V2 ka kb xa xb) kc))]) (fun T A t k => XS.iload A B.x rfl (B.d at_235) rfl k) ?_
                have hg65 : (getF (L2 ka kb) (V2 ka kb xa xb) kc) = (-1 : Int32) := by rw [get_L2 hka.1 hkb.1 hkc.1 hba, if_neg Ehq54, if_neg Ehq59]
                refine gs (mkF m 240 _ []) (fun T A t k => XS.icmpNo A B.x rfl (B.d at_237) rfl (teq (hg65 : (getF (L2 ka kb) (V2 ka kb xa xb) kc) = (-1 : Int32))).2 k) ?_
                refine gs (mkF m 241 _ [(.int (1 : Int32))]) (fun T A t k => XS.iconst A B.x rfl (B.d at_240) k) ?_
                refine gs (mkF m 245 _ [(.int (1 : Int32))]) (fun T A t k => XS.goto A B.x rfl (pc0 := 241) (pc' := 245) rfl (B.d at_241) (by decide) (by decide) k) ?_
                refine gs (mkF m 247 #[.val (.long q1), .second, .val (.long q2), .second, .val (.long q3), .second, .val (.int x4), .val (.int x5), .val (.int x6), .val (.long ka), .second, .val (.long kb), .second, .val (.int (((x6.toUInt32 >>> ((2 : Int32) &&& 31).toUInt32).toInt32) &&& (3 : Int32))), .val (.long kc), .second, .val (.int (1 : Int32)), .val (.int (1 : Int32)), .val (.int xa), .val (.int xb), .val (.ref so3), .val (.ref so4), .val (.ref so5), .val (.ref b6), .val (.int (-1 : Int32)), .val (.int xa), .val (.int (1 : Int32))] []) (fun T A t k => XS.istore A B.x rfl (B.d at_245) rfl (l' := #[.val (.long q1), .second, .val (.long q2), .second, .val (.long q3), .second, .val (.int x4), .val (.int x5), .val (.int x6), .val (.long ka), .second, .val (.long kb), .second, .val (.int (((x6.toUInt32 >>> ((2 : Int32) &&& 31).toUInt32).toInt32) &&& (3 : Int32))), .val (.long kc), .second, .val (.int (1 : Int32)), .val (.int (1 : Int32)), .val (.int xa), .val (.int xb), .val (.ref so3), .val (.ref so4), .val (.ref so5), .val (.ref b6), .val (.int (-1 : Int32)), .val (.int xa), .val (.int (1 : Int32))]) rfl k) ?_
                refine gs (mkF m 249 _ [(.int (1 : Int32))]) (fun T A t k => XS.iload A B.x rfl (B.d at_247) rfl k) ?_
                refine gs (mkF m 252 _ []) (fun T A t k => XS.ifNo A B.x rfl (B.d at_249) rfl ((if0 _ _).trans (feq (by decide : ¬ ((1 : Int32) = (0 : Int32)))).1) k) ?_
                refine gs (mkF m 254 _ [(.ref b6)]) (fun T A t k => XS.aload A B.x rfl (B.d at_252) rfl rfl k) ?_
                refine gs (mkF m 256 _ [(.ref so3), (.ref b6)]) (fun T A t k => XS.aload A B.x rfl (B.d at_254) rfl rfl k) ?_
                refine g_metN (c_virt B (((A6.keep K7).keep K42).keep K43) (hw _ (List.mem_of_getElem? (i := 115) rfl)) (hw _ (List.mem_of_getElem? (i := 116) rfl)) (hw _ (List.mem_of_getElem? (i := 118) rfl)) (hw _ (List.mem_of_getElem? (i := 117) rfl)) (nfs (z := (⟨"com/example/rateledger/rateledger/io/LoanNumberMap", "get", "(Ljava/lang/String;)I"⟩ : MethodName)) (hw _ (List.mem_of_getElem? (i := 118) rfl))) (by decide) rfl (lenOf pd_28Ljava2flang2fString3b29I rfl) rfl (Nat.le_of_eq rfl) at_256 rfl (argsL := [(.ref so3)]) (rest := []) (W := 0) (q := 259)) (own_getk l Z a0 hw hEL b6 so3 zc fm b7a b7b (L2 ka kb) (V2 ka kb xa xb) sz43 ka t3 h43 n0 M43 (by simp [L2, L1, L0]) (by simp [V2, V1, V0]) (ok_L2 ka) ((((((X3.keep K4 ⟨nin0, nin0⟩).keep K5 ⟨nin0, nin0⟩).ext E6).keep K7 ⟨(ninS (by omega : @Ne Nat so3 b6) nin0), (ninS (by omega : @Ne Nat t3 b6) nin0)⟩).keep K42 ⟨(ninS (by omega : @Ne Nat so3 b6) (ninS (by omega : @Ne Nat so3 b7a) (ninS (by omega : @Ne Nat so3 b7b) nin0))), (ninS (by omega : @Ne Nat t3 b6) (ninS (by omega : @Ne Nat t3 b7a) (ninS (by omega : @Ne Nat t3 b7b) nin0)))⟩).keep K43 ⟨(ninS (by omega : @Ne Nat so3 b6) (ninS (by omega : @Ne Nat so3 b7a) (ninS (by omega : @Ne Nat so3 b7b) nin0))), (ninS (by omega : @Ne Nat t3 b6) (ninS (by omega : @Ne Nat t3 b7a) (ninS (by omega : @Ne Nat t3 b7b) nin0)))⟩) hka.1 hka.2 (((((((PO.keep K3 all0).keep K4 all0).keep K5 all0).ext E6).keep K7 (allS (by omega) all0)).keep K42 (allS (by omega) (allS (by omega) (allS (by omega) all0)))).keep K43 (allS (by omega) (allS (by omega) (allS (by omega) all0)))) SC hzc SF rf) (hw _ (List.mem_of_getElem? (i := 119) rfl)) (hw _ (List.mem_of_getElem? (i := 43) rfl)) (by decide) (by decide) (by decide) (by decide) ?_
                intro v66 h66 hz66 hQ66
                obtain ⟨rfl, rfl⟩ := hQ66
                refine gs (mkF m 261 _ [(.int xa), (.int (getF (L2 ka kb) (V2 ka kb xa xb) ka))]) (fun T A t k => XS.iload A B.x rfl (B.d at_259) rfl k) ?_
                have hg67 : (getF (L2 ka kb) (V2 ka kb xa xb) ka) = xa := by rw [get_L2 hka.1 hkb.1 hka.1 hba, if_pos rfl]
                refine gs (mkF m 264 _ []) (fun T A t k => XS.icmpNo A B.x rfl (B.d at_261) rfl (teq (hg67 : (getF (L2 ka kb) (V2 ka kb xa xb) ka) = xa)).2 k) ?_
                refine gs (mkF m 265 _ [(.int (1 : Int32))]) (fun T A t k => XS.iconst A B.x rfl (B.d at_264) k) ?_
                refine gs (mkF m 269 _ [(.int (1 : Int32))]) (fun T A t k => XS.goto A B.x rfl (pc0 := 265) (pc' := 269) rfl (B.d at_265) (by decide) (by decide) k) ?_
                exact g_retN (t := .boolean) B (by simp) at_269 (by decide) (by decide) rfl
      · by_cases hc66_68 : (x6 &&& (2 : Int32)) = (0 : Int32)
        · refine gs (mkF m 73 _ []) (fun T A t k => XS.ifYes A B.x rfl (pc0 := 66) (pc' := 73) rfl (B.d at_66) rfl ((if0 _ _).trans (teq (hc66_68 : (x6 &&& (2 : Int32)) = (0 : Int32))).1) (by decide) (by decide) k) ?_
          refine gs (mkF m 74 _ [(.int (0 : Int32))]) (fun T A t k => XS.iconst A B.x rfl (B.d at_73) k) ?_
          refine gs (mkF m 76 #[.val (.long q1), .second, .val (.long q2), .second, .val (.long q3), .second, .val (.int x4), .val (.int x5), .val (.int x6), .val (.long ka), .second, .val (.long kb), .second, .val (.int (((x6.toUInt32 >>> ((2 : Int32) &&& 31).toUInt32).toInt32) &&& (3 : Int32))), .val (.long kc), .second, .val (.int f16), .val (.int (0 : Int32)), .unset, .unset, .unset, .unset, .unset, .unset, .unset, .unset, .unset] []) (fun T A t k => XS.istore A B.x rfl (B.d at_74) rfl (l' := #[.val (.long q1), .second, .val (.long q2), .second, .val (.long q3), .second, .val (.int x4), .val (.int x5), .val (.int x6), .val (.long ka), .second, .val (.long kb), .second, .val (.int (((x6.toUInt32 >>> ((2 : Int32) &&& 31).toUInt32).toInt32) &&& (3 : Int32))), .val (.long kc), .second, .val (.int f16), .val (.int (0 : Int32)), .unset, .unset, .unset, .unset, .unset, .unset, .unset, .unset, .unset]) rfl k) ?_
          exact J _ (Or.inl rfl)
        · refine gs (mkF m 69 _ []) (fun T A t k => XS.ifNo A B.x rfl (B.d at_66) rfl ((if0 _ _).trans (feq (hc66_68 : ¬ ((x6 &&& (2 : Int32)) = (0 : Int32)))).1) k) ?_
          refine gs (mkF m 70 _ [(.int (1 : Int32))]) (fun T A t k => XS.iconst A B.x rfl (B.d at_69) k) ?_
          refine gs (mkF m 74 _ [(.int (1 : Int32))]) (fun T A t k => XS.goto A B.x rfl (pc0 := 70) (pc' := 74) rfl (B.d at_70) (by decide) (by decide) k) ?_
          refine gs (mkF m 76 #[.val (.long q1), .second, .val (.long q2), .second, .val (.long q3), .second, .val (.int x4), .val (.int x5), .val (.int x6), .val (.long ka), .second, .val (.long kb), .second, .val (.int (((x6.toUInt32 >>> ((2 : Int32) &&& 31).toUInt32).toInt32) &&& (3 : Int32))), .val (.long kc), .second, .val (.int f16), .val (.int (1 : Int32)), .unset, .unset, .unset, .unset, .unset, .unset, .unset, .unset, .unset] []) (fun T A t k => XS.istore A B.x rfl (B.d at_74) rfl (l' := #[.val (.long q1), .second, .val (.long q2), .second, .val (.long q3), .second, .val (.int x4), .val (.int x5), .val (.int x6), .val (.long ka), .second, .val (.long kb), .second, .val (.int (((x6.toUInt32 >>> ((2 : Int32) &&& 31).toUInt32).toInt32) &&& (3 : Int32))), .val (.long kc), .second, .val (.int f16), .val (.int (1 : Int32)), .unset, .unset, .unset, .unset, .unset, .unset, .unset, .unset, .unset]) rfl k) ?_
          exact J _ (Or.inr rfl)
    · by_cases hc52_69 : (x6 &&& (1 : Int32)) = (0 : Int32)
      · refine gs (mkF m 59 _ []) (fun T A t k => XS.ifYes A B.x rfl (pc0 := 52) (pc' := 59) rfl (B.d at_52) rfl ((if0 _ _).trans (teq (hc52_69 : (x6 &&& (1 : Int32)) = (0 : Int32))).1) (by decide) (by decide) k) ?_
        refine gs (mkF m 60 _ [(.int (0 : Int32))]) (fun T A t k => XS.iconst A B.x rfl (B.d at_59) k) ?_
        refine gs (mkF m 62 #[.val (.long q1), .second, .val (.long q2), .second, .val (.long q3), .second, .val (.int x4), .val (.int x5), .val (.int x6), .val (.long ka), .second, .val (.long kb), .second, .val (.int (((x6.toUInt32 >>> ((2 : Int32) &&& 31).toUInt32).toInt32) &&& (3 : Int32))), .val (.long kc), .second, .val (.int (0 : Int32)), .unset, .unset, .unset, .unset, .unset, .unset, .unset, .unset, .unset, .unset] []) (fun T A t k => XS.istore A B.x rfl (B.d at_60) rfl (l' := #[.val (.long q1), .second, .val (.long q2), .second, .val (.long q3), .second, .val (.int x4), .val (.int x5), .val (.int x6), .val (.long ka), .second, .val (.long kb), .second, .val (.int (((x6.toUInt32 >>> ((2 : Int32) &&& 31).toUInt32).toInt32) &&& (3 : Int32))), .val (.long kc), .second, .val (.int (0 : Int32)), .unset, .unset, .unset, .unset, .unset, .unset, .unset, .unset, .unset, .unset]) rfl k) ?_
        exact J _ (Or.inl rfl)
      · refine gs (mkF m 55 _ []) (fun T A t k => XS.ifNo A B.x rfl (B.d at_52) rfl ((if0 _ _).trans (feq (hc52_69 : ¬ ((x6 &&& (1 : Int32)) = (0 : Int32)))).1) k) ?_
        refine gs (mkF m 56 _ [(.int (1 : Int32))]) (fun T A t k => XS.iconst A B.x rfl (B.d at_55) k) ?_
        refine gs (mkF m 60 _ [(.int (1 : Int32))]) (fun T A t k => XS.goto A B.x rfl (pc0 := 56) (pc' := 60) rfl (B.d at_56) (by decide) (by decide) k) ?_
        refine gs (mkF m 62 #[.val (.long q1), .second, .val (.long q2), .second, .val (.long q3), .second, .val (.int x4), .val (.int x5), .val (.int x6), .val (.long ka), .second, .val (.long kb), .second, .val (.int (((x6.toUInt32 >>> ((2 : Int32) &&& 31).toUInt32).toInt32) &&& (3 : Int32))), .val (.long kc), .second, .val (.int (1 : Int32)), .unset, .unset, .unset, .unset, .unset, .unset, .unset, .unset, .unset, .unset] []) (fun T A t k => XS.istore A B.x rfl (B.d at_60) rfl (l' := #[.val (.long q1), .second, .val (.long q2), .second, .val (.long q3), .second, .val (.int x4), .val (.int x5), .val (.int x6), .val (.long ka), .second, .val (.long kb), .second, .val (.int (((x6.toUInt32 >>> ((2 : Int32) &&& 31).toUInt32).toInt32) &&& (3 : Int32))), .val (.long kc), .second, .val (.int (1 : Int32)), .unset, .unset, .unset, .unset, .unset, .unset, .unset, .unset, .unset, .unset]) rfl k) ?_
        exact J _ (Or.inr rfl)
  · by_cases hc22_70 : (((x6.toUInt32 >>> ((2 : Int32) &&& 31).toUInt32).toInt32) &&& (3 : Int32)) = (0 : Int32)
    · refine gs (mkF m 25 _ []) (fun T A t k => XS.ifNo A B.x rfl (B.d at_22) rfl ((if0 _ _).trans (teq (hc22_70 : (((x6.toUInt32 >>> ((2 : Int32) &&& 31).toUInt32).toInt32) &&& (3 : Int32)) = (0 : Int32))).2) k) ?_
      refine gs (mkF m 27 _ [(.long ka)]) (fun T A t k => XS.lload A B.x rfl (B.d at_25) rfl k) ?_
      refine gs (mkF m 46 _ [(.long ka)]) (fun T A t k => XS.goto A B.x rfl (pc0 := 27) (pc' := 46) rfl (B.d at_27) (by decide) (by decide) k) ?_
      exact J _ hka
    · refine gs (mkF m 30 _ []) (fun T A t k => XS.ifYes A B.x rfl (pc0 := 22) (pc' := 30) rfl (B.d at_22) rfl ((if0 _ _).trans (feq (hc22_70 : ¬ ((((x6.toUInt32 >>> ((2 : Int32) &&& 31).toUInt32).toInt32) &&& (3 : Int32)) = (0 : Int32)))).2) (by decide) (by decide) k) ?_
      refine gs (mkF m 32 _ [(.int (((x6.toUInt32 >>> ((2 : Int32) &&& 31).toUInt32).toInt32) &&& (3 : Int32)))]) (fun T A t k => XS.iload A B.x rfl (B.d at_30) rfl k) ?_
      refine gs (mkF m 33 _ [(.int (1 : Int32)), (.int (((x6.toUInt32 >>> ((2 : Int32) &&& 31).toUInt32).toInt32) &&& (3 : Int32)))]) (fun T A t k => XS.iconst A B.x rfl (B.d at_32) k) ?_
      by_cases hc33_71 : (((x6.toUInt32 >>> ((2 : Int32) &&& 31).toUInt32).toInt32) &&& (3 : Int32)) = (1 : Int32)
      · refine gs (mkF m 36 _ []) (fun T A t k => XS.icmpNo A B.x rfl (B.d at_33) rfl (teq (hc33_71 : (((x6.toUInt32 >>> ((2 : Int32) &&& 31).toUInt32).toInt32) &&& (3 : Int32)) = (1 : Int32))).2 k) ?_
        refine gs (mkF m 38 _ [(.long kb)]) (fun T A t k => XS.lload A B.x rfl (B.d at_36) rfl k) ?_
        refine gs (mkF m 46 _ [(.long kb)]) (fun T A t k => XS.goto A B.x rfl (pc0 := 38) (pc' := 46) rfl (B.d at_38) (by decide) (by decide) k) ?_
        exact J _ hkb
      · refine gs (mkF m 41 _ []) (fun T A t k => XS.icmpYes A B.x rfl (pc0 := 33) (pc' := 41) rfl (B.d at_33) rfl (feq (hc33_71 : ¬ ((((x6.toUInt32 >>> ((2 : Int32) &&& 31).toUInt32).toInt32) &&& (3 : Int32)) = (1 : Int32)))).2 (by decide) (by decide) k) ?_
        refine gs (mkF m 43 _ [(.long q3)]) (fun T A t k => XS.lload A B.x rfl (B.d at_41) rfl k) ?_
        refine g_metN (c_static B (hw _ (List.mem_of_getElem? (i := 0) rfl)) (hw _ (List.mem_of_getElem? (i := 1) rfl)) (hw _ (List.mem_of_getElem? (i := 2) rfl)) (hw _ (List.mem_of_getElem? (i := 3) rfl)) (by decide) rfl (lenOf pd_28J29J rfl) rfl (Nat.le_of_eq rfl) at_43 rfl (argsL := [(.long q3)]) (rest := []) (W := 0) (q := 46)) (own_norm l Z a0 hw hEL (q3) h0 n0) (hw _ (List.mem_of_getElem? (i := 3) rfl)) (hw _ (List.mem_of_getElem? (i := 2) rfl)) (by decide) (by decide) (by decide) (by decide) ?_
        intro v72 h72 hz72 hQ72
        obtain ⟨rfl, rfl⟩ := hQ72
        exact J _ (nrm_rng q3)
set_option maxRecDepth 65536 in
set_option maxHeartbeats 40000000 in
theorem comes_1 {Post : Tables → Env → Array Value → State → Outcome → State → Prop} (hpost : ∀ tb e args s v u, (limb_1_1.after args s (.returned v) u = true ∧ limb_1_2.after args s (.returned v) u = true ∧ True) → FrameEnd s (.returned v) u (Jvm.fieldLocs frame_1_writes args s ++ Jvm.arrayLocs frame_1_arrays args s ++ Jvm.staticLocs frame_1_statics s) 32 320 → Post tb e args s (.returned v) u) :
    ArmFor flags0 classFile x code maxLocals ret World_1 tables_1 room_1 Calls_1 rest_1 Pre_1 Post := by
  intro l hfl _ _ p e ha hc hk s m args below hf hA hF happ hP
  obtain ⟨hcalls, hrest, hpre⟩ := hP
  obtain ⟨-, -, -, hnamed, -, -, -, hat⟩ := (Spec.applies_iff hf).mp happ
  obtain ⟨hg, hn⟩ := and_e (Cond.before_iff.mp (show (Jvm.Cond.and given_1 narrow_1).before args s = true from hpre))
  obtain ⟨gc, gr0⟩ := and_e hg
  obtain ⟨ga0, gr1⟩ := and_e gr0
  obtain ⟨ga1, gr2⟩ := and_e gr1
  obtain ⟨ga2, gr3⟩ := and_e gr2
  obtain ⟨ga3, gr4⟩ := and_e gr3
  obtain ⟨ga4, gr5⟩ := and_e gr4
  have ga5 := gr5
  obtain ⟨w0, w1, w2, w3, w4, w5, rfl⟩ : ∃ w0 w1 w2 w3 w4 w5 : Value, args = #[w0, w1, w2, w3, w4, w5] := by
    have hs : args.size = 6 := by simpa [Cond.value, given_1] using gc
    obtain ⟨L⟩ := args
    match L, hs with
    | [w0, w1, w2, w3, w4, w5], _ => exact ⟨w0, w1, w2, w3, w4, w5, rfl⟩
  have hw := fun d (hd : d ∈ tables_1) => atoms_spec (ws := Jvm.Cond.code x code maxLocals ret :: tables_1) hat d (List.mem_cons_of_mem _ hd)
  have hfit : Fit s := fun {y c} hc i hi => by
    obtain ⟨ha, rfl⟩ := Array.getElem?_eq_some_iff.mp hc
    have q := List.all_eq_true.mp ((Array.all_eq_true_iff_forall_mem.mp hF) _ (Array.getElem_mem ha)) i (List.mem_range.mpr hi)
    simpa [Array.getElem?_eq_getElem hi] using q
  obtain ⟨hsets, hown0⟩ := atoms_of _ (rest_1_c_eq ▸ (show rest_1_c.before _ s = true from hrest))
  obtain ⟨i0, ei0⟩ := isL_v ga0
  obtain rfl : w0 = (.long i0) := Option.some.inj ei0
  obtain ⟨i1, ei1⟩ := isL_v ga1
  obtain rfl : w1 = (.long i1) := Option.some.inj ei1
  obtain ⟨i2, ei2⟩ := isL_v ga2
  obtain rfl : w2 = (.long i2) := Option.some.inj ei2
  obtain ⟨i3, ei3⟩ := is_v ga3
  obtain rfl : w3 = (.int i3) := Option.some.inj ei3
  obtain ⟨i4, ei4⟩ := is_v ga4
  obtain rfl : w4 = (.int i4) := Option.some.inj ei4
  obtain ⟨i5, ei5⟩ := is_v ga5
  obtain rfl : w5 = (.int i5) := Option.some.inj ei5
  have ncs := not_v (Cond.before_iff.mp (hsets _ (List.mem_of_getElem? (i := 2) rfl)))
  obtain ⟨zc, ezc⟩ := is_v (Cond.before_iff.mp (hsets _ (List.mem_of_getElem? (i := 1) rfl)))
  have SC : Sta s s.heap "java/lang/String" "COMPACT_STRINGS" "Z" (.int zc) := Sta.start ezc (Or.inl (hsets _ (List.mem_of_getElem? (i := 0) rfl)))
  have hzc : ¬ (zc = (0 : Int32)) := gotF (Cond.eq_ints ezc (Term.int_eval (0))) ncs
  obtain ⟨fm, efm, rf⟩ := isR_v (Cond.before_iff.mp (hsets _ (List.mem_of_getElem? (i := 8) rfl)))
  have SF : Sta s s.heap "jdk/internal/util/Preconditions" "SIOOBE_FORMATTER" "Ljava/util/function/BiFunction;" fm := Sta.start efm (Or.inl (hsets _ (List.mem_of_getElem? (i := 7) rfl)))
  obtain ⟨n, o, h1, h2, h3, v, L, rfl, ⟨rfl, N⟩, -, hE, hq⟩ := own_law l s _ hw EW.nil i0 i1 i2 i3 i4 i5 zc fm s.heap s.heap.size (Nat.le_refl _) (Old.start s) SC hzc SF rf tables_1 p e ha hc hk s m _ below hf ((Spec.applies_iff_loose hf).mp happ).1 ⟨rfl, State.Warmed39.refl s, rfl, (fun _ q => nomatch q), (fun _ q => nomatch q)⟩ trivial
  replace hq := hq rfl
  refine ⟨n, _, h1, h2, h3, hpost _ _ _ _ _ _ ⟨Cond.after_iff.mpr rfl, Cond.after_iff.mpr (eq_i res_at (Term.int_eval (1)) rfl), trivial⟩ ⟨hq.1, hq.2.1, (hq.2.2.sift fun y hy => Or.inr (N y hy)).mono (by decide) (by decide)⟩⟩
theorem main_1_1 : Claimed_1_1 := comes_1 fun _ _ _ _ _ _ h hF => ⟨h.1, hF⟩
theorem main_1_2 : Claimed_1_2 := comes_1 fun _ _ _ _ _ _ h hF => ⟨h.2.1, hF⟩
end Jvm.Pilot.@@N@@
namespace Jvm.Pilot.@@N@@
open Jvm Jvm.ClassFile Sem Op Lib Jvm.Free Jvm.Stand Jvm.Pilot.@@N@@.Jvm.D
/-! MADE BY PROGRAM (witnessworld.py) out of the Statement's table words and the real class files: 25 classes; the members and pool entries that the words name. The judged class is class 1, her method 3. -/
namespace start1
open Jvm.ClassFile
def u (s : String) : CpInfo := .utf8 (stringToUtf16 s)
/-- a pool by its gaps: so many unusable entries, then the entry; so many at the end -/
def gap : Nat → List CpInfo → List CpInfo
  | 0, r => r
  | n + 1, r => .unusable :: gap n r
def poolList (es : List (Nat × CpInfo)) (last : Nat) : List CpInfo := es.foldr (fun e r => gap e.1 (e.2 :: r)) (gap last [])
def pool (es : List (Nat × CpInfo)) (last : Nat) : Array CpInfo := ⟨poolList es last⟩
def fileOf (pool : Array CpInfo) (this : Nat) (attrs : Array Attribute := #[]) (ms : Array MethodInfo := #[]) (fl : Nat := 33) (sup : Nat := 0) (ifs : Array Nat := #[]) (fds : Array FieldInfo := #[]) : ClassFile where
  minorVersion := 0
  majorVersion := 65
  constantPool := pool
  accessFlags := fl
  thisClass := this
  superClass := sup
  interfaces := ifs
  fields := fds
  methods := ms
  attributes := attrs
def plain (name : String) (sup : Option ClassId) : Class where
  name := name
  kind := .ordinary
  loader := none
  accessFlags := 33
  super := sup
  interfaces := #[]
  cf := none
  fields := #[]
  methods := #[]
  instanceTypes := #[]
  staticTypes := #[]
  resolved := #[]
  callSites := []
  init := .initialized
  statics := none
  mirror := none

def pool0 : Array CpInfo := pool [(5, u "<init>"), (0, u "()V"), (1, .class_ 10), (1, u "java/lang/Object")] 113

def k0c0 : Code := { maxStack := 0, maxLocals := 1, code := object_method_1_code, exceptionTable := #[], attributes := #[] }
def k0m0 : Method := { name := "<init>", desc := "()V", sig := { parameters := [], returnType := none }, accessFlags := 1, code := some k0c0 }
/-- java/lang/Object -/
def k0 : Class := { plain "java/lang/Object" none with
  accessFlags := 33
  interfaces := #[]
  cf := some (fileOf pool0 8 #[] #[{ accessFlags := 1, nameIndex := 5, descriptorIndex := 6, attributes := #[] }] 33 0 #[] #[])
  fields := #[]
  methods := #[k0m0]
  instanceTypes := #[]
  staticTypes := #[]
  resolved := Array.replicate 124 none
  statics := none }

def pool1 : Array CpInfo := pool [(2, .class_ 4), (0, .nameAndType 5 6), (0, u "java/lang/Object"), (0, u "<init>"), (0, u "()V"), (2, .long 9223372036854775807), (1, .long 10000000000), (1, .long 10), (1, .class_ 16), (0, u "java/lang/String"), (0, .methodref 15 18), (0, .nameAndType 5 19), (0, u "([C)V"), (0, .methodref 21 22), (0, .class_ 23), (0, .nameAndType 24 25), (0, u "com/example/rateledger/rateledger/io/LoanNumberMapGetPinLaw"), (0, u "norm"), (0, u "(J)J"), (0, .integer 2147483647), (0, .methodref 21 28), (0, .nameAndType 29 30), (0, u "loan"), (0, u "(J)Ljava/lang/String;"), (0, .class_ 32), (0, u "com/example/rateledger/rateledger/io/LoanNumberMap"), (0, .methodref 31 3), (0, .methodref 31 35), (0, .nameAndType 36 37), (0, u "putIfAbsent"), (0, u "(Ljava/lang/String;I)I"), (0, .methodref 31 39), (0, .nameAndType 40 41), (0, u "get"), (0, u "(Ljava/lang/String;)I"), (2, u "law"), (0, u "(JJJIII)Z")] 3

def k1m0 : Method := { name := "<init>", desc := "()V", sig := { parameters := [], returnType := none }, accessFlags := 1, code := none }
def k1c1 : Code := { maxStack := 4, maxLocals := 2, code := method_2_code, exceptionTable := #[], attributes := #[] }
def k1m1 : Method := { name := "norm", desc := "(J)J", sig := { parameters := [.long], returnType := some .long }, accessFlags := 10, code := some k1c1 }
def k1c2 : Code := { maxStack := 7, maxLocals := 5, code := method_3_code, exceptionTable := #[], attributes := #[] }
def k1m2 : Method := { name := "loan", desc := "(J)Ljava/lang/String;", sig := { parameters := [.long], returnType := some (.object "java/lang/String") }, accessFlags := 10, code := some k1c2 }
def k1c3 : Code := { maxStack := 4, maxLocals := 27, code := code, exceptionTable := #[], attributes := #[] }
def k1m3 : Method := { name := "law", desc := "(JJJIII)Z", sig := { parameters := [.long, .long, .long, .int, .int, .int], returnType := some .boolean }, accessFlags := 9, code := some k1c3 }
/-- com/example/rateledger/rateledger/io/LoanNumberMapGetPinLaw -/
def k1 : Class := { plain "com/example/rateledger/rateledger/io/LoanNumberMapGetPinLaw" (some 0) with
  accessFlags := 49
  interfaces := #[]
  cf := some (fileOf pool1 21 #[] #[{ accessFlags := 1, nameIndex := 5, descriptorIndex := 6, attributes := #[] }, { accessFlags := 10, nameIndex := 24, descriptorIndex := 25, attributes := #[] }, { accessFlags := 10, nameIndex := 29, descriptorIndex := 30, attributes := #[] }, { accessFlags := 9, nameIndex := 44, descriptorIndex := 45, attributes := #[] }] 49 2 #[] #[])
  fields := #[]
  methods := #[k1m0, k1m1, k1m2, k1m3]
  instanceTypes := #[]
  staticTypes := #[]
  resolved := Array.replicate 49 none
  statics := none }

def pool2 : Array CpInfo := pool [(1, .class_ 2), (0, u "java/io/Serializable"), (0, .class_ 4), (0, u "java/lang/Object")] 2

/-- java/io/Serializable -/
def k2 : Class := { plain "java/io/Serializable" (some 0) with
  accessFlags := 1537
  interfaces := #[]
  cf := some (fileOf pool2 1 #[] #[] 1537 3 #[] #[])
  fields := #[]
  methods := #[]
  instanceTypes := #[]
  staticTypes := #[]
  resolved := Array.replicate 7 none
  statics := none }

def pool3 : Array CpInfo := pool [(1, .class_ 2), (0, u "java/lang/Comparable"), (0, .class_ 4), (0, u "java/lang/Object")] 7

/-- java/lang/Comparable -/
def k3 : Class := { plain "java/lang/Comparable" (some 0) with
  accessFlags := 1537
  interfaces := #[]
  cf := some (fileOf pool3 1 #[] #[] 1537 3 #[] #[])
  fields := #[]
  methods := #[]
  instanceTypes := #[]
  staticTypes := #[]
  resolved := Array.replicate 12 none
  statics := none }

def pool4 : Array CpInfo := pool [(2, .class_ 4), (1, u "java/lang/CharSequence"), (42, .class_ 48), (0, u "java/lang/CharSequence$1CodePointIterator"), (10, .class_ 60), (0, u "java/lang/CharSequence$1CharIterator"), (5, .class_ 67), (0, u "java/lang/Object")] 63

/-- java/lang/CharSequence -/
def k4 : Class := { plain "java/lang/CharSequence" (some 0) with
  accessFlags := 1537
  interfaces := #[]
  cf := some (fileOf pool4 2 #[.nestMembers #[47, 59]] #[] 1537 66 #[] #[])
  fields := #[]
  methods := #[]
  instanceTypes := #[]
  staticTypes := #[]
  resolved := Array.replicate 131 none
  statics := none }

def pool5 : Array CpInfo := pool [(1, .class_ 2), (0, u "java/lang/constant/Constable"), (0, .class_ 4), (0, u "java/lang/Object")] 6

/-- java/lang/constant/Constable -/
def k5 : Class := { plain "java/lang/constant/Constable" (some 0) with
  accessFlags := 1537
  interfaces := #[]
  cf := some (fileOf pool5 1 #[] #[] 1537 3 #[] #[])
  fields := #[]
  methods := #[]
  instanceTypes := #[]
  staticTypes := #[]
  resolved := Array.replicate 11 none
  statics := none }

def pool6 : Array CpInfo := pool [(1, .class_ 2), (0, u "java/lang/constant/ConstantDesc"), (0, .class_ 4), (0, u "java/lang/Object")] 32

/-- java/lang/constant/ConstantDesc -/
def k6 : Class := { plain "java/lang/constant/ConstantDesc" (some 0) with
  accessFlags := 1537
  interfaces := #[]
  cf := some (fileOf pool6 1 #[] #[] 1537 3 #[] #[])
  fields := #[]
  methods := #[]
  instanceTypes := #[]
  staticTypes := #[]
  resolved := Array.replicate 37 none
  statics := none }

def pool7 : Array CpInfo := pool [(1, .methodref 2 3), (0, .class_ 4), (0, .nameAndType 5 6), (0, u "java/lang/Object"), (0, u "<init>"), (0, u "()V"), (2, .fieldref 10 11), (0, .class_ 12), (0, .nameAndType 13 14), (0, u "java/lang/String"), (0, u "value"), (0, u "[B"), (0, .fieldref 10 16), (0, .nameAndType 17 18), (0, u "coder"), (0, u "B"), (2, u "hash"), (0, u "I"), (2, u "hashIsZero"), (0, u "Z"), (0, .methodref 10 28), (0, .nameAndType 5 29), (0, u "([CIILjava/lang/Void;)V"), (8, .fieldref 10 39), (0, .nameAndType 40 26), (0, u "COMPACT_STRINGS"), (1, .class_ 44), (1, u "java/lang/StringUTF16"), (0, u "compress"), (1, .methodref 42 48), (0, .nameAndType 49 50), (0, u "coderFromArrayLen"), (0, u "([BI)B"), (56, .class_ 109), (1, u "java/lang/StringLatin1"), (32, u "()Z"), (34, .methodref 42 178), (0, .nameAndType 45 179), (0, u "([CII)[B"), (154, u "()I"), (0, .methodref 10 336), (0, .nameAndType 17 337), (0, u "()B"), (25, u "([BI)C"), (27, u "(II)V"), (35, u "(I)C"), (64, .methodref 10 493), (0, .nameAndType 494 142), (0, u "isLatin1"), (0, .methodref 107 496), (0, .nameAndType 497 363), (0, u "charAt"), (3, u "checkIndex"), (5, u "length"), (67, .class_ 576), (0, u "java/lang/CharSequence"), (22, u "CASE_INSENSITIVE_ORDER"), (0, u "Ljava/util/Comparator;"), (409, u "([C)V"), (42, .fieldref 1054 1055), (0, .class_ 1056), (0, .nameAndType 1057 1058), (0, u "jdk/internal/util/Preconditions"), (0, u "SIOOBE_FORMATTER"), (0, u "Ljava/util/function/BiFunction;"), (0, .methodref 1054 1060), (0, .nameAndType 501 1061), (0, u "(IILjava/util/function/BiFunction;)I"), (39, u "serialPersistentFields"), (0, u "[Ljava/io/ObjectStreamField;"), (0, .class_ 1104), (0, u "java/lang/String$CaseInsensitiveComparator"), (1, .class_ 1107), (0, u "java/io/Serializable"), (0, .class_ 1109), (0, u "java/lang/Comparable"), (0, .class_ 1111), (0, u "java/lang/constant/Constable"), (0, .class_ 1113), (0, u "java/lang/constant/ConstantDesc"), (2, u "serialVersionUID"), (0, u "J"), (3, u "REPL"), (0, u "C"), (2, u "LATIN1"), (1, u "UTF16")] 323

def k7m0 : Method := { name := "<init>", desc := "()V", sig := { parameters := [], returnType := none }, accessFlags := 1, code := none }
def k7c1 : Code := { maxStack := 5, maxLocals := 2, code := jdk_42_method_3_code, exceptionTable := #[], attributes := #[] }
def k7m1 : Method := { name := "<init>", desc := "([C)V", sig := { parameters := [(.array .char)], returnType := none }, accessFlags := 1, code := some k7c1 }
def k7c2 : Code := { maxStack := 2, maxLocals := 1, code := jdk_42_method_54_code, exceptionTable := #[], attributes := #[] }
def k7m2 : Method := { name := "length", desc := "()I", sig := { parameters := [], returnType := some .int }, accessFlags := 1, code := some k7c2 }
def k7c3 : Code := { maxStack := 2, maxLocals := 2, code := jdk_42_method_56_code, exceptionTable := #[], attributes := #[] }
def k7m3 : Method := { name := "charAt", desc := "(I)C", sig := { parameters := [.int], returnType := some .char }, accessFlags := 1, code := some k7c3 }
def k7c4 : Code := { maxStack := 4, maxLocals := 6, code := jdk_42_method_149_code, exceptionTable := #[], attributes := #[] }
def k7m4 : Method := { name := "<init>", desc := "([CIILjava/lang/Void;)V", sig := { parameters := [(.array .char), .int, .int, (.object "java/lang/Void")], returnType := none }, accessFlags := 2, code := some k7c4 }
def k7c5 : Code := { maxStack := 1, maxLocals := 1, code := jdk_42_method_152_code, exceptionTable := #[], attributes := #[] }
def k7m5 : Method := { name := "coder", desc := "()B", sig := { parameters := [], returnType := some .byte }, accessFlags := 0, code := some k7c5 }
def k7c6 : Code := { maxStack := 1, maxLocals := 1, code := jdk_42_method_154_code, exceptionTable := #[], attributes := #[] }
def k7m6 : Method := { name := "isLatin1", desc := "()Z", sig := { parameters := [], returnType := some .boolean }, accessFlags := 0, code := some k7c6 }
def k7c7 : Code := { maxStack := 3, maxLocals := 2, code := jdk_42_method_155_code, exceptionTable := #[], attributes := #[] }
def k7m7 : Method := { name := "checkIndex", desc := "(II)V", sig := { parameters := [.int, .int], returnType := none }, accessFlags := 8, code := some k7c7 }
/-- java/lang/String -/
def k7 : Class := { plain "java/lang/String" (some 0) with
  accessFlags := 49
  interfaces := #[2, 3, 4, 5, 6]
  cf := some (fileOf pool7 10 #[.nestMembers #[1103]] #[{ accessFlags := 1, nameIndex := 5, descriptorIndex := 6, attributes := #[] }, { accessFlags := 1, nameIndex := 5, descriptorIndex := 1010, attributes := #[] }, { accessFlags := 1, nameIndex := 507, descriptorIndex := 334, attributes := #[] }, { accessFlags := 1, nameIndex := 497, descriptorIndex := 427, attributes := #[] }, { accessFlags := 2, nameIndex := 5, descriptorIndex := 29, attributes := #[] }, { accessFlags := 0, nameIndex := 17, descriptorIndex := 337, attributes := #[] }, { accessFlags := 0, nameIndex := 494, descriptorIndex := 142, attributes := #[] }, { accessFlags := 8, nameIndex := 501, descriptorIndex := 391, attributes := #[] }] 49 2 #[1106, 1108, 575, 1110, 1112] #[{ accessFlags := 18, nameIndex := 13, descriptorIndex := 14, attributes := #[] }, { accessFlags := 18, nameIndex := 17, descriptorIndex := 18, attributes := #[] }, { accessFlags := 2, nameIndex := 21, descriptorIndex := 22, attributes := #[] }, { accessFlags := 2, nameIndex := 25, descriptorIndex := 26, attributes := #[] }, { accessFlags := 26, nameIndex := 1116, descriptorIndex := 1117, attributes := #[] }, { accessFlags := 24, nameIndex := 40, descriptorIndex := 26, attributes := #[] }, { accessFlags := 26, nameIndex := 1101, descriptorIndex := 1102, attributes := #[] }, { accessFlags := 26, nameIndex := 1121, descriptorIndex := 1122, attributes := #[] }, { accessFlags := 25, nameIndex := 599, descriptorIndex := 600, attributes := #[] }, { accessFlags := 24, nameIndex := 1125, descriptorIndex := 18, attributes := #[] }, { accessFlags := 24, nameIndex := 1127, descriptorIndex := 18, attributes := #[] }])
  fields := #[{ name := "value", type := (.array .byte), accessFlags := 18, slot := 0, constantValue := 0 }, { name := "coder", type := .byte, accessFlags := 18, slot := 1, constantValue := 0 }, { name := "hash", type := .int, accessFlags := 2, slot := 2, constantValue := 0 }, { name := "hashIsZero", type := .boolean, accessFlags := 2, slot := 3, constantValue := 0 }, { name := "serialVersionUID", type := .long, accessFlags := 26, slot := 0, constantValue := 0 }, { name := "COMPACT_STRINGS", type := .boolean, accessFlags := 24, slot := 1, constantValue := 0 }, { name := "serialPersistentFields", type := (.array (.object "java/io/ObjectStreamField")), accessFlags := 26, slot := 2, constantValue := 0 }, { name := "REPL", type := .char, accessFlags := 26, slot := 3, constantValue := 0 }, { name := "CASE_INSENSITIVE_ORDER", type := (.object "java/util/Comparator"), accessFlags := 25, slot := 4, constantValue := 0 }, { name := "LATIN1", type := .byte, accessFlags := 24, slot := 5, constantValue := 0 }, { name := "UTF16", type := .byte, accessFlags := 24, slot := 6, constantValue := 0 }]
  methods := #[k7m0, k7m1, k7m2, k7m3, k7m4, k7m5, k7m6, k7m7]
  instanceTypes := #[(.array .byte), .byte, .int, .boolean]
  staticTypes := #[.long, .boolean, (.array (.object "java/io/ObjectStreamField")), .char, (.object "java/util/Comparator"), .byte, .byte]
  resolved := Array.replicate 1451 none
  statics := some 0 }

def pool8 : Array CpInfo := pool [(6, .class_ 8), (1, u "java/lang/Object"), (0, u "<init>"), (0, u "()V"), (1, .class_ 14), (1, u "java/lang/StringUTF16"), (31, u "$assertionsDisabled"), (0, u "Z"), (13, u "HI_BYTE_SHIFT"), (0, u "I"), (2, u "LO_BYTE_SHIFT"), (49, .methodref 12 116), (0, .nameAndType 117 118), (0, u "compress"), (0, u "([CI[BII)I"), (3, u "([CII)[B"), (138, u "coderFromArrayLen"), (0, u "([BI)B"), (106, .class_ 371), (1, u "java/lang/StringUTF16$LinesSpliterator"), (58, u "MAX_LENGTH"), (196, .class_ 628), (0, u "java/lang/StringUTF16$CodePointsSpliterator"), (0, .class_ 630), (0, u "java/lang/StringUTF16$CharsSpliterator")] 4

def k8m0 : Method := { name := "<init>", desc := "()V", sig := { parameters := [], returnType := none }, accessFlags := 0, code := none }
def k8c1 : Code := { maxStack := 2, maxLocals := 2, code := jdk_52_method_15_code, exceptionTable := #[], attributes := #[] }
def k8m1 : Method := { name := "coderFromArrayLen", desc := "([BI)B", sig := { parameters := [(.array .byte), .int], returnType := some .byte }, accessFlags := 8, code := some k8c1 }
def k8c2 : Code := { maxStack := 5, maxLocals := 6, code := jdk_52_method_16_code, exceptionTable := #[], attributes := #[] }
def k8m2 : Method := { name := "compress", desc := "([CII)[B", sig := { parameters := [(.array .char), .int, .int], returnType := some (.array .byte) }, accessFlags := 9, code := some k8c2 }
def k8c3 : Code := { maxStack := 3, maxLocals := 7, code := jdk_52_method_21_code, exceptionTable := #[], attributes := #[] }
def k8m3 : Method := { name := "compress", desc := "([CI[BII)I", sig := { parameters := [(.array .char), .int, (.array .byte), .int, .int], returnType := some .int }, accessFlags := 9, code := some k8c3 }
/-- java/lang/StringUTF16 -/
def k8 : Class := { plain "java/lang/StringUTF16" (some 0) with
  accessFlags := 48
  interfaces := #[]
  cf := some (fileOf pool8 12 #[.nestMembers #[627, 629, 369]] #[{ accessFlags := 0, nameIndex := 9, descriptorIndex := 10, attributes := #[] }, { accessFlags := 8, nameIndex := 261, descriptorIndex := 262, attributes := #[] }, { accessFlags := 9, nameIndex := 117, descriptorIndex := 122, attributes := #[] }, { accessFlags := 9, nameIndex := 117, descriptorIndex := 118, attributes := #[] }] 48 6 #[] #[{ accessFlags := 26, nameIndex := 61, descriptorIndex := 62, attributes := #[] }, { accessFlags := 26, nameIndex := 65, descriptorIndex := 62, attributes := #[] }, { accessFlags := 24, nameIndex := 430, descriptorIndex := 62, attributes := #[] }, { accessFlags := 4120, nameIndex := 46, descriptorIndex := 47, attributes := #[] }])
  fields := #[{ name := "HI_BYTE_SHIFT", type := .int, accessFlags := 26, slot := 0, constantValue := 0 }, { name := "LO_BYTE_SHIFT", type := .int, accessFlags := 26, slot := 1, constantValue := 0 }, { name := "MAX_LENGTH", type := .int, accessFlags := 24, slot := 2, constantValue := 0 }, { name := "$assertionsDisabled", type := .boolean, accessFlags := 4120, slot := 3, constantValue := 0 }]
  methods := #[k8m0, k8m1, k8m2, k8m3]
  instanceTypes := #[]
  staticTypes := #[.int, .int, .int, .boolean]
  resolved := Array.replicate 635 none
  statics := none }

def pool9 : Array CpInfo := pool [(1, .methodref 2 3), (0, .class_ 4), (0, .nameAndType 5 6), (0, u "java/lang/Object"), (0, u "<init>"), (0, u "()V"), (0, .class_ 8), (0, u "com/example/rateledger/rateledger/io/LoanNumberMap"), (0, .methodref 7 10), (0, .nameAndType 11 12), (0, u "free"), (0, u "(I)[J"), (0, .fieldref 7 14), (0, .nameAndType 15 16), (0, u "loanNumbers"), (0, u "[J"), (0, .fieldref 7 18), (0, .nameAndType 19 20), (0, u "values"), (0, u "[I"), (0, .methodref 7 22), (0, .nameAndType 23 24), (0, u "key"), (0, u "(Ljava/lang/String;)J"), (0, .methodref 7 26), (0, .nameAndType 27 28), (0, u "placeOf"), (0, u "(J)I"), (9, .fieldref 7 39), (0, .nameAndType 40 41), (0, u "size"), (0, u "I"), (3, .long 18446744073709551615), (10, .class_ 58), (1, u "java/lang/String"), (2, .methodref 62 63), (0, .class_ 64), (0, .nameAndType 65 66), (0, u "java/lang/Integer"), (0, u "numberOfTrailingZeros"), (0, u "(I)I"), (0, .long 11400714819323198485), (1, .methodref 70 71), (0, .class_ 72), (0, .nameAndType 73 74), (0, u "java/util/Arrays"), (0, u "fill"), (0, u "([JJ)V"), (0, .methodref 56 76), (0, .nameAndType 77 78), (0, u "length"), (0, u "()I"), (4, .methodref 56 84), (0, .nameAndType 85 86), (0, u "charAt"), (0, u "(I)C"), (0, .long 10), (4, u "NONE"), (2, u "DIGITS"), (1, u "FREE"), (0, u "J"), (0, u "SPREAD"), (0, u "FIRST_CAPACITY"), (3, u "get"), (0, u "(Ljava/lang/String;)I"), (1, u "putIfAbsent"), (0, u "(Ljava/lang/String;I)I")] 23

def k9c0 : Code := { maxStack := 2, maxLocals := 1, code := prog_21_method_1_code, exceptionTable := #[], attributes := #[] }
def k9m0 : Method := { name := "<init>", desc := "()V", sig := { parameters := [], returnType := none }, accessFlags := 0, code := some k9c0 }
def k9c1 : Code := { maxStack := 4, maxLocals := 5, code := prog_21_method_2_code, exceptionTable := #[], attributes := #[] }
def k9m1 : Method := { name := "get", desc := "(Ljava/lang/String;)I", sig := { parameters := [(.object "java/lang/String")], returnType := some .int }, accessFlags := 0, code := some k9c1 }
def k9c2 : Code := { maxStack := 4, maxLocals := 6, code := prog_21_method_3_code, exceptionTable := #[], attributes := #[] }
def k9m2 : Method := { name := "putIfAbsent", desc := "(Ljava/lang/String;I)I", sig := { parameters := [(.object "java/lang/String"), .int], returnType := some .int }, accessFlags := 0, code := some k9c2 }
def k9c3 : Code := { maxStack := 4, maxLocals := 5, code := prog_21_method_5_code, exceptionTable := #[], attributes := #[] }
def k9m3 : Method := { name := "placeOf", desc := "(J)I", sig := { parameters := [.long], returnType := some .int }, accessFlags := 2, code := some k9c3 }
def k9c4 : Code := { maxStack := 3, maxLocals := 2, code := prog_21_method_7_code, exceptionTable := #[], attributes := #[] }
def k9m4 : Method := { name := "free", desc := "(I)[J", sig := { parameters := [.int], returnType := some (.array .long) }, accessFlags := 10, code := some k9c4 }
def k9c5 : Code := { maxStack := 4, maxLocals := 5, code := prog_21_method_8_code, exceptionTable := #[], attributes := #[] }
def k9m5 : Method := { name := "key", desc := "(Ljava/lang/String;)J", sig := { parameters := [(.object "java/lang/String")], returnType := some .long }, accessFlags := 10, code := some k9c5 }
/-- com/example/rateledger/rateledger/io/LoanNumberMap -/
def k9 : Class := { plain "com/example/rateledger/rateledger/io/LoanNumberMap" (some 0) with
  accessFlags := 48
  interfaces := #[]
  cf := some (fileOf pool9 7 #[] #[{ accessFlags := 0, nameIndex := 5, descriptorIndex := 6, attributes := #[] }, { accessFlags := 0, nameIndex := 104, descriptorIndex := 105, attributes := #[] }, { accessFlags := 0, nameIndex := 107, descriptorIndex := 108, attributes := #[] }, { accessFlags := 2, nameIndex := 27, descriptorIndex := 28, attributes := #[] }, { accessFlags := 10, nameIndex := 11, descriptorIndex := 12, attributes := #[] }, { accessFlags := 10, nameIndex := 23, descriptorIndex := 24, attributes := #[] }] 48 2 #[] #[{ accessFlags := 24, nameIndex := 92, descriptorIndex := 41, attributes := #[] }, { accessFlags := 26, nameIndex := 95, descriptorIndex := 41, attributes := #[] }, { accessFlags := 26, nameIndex := 97, descriptorIndex := 98, attributes := #[] }, { accessFlags := 26, nameIndex := 99, descriptorIndex := 98, attributes := #[] }, { accessFlags := 26, nameIndex := 100, descriptorIndex := 41, attributes := #[] }, { accessFlags := 2, nameIndex := 15, descriptorIndex := 16, attributes := #[] }, { accessFlags := 2, nameIndex := 19, descriptorIndex := 20, attributes := #[] }, { accessFlags := 2, nameIndex := 40, descriptorIndex := 41, attributes := #[] }])
  fields := #[{ name := "NONE", type := .int, accessFlags := 24, slot := 0, constantValue := 0 }, { name := "DIGITS", type := .int, accessFlags := 26, slot := 1, constantValue := 0 }, { name := "FREE", type := .long, accessFlags := 26, slot := 2, constantValue := 0 }, { name := "SPREAD", type := .long, accessFlags := 26, slot := 3, constantValue := 0 }, { name := "FIRST_CAPACITY", type := .int, accessFlags := 26, slot := 4, constantValue := 0 }, { name := "loanNumbers", type := (.array .long), accessFlags := 2, slot := 0, constantValue := 0 }, { name := "values", type := (.array .int), accessFlags := 2, slot := 1, constantValue := 0 }, { name := "size", type := .int, accessFlags := 2, slot := 2, constantValue := 0 }]
  methods := #[k9m0, k9m1, k9m2, k9m3, k9m4, k9m5]
  instanceTypes := #[(.array .long), (.array .int), .int]
  staticTypes := #[.int, .int, .long, .long, .int]
  resolved := Array.replicate 132 none
  statics := none }

def pool10 : Array CpInfo := pool [(2, .class_ 4), (1, u "java/lang/Object"), (0, u "<init>"), (0, u "()V"), (7, .class_ 16), (1, u "java/util/Arrays"), (57, .class_ 76), (1, u "java/util/Arrays$NaturalOrder"), (36, .class_ 115), (1, u "java/util/Arrays$LegacyMergeSort"), (1, u "Z"), (257, .class_ 376), (0, u "java/util/Arrays$ArrayList"), (68, u "$assertionsDisabled"), (269, u "MIN_ARRAY_SORT_GRAN"), (0, u "I"), (2, u "INSERTIONSORT_THRESHOLD"), (120, u "fill"), (0, u "([JJ)V"), (133, .class_ 976), (0, u "java/util/Arrays$ArrayItr")] 52

def k10m0 : Method := { name := "<init>", desc := "()V", sig := { parameters := [], returnType := none }, accessFlags := 2, code := none }
def k10c1 : Code := { maxStack := 4, maxLocals := 5, code := jdk_65_method_101_code, exceptionTable := #[], attributes := #[] }
def k10m1 : Method := { name := "fill", desc := "([JJ)V", sig := { parameters := [(.array .long), .long], returnType := none }, accessFlags := 9, code := some k10c1 }
/-- java/util/Arrays -/
def k10 : Class := { plain "java/util/Arrays" (some 0) with
  accessFlags := 49
  interfaces := #[]
  cf := some (fileOf pool10 14 #[.nestMembers #[975, 375, 113, 74]] #[{ accessFlags := 2, nameIndex := 5, descriptorIndex := 6, attributes := #[] }, { accessFlags := 9, nameIndex := 840, descriptorIndex := 841, attributes := #[] }] 49 2 #[] #[{ accessFlags := 26, nameIndex := 715, descriptorIndex := 716, attributes := #[] }, { accessFlags := 26, nameIndex := 719, descriptorIndex := 716, attributes := #[] }, { accessFlags := 4120, nameIndex := 445, descriptorIndex := 117, attributes := #[] }])
  fields := #[{ name := "MIN_ARRAY_SORT_GRAN", type := .int, accessFlags := 26, slot := 0, constantValue := 0 }, { name := "INSERTIONSORT_THRESHOLD", type := .int, accessFlags := 26, slot := 1, constantValue := 0 }, { name := "$assertionsDisabled", type := .boolean, accessFlags := 4120, slot := 2, constantValue := 0 }]
  methods := #[k10m0, k10m1]
  instanceTypes := #[]
  staticTypes := #[.int, .int, .boolean]
  resolved := Array.replicate 1029 none
  statics := none }

def pool11 : Array CpInfo := pool [(1, .class_ 2), (0, u "java/lang/String"), (1, .class_ 6), (1, u "java/lang/Object"), (0, u "<init>"), (0, u "()V"), (0, .methodref 1 10), (0, .nameAndType 11 12), (0, u "checkIndex"), (0, u "(II)V"), (1, .class_ 16), (1, u "java/lang/StringLatin1"), (36, u "([BI)C"), (67, u "$assertionsDisabled"), (0, u "Z"), (98, .class_ 223), (1, u "java/lang/StringLatin1$LinesSpliterator"), (28, u "charAt"), (137, .class_ 391), (0, u "java/lang/StringLatin1$CharsSpliterator")] 3

def k11m0 : Method := { name := "<init>", desc := "()V", sig := { parameters := [], returnType := none }, accessFlags := 0, code := none }
def k11c1 : Code := { maxStack := 2, maxLocals := 2, code := jdk_43_method_2_code, exceptionTable := #[], attributes := #[] }
def k11m1 : Method := { name := "charAt", desc := "([BI)C", sig := { parameters := [(.array .byte), .int], returnType := some .char }, accessFlags := 9, code := some k11c1 }
/-- java/lang/StringLatin1 -/
def k11 : Class := { plain "java/lang/StringLatin1" (some 0) with
  accessFlags := 48
  interfaces := #[]
  cf := some (fileOf pool11 14 #[.nestMembers #[390, 221]] #[{ accessFlags := 0, nameIndex := 7, descriptorIndex := 8, attributes := #[] }, { accessFlags := 9, nameIndex := 252, descriptorIndex := 53, attributes := #[] }] 48 4 #[] #[{ accessFlags := 4120, nameIndex := 121, descriptorIndex := 122, attributes := #[] }])
  fields := #[{ name := "$assertionsDisabled", type := .boolean, accessFlags := 4120, slot := 0, constantValue := 0 }]
  methods := #[k11m0, k11m1]
  instanceTypes := #[]
  staticTypes := #[.boolean]
  resolved := Array.replicate 395 none
  statics := none }

def pool12 : Array CpInfo := pool [(2, .class_ 4), (1, u "java/lang/Object"), (0, u "<init>"), (0, u "()V"), (17, .class_ 26), (1, u "jdk/internal/util/Preconditions"), (6, u "checkIndex"), (21, .class_ 56), (0, u "jdk/internal/util/Preconditions$4"), (57, .class_ 115), (0, u "jdk/internal/util/Preconditions$1"), (7, u "SIOOBE_FORMATTER"), (0, u "Ljava/util/function/BiFunction;"), (0, .class_ 126), (0, u "jdk/internal/util/Preconditions$2"), (3, u "AIOOBE_FORMATTER"), (0, .class_ 132), (0, u "jdk/internal/util/Preconditions$3"), (3, u "IOOBE_FORMATTER"), (41, u "(IILjava/util/function/BiFunction;)I")] 15

def k12m0 : Method := { name := "<init>", desc := "()V", sig := { parameters := [], returnType := none }, accessFlags := 1, code := none }
def k12c1 : Code := { maxStack := 3, maxLocals := 3, code := jdk_41_method_11_code, exceptionTable := #[], attributes := #[] }
def k12m1 : Method := { name := "checkIndex", desc := "(IILjava/util/function/BiFunction;)I", sig := { parameters := [.int, .int, (.object "java/util/function/BiFunction")], returnType := some .int }, accessFlags := 9, code := some k12c1 }
/-- jdk/internal/util/Preconditions -/
def k12 : Class := { plain "jdk/internal/util/Preconditions" (some 0) with
  accessFlags := 33
  interfaces := #[]
  cf := some (fileOf pool12 24 #[.nestMembers #[55, 131, 125, 114]] #[{ accessFlags := 1, nameIndex := 5, descriptorIndex := 6, attributes := #[] }, { accessFlags := 9, nameIndex := 33, descriptorIndex := 178, attributes := #[] }] 33 2 #[] #[{ accessFlags := 25, nameIndex := 123, descriptorIndex := 124, attributes := #[] }, { accessFlags := 25, nameIndex := 130, descriptorIndex := 124, attributes := #[] }, { accessFlags := 25, nameIndex := 136, descriptorIndex := 124, attributes := #[] }])
  fields := #[{ name := "SIOOBE_FORMATTER", type := (.object "java/util/function/BiFunction"), accessFlags := 25, slot := 0, constantValue := 0 }, { name := "AIOOBE_FORMATTER", type := (.object "java/util/function/BiFunction"), accessFlags := 25, slot := 1, constantValue := 0 }, { name := "IOOBE_FORMATTER", type := (.object "java/util/function/BiFunction"), accessFlags := 25, slot := 2, constantValue := 0 }]
  methods := #[k12m0, k12m1]
  instanceTypes := #[]
  staticTypes := #[(.object "java/util/function/BiFunction"), (.object "java/util/function/BiFunction"), (.object "java/util/function/BiFunction")]
  resolved := Array.replicate 194 none
  statics := some 1 }

def pool13 : Array CpInfo := pool [(2, .class_ 4), (1, u "java/lang/Object"), (0, u "<init>"), (0, u "()V"), (1, .class_ 10), (1, u "java/lang/Number"), (2, .class_ 14), (0, u "java/io/Serializable"), (0, u "serialVersionUID"), (0, u "J")] 20

def k13m0 : Method := { name := "<init>", desc := "()V", sig := { parameters := [], returnType := none }, accessFlags := 1, code := none }
/-- java/lang/Number -/
def k13 : Class := { plain "java/lang/Number" (some 0) with
  accessFlags := 1057
  interfaces := #[2]
  cf := some (fileOf pool13 8 #[] #[{ accessFlags := 1, nameIndex := 5, descriptorIndex := 6, attributes := #[] }] 1057 2 #[13] #[{ accessFlags := 26, nameIndex := 15, descriptorIndex := 16, attributes := #[] }])
  fields := #[{ name := "serialVersionUID", type := .long, accessFlags := 26, slot := 0, constantValue := 0 }]
  methods := #[k13m0]
  instanceTypes := #[]
  staticTypes := #[.long]
  resolved := Array.replicate 37 none
  statics := none }

def pool14 : Array CpInfo := pool [(1, .class_ 2), (0, u "java/lang/Integer"), (16, u "digits"), (0, u "[C"), (33, u "(I)I"), (30, u "DigitOnes"), (0, u "[B"), (2, u "DigitTens"), (99, .class_ 190), (0, u "java/lang/Integer$IntegerCache"), (3, u "I"), (8, .class_ 204), (0, u "java/lang/Number"), (2, u "value"), (56, .integer 65536), (37, u "TYPE"), (0, u "Ljava/lang/Class;"), (0, .class_ 305), (0, u "java/lang/Comparable"), (0, .class_ 307), (0, u "java/lang/constant/Constable"), (0, .class_ 309), (0, u "java/lang/constant/ConstantDesc"), (0, u "MIN_VALUE"), (1, u "MAX_VALUE"), (3, u "SIZE"), (1, u "BYTES"), (1, u "serialVersionUID"), (0, u "J"), (84, u "numberOfTrailingZeros")] 46

def k14c0 : Code := { maxStack := 3, maxLocals := 2, code := jdk_33_method_48_code, exceptionTable := #[], attributes := #[] }
def k14m0 : Method := { name := "numberOfTrailingZeros", desc := "(I)I", sig := { parameters := [.int], returnType := some .int }, accessFlags := 9, code := some k14c0 }
/-- java/lang/Integer -/
def k14 : Class := { plain "java/lang/Integer" (some 13) with
  accessFlags := 49
  interfaces := #[3, 5, 6]
  cf := some (fileOf pool14 1 #[.nestMembers #[189]] #[{ accessFlags := 9, nameIndex := 406, descriptorIndex := 54, attributes := #[] }] 49 203 #[304, 306, 308] #[{ accessFlags := 25, nameIndex := 310, descriptorIndex := 194, attributes := #[] }, { accessFlags := 25, nameIndex := 312, descriptorIndex := 194, attributes := #[] }, { accessFlags := 25, nameIndex := 302, descriptorIndex := 303, attributes := #[] }, { accessFlags := 24, nameIndex := 19, descriptorIndex := 20, attributes := #[] }, { accessFlags := 24, nameIndex := 89, descriptorIndex := 86, attributes := #[] }, { accessFlags := 24, nameIndex := 85, descriptorIndex := 86, attributes := #[] }, { accessFlags := 18, nameIndex := 207, descriptorIndex := 194, attributes := #[] }, { accessFlags := 25, nameIndex := 316, descriptorIndex := 194, attributes := #[] }, { accessFlags := 25, nameIndex := 318, descriptorIndex := 194, attributes := #[] }, { accessFlags := 26, nameIndex := 320, descriptorIndex := 321, attributes := #[] }])
  fields := #[{ name := "MIN_VALUE", type := .int, accessFlags := 25, slot := 0, constantValue := 0 }, { name := "MAX_VALUE", type := .int, accessFlags := 25, slot := 1, constantValue := 0 }, { name := "TYPE", type := (.object "java/lang/Class"), accessFlags := 25, slot := 2, constantValue := 0 }, { name := "digits", type := (.array .char), accessFlags := 24, slot := 3, constantValue := 0 }, { name := "DigitTens", type := (.array .byte), accessFlags := 24, slot := 4, constantValue := 0 }, { name := "DigitOnes", type := (.array .byte), accessFlags := 24, slot := 5, constantValue := 0 }, { name := "value", type := .int, accessFlags := 18, slot := 0, constantValue := 0 }, { name := "SIZE", type := .int, accessFlags := 25, slot := 6, constantValue := 0 }, { name := "BYTES", type := .int, accessFlags := 25, slot := 7, constantValue := 0 }, { name := "serialVersionUID", type := .long, accessFlags := 26, slot := 8, constantValue := 0 }]
  methods := #[k14m0]
  instanceTypes := #[.int]
  staticTypes := #[.int, .int, (.object "java/lang/Class"), (.array .char), (.array .byte), (.array .byte), .int, .int, .long]
  resolved := Array.replicate 453 none
  statics := none }

def pool15 : Array CpInfo := pool [(9, u "<init>"), (6, .class_ 18), (1, u "java/lang/Object"), (0, u "()V"), (1, .class_ 23), (1, u "jdk/internal/util/ArraysSupport"), (0, u "LOG2_ARRAY_LONG_INDEX_SCALE"), (0, u "I"), (2, u "U"), (0, u "Ljdk/internal/misc/Unsafe;"), (8, u "BIG_ENDIAN"), (0, u "Z"), (8, u "LOG2_BYTE_BIT_SIZE"), (4, u "LOG2_ARRAY_INT_INDEX_SCALE"), (54, u "JLA"), (0, u "Ljdk/internal/access/JavaLangAccess;"), (11, u "LOG2_ARRAY_BOOLEAN_INDEX_SCALE"), (9, u "LOG2_ARRAY_BYTE_INDEX_SCALE"), (5, u "LOG2_ARRAY_CHAR_INDEX_SCALE"), (5, u "LOG2_ARRAY_SHORT_INDEX_SCALE"), (18, u "LOG2_ARRAY_FLOAT_INDEX_SCALE"), (24, u "LOG2_ARRAY_DOUBLE_INDEX_SCALE"), (89, u "T_BOOLEAN"), (2, u "T_CHAR"), (1, u "T_FLOAT"), (1, u "T_DOUBLE"), (1, u "T_BYTE"), (1, u "T_SHORT"), (1, u "T_INT"), (1, u "T_LONG"), (1, u "SOFT_MAX_ARRAY_LENGTH")] 83

def k15m0 : Method := { name := "<init>", desc := "()V", sig := { parameters := [], returnType := none }, accessFlags := 2, code := none }
/-- jdk/internal/util/ArraysSupport -/
def k15 : Class := { plain "jdk/internal/util/ArraysSupport" (some 0) with
  accessFlags := 33
  interfaces := #[]
  cf := some (fileOf pool15 21 #[] #[{ accessFlags := 2, nameIndex := 9, descriptorIndex := 19, attributes := #[] }] 33 16 #[] #[{ accessFlags := 24, nameIndex := 28, descriptorIndex := 29, attributes := #[] }, { accessFlags := 26, nameIndex := 38, descriptorIndex := 39, attributes := #[] }, { accessFlags := 25, nameIndex := 121, descriptorIndex := 25, attributes := #[] }, { accessFlags := 25, nameIndex := 131, descriptorIndex := 25, attributes := #[] }, { accessFlags := 25, nameIndex := 137, descriptorIndex := 25, attributes := #[] }, { accessFlags := 25, nameIndex := 143, descriptorIndex := 25, attributes := #[] }, { accessFlags := 25, nameIndex := 53, descriptorIndex := 25, attributes := #[] }, { accessFlags := 25, nameIndex := 24, descriptorIndex := 25, attributes := #[] }, { accessFlags := 25, nameIndex := 162, descriptorIndex := 25, attributes := #[] }, { accessFlags := 25, nameIndex := 187, descriptorIndex := 25, attributes := #[] }, { accessFlags := 26, nameIndex := 48, descriptorIndex := 25, attributes := #[] }, { accessFlags := 25, nameIndex := 277, descriptorIndex := 25, attributes := #[] }, { accessFlags := 25, nameIndex := 280, descriptorIndex := 25, attributes := #[] }, { accessFlags := 25, nameIndex := 282, descriptorIndex := 25, attributes := #[] }, { accessFlags := 25, nameIndex := 284, descriptorIndex := 25, attributes := #[] }, { accessFlags := 25, nameIndex := 286, descriptorIndex := 25, attributes := #[] }, { accessFlags := 25, nameIndex := 288, descriptorIndex := 25, attributes := #[] }, { accessFlags := 25, nameIndex := 290, descriptorIndex := 25, attributes := #[] }, { accessFlags := 25, nameIndex := 292, descriptorIndex := 25, attributes := #[] }, { accessFlags := 26, nameIndex := 108, descriptorIndex := 109, attributes := #[] }, { accessFlags := 25, nameIndex := 294, descriptorIndex := 25, attributes := #[] }])
  fields := #[{ name := "U", type := (.object "jdk/internal/misc/Unsafe"), accessFlags := 24, slot := 0, constantValue := 0 }, { name := "BIG_ENDIAN", type := .boolean, accessFlags := 26, slot := 1, constantValue := 0 }, { name := "LOG2_ARRAY_BOOLEAN_INDEX_SCALE", type := .int, accessFlags := 25, slot := 2, constantValue := 0 }, { name := "LOG2_ARRAY_BYTE_INDEX_SCALE", type := .int, accessFlags := 25, slot := 3, constantValue := 0 }, { name := "LOG2_ARRAY_CHAR_INDEX_SCALE", type := .int, accessFlags := 25, slot := 4, constantValue := 0 }, { name := "LOG2_ARRAY_SHORT_INDEX_SCALE", type := .int, accessFlags := 25, slot := 5, constantValue := 0 }, { name := "LOG2_ARRAY_INT_INDEX_SCALE", type := .int, accessFlags := 25, slot := 6, constantValue := 0 }, { name := "LOG2_ARRAY_LONG_INDEX_SCALE", type := .int, accessFlags := 25, slot := 7, constantValue := 0 }, { name := "LOG2_ARRAY_FLOAT_INDEX_SCALE", type := .int, accessFlags := 25, slot := 8, constantValue := 0 }, { name := "LOG2_ARRAY_DOUBLE_INDEX_SCALE", type := .int, accessFlags := 25, slot := 9, constantValue := 0 }, { name := "LOG2_BYTE_BIT_SIZE", type := .int, accessFlags := 26, slot := 10, constantValue := 0 }, { name := "T_BOOLEAN", type := .int, accessFlags := 25, slot := 11, constantValue := 0 }, { name := "T_CHAR", type := .int, accessFlags := 25, slot := 12, constantValue := 0 }, { name := "T_FLOAT", type := .int, accessFlags := 25, slot := 13, constantValue := 0 }, { name := "T_DOUBLE", type := .int, accessFlags := 25, slot := 14, constantValue := 0 }, { name := "T_BYTE", type := .int, accessFlags := 25, slot := 15, constantValue := 0 }, { name := "T_SHORT", type := .int, accessFlags := 25, slot := 16, constantValue := 0 }, { name := "T_INT", type := .int, accessFlags := 25, slot := 17, constantValue := 0 }, { name := "T_LONG", type := .int, accessFlags := 25, slot := 18, constantValue := 0 }, { name := "JLA", type := (.object "jdk/internal/access/JavaLangAccess"), accessFlags := 26, slot := 19, constantValue := 0 }, { name := "SOFT_MAX_ARRAY_LENGTH", type := .int, accessFlags := 25, slot := 20, constantValue := 0 }]
  methods := #[k15m0]
  instanceTypes := #[]
  staticTypes := #[(.object "jdk/internal/misc/Unsafe"), .boolean, .int, .int, .int, .int, .int, .int, .int, .int, .int, .int, .int, .int, .int, .int, .int, .int, .int, (.object "jdk/internal/access/JavaLangAccess"), .int]
  resolved := Array.replicate 378 none
  statics := none }

def pool16 : Array CpInfo := pool [(1, u "java/lang/Cloneable"), (0, .class_ 1), (0, u "java/lang/Object"), (0, .class_ 3)] 3

/-- java/lang/Cloneable -/
def k16 : Class := { plain "java/lang/Cloneable" (some 0) with
  accessFlags := 1537
  interfaces := #[]
  cf := some (fileOf pool16 2 #[] #[] 1537 4 #[] #[])
  fields := #[]
  methods := #[]
  instanceTypes := #[]
  staticTypes := #[]
  resolved := Array.replicate 8 none
  statics := none }

/-- the primitive byte -/
def k17 : Class := { plain "byte" none with kind := .primitive 'B', accessFlags := 0x411 }
/-- [B -/
def k18 : Class := { plain "[B" (some 0) with kind := .array 17 .byte, interfaces := #[16, 2], accessFlags := 1041 }

/-- the primitive char -/
def k19 : Class := { plain "char" none with kind := .primitive 'C', accessFlags := 0x411 }
/-- [C -/
def k20 : Class := { plain "[C" (some 0) with kind := .array 19 .char, interfaces := #[16, 2], accessFlags := 1041 }

/-- the primitive int -/
def k21 : Class := { plain "int" none with kind := .primitive 'I', accessFlags := 0x411 }
/-- [I -/
def k22 : Class := { plain "[I" (some 0) with kind := .array 21 .int, interfaces := #[16, 2], accessFlags := 1041 }

/-- the primitive long -/
def k23 : Class := { plain "long" none with kind := .primitive 'J', accessFlags := 0x411 }
/-- [J -/
def k24 : Class := { plain "[J" (some 0) with kind := .array 23 .long, interfaces := #[16, 2], accessFlags := 1041 }

def heap : Heap := #[{ cls := 7, slots := #[.long 0, .int 1, .null, .int 0, .null, .int 0, .int 0], vm := .statics 7 },
  { cls := 12, slots := #[.null, .null, .null], vm := .statics 12 }]
def classes : Array Class := #[k0, k1, k2, k3, k4, k5, k6, k7, k8, k9, k10, k11, k12, k13, k14, k15, k16, k17, k18, k19, k20, k21, k22, k23, k24]
def interned : List (Array UInt16 × Addr) := []
def slotsUsed : Nat := 10
def theMethod : MethodId := ⟨1, 3⟩
def args0 : Array Value := #[.long 5, .long 7, .long 9, .int 1, .int 2, .int 3]
def aboutOver (below : List Frame) : State where
  vm := { classes := classes, interned := interned.toArray }
  heap := heap
  slotsUsed := slotsUsed
  threads := #[{ frames := .invoking theMethod args0 :: below }]
def below0 : List Frame := [.native { method := ⟨0, 0⟩, args := #[] }]
def about1 : State := aboutOver below0
def p0 : Program := .bare "" "" ""
def e0 : Env := launch0.env 0 0 0
theorem w_frames : about1.frames = Frame.invoking theMethod args0 :: below0 := rfl
set_option maxRecDepth 65536 in
theorem w_args : argsFit about1.vm theMethod args0 = true := by decide +kernel
set_option maxRecDepth 65536 in
theorem w_heap : heapFits about1 = true := by decide +kernel
set_option maxRecDepth 65536 in
theorem w_runnable : about1.curStatus? = some .runnable := by decide +kernel
set_option maxRecDepth 65536 in
theorem w_alone : about1.alone = true := by decide +kernel
set_option maxRecDepth 65536 in
theorem w_named : about1.methodNamed? x = some theMethod := by decide +kernel
set_option maxRecDepth 65536 in
theorem w_hears : about1.hears theMethod below0 = true := by decide +kernel
set_option maxRecDepth 65536 in
theorem w_ripe : about1.ripe theMethod args0 below0 = true := by decide +kernel
theorem w_running : about1.status = .running := rfl
set_option maxRecDepth 65536 in
theorem w_room : about1.hasRoom e0.platform room_1 = true :=
  launch0.hasRoom_least _ room_1 (by decide +kernel) (by decide +kernel) (by decide +kernel) (by decide +kernel) (by decide +kernel) (by decide +kernel)
theorem allAtoms_all (ts : List Jvm.Cond) (a : Array Jvm.Value) (st : Jvm.State) : (allAtoms ts).before a st = ts.all (fun c => c.before a st) := by
  induction ts with
  | nil => rfl
  | cons c t ih =>
    show (Jvm.Cond.and c (allAtoms t)).before a st = _
    rw [Jvm.Cond.before_and, ih, List.all_cons]
def words1 : List Jvm.Cond := Jvm.Cond.code x code maxLocals ret :: tables_1
/-- a 'code' word, met by the world's own term for the bytes: nothing is compared byte by byte -/
theorem code_word {y : MethodName} {bytes : ByteArray} {mx : Nat} {rt : Option FieldType} {a : Array Value} {s : State} {m : MethodId} {meth : Method} {c : Code} (h1 : s.methodNamed? y = some m) (h2 : s.vm.method? m = some meth) (h3 : meth.code = some c) (h4 : c.code = bytes)
    (h5 : (c.maxLocals == mx && c.exceptionTable.isEmpty && decide (c.maxStack ≤ mostOperands) && decide (meth.sig.returnType = rt) && !meth.locks && decide (parseMethodDescriptor y.desc = some meth.sig)) = true) : (Jvm.Cond.code y bytes mx rt).before a s = true := by
  simp only [Bool.and_eq_true, beq_iff_eq, Bool.not_eq_true', decide_eq_true_eq] at h5
  obtain ⟨⟨⟨⟨⟨g1, g2⟩, g3⟩, g4⟩, g5⟩, g6⟩ := h5
  simp [Cond.before, Cond.holds, Cond.value, h1, h2, h3, h4, g1, g2, g3, g4, g5, g6]
def isCode : Jvm.Cond → Bool
  | .code _ _ _ _ => true
  | _ => false
theorem all_split {L : List Jvm.Cond} {P : Jvm.Cond → Bool} (h1 : L.all (fun c => isCode c || P c) = true) (h2 : ∀ c ∈ L.filter isCode, P c = true) : L.all P = true := by
  refine List.all_eq_true.mpr fun c hc => ?_
  have h := List.all_eq_true.mp h1 c hc
  rcases Bool.eq_false_or_eq_true (isCode c) with hi | hi
  · exact h2 c (List.mem_filter.mpr ⟨hc, hi⟩)
  · simpa [hi] using h
set_option maxRecDepth 65536 in
theorem w_c0 : (Jvm.Cond.code x code maxLocals ret).before args0 about1 = true := code_word (m := ⟨1, 3⟩) (meth := k1m3) (c := k1c3) (by decide +kernel) rfl rfl rfl (by decide +kernel)
set_option maxRecDepth 65536 in
theorem w_c1 : (Jvm.Cond.code ({ cls := "com/example/rateledger/rateledger/io/LoanNumberMapGetPinLaw", name := "norm", desc := "(J)J" } : Jvm.MethodName) method_2_code (2 : Nat) (Option.some Jvm.ClassFile.FieldType.long)).before args0 about1 = true := code_word (m := ⟨1, 1⟩) (meth := k1m1) (c := k1c1) (by decide +kernel) rfl rfl rfl (by decide +kernel)
set_option maxRecDepth 65536 in
theorem w_c2 : (Jvm.Cond.code ({ cls := "com/example/rateledger/rateledger/io/LoanNumberMapGetPinLaw", name := "loan", desc := "(J)Ljava/lang/String;" } : Jvm.MethodName) method_3_code (5 : Nat) (Option.some (Jvm.ClassFile.FieldType.object "java/lang/String"))).before args0 about1 = true := code_word (m := ⟨1, 2⟩) (meth := k1m2) (c := k1c2) (by decide +kernel) rfl rfl rfl (by decide +kernel)
set_option maxRecDepth 65536 in
theorem w_c3 : (Jvm.Cond.code ({ cls := "java/lang/String", name := "<init>", desc := "([C)V" } : Jvm.MethodName) jdk_42_method_3_code (2 : Nat) (Option.none : Option Jvm.ClassFile.FieldType)).before args0 about1 = true := code_word (m := ⟨7, 1⟩) (meth := k7m1) (c := k7c1) (by decide +kernel) rfl rfl rfl (by decide +kernel)
set_option maxRecDepth 65536 in
theorem w_c4 : (Jvm.Cond.code ({ cls := "java/lang/String", name := "<init>", desc := "([CIILjava/lang/Void;)V" } : Jvm.MethodName) jdk_42_method_149_code (6 : Nat) (Option.none : Option Jvm.ClassFile.FieldType)).before args0 about1 = true := code_word (m := ⟨7, 4⟩) (meth := k7m4) (c := k7c4) (by decide +kernel) rfl rfl rfl (by decide +kernel)
set_option maxRecDepth 65536 in
theorem w_c5 : (Jvm.Cond.code ({ cls := "java/lang/Object", name := "<init>", desc := "()V" } : Jvm.MethodName) object_method_1_code (1 : Nat) (Option.none : Option Jvm.ClassFile.FieldType)).before args0 about1 = true := code_word (m := ⟨0, 0⟩) (meth := k0m0) (c := k0c0) (by decide +kernel) rfl rfl rfl (by decide +kernel)
set_option maxRecDepth 65536 in
theorem w_c6 : (Jvm.Cond.code ({ cls := "java/lang/StringUTF16", name := "compress", desc := "([CII)[B" } : Jvm.MethodName) jdk_52_method_16_code (6 : Nat) (Option.some (Jvm.ClassFile.FieldType.array Jvm.ClassFile.FieldType.byte))).before args0 about1 = true := code_word (m := ⟨8, 2⟩) (meth := k8m2) (c := k8c2) (by decide +kernel) rfl rfl rfl (by decide +kernel)
set_option maxRecDepth 65536 in
theorem w_c7 : (Jvm.Cond.code ({ cls := "java/lang/StringUTF16", name := "compress", desc := "([CI[BII)I" } : Jvm.MethodName) jdk_52_method_21_code (7 : Nat) (Option.some Jvm.ClassFile.FieldType.int)).before args0 about1 = true := code_word (m := ⟨8, 3⟩) (meth := k8m3) (c := k8c3) (by decide +kernel) rfl rfl rfl (by decide +kernel)
set_option maxRecDepth 65536 in
theorem w_c8 : (Jvm.Cond.code ({ cls := "java/lang/StringUTF16", name := "coderFromArrayLen", desc := "([BI)B" } : Jvm.MethodName) jdk_52_method_15_code (2 : Nat) (Option.some Jvm.ClassFile.FieldType.byte)).before args0 about1 = true := code_word (m := ⟨8, 1⟩) (meth := k8m1) (c := k8c1) (by decide +kernel) rfl rfl rfl (by decide +kernel)
set_option maxRecDepth 65536 in
theorem w_c9 : (Jvm.Cond.code ({ cls := "com/example/rateledger/rateledger/io/LoanNumberMap", name := "<init>", desc := "()V" } : Jvm.MethodName) prog_21_method_1_code (1 : Nat) (Option.none : Option Jvm.ClassFile.FieldType)).before args0 about1 = true := code_word (m := ⟨9, 0⟩) (meth := k9m0) (c := k9c0) (by decide +kernel) rfl rfl rfl (by decide +kernel)
set_option maxRecDepth 65536 in
theorem w_c10 : (Jvm.Cond.code ({ cls := "com/example/rateledger/rateledger/io/LoanNumberMap", name := "free", desc := "(I)[J" } : Jvm.MethodName) prog_21_method_7_code (2 : Nat) (Option.some (Jvm.ClassFile.FieldType.array Jvm.ClassFile.FieldType.long))).before args0 about1 = true := code_word (m := ⟨9, 4⟩) (meth := k9m4) (c := k9c4) (by decide +kernel) rfl rfl rfl (by decide +kernel)
set_option maxRecDepth 65536 in
theorem w_c11 : (Jvm.Cond.code ({ cls := "java/util/Arrays", name := "fill", desc := "([JJ)V" } : Jvm.MethodName) jdk_65_method_101_code (5 : Nat) (Option.none : Option Jvm.ClassFile.FieldType)).before args0 about1 = true := code_word (m := ⟨10, 1⟩) (meth := k10m1) (c := k10c1) (by decide +kernel) rfl rfl rfl (by decide +kernel)
set_option maxRecDepth 65536 in
theorem w_c12 : (Jvm.Cond.code ({ cls := "com/example/rateledger/rateledger/io/LoanNumberMap", name := "putIfAbsent", desc := "(Ljava/lang/String;I)I" } : Jvm.MethodName) prog_21_method_3_code (6 : Nat) (Option.some Jvm.ClassFile.FieldType.int)).before args0 about1 = true := code_word (m := ⟨9, 2⟩) (meth := k9m2) (c := k9c2) (by decide +kernel) rfl rfl rfl (by decide +kernel)
set_option maxRecDepth 65536 in
theorem w_c13 : (Jvm.Cond.code ({ cls := "com/example/rateledger/rateledger/io/LoanNumberMap", name := "key", desc := "(Ljava/lang/String;)J" } : Jvm.MethodName) prog_21_method_8_code (5 : Nat) (Option.some Jvm.ClassFile.FieldType.long)).before args0 about1 = true := code_word (m := ⟨9, 5⟩) (meth := k9m5) (c := k9c5) (by decide +kernel) rfl rfl rfl (by decide +kernel)
set_option maxRecDepth 65536 in
theorem w_c14 : (Jvm.Cond.code ({ cls := "java/lang/String", name := "length", desc := "()I" } : Jvm.MethodName) jdk_42_method_54_code (1 : Nat) (Option.some Jvm.ClassFile.FieldType.int)).before args0 about1 = true := code_word (m := ⟨7, 2⟩) (meth := k7m2) (c := k7c2) (by decide +kernel) rfl rfl rfl (by decide +kernel)
set_option maxRecDepth 65536 in
theorem w_c15 : (Jvm.Cond.code ({ cls := "java/lang/String", name := "coder", desc := "()B" } : Jvm.MethodName) jdk_42_method_152_code (1 : Nat) (Option.some Jvm.ClassFile.FieldType.byte)).before args0 about1 = true := code_word (m := ⟨7, 5⟩) (meth := k7m5) (c := k7c5) (by decide +kernel) rfl rfl rfl (by decide +kernel)
set_option maxRecDepth 65536 in
theorem w_c16 : (Jvm.Cond.code ({ cls := "java/lang/String", name := "charAt", desc := "(I)C" } : Jvm.MethodName) jdk_42_method_56_code (2 : Nat) (Option.some Jvm.ClassFile.FieldType.char)).before args0 about1 = true := code_word (m := ⟨7, 3⟩) (meth := k7m3) (c := k7c3) (by decide +kernel) rfl rfl rfl (by decide +kernel)
set_option maxRecDepth 65536 in
theorem w_c17 : (Jvm.Cond.code ({ cls := "java/lang/String", name := "isLatin1", desc := "()Z" } : Jvm.MethodName) jdk_42_method_154_code (1 : Nat) (Option.some Jvm.ClassFile.FieldType.boolean)).before args0 about1 = true := code_word (m := ⟨7, 6⟩) (meth := k7m6) (c := k7c6) (by decide +kernel) rfl rfl rfl (by decide +kernel)
set_option maxRecDepth 65536 in
theorem w_c18 : (Jvm.Cond.code ({ cls := "java/lang/StringLatin1", name := "charAt", desc := "([BI)C" } : Jvm.MethodName) jdk_43_method_2_code (2 : Nat) (Option.some Jvm.ClassFile.FieldType.char)).before args0 about1 = true := code_word (m := ⟨11, 1⟩) (meth := k11m1) (c := k11c1) (by decide +kernel) rfl rfl rfl (by decide +kernel)
set_option maxRecDepth 65536 in
theorem w_c19 : (Jvm.Cond.code ({ cls := "java/lang/String", name := "checkIndex", desc := "(II)V" } : Jvm.MethodName) jdk_42_method_155_code (2 : Nat) (Option.none : Option Jvm.ClassFile.FieldType)).before args0 about1 = true := code_word (m := ⟨7, 7⟩) (meth := k7m7) (c := k7c7) (by decide +kernel) rfl rfl rfl (by decide +kernel)
set_option maxRecDepth 65536 in
theorem w_c20 : (Jvm.Cond.code ({ cls := "jdk/internal/util/Preconditions", name := "checkIndex", desc := "(IILjava/util/function/BiFunction;)I" } : Jvm.MethodName) jdk_41_method_11_code (3 : Nat) (Option.some Jvm.ClassFile.FieldType.int)).before args0 about1 = true := code_word (m := ⟨12, 1⟩) (meth := k12m1) (c := k12c1) (by decide +kernel) rfl rfl rfl (by decide +kernel)
set_option maxRecDepth 65536 in
theorem w_c21 : (Jvm.Cond.code ({ cls := "com/example/rateledger/rateledger/io/LoanNumberMap", name := "placeOf", desc := "(J)I" } : Jvm.MethodName) prog_21_method_5_code (5 : Nat) (Option.some Jvm.ClassFile.FieldType.int)).before args0 about1 = true := code_word (m := ⟨9, 3⟩) (meth := k9m3) (c := k9c3) (by decide +kernel) rfl rfl rfl (by decide +kernel)
set_option maxRecDepth 65536 in
theorem w_c22 : (Jvm.Cond.code ({ cls := "java/lang/Integer", name := "numberOfTrailingZeros", desc := "(I)I" } : Jvm.MethodName) jdk_33_method_48_code (2 : Nat) (Option.some Jvm.ClassFile.FieldType.int)).before args0 about1 = true := code_word (m := ⟨14, 0⟩) (meth := k14m0) (c := k14c0) (by decide +kernel) rfl rfl rfl (by decide +kernel)
set_option maxRecDepth 65536 in
theorem w_c23 : (Jvm.Cond.code ({ cls := "com/example/rateledger/rateledger/io/LoanNumberMap", name := "get", desc := "(Ljava/lang/String;)I" } : Jvm.MethodName) prog_21_method_2_code (5 : Nat) (Option.some Jvm.ClassFile.FieldType.int)).before args0 about1 = true := code_word (m := ⟨9, 1⟩) (meth := k9m1) (c := k9c1) (by decide +kernel) rfl rfl rfl (by decide +kernel)
def codes1 : List Jvm.Cond := [Jvm.Cond.code x code maxLocals ret, Jvm.Cond.code ({ cls := "com/example/rateledger/rateledger/io/LoanNumberMapGetPinLaw", name := "norm", desc := "(J)J" } : Jvm.MethodName) method_2_code (2 : Nat) (Option.some Jvm.ClassFile.FieldType.long), Jvm.Cond.code ({ cls := "com/example/rateledger/rateledger/io/LoanNumberMapGetPinLaw", name := "loan", desc := "(J)Ljava/lang/String;" } : Jvm.MethodName) method_3_code (5 : Nat) (Option.some (Jvm.ClassFile.FieldType.object "java/lang/String")), Jvm.Cond.code ({ cls := "java/lang/String", name := "<init>", desc := "([C)V" } : Jvm.MethodName) jdk_42_method_3_code (2 : Nat) (Option.none : Option Jvm.ClassFile.FieldType), Jvm.Cond.code ({ cls := "java/lang/String", name := "<init>", desc := "([CIILjava/lang/Void;)V" } : Jvm.MethodName) jdk_42_method_149_code (6 : Nat) (Option.none : Option Jvm.ClassFile.FieldType), Jvm.Cond.code ({ cls := "java/lang/Object", name := "<init>", desc := "()V" } : Jvm.MethodName) object_method_1_code (1 : Nat) (Option.none : Option Jvm.ClassFile.FieldType), Jvm.Cond.code ({ cls := "java/lang/StringUTF16", name := "compress", desc := "([CII)[B" } : Jvm.MethodName) jdk_52_method_16_code (6 : Nat) (Option.some (Jvm.ClassFile.FieldType.array Jvm.ClassFile.FieldType.byte)), Jvm.Cond.code ({ cls := "java/lang/StringUTF16", name := "compress", desc := "([CI[BII)I" } : Jvm.MethodName) jdk_52_method_21_code (7 : Nat) (Option.some Jvm.ClassFile.FieldType.int), Jvm.Cond.code ({ cls := "java/lang/StringUTF16", name := "coderFromArrayLen", desc := "([BI)B" } : Jvm.MethodName) jdk_52_method_15_code (2 : Nat) (Option.some Jvm.ClassFile.FieldType.byte), Jvm.Cond.code ({ cls := "com/example/rateledger/rateledger/io/LoanNumberMap", name := "<init>", desc := "()V" } : Jvm.MethodName) prog_21_method_1_code (1 : Nat) (Option.none : Option Jvm.ClassFile.FieldType), Jvm.Cond.code ({ cls := "com/example/rateledger/rateledger/io/LoanNumberMap", name := "free", desc := "(I)[J" } : Jvm.MethodName) prog_21_method_7_code (2 : Nat) (Option.some (Jvm.ClassFile.FieldType.array Jvm.ClassFile.FieldType.long)), Jvm.Cond.code ({ cls := "java/util/Arrays", name := "fill", desc := "([JJ)V" } : Jvm.MethodName) jdk_65_method_101_code (5 : Nat) (Option.none : Option Jvm.ClassFile.FieldType), Jvm.Cond.code ({ cls := "com/example/rateledger/rateledger/io/LoanNumberMap", name := "putIfAbsent", desc := "(Ljava/lang/String;I)I" } : Jvm.MethodName) prog_21_method_3_code (6 : Nat) (Option.some Jvm.ClassFile.FieldType.int), Jvm.Cond.code ({ cls := "com/example/rateledger/rateledger/io/LoanNumberMap", name := "key", desc := "(Ljava/lang/String;)J" } : Jvm.MethodName) prog_21_method_8_code (5 : Nat) (Option.some Jvm.ClassFile.FieldType.long), Jvm.Cond.code ({ cls := "java/lang/String", name := "length", desc := "()I" } : Jvm.MethodName) jdk_42_method_54_code (1 : Nat) (Option.some Jvm.ClassFile.FieldType.int), Jvm.Cond.code ({ cls := "java/lang/String", name := "coder", desc := "()B" } : Jvm.MethodName) jdk_42_method_152_code (1 : Nat) (Option.some Jvm.ClassFile.FieldType.byte), Jvm.Cond.code ({ cls := "java/lang/String", name := "charAt", desc := "(I)C" } : Jvm.MethodName) jdk_42_method_56_code (2 : Nat) (Option.some Jvm.ClassFile.FieldType.char), Jvm.Cond.code ({ cls := "java/lang/String", name := "isLatin1", desc := "()Z" } : Jvm.MethodName) jdk_42_method_154_code (1 : Nat) (Option.some Jvm.ClassFile.FieldType.boolean), Jvm.Cond.code ({ cls := "java/lang/StringLatin1", name := "charAt", desc := "([BI)C" } : Jvm.MethodName) jdk_43_method_2_code (2 : Nat) (Option.some Jvm.ClassFile.FieldType.char), Jvm.Cond.code ({ cls := "java/lang/String", name := "checkIndex", desc := "(II)V" } : Jvm.MethodName) jdk_42_method_155_code (2 : Nat) (Option.none : Option Jvm.ClassFile.FieldType), Jvm.Cond.code ({ cls := "jdk/internal/util/Preconditions", name := "checkIndex", desc := "(IILjava/util/function/BiFunction;)I" } : Jvm.MethodName) jdk_41_method_11_code (3 : Nat) (Option.some Jvm.ClassFile.FieldType.int), Jvm.Cond.code ({ cls := "com/example/rateledger/rateledger/io/LoanNumberMap", name := "placeOf", desc := "(J)I" } : Jvm.MethodName) prog_21_method_5_code (5 : Nat) (Option.some Jvm.ClassFile.FieldType.int), Jvm.Cond.code ({ cls := "java/lang/Integer", name := "numberOfTrailingZeros", desc := "(I)I" } : Jvm.MethodName) jdk_33_method_48_code (2 : Nat) (Option.some Jvm.ClassFile.FieldType.int), Jvm.Cond.code ({ cls := "com/example/rateledger/rateledger/io/LoanNumberMap", name := "get", desc := "(Ljava/lang/String;)I" } : Jvm.MethodName) prog_21_method_2_code (5 : Nat) (Option.some Jvm.ClassFile.FieldType.int)]
set_option maxRecDepth 65536 in
theorem codes_eq : words1.filter isCode = codes1 := rfl
theorem w_codes : ∀ c ∈ words1.filter isCode, c.before args0 about1 = true := by
  rw [codes_eq]
  intro c hc
  simp only [codes1, List.mem_cons, List.not_mem_nil, or_false] at hc
  rcases hc with rfl | rfl | rfl | rfl | rfl | rfl | rfl | rfl | rfl | rfl | rfl | rfl | rfl | rfl | rfl | rfl | rfl | rfl | rfl | rfl | rfl | rfl | rfl | rfl
  · exact w_c0
  · exact w_c1
  · exact w_c2
  · exact w_c3
  · exact w_c4
  · exact w_c5
  · exact w_c6
  · exact w_c7
  · exact w_c8
  · exact w_c9
  · exact w_c10
  · exact w_c11
  · exact w_c12
  · exact w_c13
  · exact w_c14
  · exact w_c15
  · exact w_c16
  · exact w_c17
  · exact w_c18
  · exact w_c19
  · exact w_c20
  · exact w_c21
  · exact w_c22
  · exact w_c23
set_option maxRecDepth 65536 in
theorem w_t1 : (words1.take 24).all (fun c => isCode c || c.before args0 about1) = true := by decide +kernel
set_option maxRecDepth 65536 in
theorem w_t2 : ((words1.drop 24).take 24).all (fun c => isCode c || c.before args0 about1) = true := by decide +kernel
set_option maxRecDepth 65536 in
theorem w_t3 : (((words1.drop 24).drop 24).take 24).all (fun c => isCode c || c.before args0 about1) = true := by decide +kernel
set_option maxRecDepth 65536 in
theorem w_t4 : ((((words1.drop 24).drop 24).drop 24).take 24).all (fun c => isCode c || c.before args0 about1) = true := by decide +kernel
set_option maxRecDepth 65536 in
theorem w_t5 : (((((words1.drop 24).drop 24).drop 24).drop 24).take 24).all (fun c => isCode c || c.before args0 about1) = true := by decide +kernel
set_option maxRecDepth 65536 in
theorem w_t6 : (((((words1.drop 24).drop 24).drop 24).drop 24).drop 24).all (fun c => isCode c || c.before args0 about1) = true := by decide +kernel
theorem w_tables : (allAtoms (Jvm.Cond.code x code maxLocals ret :: tables_1)).before args0 about1 = true := by
  rw [allAtoms_all]
  show words1.all (fun c => c.before args0 about1) = true
  refine all_split ?_ w_codes
  rw [← List.take_append_drop 24 words1, List.all_append, w_t1, ← List.take_append_drop 24 (words1.drop 24), List.all_append, w_t2, ← List.take_append_drop 24 ((words1.drop 24).drop 24), List.all_append, w_t3, ← List.take_append_drop 24 (((words1.drop 24).drop 24).drop 24), List.all_append, w_t4, ← List.take_append_drop 24 ((((words1.drop 24).drop 24).drop 24).drop 24), List.all_append, w_t5, w_t6]
  rfl
set_option maxRecDepth 65536 in
theorem w_rest : rest_1_c.before args0 about1 = true := by decide +kernel
set_option maxRecDepth 65536 in
theorem w_case : (Jvm.Cond.and given_1 narrow_1).before args0 about1 = true := by decide +kernel
theorem w_applies : (headSpec (Jvm.Cond.code x code maxLocals ret :: tables_1) room_1).applies x e0.platform about1 = true :=
  (Spec.applies_iff w_frames).mpr ⟨w_running, w_runnable, w_alone, w_named, w_hears, w_ripe, w_room, w_tables⟩
theorem atStart : AtStart classFile x code maxLocals ret World_1 tables_1 room_1 Calls_1 rest_1 Pre_1 launch0 p0 e0 about1 theMethod args0 below0 :=
  ⟨lists_1, trivial, launch0.admits_env _ _ _, launch0.least_env, fairChoices_fair.cas, fairChoices_fair.clock, w_frames, w_args, w_heap, w_applies, trivial, w_rest, w_case⟩
end start1
theorem witness_1 : WitnessClaimed_1 := ⟨start1.p0, start1.e0, start1.about1, start1.theMethod, start1.args0, start1.below0, start1.atStart⟩
end Jvm.Pilot.@@N@@
