import JvmDerived
import JvmDerived.Pilot.@@N@@Statement
import JvmDerived.Pilot.@@N@@Code
set_option linter.unusedVariables false
set_option linter.unusedSimpArgs false
namespace Jvm.Own
open Jvm Jvm.ClassFile Sem Op Lib Jvm.Free Jvm.Stand Jvm.LawKit Jvm.RoadKit Bundle
/-! A small calculus on the road kit: Go says that from here the body comes to its end. -/
section Calc
variable {wd : Bool} {Z : State} {a0 : Array Value} {EL : List (String × Nat)} {p : Program} {l : Launch} {e : Env} {R : Room} {s : State} {m : MethodId} {args : Array Value} {below : List Frame} {meth : Method} {c : Code}
  {n0 C N : Nat} {Q : Option Value → Heap → Prop} {vm : Vm} {h : Heap} {cells slots : Nat} {g : JFrame} {own : String} {bytes : ByteArray} {ml : Nat} {ret : Option FieldType} {nm : String}
/-- what is known of the body walked -/
def Ctx (Z : State) (a0 : Array Value) (EL : List (String × Nat)) (p : Program) (m : MethodId) (meth : Method) (c : Code) (own : String) (bytes : ByteArray) (ml : Nat) (ret : Option FieldType) (nm : String) : Prop :=
  p.tables.exec = Jvm.exec ∧ c.code = bytes ∧ c.maxLocals = ml ∧ meth.sig.returnType = ret ∧ meth.locks = false ∧ Z.vm.findClass own = some m.cls ∧ meth.name = nm ∧ EW Z a0 EL
/-- the tables at hand -/
def Wt (wd : Bool) (Z : State) (EL : List (String × Nat)) (s : State) (vm : Vm) (h : Heap) : Prop :=
  Z.Warmed39 vm ∧ (∃ k0, s.Since vm k0 ∧ k0 ≤ h.size) ∧ CHr Z EL s.vm s.heap vm h ∧ (wd = false → vm = s.vm ∧ EL = [])
def Fin (wd : Bool) (Z : State) (EL : List (String × Nat)) (n0 C N : Nat) (Q : Option Value → Heap → Prop) (s : State) (o : Outcome) (t : State) : Prop :=
  ∃ v L, o = .returned v ∧ (Q v t.heap ∧ Fr n0 L) ∧ CHr Z EL s.vm s.heap t.vm t.heap ∧ ReturnedEndW s o t L C N ∧ (wd = false → FrameEnd s o t L C N)
def Go (wd : Bool) (Z : State) (EL : List (String × Nat)) (p : Program) (l : Launch) (e : Env) (R : Room) (s : State) (m : MethodId) (args : Array Value) (below : List Frame) (meth : Method) (c : Code)
    (n0 C N : Nat) (Q : Option Value → Heap → Prop) (vm : Vm) (h : Heap) (cells slots : Nat) (g : JFrame) : Prop :=
  Wt wd Z EL s vm h → ∀ (T : State) (locs : List Loc), Stand p l e R (s.setVm vm) m args below meth c T locs cells slots → T.heap = h → Fr n0 locs →
    ∃ s₂ o, Steps p.tables e below (T.setTop g) s₂ ∧ s₂.status = .running ∧ Ended s₂ below o ∧ Fin wd Z EL n0 C N Q s o s₂
theorem Ctx.fc (B : Ctx Z a0 EL p m meth c own bytes ml ret nm) (hZ : Z.Warmed39 vm) : (s.setVm vm).vm.findClass own = some m.cls := by
  rw [show (s.setVm vm).vm = vm from rfl, hZ.alike.findClass]; exact B.2.2.2.2.2.1
theorem Ctx.x (B : Ctx Z a0 EL p m meth c own bytes ml ret nm) : p.tables.exec = Jvm.exec := B.1
theorem Ctx.d (B : Ctx Z a0 EL p m meth c own bytes ml ret nm) {pc : Nat} {r : Except DecodeError (Instr × Nat)} (q : decode bytes pc = r) : decode c.code pc = r := B.2.1 ▸ q
theorem nos {x : Addr} : Safe Z [] vm h x := fun B => by obtain ⟨p, hp, -⟩ := B; cases hp
/-- one plain step -/
theorem gs (g' : JFrame) (hs : ∀ T, At T m c below → ∀ t, Steps p.tables e below (T.setTop g') t → Steps p.tables e below (T.setTop g) t)
    (k : Go wd Z EL p l e R s m args below meth c n0 C N Q vm h cells slots g') : Go wd Z EL p l e R s m args below meth c n0 C N Q vm h cells slots g := by
  intro W T locs X eT F
  obtain ⟨s₂, o, h1, r⟩ := k W T locs X eT F
  exact ⟨s₂, o, hs T X.here _ h1, r⟩
theorem gj (g' : JFrame) (k1 : Go wd Z EL p l e R s m args below meth c n0 C N Q vm h cells slots g') (k : Go wd Z EL p l e R s m args below meth c n0 C N Q vm h cells slots g' → Go wd Z EL p l e R s m args below meth c n0 C N Q vm h cells slots g) :
    Go wd Z EL p l e R s m args below meth c n0 C N Q vm h cells slots g := k k1
theorem gm {cells' slots' : Nat} (hc : cells ≤ cells') (hl : slots ≤ slots') (k : Go wd Z EL p l e R s m args below meth c n0 C N Q vm h cells' slots' g) : Go wd Z EL p l e R s m args below meth c n0 C N Q vm h cells slots g :=
  fun W T locs X eT F => k W T locs (X.more hc hl) eT F
/-- a step that leaves the heap, and may warm the tables -/
theorem g_same {g' : JFrame} (hs : ∀ T locs, Z.Warmed39 vm → Stand p l e R (s.setVm vm) m args below meth c T locs cells slots → T.heap = h → ∃ T', Stand p l e R (s.setVm vm) m args below meth c T' locs cells slots ∧ T'.heap = h ∧ ∀ target, Steps p.tables e below (T'.setTop g') target → Steps p.tables e below (T.setTop g) target)
    (k : Go wd Z EL p l e R s m args below meth c n0 C N Q vm h cells slots g') : Go wd Z EL p l e R s m args below meth c n0 C N Q vm h cells slots g := by
  intro W T locs X eT F
  obtain ⟨T', X', eT', st⟩ := hs T locs W.1 X eT
  obtain ⟨s₂, o, h1, r⟩ := k W T' locs X' eT' F
  exact ⟨s₂, o, st _ h1, r⟩
theorem Wt.ext {h' : Heap} (W : Wt wd Z EL s vm h) (E : Ext h h') : Wt wd Z EL s vm h' := by
  obtain ⟨h1, ⟨k0, h2, h3⟩, h4, h5⟩ := W
  exact ⟨h1, ⟨k0, h2, Nat.le_trans h3 E.1⟩, h4.trans (CHr.ext E h4.1), h5⟩
theorem Wt.wr {h' : Heap} {a : Addr} {sl : Nat} {v : Value} (W : Wt wd Z EL s vm h) (S : Safe Z EL vm h a) (E : Wr h h' a sl v) : Wt wd Z EL s vm h' := by
  obtain ⟨h1, ⟨k0, h2, h3⟩, h4, h5⟩ := W
  exact ⟨h1, ⟨k0, h2, by rw [E.size]; exact h3⟩, h4.trans (CHr.wr E S h4.1), h5⟩
theorem Wt.keep {h' : Heap} {ws : List Addr} (W : Wt wd Z EL s vm h) (S : ∀ x ∈ ws, Safe Z EL vm h x) (K : Keep h h' ws) : Wt wd Z EL s vm h' := by
  obtain ⟨h1, ⟨k0, h2, h3⟩, h4, h5⟩ := W
  exact ⟨h1, ⟨k0, h2, Nat.le_trans h3 K.1⟩, h4.trans (CHr.keep K S h4.1), h5⟩
/-- a step that makes a cell -/
theorem g_ext {cells' slots' : Nat} {P : Heap → Prop} {G : JFrame} (hs : ∀ T locs, Z.Warmed39 vm → Stand p l e R (s.setVm vm) m args below meth c T locs cells slots → T.heap = h → ∃ T' h', Stand p l e R (s.setVm vm) m args below meth c T' locs cells' slots' ∧ T'.heap = h' ∧ Ext h h' ∧ P h' ∧ ∀ target, Steps p.tables e below (T'.setTop G) target → Steps p.tables e below (T.setTop g) target)
    (k : ∀ h', Ext h h' → P h' → Go wd Z EL p l e R s m args below meth c n0 C N Q vm h' cells' slots' G) : Go wd Z EL p l e R s m args below meth c n0 C N Q vm h cells slots g := by
  intro W T locs X eT F
  obtain ⟨T', h', X', eT', E, hP, st⟩ := hs T locs W.1 X eT
  obtain ⟨s₂, o, h1, r⟩ := k h' E hP (W.ext E) T' locs X' eT' F
  exact ⟨s₂, o, st _ h1, r⟩
/-- a step that writes one place -/
theorem g_wr {a : Addr} {sl : Nat} {v : Value} {G : JFrame} (hs : ∀ T locs, Z.Warmed39 vm → Stand p l e R (s.setVm vm) m args below meth c T locs cells slots → T.heap = h → ∃ T' h', Stand p l e R (s.setVm vm) m args below meth c T' (locs ++ [⟨a, sl⟩]) cells slots ∧ T'.heap = h' ∧ Wr h h' a sl v ∧ ∀ target, Steps p.tables e below (T'.setTop G) target → Steps p.tables e below (T.setTop g) target)
    (S : Safe Z EL vm h a) (q : n0 ≤ a) (k : ∀ h', Wr h h' a sl v → Go wd Z EL p l e R s m args below meth c n0 C N Q vm h' cells slots G) : Go wd Z EL p l e R s m args below meth c n0 C N Q vm h cells slots g := by
  intro W T locs X eT F
  obtain ⟨T', h', X', eT', E, st⟩ := hs T locs W.1 X eT
  obtain ⟨s₂, o, h1, r⟩ := k h' E (W.wr S E) T' _ X' eT' (Fr.snoc X' F q)
  exact ⟨s₂, o, st _ h1, r⟩
theorem gjA {α : Type} (F : α → JFrame) (P : α → Prop) (k1 : ∀ x, P x → Go wd Z EL p l e R s m args below meth c n0 C N Q vm h cells slots (F x)) (k : (∀ x, P x → Go wd Z EL p l e R s m args below meth c n0 C N Q vm h cells slots (F x)) → Go wd Z EL p l e R s m args below meth c n0 C N Q vm h cells slots g) :
    Go wd Z EL p l e R s m args below meth c n0 C N Q vm h cells slots g := k k1
theorem gjA3 {α β γ : Type} (F : α → β → γ → JFrame) (P : α → β → γ → Prop) (k1 : ∀ x y z, P x y z → Go wd Z EL p l e R s m args below meth c n0 C N Q vm h cells slots (F x y z)) (k : (∀ x y z, P x y z → Go wd Z EL p l e R s m args below meth c n0 C N Q vm h cells slots (F x y z)) → Go wd Z EL p l e R s m args below meth c n0 C N Q vm h cells slots g) :
    Go wd Z EL p l e R s m args below meth c n0 C N Q vm h cells slots g := k k1
theorem g_wt (k : Wt wd Z EL s vm h → Go wd Z EL p l e R s m args below meth c n0 C N Q vm h cells slots g) : Go wd Z EL p l e R s m args below meth c n0 C N Q vm h cells slots g := fun W => k W W
variable {pc q : Nat} {Ls : Array Slot} {st : List Value}
theorem g_newO {K : String} {index n : Nat} (B : Ctx Z a0 EL p m meth c own bytes ml ret nm) (w : (Cond.classLink own index K).before a0 Z = true) (wi : (Cond.instantiable K n).before a0 Z = true) (wz : (Cond.initialized K).before a0 Z = true)
    (hd : decode bytes pc = .ok (.new index, 3)) (hc : cells + 1 ≤ R.cells) (hl : slots + n ≤ R.slots) (hq : pc + 3 = q)
    (k : ∀ (h' : Heap) (a : Addr), @Eq Nat a h.size → Ext h h' → Safe Z EL vm h' a → Exa Z h' a K → (∀ {O nm d : String} {ty : FieldType}, Laid Z a0 K O nm d → parseFieldDescriptor d = some ty → Fld Z h' a O nm d (defaultValue ty)) →
      Go wd Z EL p l e R s m args below meth c n0 C N Q vm h' (cells + 1) (slots + n) (mkF m q Ls (.ref a :: st))) :
    Go wd Z EL p l e R s m args below meth c n0 C N Q vm h cells slots (mkF m pc Ls st) := by
  subst hq
  intro W
  refine g_ext (cells' := cells + 1) (slots' := slots + n) (G := mkF m (pc + 3) Ls (.ref h.size :: st)) (P := fun h' => Exa Z h' h.size K ∧ (∀ {O nm d : String} {ty : FieldType}, Laid Z a0 K O nm d → parseFieldDescriptor d = some ty → Fld Z h' h.size O nm d (defaultValue ty))) (fun T locs hZ X eT => ?_) (fun h' E P => k h' h.size rfl E (Safe.ext E W.2.2.1.1 (Safe.new (Nat.le_refl _))) P.1 P.2) W
  obtain ⟨T', h', X', e', E', A', D', -, st'⟩ := newO X B.1 (show Z.Warmed39 (s.setVm vm).vm from hZ) (B.fc hZ) w wi wz eT (g := mkF m pc Ls st) rfl (B.d hd) hc hl
  exact ⟨T', h', X', e', E', ⟨A', D'⟩, st'⟩
theorem g_newP {aty : ArrayType} {n : Int32} (B : Ctx Z a0 EL p m meth c own bytes ml ret nm) (w : (Cond.arrayClass (newarray.typeOf aty)).before a0 Z = true)
    (hd : decode bytes pc = .ok (.newarray aty, 2)) (hn : ¬ n < 0) {cap : Nat} (hcap : n.toNatClampNeg ≤ cap) (hb : cap * 8 ≤ 536870912) (hc : cells + 1 ≤ R.cells) (hl : slots + cap ≤ R.slots) (hq : pc + 2 = q)
    (k : ∀ (h' : Heap) (a : Addr) (kA : ClassId), @Eq Nat a h.size → Ext h h' → Safe Z EL vm h' a → Arv Z h' a kA (newarray.typeOf aty) n (List.replicate n.toNatClampNeg (defaultValue (newarray.typeOf aty))) (defaultValue (newarray.typeOf aty)) →
      Go wd Z EL p l e R s m args below meth c n0 C N Q vm h' (cells + 1) (slots + cap) (mkF m q Ls (.ref a :: st))) :
    Go wd Z EL p l e R s m args below meth c n0 C N Q vm h cells slots (mkF m pc Ls (.int n :: st)) := by
  subst hq
  intro W
  refine g_ext (cells' := cells + 1) (slots' := slots + cap) (G := mkF m (pc + 2) Ls (.ref h.size :: st)) (P := fun h' => ∃ kA, Arr Z h' h.size (newA kA (newarray.typeOf aty) n) (newarray.typeOf aty)) (fun T locs hZ X eT => ?_) (fun h' E P => ?_) W
  · obtain ⟨T', h', kA, X', e', E', A', st'⟩ := newP X B.1 (show Z.Warmed39 (s.setVm vm).vm from hZ) w eT (g := mkF m pc Ls (.int n :: st)) rfl (B.d hd) rfl hn hcap hb hc hl
    exact ⟨T', h', X', e', E', ⟨kA, A'⟩, st'⟩
  · obtain ⟨kA, A⟩ := P
    exact k h' h.size kA rfl E (Safe.ext E W.2.2.1.1 (Safe.new (Nat.le_refl _))) ((Arv.new A hn).pad (pad_rep [] _ _))
theorem g_newR {K : String} {index : Nat} {n : Int32} (B : Ctx Z a0 EL p m meth c own bytes ml ret nm) (w1 : (Cond.classLink own index K).before a0 Z = true) (w2 : (Cond.arrayOver (.object K)).before a0 Z = true)
    (hd : decode bytes pc = .ok (.anewarray index, 3)) (hn : ¬ n < 0) {cap : Nat} (hcap : n.toNatClampNeg ≤ cap) (hb : cap * 8 ≤ 536870912) (hc : cells + 1 ≤ R.cells) (hl : slots + cap ≤ R.slots) (hq : pc + 3 = q)
    (k : ∀ (h' : Heap) (a : Addr) (kA : ClassId), @Eq Nat a h.size → Ext h h' → Safe Z EL vm h' a → Ovr Z kA K → Arv Z h' a kA (.object K) n (List.replicate n.toNatClampNeg .null) .null →
      Go wd Z EL p l e R s m args below meth c n0 C N Q vm h' (cells + 1) (slots + cap) (mkF m q Ls (.ref a :: st))) :
    Go wd Z EL p l e R s m args below meth c n0 C N Q vm h cells slots (mkF m pc Ls (.int n :: st)) := by
  subst hq
  intro W
  refine g_ext (cells' := cells + 1) (slots' := slots + cap) (G := mkF m (pc + 3) Ls (.ref h.size :: st)) (P := fun h' => ∃ kA, Arr Z h' h.size (newA kA (.object K) n) (.object K) ∧ Ovr Z kA K) (fun T locs hZ X eT => ?_) (fun h' E P => ?_) W
  · obtain ⟨T', h', kA, X', e', E', A', O', st'⟩ := newR X B.1 (show Z.Warmed39 (s.setVm vm).vm from hZ) (B.fc hZ) w1 w2 eT (g := mkF m pc Ls (.int n :: st)) rfl (B.d hd) rfl hn hcap hb hc hl
    exact ⟨T', h', X', e', E', ⟨kA, A', O'⟩, st'⟩
  · obtain ⟨kA, A, O⟩ := P
    exact k h' h.size kA rfl E (Safe.ext E W.2.2.1.1 (Safe.new (Nat.le_refl _))) O ((Arv.new A hn).pad (pad_rep [] _ _))
theorem g_getF {R0 O n d : String} {index : Nat} {a : Addr} {v : Value} (B : Ctx Z a0 EL p m meth c own bytes ml ret nm) (w : (Cond.fieldLink own index R0 n d).before a0 Z = true) (via : Via Z R0 O n d) (F : Fld Z h a O n d v)
    (hd : decode bytes pc = .ok (.getfield index, 3)) (hq : pc + 3 = q) (k : Go wd Z EL p l e R s m args below meth c n0 C N Q vm h cells slots (mkF m q Ls (v :: st))) :
    Go wd Z EL p l e R s m args below meth c n0 C N Q vm h cells slots (mkF m pc Ls (.ref a :: st)) := by
  subst hq
  exact g_same (fun T locs hZ X eT => getF X B.1 (show Z.Warmed39 (s.setVm vm).vm from hZ) (B.fc hZ) (host := "") (Or.inl w) via eT F (g := mkF m pc Ls (.ref a :: st)) rfl rfl (B.d hd)) k
theorem g_getS {O n d : String} {index : Nat} {v : Value} (B : Ctx Z a0 EL p m meth c own bytes ml ret nm) (w : (Cond.fieldLink own index O n d).before a0 Z = true) (F : Sta Z h O n d v)
    (hd : decode bytes pc = .ok (.getstatic index, 3)) (hq : pc + 3 = q) (k : Go wd Z EL p l e R s m args below meth c n0 C N Q vm h cells slots (mkF m q Ls (v :: st))) :
    Go wd Z EL p l e R s m args below meth c n0 C N Q vm h cells slots (mkF m pc Ls st) := by
  subst hq
  exact g_same (fun T locs hZ X eT => getS X B.1 (show Z.Warmed39 (s.setVm vm).vm from hZ) (host := "") (B.fc hZ) w Via.refl eT F (g := mkF m pc Ls st) rfl (B.d hd)) k
theorem g_cast {K : String} {index : Nat} {a : Addr} (B : Ctx Z a0 EL p m meth c own bytes ml ret nm) (w : (Cond.classLink own index K).before a0 Z = true) (F : Ins Z h a K true)
    (hd : decode bytes pc = .ok (.checkcast index, 3)) (hq : pc + 3 = q) (k : Go wd Z EL p l e R s m args below meth c n0 C N Q vm h cells slots (mkF m q Ls (.ref a :: st))) :
    Go wd Z EL p l e R s m args below meth c n0 C N Q vm h cells slots (mkF m pc Ls (.ref a :: st)) := by
  subst hq
  exact g_same (fun T locs hZ X eT => castY X B.1 (show Z.Warmed39 (s.setVm vm).vm from hZ) (B.fc hZ) w eT F (g := mkF m pc Ls (.ref a :: st)) rfl rfl (B.d hd)) k
theorem g_inst {K : String} {index : Nat} {a : Addr} (B : Ctx Z a0 EL p m meth c own bytes ml ret nm) (w : (Cond.classLink own index K).before a0 Z = true) (F : Ins Z h a K true)
    (hd : decode bytes pc = .ok (.instanceof index, 3)) (hq : pc + 3 = q) (k : Go wd Z EL p l e R s m args below meth c n0 C N Q vm h cells slots (mkF m q Ls (.int 1 :: st))) :
    Go wd Z EL p l e R s m args below meth c n0 C N Q vm h cells slots (mkF m pc Ls (.ref a :: st)) := by
  subst hq
  exact g_same (fun T locs hZ X eT => instY X B.1 (show Z.Warmed39 (s.setVm vm).vm from hZ) (B.fc hZ) w eT F (g := mkF m pc Ls (.ref a :: st)) rfl rfl (B.d hd)) k
theorem g_initO {idx : Nat} {a : Addr} {W : Nat} (B : Ctx Z a0 EL p m meth c own bytes ml ret nm) (w1 : (Cond.methodLink own idx Lib.objectInit).before a0 Z = true) (w2 : (Cond.instanceMethod Lib.objectInit).before a0 Z = true) (w3 : (Cond.code Lib.objectInit ⟨#[0xb1]⟩ 1 none).before a0 Z = true)
    (hs : Ls.size = ml) (hd : decode bytes pc = .ok (.invokespecial idx, 3)) (hf : 1 ≤ R.frames) (hW : (st.map fun v => v.category).sum ≤ W) (hl : W + 12 ≤ R.locals) (hq : pc + 3 = q)
    (k : Go wd Z EL p l e R s m args below meth c n0 C N Q vm h cells slots (mkF m q Ls st)) :
    Go wd Z EL p l e R s m args below meth c n0 C N Q vm h cells slots (mkF m pc Ls (.ref a :: st)) := by
  subst hq
  exact g_same (fun T locs hZ X eT => initO X B.1 (show Z.Warmed39 (s.setVm vm).vm from hZ) (B.fc hZ) w1 w2 w3 eT (g := mkF m pc Ls (.ref a :: st)) rfl (hs.trans B.2.2.1.symm) rfl (B.d hd) hf (W := W) (by show 2 * 0 + _ ≤ W; omega) hl) k
theorem g_putF {R0 O n d K : String} {index kk : Nat} {ty : FieldType} {a : Addr} {v old : Value} (B : Ctx Z a0 EL p m meth c own bytes ml ret nm) (w : (Cond.fieldLink own index R0 n d).before a0 Z = true) (via : Via Z R0 O n d) (F : Fld Z h a O n d old) (E : Exa Z h a K)
    (L : (Cond.lays K O n d).before a0 Z = true ∨ ((Cond.laysFinal K O n d).before a0 Z = true ∧ own = O ∧ nm = "<init>")) (wi : (Cond.instantiable K kk).before a0 Z = true) (hty : parseFieldDescriptor d = some ty) (hn : narrow ty v = v) (hf : fits ty v = true)
    (hd : decode bytes pc = .ok (.putfield index, 3)) (S : Safe Z EL vm h a) (g0 : n0 ≤ a) (hq : pc + 3 = q) (k : ∀ h', Wr h h' a (Jvm.RoadKit.slotOf Z O n d) v → Fld Z h' a O n d v → Go wd Z EL p l e R s m args below meth c n0 C N Q vm h' cells slots (mkF m q Ls st)) :
    Go wd Z EL p l e R s m args below meth c n0 C N Q vm h cells slots (mkF m pc Ls (v :: .ref a :: st)) := by
  subst hq
  refine g_wr (fun T locs hZ X eT => putF X B.1 (show Z.Warmed39 (s.setVm vm).vm from hZ) (B.fc hZ) (host := "") (Or.inl w) via eT F E (L.imp id fun z => ⟨z.1, z.2.1, B.2.2.2.2.2.2.1.trans z.2.2⟩) wi hty hn hf (g := mkF m pc Ls (v :: .ref a :: st)) rfl rfl (B.d hd)) S g0 fun h' W => k h' W (F.same W)
theorem g_putFN {R0 O n d K : String} {index kk : Nat} {ty : FieldType} {a : Addr} {v v' old : Value} (B : Ctx Z a0 EL p m meth c own bytes ml ret nm) (w : (Cond.fieldLink own index R0 n d).before a0 Z = true) (via : Via Z R0 O n d) (F : Fld Z h a O n d old) (E : Exa Z h a K)
    (L : (Cond.lays K O n d).before a0 Z = true ∨ ((Cond.laysFinal K O n d).before a0 Z = true ∧ own = O ∧ nm = "<init>")) (wi : (Cond.instantiable K kk).before a0 Z = true) (hty : parseFieldDescriptor d = some ty) (hn : narrow ty v = v') (hf : fits ty v' = true)
    (hd : decode bytes pc = .ok (.putfield index, 3)) (S : Safe Z EL vm h a) (g0 : n0 ≤ a) (hq : pc + 3 = q) (k : ∀ h', Wr h h' a (Jvm.RoadKit.slotOf Z O n d) v' → Fld Z h' a O n d v' → Go wd Z EL p l e R s m args below meth c n0 C N Q vm h' cells slots (mkF m q Ls st)) :
    Go wd Z EL p l e R s m args below meth c n0 C N Q vm h cells slots (mkF m pc Ls (v :: .ref a :: st)) := by
  subst hq
  refine g_wr (fun T locs hZ X eT => putFN X B.1 (show Z.Warmed39 (s.setVm vm).vm from hZ) (B.fc hZ) w via eT F E (L.imp id fun z => ⟨z.1, z.2.1, B.2.2.2.2.2.2.1.trans z.2.2⟩) wi hty hn hf (g := mkF m pc Ls (v :: .ref a :: st)) rfl rfl (B.d hd)) S g0 fun h' W => k h' W (F.same W)
section Arrays
variable {a : Addr} {kA : ClassId} {z j x : Int32} {x64 : Int64} {vs : List Value} {dv v : Value} {i : Nat} {ty : FieldType}
theorem g_stC (B : Ctx Z a0 EL p m meth c own bytes ml ret nm) (A : Arv Z h a kA .char z vs dv) {x' : Int32} (hx' : nar .char x = x') (hj : ¬ j < 0 ∧ j < z) (hi : j.toNatClampNeg = i) (hl : i < vs.length) (hd : decode bytes pc = .ok (.castore, 1)) (S : Safe Z EL vm h a) (g0 : n0 ≤ a) (hq : pc + 1 = q)
    (k : ∀ h', Wr h h' a j.toNatClampNeg (.int x') → Arv Z h' a kA .char z (vs.set i (.int x')) dv → Go wd Z EL p l e R s m args below meth c n0 C N Q vm h' cells slots (mkF m q Ls st)) :
    Go wd Z EL p l e R s m args below meth c n0 C N Q vm h cells slots (mkF m pc Ls (.int x :: .int j :: .ref a :: st)) := by
  subst hq hx'
  obtain ⟨cl, A1, A2, A3, A4, A5, A6⟩ := A
  exact g_wr (fun T locs hZ X eT => stC X B.1 (show Z.Warmed39 (s.setVm vm).vm from hZ) eT A1 (inb_of A3 hj) (g := mkF m pc Ls (.int x :: .int j :: .ref a :: st)) rfl rfl (B.d hd)) S g0 fun h' W => k h' W (Arv.set A1 A2 A3 A4 A5 A6 (fits_nar_char _) W i hi hl)
theorem g_stB (B : Ctx Z a0 EL p m meth c own bytes ml ret nm) (A : Arv Z h a kA .byte z vs dv) {x' : Int32} (hx' : nar .byte x = x') (hj : ¬ j < 0 ∧ j < z) (hi : j.toNatClampNeg = i) (hl : i < vs.length) (hd : decode bytes pc = .ok (.bastore, 1)) (S : Safe Z EL vm h a) (g0 : n0 ≤ a) (hq : pc + 1 = q)
    (k : ∀ h', Wr h h' a j.toNatClampNeg (.int x') → Arv Z h' a kA .byte z (vs.set i (.int x')) dv → Go wd Z EL p l e R s m args below meth c n0 C N Q vm h' cells slots (mkF m q Ls st)) :
    Go wd Z EL p l e R s m args below meth c n0 C N Q vm h cells slots (mkF m pc Ls (.int x :: .int j :: .ref a :: st)) := by
  subst hq hx'
  obtain ⟨cl, A1, A2, A3, A4, A5, A6⟩ := A
  exact g_wr (fun T locs hZ X eT => stB X B.1 (show Z.Warmed39 (s.setVm vm).vm from hZ) eT A1 (inb_of A3 hj) (g := mkF m pc Ls (.int x :: .int j :: .ref a :: st)) rfl rfl (B.d hd)) S g0 fun h' W => k h' W (Arv.set A1 A2 A3 A4 A5 A6 (fits_nar_byte _) W i hi hl)
theorem g_stI (B : Ctx Z a0 EL p m meth c own bytes ml ret nm) (A : Arv Z h a kA .int z vs dv) (hj : ¬ j < 0 ∧ j < z) (hi : j.toNatClampNeg = i) (hl : i < vs.length) (hd : decode bytes pc = .ok (.iastore, 1)) (S : Safe Z EL vm h a) (g0 : n0 ≤ a) (hq : pc + 1 = q)
    (k : ∀ h', Wr h h' a j.toNatClampNeg (.int x) → Arv Z h' a kA .int z (vs.set i (.int x)) dv → Go wd Z EL p l e R s m args below meth c n0 C N Q vm h' cells slots (mkF m q Ls st)) :
    Go wd Z EL p l e R s m args below meth c n0 C N Q vm h cells slots (mkF m pc Ls (.int x :: .int j :: .ref a :: st)) := by
  subst hq
  obtain ⟨cl, A1, A2, A3, A4, A5, A6⟩ := A
  exact g_wr (fun T locs hZ X eT => stI X B.1 (show Z.Warmed39 (s.setVm vm).vm from hZ) eT A1 (inb_of A3 hj) (g := mkF m pc Ls (.int x :: .int j :: .ref a :: st)) rfl rfl (B.d hd)) S g0 fun h' W => k h' W (Arv.set A1 A2 A3 A4 A5 A6 rfl W i hi hl)
theorem g_stJ (B : Ctx Z a0 EL p m meth c own bytes ml ret nm) (A : Arv Z h a kA .long z vs dv) (hj : ¬ j < 0 ∧ j < z) (hi : j.toNatClampNeg = i) (hl : i < vs.length) (hd : decode bytes pc = .ok (.lastore, 1)) (S : Safe Z EL vm h a) (g0 : n0 ≤ a) (hq : pc + 1 = q)
    (k : ∀ h', Wr h h' a j.toNatClampNeg (.long x64) → Arv Z h' a kA .long z (vs.set i (.long x64)) dv → Go wd Z EL p l e R s m args below meth c n0 C N Q vm h' cells slots (mkF m q Ls st)) :
    Go wd Z EL p l e R s m args below meth c n0 C N Q vm h cells slots (mkF m pc Ls (.long x64 :: .int j :: .ref a :: st)) := by
  subst hq
  obtain ⟨cl, A1, A2, A3, A4, A5, A6⟩ := A
  exact g_wr (fun T locs hZ X eT => stJ X B.1 (show Z.Warmed39 (s.setVm vm).vm from hZ) eT A1 (inb_of A3 hj) (g := mkF m pc Ls (.long x64 :: .int j :: .ref a :: st)) rfl rfl (B.d hd)) S g0 fun h' W => k h' W (Arv.set A1 A2 A3 A4 A5 A6 rfl W i hi hl)
theorem g_stR {K : String} (B : Ctx Z a0 EL p m meth c own bytes ml ret nm) (A : Arv Z h a kA (.object K) z vs dv) (hj : ¬ j < 0 ∧ j < z) (hi : j.toNatClampNeg = i) (hl : i < vs.length) (hv : fits (.object K) v = true) (F : Sto Z h a v) (hd : decode bytes pc = .ok (.aastore, 1)) (S : Safe Z EL vm h a) (g0 : n0 ≤ a) (hq : pc + 1 = q)
    (k : ∀ h', Wr h h' a j.toNatClampNeg v → Arv Z h' a kA (.object K) z (vs.set i v) dv → Go wd Z EL p l e R s m args below meth c n0 C N Q vm h' cells slots (mkF m q Ls st)) :
    Go wd Z EL p l e R s m args below meth c n0 C N Q vm h cells slots (mkF m pc Ls (v :: .int j :: .ref a :: st)) := by
  subst hq
  obtain ⟨cl, A1, A2, A3, A4, A5, A6⟩ := A
  exact g_wr (fun T locs hZ X eT => stR X B.1 (show Z.Warmed39 (s.setVm vm).vm from hZ) eT A1 (inb_of A3 hj) rfl F (g := mkF m pc Ls (v :: .int j :: .ref a :: st)) rfl rfl (B.d hd)) S g0 fun h' W => k h' W (Arv.set A1 A2 A3 A4 A5 A6 hv W i hi hl)
theorem g_len (B : Ctx Z a0 EL p m meth c own bytes ml ret nm) (A : Arv Z h a kA ty z vs dv) (hd : decode bytes pc = .ok (.arraylength, 1)) (hq : pc + 1 = q)
    (k : Go wd Z EL p l e R s m args below meth c n0 C N Q vm h cells slots (mkF m q Ls (.int z :: st))) :
    Go wd Z EL p l e R s m args below meth c n0 C N Q vm h cells slots (mkF m pc Ls (.ref a :: st)) := by
  subst hq
  obtain ⟨cl, A1, A2, A3, A4, A5, A6⟩ := A
  refine g_same (fun T locs hZ X eT => ⟨T, X, eT, fun t kt => X.arraylength B.1 (by rw [eT]; exact A1.1) (State.isArrayOf_alike (show Z.vm.Alike (s.setVm vm).vm from hZ.alike) A1.2.1) (g := mkF m pc Ls (.ref a :: st)) rfl rfl (B.d hd) _ (by rw [len_of A3 A4]; exact kt)⟩) k
theorem g_ldC (B : Ctx Z a0 EL p m meth c own bytes ml ret nm) (A : Arv Z h a kA .char z vs dv) (hj : ¬ j < 0 ∧ j < z) (hv : vs.getD j.toNatClampNeg dv = v) (hd : decode bytes pc = .ok (.caload, 1)) (hq : pc + 1 = q)
    (k : Go wd Z EL p l e R s m args below meth c n0 C N Q vm h cells slots (mkF m q Ls (v :: st))) :
    Go wd Z EL p l e R s m args below meth c n0 C N Q vm h cells slots (mkF m pc Ls (.int j :: .ref a :: st)) := by
  subst hq
  obtain ⟨cl, A1, A2, A3, A4, A5, A6⟩ := A
  refine g_same (fun T locs hZ X eT => ⟨T, X, eT, fun t kt => X.caload B.1 (by rw [eT]; exact A1.1) (State.isArrayOf_alike (show Z.vm.Alike (s.setVm vm).vm from hZ.alike) A1.2.1) A1.2.2 (inb_of A3 hj) (A5.at (inb_of A3 hj) hv) (g := mkF m pc Ls (.int j :: .ref a :: st)) rfl rfl (B.d hd) _ kt⟩) k
theorem g_ldI (B : Ctx Z a0 EL p m meth c own bytes ml ret nm) (A : Arv Z h a kA .int z vs dv) (hj : ¬ j < 0 ∧ j < z) (hv : vs.getD j.toNatClampNeg dv = v) (hd : decode bytes pc = .ok (.iaload, 1)) (hq : pc + 1 = q)
    (k : Go wd Z EL p l e R s m args below meth c n0 C N Q vm h cells slots (mkF m q Ls (v :: st))) :
    Go wd Z EL p l e R s m args below meth c n0 C N Q vm h cells slots (mkF m pc Ls (.int j :: .ref a :: st)) := by
  subst hq
  obtain ⟨cl, A1, A2, A3, A4, A5, A6⟩ := A
  refine g_same (fun T locs hZ X eT => ⟨T, X, eT, fun t kt => X.iaload B.1 (by rw [eT]; exact A1.1) (State.isArrayOf_alike (show Z.vm.Alike (s.setVm vm).vm from hZ.alike) A1.2.1) A1.2.2 (inb_of A3 hj) (A5.at (inb_of A3 hj) hv) (g := mkF m pc Ls (.int j :: .ref a :: st)) rfl rfl (B.d hd) _ kt⟩) k
theorem g_ldJ (B : Ctx Z a0 EL p m meth c own bytes ml ret nm) (A : Arv Z h a kA .long z vs dv) (hj : ¬ j < 0 ∧ j < z) (hv : vs.getD j.toNatClampNeg dv = v) (hd : decode bytes pc = .ok (.laload, 1)) (hq : pc + 1 = q)
    (k : Go wd Z EL p l e R s m args below meth c n0 C N Q vm h cells slots (mkF m q Ls (v :: st))) :
    Go wd Z EL p l e R s m args below meth c n0 C N Q vm h cells slots (mkF m pc Ls (.int j :: .ref a :: st)) := by
  subst hq
  obtain ⟨cl, A1, A2, A3, A4, A5, A6⟩ := A
  refine g_same (fun T locs hZ X eT => ⟨T, X, eT, fun t kt => X.laload B.1 (by rw [eT]; exact A1.1) (State.isArrayOf_alike (show Z.vm.Alike (s.setVm vm).vm from hZ.alike) A1.2.1) A1.2.2 (inb_of A3 hj) (A5.at (inb_of A3 hj) hv) (g := mkF m pc Ls (.int j :: .ref a :: st)) rfl rfl (B.d hd) _ kt⟩) k
theorem g_ldB (B : Ctx Z a0 EL p m meth c own bytes ml ret nm) (A : Arv Z h a kA .byte z vs dv) (hj : ¬ j < 0 ∧ j < z) (hv : vs.getD j.toNatClampNeg dv = v) (hd : decode bytes pc = .ok (.baload, 1)) (hq : pc + 1 = q)
    (k : Go wd Z EL p l e R s m args below meth c n0 C N Q vm h cells slots (mkF m q Ls (v :: st))) :
    Go wd Z EL p l e R s m args below meth c n0 C N Q vm h cells slots (mkF m pc Ls (.int j :: .ref a :: st)) := by
  subst hq
  obtain ⟨cl, A1, A2, A3, A4, A5, A6⟩ := A
  refine g_same (fun T locs hZ X eT => ⟨T, X, eT, fun t kt => X.baloadBytes B.1 (by rw [eT]; exact A1.1) (State.isArrayOf_alike (show Z.vm.Alike (s.setVm vm).vm from hZ.alike) A1.2.1) A1.2.2 (inb_of A3 hj) (A5.at (inb_of A3 hj) hv) (g := mkF m pc Ls (.int j :: .ref a :: st)) rfl rfl (B.d hd) _ kt⟩) k
theorem g_ldR (B : Ctx Z a0 EL p m meth c own bytes ml ret nm) (A : Arv Z h a kA ty z vs dv) (hty : ty.isReference = true) (hj : ¬ j < 0 ∧ j < z) (hv : vs.getD j.toNatClampNeg dv = v) (hd : decode bytes pc = .ok (.aaload, 1)) (hq : pc + 1 = q)
    (k : Go wd Z EL p l e R s m args below meth c n0 C N Q vm h cells slots (mkF m q Ls (v :: st))) :
    Go wd Z EL p l e R s m args below meth c n0 C N Q vm h cells slots (mkF m pc Ls (.int j :: .ref a :: st)) := by
  subst hq
  obtain ⟨cl, A1, A2, A3, A4, A5, A6⟩ := A
  refine g_same (fun T locs hZ X eT => ⟨T, X, eT, fun t kt => X.aaload B.1 (by rw [eT]; exact A1.1) (State.isArrayOf_alike (show Z.vm.Alike (s.setVm vm).vm from hZ.alike) A1.2.1) hty A1.2.2 (inb_of A3 hj) (A5.at (inb_of A3 hj) hv) (g := mkF m pc Ls (.int j :: .ref a :: st)) rfl rfl (B.d hd) _ kt⟩) k
end Arrays
theorem g_ldcI {index : Nat} {v : Int32} (B : Ctx Z a0 EL p m meth c own bytes ml ret nm) (w : (Cond.constant own index v).before a0 Z = true) (hd : decode bytes pc = .ok (.ldc index, 2)) (hq : pc + 2 = q)
    (k : Go wd Z EL p l e R s m args below meth c n0 C N Q vm h cells slots (mkF m q Ls (.int v :: st))) : Go wd Z EL p l e R s m args below meth c n0 C N Q vm h cells slots (mkF m pc Ls st) := by
  subst hq
  exact g_same (fun T locs hZ X eT => ⟨T, X, eT, X.ldcInt B.1 (B.fc hZ) (mvT (s := s.setVm vm) hZ w) (g := mkF m pc Ls st) rfl (B.d hd)⟩) k
theorem g_ldcwI {index : Nat} {v : Int32} (B : Ctx Z a0 EL p m meth c own bytes ml ret nm) (w : (Cond.constant own index v).before a0 Z = true) (hd : decode bytes pc = .ok (.ldc_w index, 3)) (hq : pc + 3 = q)
    (k : Go wd Z EL p l e R s m args below meth c n0 C N Q vm h cells slots (mkF m q Ls (.int v :: st))) : Go wd Z EL p l e R s m args below meth c n0 C N Q vm h cells slots (mkF m pc Ls st) := by
  subst hq
  exact g_same (fun T locs hZ X eT => ⟨T, X, eT, X.ldcwInt B.1 (B.fc hZ) (mvT (s := s.setVm vm) hZ w) (g := mkF m pc Ls st) rfl (B.d hd)⟩) k
theorem g_ldc2J {index : Nat} {v : Int64} (B : Ctx Z a0 EL p m meth c own bytes ml ret nm) (w : (Cond.constantLong own index v).before a0 Z = true) (hd : decode bytes pc = .ok (.ldc2_w index, 3)) (hq : pc + 3 = q)
    (k : Go wd Z EL p l e R s m args below meth c n0 C N Q vm h cells slots (mkF m q Ls (.long v :: st))) : Go wd Z EL p l e R s m args below meth c n0 C N Q vm h cells slots (mkF m pc Ls st) := by
  subst hq
  exact g_same (fun T locs hZ X eT => ⟨T, X, eT, X.ldc2Long B.1 (B.fc hZ) (mvT (s := s.setVm vm) hZ w) (g := mkF m pc Ls st) rfl (B.d hd)⟩) k
/-! String constants, array clones, references compared -/
theorem g_ldcS {index : Nat} {text : String} {vs : List Value} {z : Int32} {n : Nat} (B : Ctx Z a0 EL p m meth c own bytes ml ret nm) (w : (Cond.stringLink own index text).before a0 Z = true) (wS : ∀ a ∈ Bundle.stringAtoms, a.before a0 Z = true) (hmem : (own, index) ∈ EL)
    (ht : (∀ c ∈ text.toList, c.toNat < 256) ∧ text.toList.map (fun c => Value.int (Jvm.Lit.byteI c.toNat.toUInt16)) = vs) (hz : ¬ z < 0) (hl : z.toNatClampNeg = vs.length)
    (hd : decode bytes pc = .ok (.ldc index, 2)) (hn : 4 * text.toList.length ≤ n) (hbig : n ≤ 536870912) (hc : cells + 2 ≤ R.cells) (hsl : slots + (n + 4) ≤ R.slots) (hq : pc + 2 = q)
    (k : ∀ (h' : Heap) (vm' : Vm) (a b : Addr) (kb : ClassId), Z.Warmed39 vm' → Ext h h' → CHr Z EL vm h vm' h' → Exa Z h' a "java/lang/String" → Fld Z h' a "java/lang/String" "coder" "B" (.int 0) → Fld Z h' a "java/lang/String" "value" "[B" (.ref b) → Arv Z h' b kb .byte z vs (.int 0) →
      (∀ x, Safe Z EL vm' h' x → @Ne Nat x a ∧ @Ne Nat x b) → Go true Z EL p l e R s m args below meth c n0 C N Q vm' h' (cells + 2) (slots + (n + 4)) (mkF m q Ls (.ref a :: st))) :
    Go true Z EL p l e R s m args below meth c n0 C N Q vm h cells slots (mkF m pc Ls st) := by
  subst hq
  intro W T locs X eT F
  obtain ⟨hZ, ⟨k0, hS, hk⟩, hR, hw⟩ := W
  obtain ⟨a, T', h', k1, b, kb, X', e', E', hS', hk', hZ', -, A1, A2, A3, A4, -, -, hC, -, hne, st'⟩ := ldcCH X B.1 hZ (B.fc (s := s) hZ) w wS eT hS hk B.2.2.2.2.2.2.2 hmem hR.1 ht hz hl (g := mkF m pc Ls st) rfl (B.d hd) hn hbig hc hsl
  obtain ⟨s₂, o, r1, r⟩ := k h' T'.vm a b kb hZ' E' hC A1 A2 A3 A4 hne ⟨hZ', ⟨k1, hS', hk'⟩, hR.trans hC, fun q => (nomatch q)⟩ T' locs X' e' F
  exact ⟨s₂, o, st' _ r1, r⟩
theorem g_clone {ad : String} {index : Nat} {a : Addr} {kA : ClassId} {ty : FieldType} {z : Int32} {vs : List Value} {dv : Value} {W cap : Nat} (B : Ctx Z a0 EL p m meth c own bytes ml ret nm)
    (w1 : (Cond.methodLink own index ⟨ad, "clone", "()Ljava/lang/Object;"⟩).before a0 Z = true) (w2 : (Cond.sameMethod ad "java/lang/Object" "clone" "()Ljava/lang/Object;").before a0 Z = true) (w3 : (Cond.native ⟨"java/lang/Object", "clone", "()Ljava/lang/Object;"⟩).before a0 Z = true)
    (w4 : (Cond.instanceMethod ⟨"java/lang/Object", "clone", "()Ljava/lang/Object;"⟩).before a0 Z = true) (w5 : (Cond.selects ad ⟨ad, "clone", "()Ljava/lang/Object;"⟩ ⟨"java/lang/Object", "clone", "()Ljava/lang/Object;"⟩).before a0 Z = true) (w6 : (Cond.castable ad "java/lang/Cloneable").before a0 Z = true)
    (A : Arv Z h a kA ty z vs dv) (E : Exa Z h a ad) (hs : Ls.size = ml) (hd : decode bytes pc = .ok (.invokevirtual index, 3)) (hf : 1 ≤ R.frames) (hW : (st.map fun v => v.category).sum ≤ W) (hl : W + 14 ≤ R.locals) (hcap : z.toNatClampNeg ≤ cap) (hc : cells + 1 ≤ R.cells) (hsl : slots + cap ≤ R.slots) (hq : pc + 3 = q)
    (k : ∀ (h' : Heap) (b : Addr), @Eq Nat b h.size → Ext h h' → Safe Z EL vm h' b → Arv Z h' b kA ty z vs dv → Exa Z h' b ad → Go wd Z EL p l e R s m args below meth c n0 C N Q vm h' (cells + 1) (slots + cap) (mkF m q Ls (.ref b :: st))) :
    Go wd Z EL p l e R s m args below meth c n0 C N Q vm h cells slots (mkF m pc Ls (.ref a :: st)) := by
  subst hq
  intro Wt0
  refine g_ext (cells' := cells + 1) (slots' := slots + cap) (G := mkF m (pc + 3) Ls (.ref h.size :: st)) (P := fun h' => Arv Z h' h.size kA ty z vs dv ∧ Exa Z h' h.size ad) (fun T locs hZ X eT => ?_) (fun h' E' P => k h' h.size rfl E' (Safe.ext E' Wt0.2.2.1.1 (Safe.new (Nat.le_refl _))) P.1 P.2) Wt0
  obtain ⟨T', h', X', e', E', A', D', st'⟩ := cloneH X B.1 (show Z.Warmed39 (s.setVm vm).vm from hZ) (B.fc hZ) w1 w2 w3 w4 w5 w6 eT A.arh E (g := mkF m pc Ls (.ref a :: st)) rfl (hs.trans B.2.2.1.symm) rfl (B.d hd) hf (W := W) (by show 2 * 0 + _ ≤ W; omega) hl hcap hc hsl
  exact ⟨T', h', X', e', E', ⟨A', D'⟩, st'⟩
theorem g_acmp {cd : ACond} {x y : Value} {of : Int} {same : Bool} (B : Ctx Z a0 EL p m meth c own bytes ml ret nm) (h1 : x.isRef = true) (h2 : y.isRef = true) (hd : decode bytes pc = .ok (.if_acmp cd of, 3)) (hs : decide (x = y) = same) (ho : 0 ≤ (pc : Int) + of) (hq : q = if acV cd same = true then ((pc : Int) + of).toNat else pc + 3)
    (k : Go wd Z EL p l e R s m args below meth c n0 C N Q vm h cells slots (mkF m q Ls st)) : Go wd Z EL p l e R s m args below meth c n0 C N Q vm h cells slots (mkF m pc Ls (y :: x :: st)) :=
  g_same (fun T locs hZ X eT => ⟨T, X, eT, fun t kt => Jvm.RoadKit.acmp (g := mkF m pc Ls (y :: x :: st)) X B.1 rfl h1 h2 (pc0 := pc) (pc' := q) (same := same) rfl (B.d hd) rfl hs ho hq kt⟩) k
theorem g_instNull {index : Nat} (B : Ctx Z a0 EL p m meth c own bytes ml ret nm) (hd : decode bytes pc = .ok (.instanceof index, 3)) (hq : pc + 3 = q)
    (k : Go wd Z EL p l e R s m args below meth c n0 C N Q vm h cells slots (mkF m q Ls (.int 0 :: st))) : Go wd Z EL p l e R s m args below meth c n0 C N Q vm h cells slots (mkF m pc Ls (.null :: st)) := by
  subst hq
  exact g_same (fun T locs hZ X eT => ⟨T, X, eT, fun t kt => X.instanceofNull B.1 (g := mkF m pc Ls (.null :: st)) rfl rfl (B.d hd) _ kt⟩) k
theorem g_castNull {index : Nat} (B : Ctx Z a0 EL p m meth c own bytes ml ret nm) (hd : decode bytes pc = .ok (.checkcast index, 3)) (hq : pc + 3 = q)
    (k : Go wd Z EL p l e R s m args below meth c n0 C N Q vm h cells slots (mkF m q Ls (.null :: st))) : Go wd Z EL p l e R s m args below meth c n0 C N Q vm h cells slots (mkF m pc Ls (.null :: st)) := by
  subst hq
  exact g_same (fun T locs hZ X eT => ⟨T, X, eT, fun t kt => X.checkcastNull B.1 (g := mkF m pc Ls (.null :: st)) rfl rfl (B.d hd) _ kt⟩) k
/-! returns -/
theorem g_end {v : Option Value} (B : Ctx Z a0 EL p m meth c own bytes ml ret nm) (hv : ret = none → v = none) (hC : cells ≤ C) (hN : slots ≤ N) (hQ : Q v h)
    (hs : ∀ (T : State) (locs : List Loc) (fs : List Frame), Stand p l e R (s.setVm vm) m args below meth c T locs cells slots → (∀ (f : JFrame) (acts : List Action), f.method = m → f.locked = none → f.entered = [] → (doReturn e (T.setTop f) acts v).1 = T.setFrames fs) → Steps p.tables e below (T.setTop g) (T.setFrames fs)) :
    Go wd Z EL p l e R s m args below meth c n0 C N Q vm h cells slots g := by
  intro W T locs X eT F
  obtain ⟨hZ, ⟨k0, hS, hk⟩, hR, hw⟩ := W
  have hlk : meth.locks = false := B.2.2.2.2.1
  have hv' : meth.sig.returnType = none → v = none := fun z => hv (B.2.2.2.1.symm.trans z)
  subst eT
  obtain ⟨fs, hr, hrun, hend, hE⟩ := X.leaveW hS hk (v := v) hv' hlk
  have hR2 : CHr Z EL s.vm s.heap (T.setFrames fs).vm (T.setFrames fs).heap := hR.trans (show CHr Z EL vm T.heap T.vm T.heap from CHv.at X hZ B.2.2.2.2.2.2.2 hR.1)
  refine ⟨_, _, hs T locs fs X hr, hrun, hend, v, locs, rfl, ⟨hQ, F⟩, hR2, ⟨hE.1, hE.2.1, hE.2.2.1, hE.2.2.2.mono hC hN⟩, fun z => ?_⟩
  obtain ⟨rfl, -⟩ := hw z
  exact ⟨hE.1, X.warmed, hE.2.2.2.mono hC hN⟩
theorem g_ret0 (B : Ctx Z a0 EL p m meth c own bytes ml none nm) (hd : decode bytes pc = .ok (.return_, 1)) (hC : cells ≤ C) (hN : slots ≤ N) (hQ : Q none h) :
    Go wd Z EL p l e R s m args below meth c n0 C N Q vm h cells slots (mkF m pc Ls []) :=
  g_end B (fun _ => rfl) hC hN hQ fun T locs fs X hr => X.returnOut B.1 B.2.2.2.1 (B.d hd) hr
theorem g_retN {t : FieldType} {z : Int32} (B : Ctx Z a0 EL p m meth c own bytes ml (some t) nm) (ht : t = .boolean ∨ t = .byte ∨ t = .char ∨ t = .short) (hd : decode bytes pc = .ok (.ireturn, 1)) (hC : cells ≤ C) (hN : slots ≤ N) (hQ : Q (some (.int (nar t z))) h) :
    Go wd Z EL p l e R s m args below meth c n0 C N Q vm h cells slots (mkF m pc Ls (.int z :: st)) :=
  g_end B (fun q => nomatch q) hC hN hQ fun T locs fs X hr => retN X B.1 B.2.2.2.1 ht (B.d hd) hr
theorem g_retI {z : Int32} (B : Ctx Z a0 EL p m meth c own bytes ml (some .int) nm) (hd : decode bytes pc = .ok (.ireturn, 1)) (hC : cells ≤ C) (hN : slots ≤ N) (hQ : Q (some (.int z)) h) :
    Go wd Z EL p l e R s m args below meth c n0 C N Q vm h cells slots (mkF m pc Ls (.int z :: st)) :=
  g_end B (fun q => nomatch q) hC hN hQ fun T locs fs X hr => retOut X B.1 B.2.2.2.1 rfl (Or.inl ⟨rfl, Or.inl rfl, z, rfl⟩) (B.d hd) hr
theorem g_retJ {z : Int64} (B : Ctx Z a0 EL p m meth c own bytes ml (some .long) nm) (hd : decode bytes pc = .ok (.lreturn, 1)) (hC : cells ≤ C) (hN : slots ≤ N) (hQ : Q (some (.long z)) h) :
    Go wd Z EL p l e R s m args below meth c n0 C N Q vm h cells slots (mkF m pc Ls (.long z :: st)) :=
  g_end B (fun q => nomatch q) hC hN hQ fun T locs fs X hr => retOut X B.1 B.2.2.2.1 rfl (Or.inr (Or.inl ⟨rfl, rfl, z, rfl⟩)) (B.d hd) hr
theorem g_retA {t : FieldType} {v : Value} (B : Ctx Z a0 EL p m meth c own bytes ml (some t) nm) (ht : t.isReference = true) (hv : v.isRef = true) (hd : decode bytes pc = .ok (.areturn, 1)) (hC : cells ≤ C) (hN : slots ≤ N) (hQ : Q (some v) h) :
    Go wd Z EL p l e R s m args below meth c n0 C N Q vm h cells slots (mkF m pc Ls (v :: st)) :=
  g_end B (fun q => nomatch q) hC hN hQ fun T locs fs X hr => retOut X B.1 B.2.2.2.1 (by rcases ref_cases hv with rfl | ⟨a, rfl⟩ <;> cases t <;> first | rfl | (cases ht; done)) (Or.inr (Or.inr (Or.inr (Or.inr ⟨rfl, ht, hv⟩)))) (B.d hd) hr
/-! contracts -/
/-- what a body promises: from the arguments 'as' at the heap h it comes back with Q -/
def Met (wd : Bool) (Z : State) (EL : List (String × Nat)) (l : Launch) (y : MethodName) (bytes : ByteArray) (ml : Nat) (ret : Option FieldType) (rm : Room) (as : Array Value) (h : Heap) (sf : List Addr) (n0 : Nat) (Q : Option Value → Heap → Prop) : Prop :=
  ∀ ws, MetFree l y (head1 (Jvm.Cond.code y bytes ml ret :: ws) rm) (fun a U => a = as ∧ Z.Warmed39 U.vm ∧ U.heap = h ∧ CHv Z EL U.vm h ∧ ∀ x ∈ sf, Safe Z EL U.vm h x) (fun _ _ _ _ _ => True) (fun _ U o U' => Fin wd Z EL n0 rm.cells rm.slots Q U o U')
theorem Met.of {y : MethodName} {rm : Room} {as : Array Value} {sf : List Addr} (hnw : wd = false → EL = []) (hpl : plainFor y = true) (hEL : EW Z a0 EL) (hent : ∀ m, entryFrame m as ml = mkF m 0 Ls [])
    (body : ∀ p e s m below meth c, Ctx Z a0 EL p m meth c y.cls bytes ml ret y.name → (∀ x ∈ sf, Safe Z EL s.vm h x) → Go wd Z EL p l e rm s m as below meth c n0 rm.cells rm.slots Q s.vm h 0 0 (mkF m 0 Ls [])) : Met wd Z EL l y bytes ml ret rm as h sf n0 Q := by
  intro ws
  refine MetFree.of_bodySF hpl hisR ?_
  intro p e s m args below meth c s₁ Bd hml0 hP hK
  obtain ⟨rfl, hZ, hh, hC, hsf⟩ := hP
  have X0 : Stand p l e rm s m args below meth c s₁ [] 0 0 := Stand.of_body Bd
  have e0 : s₁.heap = h := by rw [← hh, Bd.state]; rfl
  have hown : Z.vm.findClass y.cls = some m.cls := by rw [← hZ.alike.findClass]; exact findClass_of_methodNamed Bd.named
  obtain ⟨s₂, o, r1, r⟩ := body p e s m below meth c ⟨Bd.exec, Bd.bytes, hml0, Bd.returns, Bd.notSynchronized, hown, (name_of_methodNamed Bd.named Bd.method).1, hEL⟩ hsf
    ⟨hZ, ⟨0, (State.WarmedH.refl s).since 0, Nat.zero_le _⟩, by rw [hh]; exact CHr.refl hC, fun z => ⟨rfl, hnw z⟩⟩ s₁ [] X0 e0 (Fr.nil n0)
  exact ⟨s₂, o, castTop (hent m) r1, r⟩
/-! calls -/
/-- a call site: whoever pays the callee, the walk goes on behind it -/
def Call (Z : State) (p : Program) (l : Launch) (e : Env) (R : Room) (s : State) (m : MethodId) (args : Array Value) (below : List Frame) (meth : Method) (c : Code) (vm : Vm) (h : Heap) (y : MethodName) (len W : Nat) (as : Array Value) (g : JFrame) (G : Option Value → JFrame) : Prop :=
  Z.Warmed39 vm → ∀ (T : State) (locs : List Loc) (cells slots : Nat), Stand p l e R (s.setVm vm) m args below meth c T locs cells slots → T.heap = h →
    (∀ {Pre : Pt → Array Value → Prop} {Post : Pt → Array Value → Option Value → Pt → Prop}, Back l R p e below (s.setVm vm) args y len W Pre Post → (∀ vm₁, (s.setVm vm).WarmedH vm₁ → Pre ⟨T.setVm vm₁, locs, cells, slots⟩ as) →
      ∃ (v : Option Value) (vm₁ : Vm) (B : Pt), Stand p l e R (s.setVm vm) m args below meth c B.U B.locs B.cells B.slots ∧ Post ⟨T.setVm vm₁, locs, cells, slots⟩ as v B ∧ Steps p.tables e below (T.setTop g) (B.U.setTop (G v))) ∧
    (∀ {Pre : Pt → Array Value → Prop} {Post : Pt → Array Value → Option Value → Pt → Prop}, BackS l R p e below (s.setVm vm) args y len W Pre Post → (∀ vm₁, (s.setVm vm).WarmedH vm₁ → Pre ⟨T.setVm vm₁, locs, cells, slots⟩ as) →
      ∃ (v : Option Value) (vm₁ : Vm) (B : Pt), Stand p l e R ((s.setVm vm).setVm B.U.vm) m args below meth c B.U B.locs B.cells B.slots ∧ (s.setVm vm).Since B.U.vm B.U.heap.size ∧ T.heap.size ≤ B.U.heap.size ∧ Post ⟨T.setVm vm₁, locs, cells, slots⟩ as v B ∧ Steps p.tables e below (T.setTop g) (B.U.setTop (G v)))
section CallSites
variable {y : MethodName} {index : Nat} {bs : ByteArray} {mL : Nat} {rt : Option FieldType} {W : Nat} {argsL rest : List Value}
theorem c_static (B : Ctx Z a0 EL p m meth c own bytes ml ret nm) (w1 : (Cond.methodLink own index y).before a0 Z = true) (w2 : (Cond.static y).before a0 Z = true) (w3 : (Cond.initialized y.cls).before a0 Z = true) (w4 : (Cond.code y bs mL rt).before a0 Z = true)
    (hy : y.cls ≠ "java/lang/invoke/MethodHandle" ∧ y.cls ≠ "java/lang/invoke/VarHandle") (hs : Ls.size = ml) (hlen : ∀ sig, parseMethodDescriptor y.desc = some sig → argsL.length = sig.parameters.length) (hst : st = argsL.reverse ++ rest) (hW : (rest.map fun v => v.category).sum ≤ W)
    (hd : decode bytes pc = .ok (.invokestatic index, 3)) (hq : pc + 3 = q) : Call Z p l e R s m args below meth c vm h y 3 W argsL.toArray (mkF m pc Ls st) (fun v => mkF m q Ls (v.toList ++ rest)) := by
  subst hq hst
  intro hZ T locs cells slots X eT
  have hZ' : Z.Warmed39 (s.setVm vm).vm := hZ
  refine ⟨fun {Pre Post} hK hpre => ?_, fun {Pre Post} hK hpre => ?_⟩
  · obtain ⟨v, vm₁, B', -, X', hP, st'⟩ := Jvm.LawKit.callS X B.1 (B.fc hZ) (mvT hZ' w1) (mvT hZ' w2) (mvT hZ' w3) (mvT hZ' w4) hy hK (g := mkF m pc Ls (argsL.reverse ++ rest)) rfl (hs.trans B.2.2.1.symm) hlen rfl (by show 2 * 0 + _ ≤ W; omega) (B.d hd) hpre
    exact ⟨v, vm₁, B', X', hP, st' _ (Steps.refl _)⟩
  · obtain ⟨v, vm₁, B', -, X', h1, h2, hP, st'⟩ := callSS X B.1 (B.fc hZ) (mvT hZ' w1) (mvT hZ' w2) (mvT hZ' w3) (mvT hZ' w4) hy hK (g := mkF m pc Ls (argsL.reverse ++ rest)) rfl (hs.trans B.2.2.1.symm) hlen rfl (by show 2 * 0 + _ ≤ W; omega) (B.d hd) hpre
    exact ⟨v, vm₁, B', X', h1, h2, hP, st'⟩
theorem c_init {a : Addr} (B : Ctx Z a0 EL p m meth c own bytes ml ret nm) (hy1 : y.name = "<init>") (w1 : (Cond.methodLink own index y).before a0 Z = true) (w2 : (Cond.instanceMethod y).before a0 Z = true) (w4 : (Cond.code y bs mL none).before a0 Z = true)
    (hy : y.cls ≠ "java/lang/invoke/MethodHandle" ∧ y.cls ≠ "java/lang/invoke/VarHandle") (hs : Ls.size = ml) (hlen : ∀ sig, parseMethodDescriptor y.desc = some sig → argsL.length = sig.parameters.length) (hst : st = argsL.reverse ++ .ref a :: rest) (hW : (rest.map fun v => v.category).sum ≤ W)
    (hd : decode bytes pc = .ok (.invokespecial index, 3)) (hq : pc + 3 = q) : Call Z p l e R s m args below meth c vm h y 3 W (.ref a :: argsL).toArray (mkF m pc Ls st) (fun v => mkF m q Ls (v.toList ++ rest)) := by
  subst hq hst
  intro hZ T locs cells slots X eT
  have hZ' : Z.Warmed39 (s.setVm vm).vm := hZ
  refine ⟨fun {Pre Post} hK hpre => ?_, fun {Pre Post} hK hpre => ?_⟩
  · obtain ⟨v, vm₁, B', -, X', hP, st'⟩ := X.specialBack B.1 hy1 (B.fc hZ) (mvT hZ' w1) (mvT hZ' w2) (mvT hZ' w4) hy hK (g := mkF m pc Ls (argsL.reverse ++ .ref a :: rest)) rfl (hs.trans B.2.2.1.symm) (Steps.refl _) hlen rfl (by show 2 * 0 + _ ≤ W; omega) (B.d hd) hpre
    exact ⟨v, vm₁, B', X', hP, st'⟩
  · obtain ⟨v, vm₁, B', -, X', h1, h2, hP, st'⟩ := X.specialBackS B.1 hy1 (B.fc hZ) (mvT hZ' w1) (mvT hZ' w2) (mvT hZ' w4) hy hK (g := mkF m pc Ls (argsL.reverse ++ .ref a :: rest)) rfl (hs.trans B.2.2.1.symm) (Steps.refl _) hlen rfl (by show 2 * 0 + _ ≤ W; omega) (B.d hd) hpre
    exact ⟨v, vm₁, B', X', h1, h2, hP, st'⟩
theorem c_virt {z : MethodName} {a : Addr} {K : String} (B : Ctx Z a0 EL p m meth c own bytes ml ret nm) (E : Exa Z h a K) (w1 : (Cond.methodLink own index z).before a0 Z = true) (w2 : (Cond.declares z).before a0 Z = true) (w3 : (Cond.selects K z y).before a0 Z = true) (w4 : (Cond.instanceMethod y).before a0 Z = true)
    (hnf : ∀ s' : State, Z.Warmed39 s'.vm → NotFace s' z) (hy : z.cls ≠ "java/lang/invoke/MethodHandle" ∧ z.cls ≠ "java/lang/invoke/VarHandle") (hs : Ls.size = ml) (hlen : ∀ sig, parseMethodDescriptor z.desc = some sig → argsL.length = sig.parameters.length) (hst : st = argsL.reverse ++ .ref a :: rest) (hW : (rest.map fun v => v.category).sum ≤ W)
    (hd : decode bytes pc = .ok (.invokevirtual index, 3)) (hq : pc + 3 = q) : Call Z p l e R s m args below meth c vm h y 3 W (.ref a :: argsL).toArray (mkF m pc Ls st) (fun v => mkF m q Ls (v.toList ++ rest)) := by
  subst hq hst
  intro hZ T locs cells slots X eT
  have hZ' : Z.Warmed39 (s.setVm vm).vm := hZ
  obtain ⟨cB, kB, i1, i2, i3⟩ := isOf (s := s.setVm vm) hZ' eT E
  refine ⟨fun {Pre Post} hK hpre => ?_, fun {Pre Post} hK hpre => ?_⟩
  · obtain ⟨v, vm₁, B', -, X', hP, st'⟩ := X.virtualBack B.1 (B.fc hZ) (mvT hZ' w1) (mvT hZ' w2) (hnf _ hZ') (mvT hZ' w3) (mvT hZ' w4) hy hK i1 i3 (g := mkF m pc Ls (argsL.reverse ++ .ref a :: rest)) rfl (hs.trans B.2.2.1.symm) (Steps.refl _) hlen rfl (by show 2 * 0 + _ ≤ W; omega) (B.d hd) hpre
    exact ⟨v, vm₁, B', X', hP, st'⟩
  · obtain ⟨v, vm₁, B', -, X', h1, h2, hP, st'⟩ := X.virtualBackS B.1 (B.fc hZ) (mvT hZ' w1) (mvT hZ' w2) (hnf _ hZ') (mvT hZ' w3) (mvT hZ' w4) hy hK i1 i3 (g := mkF m pc Ls (argsL.reverse ++ .ref a :: rest)) rfl (hs.trans B.2.2.1.symm) (Steps.refl _) hlen rfl (by show 2 * 0 + _ ≤ W; omega) (B.d hd) hpre
    exact ⟨v, vm₁, B', X', h1, h2, hP, st'⟩
/-- a private method by invokevirtual; z: another method of its class, which some class selects -/
theorem c_priv {z : MethodName} {a : Addr} {K K' : String} (B : Ctx Z a0 EL p m meth c own bytes ml ret nm) (E : Exa Z h a K) (w1 : (Cond.methodLink own index y).before a0 Z = true) (w2 : (Cond.instanceMethod y).before a0 Z = true) (w3 : (Cond.privateMethod y).before a0 Z = true) (w4 : (Cond.code y bs mL rt).before a0 Z = true)
    (wo : (Cond.selects K' z z).before a0 Z = true) (hz : z.cls = y.cls) (hy : y.cls ≠ "java/lang/invoke/MethodHandle" ∧ y.cls ≠ "java/lang/invoke/VarHandle") (hs : Ls.size = ml) (hlen : ∀ sig, parseMethodDescriptor y.desc = some sig → argsL.length = sig.parameters.length) (hst : st = argsL.reverse ++ .ref a :: rest) (hW : (rest.map fun v => v.category).sum ≤ W)
    (hd : decode bytes pc = .ok (.invokevirtual index, 3)) (hq : pc + 3 = q) : Call Z p l e R s m args below meth c vm h y 3 W (.ref a :: argsL).toArray (mkF m pc Ls st) (fun v => mkF m q Ls (v.toList ++ rest)) := by
  subst hq hst
  intro hZ T locs cells slots X eT
  have hZ' : Z.Warmed39 (s.setVm vm).vm := hZ
  obtain ⟨cell, i1, i2⟩ := E.cell
  have hpr : (s.setVm vm).PrivateAt y := Cond.privateMethod_at (mvP hZ' w3 (args := #[]))
  have hsel : (Cond.selects y.cls y y).before args (s.setVm vm) = true := by
    obtain ⟨c2, r2, m2, q1, q2, q3, q4, kP, hkP, hkPi⟩ := Cond.selects_spec (mvT hZ' wo (args := #[]))
    have hc := findClass_of_methodNamed q3
    rw [hz] at hc
    exact selects_self_of_private hc hkP hkPi hpr (mvT hZ' w2) hy
  refine ⟨fun {Pre Post} hK hpre => ?_, fun {Pre Post} hK hpre => ?_⟩
  · obtain ⟨v, vm₁, B', -, X', hP, st'⟩ := X.privateBack B.1 (B.fc hZ) (mvT hZ' w1) (mvT hZ' w2) hsel hpr (mvT hZ' w4) hy hK (g := mkF m pc Ls (argsL.reverse ++ .ref a :: rest)) rfl (hs.trans B.2.2.1.symm) (Steps.refl _) (by rw [eT]; exact i1) i2 hlen rfl (by show 2 * 0 + _ ≤ W; omega) (B.d hd) hpre
    exact ⟨v, vm₁, B', X', hP, st'⟩
  · obtain ⟨v, vm₁, B', -, X', h1, h2, hP, st'⟩ := X.privateBackS B.1 (B.fc hZ) (mvT hZ' w1) (mvT hZ' w2) hsel hpr (mvT hZ' w4) hy hK (g := mkF m pc Ls (argsL.reverse ++ .ref a :: rest)) rfl (hs.trans B.2.2.1.symm) (Steps.refl _) (by rw [eT]; exact i1) i2 hlen rfl (by show 2 * 0 + _ ≤ W; omega) (B.d hd) hpre
    exact ⟨v, vm₁, B', X', h1, h2, hP, st'⟩
theorem c_iface {xi : MethodName} {a : Addr} {K : String} {count : Nat} (B : Ctx Z a0 EL p m meth c own bytes ml ret nm) (E : Exa Z h a K) (w1 : (Cond.methodLink own index xi).before a0 Z = true) (w2 : (Cond.declares xi).before a0 Z = true) (w3 : (Cond.interfaceMethod xi.cls xi.cls xi.name xi.desc).before a0 Z = true) (w4 : (Cond.selects K xi y).before a0 Z = true) (w5 : (Cond.instanceMethod y).before a0 Z = true)
    (w6 : (Cond.publicMethod y).before a0 Z = true) (w7 : (Cond.unhidden K xi.name xi.desc).before a0 Z = true) (w8 : (Cond.castable K xi.cls).before a0 Z = true) (hw3 : ((Cond.interfaceMethod xi.cls xi.cls xi.name xi.desc).onTables && (Cond.interfaceMethod xi.cls xi.cls xi.name xi.desc).keepsFace) = true) (hy : xi.cls ≠ "java/lang/invoke/MethodHandle" ∧ xi.cls ≠ "java/lang/invoke/VarHandle") (hs : Ls.size = ml) (hlen : ∀ sig, parseMethodDescriptor xi.desc = some sig → argsL.length = sig.parameters.length) (hst : st = argsL.reverse ++ .ref a :: rest) (hW : (rest.map fun v => v.category).sum ≤ W)
    (hd : decode bytes pc = .ok (.invokeinterface index count, 5)) (hq : pc + 5 = q) : Call Z p l e R s m args below meth c vm h y 5 W (.ref a :: argsL).toArray (mkF m pc Ls st) (fun v => mkF m q Ls (v.toList ++ rest)) := by
  subst hq hst
  intro hZ T locs cells slots X eT
  have hZ' : Z.Warmed39 (s.setVm vm).vm := hZ
  obtain ⟨cB, kB, i1, i2, i3⟩ := isOf (s := s.setVm vm) hZ' eT E
  refine ⟨fun {Pre Post} hK hpre => ?_, fun {Pre Post} hK hpre => ?_⟩
  · obtain ⟨v, vm₁, B', -, X', hP, st'⟩ := X.interfaceBack B.1 (B.fc hZ) (mvT hZ' w1) (mvT hZ' w2) (mvT hZ' w3 hw3) (mvT hZ' w4) (mvT hZ' w5) (mvT hZ' w6) (mvT hZ' w7) (mvT hZ' w8) hy hK i1 i2 i3 (g := mkF m pc Ls (argsL.reverse ++ .ref a :: rest)) rfl (hs.trans B.2.2.1.symm) (Steps.refl _) hlen rfl (by show 2 * 0 + _ ≤ W; omega) (B.d hd) hpre
    exact ⟨v, vm₁, B', X', hP, st'⟩
  · obtain ⟨v, vm₁, B', -, X', h1, h2, hP, st'⟩ := X.interfaceBackS B.1 (B.fc hZ) (mvT hZ' w1) (mvT hZ' w2) (mvT hZ' w3 hw3) (mvT hZ' w4) (mvT hZ' w5) (mvT hZ' w6) (mvT hZ' w7) (mvT hZ' w8) hy hK i1 i2 i3 (g := mkF m pc Ls (argsL.reverse ++ .ref a :: rest)) rfl (hs.trans B.2.2.1.symm) (Steps.refl _) hlen rfl (by show 2 * 0 + _ ≤ W; omega) (B.d hd) hpre
    exact ⟨v, vm₁, B', X', h1, h2, hP, st'⟩
theorem nfs {y z : MethodName} {K : String} (w3 : (Cond.selects K y y).before a0 Z = true) : ∀ s' : State, Z.Warmed39 s'.vm → NotFace s' y := fun s' hZ => notFace_of_selects (args := #[]) (mvT hZ w3)
end CallSites
/-- a call that a law of the library's form pays -/
theorem g_pay {y : MethodName} {len W k n : Nat} {as : Array Value} {G : Option Value → JFrame} {Q' : Option Value → Heap → List Loc → Prop} (hc : Call Z p l e R s m args below meth c vm h y len W as g G)
    (hK : Z.Warmed39 (s.setVm vm).vm → Back l R p e below (s.setVm vm) args y len W (fun A a => a = as ∧ A.U.heap = h ∧ A.cells + k ≤ R.cells ∧ A.slots + n ≤ R.slots) (fun A _ v B => ∃ L, Q' v B.U.heap L ∧ B.locs = A.locs ++ L ∧ B.cells = A.cells + k ∧ B.slots = A.slots + n))
    (hcl : cells + k ≤ R.cells) (hsl : slots + n ≤ R.slots) (hF : ∀ v h' L, Q' v h' L → Fr n0 L ∧ ∃ ws, Keep h h' ws ∧ ∀ x ∈ ws, Safe Z EL vm h x)
    (kk : ∀ v h' L, Q' v h' L → Go wd Z EL p l e R s m args below meth c n0 C N Q vm h' (cells + k) (slots + n) (G v)) : Go wd Z EL p l e R s m args below meth c n0 C N Q vm h cells slots g := by
  intro W T locs X eT F
  obtain ⟨v, vm₁, ⟨U, L', k', n'⟩, X', ⟨L, hQ, e1, e2, e3⟩, st⟩ := (hc W.1 T locs cells slots X eT).1 (hK W.1) (fun vm₁ _ => ⟨rfl, eT, hcl, hsl⟩)
  dsimp only [Pt.U, Pt.locs, Pt.cells, Pt.slots] at X' hQ e1 e2 e3 st
  subst e1 e2 e3
  obtain ⟨F', ws, K, S⟩ := hF _ _ _ hQ
  obtain ⟨s₂, o, h1, r⟩ := kk v U.heap L hQ (W.keep S K) U _ X' rfl (Fr.app F F')
  exact ⟨s₂, o, st.trans h1, r⟩
/-- a call that a contract pays -/
theorem g_met {y : MethodName} {len W mL : Nat} {bs : ByteArray} {rt : Option FieldType} {rm : Room} {as : Array Value} {sf : List Addr} {G : Option Value → JFrame} {Q' : Option Value → Heap → Prop} (hEL : EW Z a0 EL) (hc : Call Z p l e R s m args below meth c vm h y len W as g G)
    (hM : Met wd Z EL l y bs mL rt rm as h sf n0 Q') (wc : (Cond.code y bs mL rt).before a0 Z = true) (wz : (Cond.initialized y.cls).before a0 Z = true) (hf : rm.frames + 1 ≤ R.frames) (hl : W + (mL + 11) + rm.locals ≤ R.locals)
    (hcl : cells + rm.cells ≤ R.cells) (hsl : slots + rm.slots ≤ R.slots) (hsf : ∀ x ∈ sf, Safe Z EL vm h x ∧ x < h.size)
    (kk : ∀ v h' vm', Z.Warmed39 vm' → CHr Z EL vm h vm' h' → Q' v h' → Go wd Z EL p l e R s m args below meth c n0 C N Q vm' h' (cells + rm.cells) (slots + rm.slots) (G v)) : Go wd Z EL p l e R s m args below meth c n0 C N Q vm h cells slots g := by
  intro Wt0 T locs X eT F
  obtain ⟨hZ, ⟨k0, hS, hk⟩, hR, hw⟩ := Wt0
  have hZ' : Z.Warmed39 (s.setVm vm).vm := hZ
  cases wd with
  | false =>
    obtain ⟨hv, rfl⟩ := hw rfl
    have hK : Back l R p e below (s.setVm vm) args y len W (fun A a => a = as ∧ A.U.heap = h ∧ A.cells + rm.cells ≤ R.cells ∧ A.slots + rm.slots ≤ R.slots) (fun A _ v B => ∃ L, (Q' v B.U.heap ∧ Fr n0 L ∧ h.size ≤ B.U.heap.size) ∧ B.locs = A.locs ++ L ∧ B.cells = A.cells + rm.cells ∧ B.slots = A.slots + rm.slots) :=
      Back.of_free (bytes := bs) (maxL := mL) (ret := rt) (E := fun _ U o t L k n => k = rm.cells ∧ n = rm.slots ∧ ∃ v, o = .returned v ∧ Q' v t.heap ∧ Fr n0 L ∧ U.heap.size ≤ t.heap.size) (hM []) hf hl
        (fun m meth c A a Y hp => have hU : Z.Warmed39 A.U.vm := wtrans hZ' Y.warmed
          ⟨by show (Cond.and _ .tt).before a A.U = true; rw [Cond.before_and, mv hU wc]; rfl, mv hU wc, mv hU wz, hp.2.2.1, hp.2.2.2⟩)
        (fun m meth c A a g mk Y hp => ⟨hp.1, wtrans hZ' Y.warmed, hp.2.1, fun _ q => (nomatch q), fun x hx => nos⟩) (fun _ _ _ _ _ _ _ _ _ => trivial)
        (fun _ _ _ _ ⟨v, L, h1, h2, h3, h4, h5⟩ => ⟨L, _, _, h5 rfl, rfl, rfl, v, h1, h2.1, h2.2, h3.2.1⟩)
        (fun m meth c A a g mk v t L k n Y hp _ _ ⟨e1, e2, v', e3, e4, e5, e6⟩ => by
          cases e3; subst e1 e2; exact ⟨L, ⟨e4, e5, by rw [← hp.2.1]; exact e6⟩, rfl, rfl, rfl⟩)
    obtain ⟨v, vm₁, ⟨U, L', k', n'⟩, X', ⟨L, ⟨hQ, F', hsz⟩, e1, e2, e3⟩, st⟩ := (hc hZ T locs cells slots X eT).1 hK (fun vm₁ _ => ⟨rfl, eT, hcl, hsl⟩)
    dsimp only [Pt.U, Pt.locs, Pt.cells, Pt.slots] at X' hQ e1 e2 e3 st hsz
    subst e1 e2 e3
    have hC : CHr Z [] vm h vm U.heap := ⟨fun _ q => (nomatch q), hsz, fun y q => absurd q (nos (vm := vm) (h := U.heap))⟩
    obtain ⟨s₂, o, h1, r⟩ := kk v U.heap vm hZ hC hQ ⟨hZ, ⟨k0, hS, Nat.le_trans hk hsz⟩, hR.trans hC, hw⟩ U _ X' rfl (Fr.app F F')
    exact ⟨s₂, o, st.trans h1, r⟩
  | true =>
    have hK : BackS l R p e below (s.setVm vm) args y len W (fun A a => a = as ∧ A.U.heap = h ∧ A.cells + rm.cells ≤ R.cells ∧ A.slots + rm.slots ≤ R.slots) (fun A _ v B => ∃ L, (Q' v B.U.heap ∧ Fr n0 L ∧ CHr Z EL vm h B.U.vm B.U.heap) ∧ B.locs = A.locs ++ L ∧ B.cells = A.cells + rm.cells ∧ B.slots = A.slots + rm.slots) :=
      BackS.of_freeW (bytes := bs) (maxL := mL) (ret := rt) (E := fun _ first o t L k n => k = rm.cells ∧ n = rm.slots ∧ (∃ v, o = .returned v ∧ Q' v t.heap ∧ Fr n0 L) ∧ CHr Z EL first.vm first.heap t.vm t.heap) (hM []) hf hl
        (fun m meth c A a Y hp => have hU : Z.Warmed39 A.U.vm := wtrans hZ' Y.warmed
          ⟨by show (Cond.and _ .tt).before a A.U = true; rw [Cond.before_and, mv hU wc]; rfl, mv hU wc, mv hU wz, hp.2.2.1, hp.2.2.2⟩)
        (fun m meth c A a g mk Y hp => have q := CHv.at Y hZ hEL hR.1; ⟨hp.1, wtrans hZ' Y.warmed, hp.2.1, q.1, fun x hx => q.safe (hsf x hx).2 (hsf x hx).1⟩) (fun _ _ _ _ _ _ _ _ _ => trivial)
        (fun _ _ _ _ ⟨v, L, h1, h2, h3, h4, h5⟩ => ⟨L, _, _, h4, rfl, rfl, ⟨v, h1, h2.1, h2.2⟩, h3⟩)
        (fun m meth c A a g mk v t L k n Y hp _ _ ⟨e1, e2, ⟨v', e3, e4, e4'⟩, e5⟩ => by
          cases e3; subst e1 e2
          refine ⟨L, ⟨e4, e4', (CHv.at Y hZ hEL hR.1).trans ?_⟩, rfl, rfl, rfl⟩
          rw [← hp.2.1]; exact e5)
    obtain ⟨v, vm₁, ⟨U, L', k', n'⟩, X', hS2, hgr, ⟨L, ⟨hQ, F', hC⟩, e1, e2, e3⟩, st⟩ := (hc hZ T locs cells slots X eT).2 hK (fun vm₁ _ => ⟨rfl, eT, hcl, hsl⟩)
    dsimp only [Pt.U, Pt.locs, Pt.cells, Pt.slots] at X' hQ e1 e2 e3 st hS2 hgr hC
    subst e1 e2 e3
    rw [eT] at hgr
    have hZ2 : Z.Warmed39 U.vm := State.Warmed39.trans (t := s.setVm vm) hZ hS2.1
    obtain ⟨s₂, o, h1, r⟩ := kk v U.heap U.vm hZ2 hC hQ ⟨hZ2, ⟨_, hS.trans hS2 (Nat.le_trans hk hgr), Nat.le_refl _⟩, hR.trans hC, fun q => (nomatch q)⟩ U _ X' rfl (Fr.app F F')
    exact ⟨s₂, o, st.trans h1, r⟩
/-- the same, narrow: the tables stay the start's -/
theorem g_metN {y : MethodName} {len W mL : Nat} {bs : ByteArray} {rt : Option FieldType} {rm : Room} {as : Array Value} {sf : List Addr} {G : Option Value → JFrame} {Q' : Option Value → Heap → Prop} (hc : Call Z p l e R s m args below meth c vm h y len W as g G)
    (hM : Met false Z [] l y bs mL rt rm as h sf n0 Q') (wc : (Cond.code y bs mL rt).before a0 Z = true) (wz : (Cond.initialized y.cls).before a0 Z = true) (hf : rm.frames + 1 ≤ R.frames) (hl : W + (mL + 11) + rm.locals ≤ R.locals)
    (hcl : cells + rm.cells ≤ R.cells) (hsl : slots + rm.slots ≤ R.slots)
    (kk : ∀ v h', h.size ≤ h'.size → Q' v h' → Go false Z [] p l e R s m args below meth c n0 C N Q vm h' (cells + rm.cells) (slots + rm.slots) (G v)) : Go false Z [] p l e R s m args below meth c n0 C N Q vm h cells slots g := by
  intro Wt0 T locs X eT F
  obtain ⟨hZ, ⟨k0, hS, hk⟩, hR, hw⟩ := Wt0
  have hZ' : Z.Warmed39 (s.setVm vm).vm := hZ
  obtain ⟨hv, -⟩ := hw rfl
  have hK : Back l R p e below (s.setVm vm) args y len W (fun A a => a = as ∧ A.U.heap = h ∧ A.cells + rm.cells ≤ R.cells ∧ A.slots + rm.slots ≤ R.slots) (fun A _ v B => ∃ L, (Q' v B.U.heap ∧ Fr n0 L ∧ h.size ≤ B.U.heap.size) ∧ B.locs = A.locs ++ L ∧ B.cells = A.cells + rm.cells ∧ B.slots = A.slots + rm.slots) :=
    Back.of_free (bytes := bs) (maxL := mL) (ret := rt) (E := fun _ U o t L k n => k = rm.cells ∧ n = rm.slots ∧ ∃ v, o = .returned v ∧ Q' v t.heap ∧ Fr n0 L ∧ U.heap.size ≤ t.heap.size) (hM []) hf hl
      (fun m meth c A a Y hp => have hU : Z.Warmed39 A.U.vm := wtrans hZ' Y.warmed
        ⟨by show (Cond.and _ .tt).before a A.U = true; rw [Cond.before_and, mv hU wc]; rfl, mv hU wc, mv hU wz, hp.2.2.1, hp.2.2.2⟩)
      (fun m meth c A a g mk Y hp => ⟨hp.1, wtrans hZ' Y.warmed, hp.2.1, fun _ q => (nomatch q), fun x hx => nos⟩) (fun _ _ _ _ _ _ _ _ _ => trivial)
      (fun _ _ _ _ ⟨v, L, h1, h2, h3, h4, h5⟩ => ⟨L, _, _, h5 rfl, rfl, rfl, v, h1, h2.1, h2.2, h3.2.1⟩)
      (fun m meth c A a g mk v t L k n Y hp _ _ ⟨e1, e2, v', e3, e4, e5, e6⟩ => by
        cases e3; subst e1 e2; exact ⟨L, ⟨e4, e5, by rw [← hp.2.1]; exact e6⟩, rfl, rfl, rfl⟩)
  obtain ⟨v, vm₁, ⟨U, L', k', n'⟩, X', ⟨L, ⟨hQ, F', hsz⟩, e1, e2, e3⟩, st⟩ := (hc hZ T locs cells slots X eT).1 hK (fun vm₁ _ => ⟨rfl, eT, hcl, hsl⟩)
  dsimp only [Pt.U, Pt.locs, Pt.cells, Pt.slots] at X' hQ e1 e2 e3 st hsz
  subst e1 e2 e3
  have hC : CHr Z [] vm h vm U.heap := ⟨fun _ q => (nomatch q), hsz, fun y q => absurd q (nos (vm := vm) (h := U.heap))⟩
  obtain ⟨s₂, o, h1, r⟩ := kk v U.heap hsz hQ ⟨hZ, ⟨k0, hS, Nat.le_trans hk hsz⟩, hR.trans hC, hw⟩ U _ X' rfl (Fr.app F F')
  exact ⟨s₂, o, st.trans h1, r⟩
theorem catR {v : Value} (h : v.isRef = true) : v.category = 1 := by rcases ref_cases h with rfl | ⟨a, rfl⟩ <;> rfl
/-- a reference, which may be null, over a slot of one word -/
theorem stV {l : Array Slot} {i : Nat} {v : Value} (h : v.isRef = true) (ho : l[i]? = some .unset ∨ ∃ w, l[i]? = some (.val w) ∧ w.category = 1) : storeLocals l i v = some (l.setIfInBounds i (.val v)) := by
  rcases ho with ho | ⟨w, ho, hc⟩
  · exact XS.store1 ho (Or.inl rfl) (catR h)
  · exact XS.store1 ho (Or.inr ⟨w, rfl, hc⟩) (catR h)
theorem nb {x : Int32} (h : x = 0 ∨ x = 1) : narrow .boolean (.int x) = .int x ∧ fits .boolean (.int x) = true := by
  rcases h with rfl | rfl <;> exact ⟨rfl, rfl⟩
end Calc
end Jvm.Own
/- laws to paste: Road.backV, Road.eqW (cut by pick.py; bodies as the Statement names them) -/
namespace Jvm.Pilot.@@N@@
namespace StrChars
open Jvm Sem ClassFile Op Lib Jvm.Stand Jvm.Free.XT Jvm.Free.ALB Jvm.Free.JM Jvm.Free
open Jvm.Lib.Cold (StaticIs)
/-- a char array whose places are chars -/
def Ch (a : Addr) (A : Cell) (U : State) : Prop := Arr .char a A U ∧ Typed .char A
theorem Ch.mv {a : Addr} {A : Cell} {U U' : State} (h : Ch a A U) (hal : U.vm.Alike U'.vm) (hh : U'.heap = U.heap) : Ch a A U' := ⟨h.1.mv hal hh, h.2⟩
theorem Ch.keep {a : Addr} {A : Cell} {U U' : State} (h : Ch a A U) (hal : U.vm.Alike U'.vm) (hk : U'.heap[a]? = some A) : Ch a A U' := ⟨h.1.keep hal hk, h.2⟩
/-- what place i of a char[]'s cell holds -/
def cv (A : Cell) (i : Nat) : Int32 := match A.slots[i]? with | some (.int x) => x | _ => 0
theorem Ch.get {a : Addr} {A : Cell} {U : State} (h : Ch a A U) {i : Nat} (hi : i < A.slots.size) : A.slots[i]? = some (.int (cv A i)) := by
  have e := Array.getElem?_eq_getElem hi
  have f := h.2 i _ e
  unfold cv; rw [e]
  generalize A.slots[i] = v at f
  cases v <;> simp [fits] at f ⊢
/-- the byte that i2b leaves of a char -/
def lo8 (x : Int32) : Int32 := x.toInt8.toInt32
theorem fits_lo8 (y : Int32) : fits .byte (.int (lo8 y)) = true := by
  have h1 := y.toInt8.le_toInt
  have h2 := y.toInt8.toInt_lt
  simp only [lo8, fits, Bool.and_eq_true, decide_eq_true_eq, Int32.le_iff_toInt_le, Int8.toInt_toInt32, show (-128 : Int32).toInt = -128 from by decide, show (127 : Int32).toInt = 127 from by decide]
  omega
/-- A' is A but that each place j of lo .. hi - 1 holds f j -/
def Laid (A A' : Cell) (lo hi : Nat) (f : Nat → Value) : Prop := A'.cls = A.cls ∧ A'.vm = A.vm ∧ A'.slots.size = A.slots.size ∧ ∀ i, A'.slots[i]? = if lo ≤ i ∧ i < hi then some (f i) else A.slots[i]?
theorem Laid.zero (A : Cell) (lo : Nat) (f : Nat → Value) : Laid A A lo (lo + 0) f := ⟨rfl, rfl, rfl, fun i => by rw [if_neg (by omega)]⟩
theorem Laid.step {A Ak : Cell} {lo k : Nat} {f : Nat → Value} {v : Value} (h : Laid A Ak lo k f) (hlo : lo ≤ k) (hk : k < Ak.slots.size) (hv : v = f k) : Laid A (Ak.setSlot k v) lo (k + 1) f := by
  refine ⟨h.1, h.2.1, by simpa [Cell.setSlot] using h.2.2.1, fun i => ?_⟩
  by_cases e : k = i
  · subst e; rw [Cell.slots_setSlot_self v hk, if_pos (by omega), hv]
  · rw [Cell.slots_setSlot_ne v e, h.2.2.2 i]
    by_cases q : lo ≤ i ∧ i < k
    · rw [if_pos q, if_pos (by omega)]
    · rw [if_neg q, if_neg (by omega)]
def U16 : String := "java/lang/StringUTF16"
namespace Cmp5
def yN : MethodName := ⟨"java/lang/StringUTF16", "compress", "([CI[BII)I"⟩
abbrev yB : ByteArray := jdk_52_method_21_code
theorem d0 : decode yB 0 = .ok (.iconst 0, 1) := by decide +kernel
theorem d1 : decode yB 1 = .ok (.istore 5, 2) := by decide +kernel
theorem d3 : decode yB 3 = .ok (.iload 5, 2) := by decide +kernel
theorem d5 : decode yB 5 = .ok (.iload 4, 2) := by decide +kernel
theorem d7 : decode yB 7 = .ok (.if_icmp (.ge) 37, 3) := by decide +kernel
theorem d10 : decode yB 10 = .ok (.aload_n 0, 1) := by decide +kernel
theorem d11 : decode yB 11 = .ok (.iload_n 1, 1) := by decide +kernel
theorem d12 : decode yB 12 = .ok (.caload, 1) := by decide +kernel
theorem d13 : decode yB 13 = .ok (.istore 6, 2) := by decide +kernel
theorem d15 : decode yB 15 = .ok (.iload 6, 2) := by decide +kernel
theorem d17 : decode yB 17 = .ok (.sipush 255, 3) := by decide +kernel
theorem d20 : decode yB 20 = .ok (.if_icmp (.le) 6, 3) := by decide +kernel
theorem d26 : decode yB 26 = .ok (.aload_n 2, 1) := by decide +kernel
theorem d27 : decode yB 27 = .ok (.iload_n 3, 1) := by decide +kernel
theorem d28 : decode yB 28 = .ok (.iload 6, 2) := by decide +kernel
theorem d30 : decode yB 30 = .ok (.i2b, 1) := by decide +kernel
theorem d31 : decode yB 31 = .ok (.bastore, 1) := by decide +kernel
theorem d32 : decode yB 32 = .ok (.iinc 1 1, 3) := by decide +kernel
theorem d35 : decode yB 35 = .ok (.iinc 3 1, 3) := by decide +kernel
theorem d38 : decode yB 38 = .ok (.iinc 5 1, 3) := by decide +kernel
theorem d41 : decode yB 41 = .ok (.goto (-38), 3) := by decide +kernel
theorem d44 : decode yB 44 = .ok (.iload 4, 2) := by decide +kernel
theorem d46 : decode yB 46 = .ok (.ireturn, 1) := by decide +kernel
def site : List Cond := []
def tab : Cond := tabOf yN yB 7 (some .int) site
def P (b : Addr) (A : Cell) (d : Addr) (B : Cell) (o q len : Nat) (args : Array Value) (s : State) : Prop := args = #[.ref b, .int (Int32.ofNat o), .ref d, .int (Int32.ofNat q), .int (Int32.ofNat len)] ∧ Ch b A s ∧ Arr .byte d B s ∧ b ≠ d ∧ o + len ≤ A.slots.size ∧ q + len ≤ B.slots.size ∧ ∀ i, i < len → ¬ 255 < cv A (o + i)
def E (b : Addr) (A : Cell) (d : Addr) (B : Cell) (o q len : Nat) (r : Option Value) (s u : State) : Prop := r = some (.int (Int32.ofNat len)) ∧ ∃ B', Put d B' s u ∧ Laid B B' q (q + len) (fun j => Value.int (lo8 (cv A (o + (j - q)))))
/-- no char of the range above 255: len; the places written hold each char's low byte -/
theorem law (l : Launch) (b : Addr) (A : Cell) (d : Addr) (B : Cell) (o q len : Nat) : Law l yN 5 5 0 0 yB 7 (some .int) site (P b A d B o q len) (E b A d B o q len) (copyLocs d q len) 0 0 := by
  refine Law.of_walk (plainFor_of_name (by decide +kernel)) (by decide +kernel) (by decide +kernel) (by decide) (fun _ _ h => by rw [h.1]; rfl) (fun _ U U' hal hh h => ⟨h.1, h.2.1.mv hal hh, h.2.2.1.mv hal hh, h.2.2.2⟩) (fun r U U' V V' h1 hal h2 h => ⟨h.1, h.2.elim fun B' q => ⟨B', q.1.mv h1 h2, q.2⟩⟩) ?_
  intro p e s m args below meth c s₁ X0 hexec hbytes hml hret hlk hnm hown hh0 W hP
  obtain ⟨rfl, hA, hB, hne, l1, l2, hp⟩ := hP
  have c1 : Steps p.tables e below (s₁.setTop (entryFrame m #[.ref b, .int (Int32.ofNat o), .ref d, .int (Int32.ofNat q), .int (Int32.ofNat len)] 7)) (s₁.setTop (mkF m 0 #[.val (.ref b), .val (.int (Int32.ofNat o)), .val (.ref d), .val (.int (Int32.ofNat q)), .val (.int (Int32.ofNat len)), .unset, .unset] [])) := entry rfl
  have hA0 := hA.1.mv X0.warmed.alike hh0
  have hB0 := hB.mv X0.warmed.alike hh0
  have a31 := hA.1.2.2.2
  have c2 : Steps p.tables e below (s₁.setTop (entryFrame m #[.ref b, .int (Int32.ofNat o), .ref d, .int (Int32.ofNat q), .int (Int32.ofNat len)] 7)) (s₁.setTop (mkF m 3 #[.val (.ref b), .val (.int (Int32.ofNat o)), .val (.ref d), .val (.int (Int32.ofNat q)), .val (.int (Int32.ofNat len)), .val (.int 0), .unset] [])) := c1.trans (by
    refine iconstV X0.here hexec rfl 0 (hb hbytes d0) (by decide) ?_
    refine XS.istore X0.here hexec rfl (hb hbytes d1) rfl rfl ?_
    exact Steps.refl _)
  have loop : ∀ (r i : Nat), i + r = len → ∀ (z : Slot), (z = .unset ∨ ∃ w, z = .val w ∧ w.category = 1) → ∀ (Tl : State) (Bk : Cell), Stand p l e { frames := 0, locals := 0, cells := 0, slots := 0 } s m #[.ref b, .int (Int32.ofNat o), .ref d, .int (Int32.ofNat q), .int (Int32.ofNat len)] below meth c Tl ([] ++ copyLocs d q i) 0 0 → Put d Bk s₁ Tl → Laid B Bk q (q + i) (fun j => Value.int (lo8 (cv A (o + (j - q))))) →
      Steps p.tables e below (s₁.setTop (entryFrame m #[.ref b, .int (Int32.ofNat o), .ref d, .int (Int32.ofNat q), .int (Int32.ofNat len)] 7)) (Tl.setTop (mkF m 3 #[.val (.ref b), .val (.int (Int32.ofNat (o + i))), .val (.ref d), .val (.int (Int32.ofNat (q + i))), .val (.int (Int32.ofNat len)), .val (.int (Int32.ofNat i)), z] [])) → ∃ (T' : State) (B' : Cell) (z' : Slot), Stand p l e { frames := 0, locals := 0, cells := 0, slots := 0 } s m #[.ref b, .int (Int32.ofNat o), .ref d, .int (Int32.ofNat q), .int (Int32.ofNat len)] below meth c T' ([] ++ copyLocs d q len) 0 0 ∧ Put d B' s₁ T' ∧ Laid B B' q (q + len) (fun j => Value.int (lo8 (cv A (o + (j - q))))) ∧
      Steps p.tables e below (s₁.setTop (entryFrame m #[.ref b, .int (Int32.ofNat o), .ref d, .int (Int32.ofNat q), .int (Int32.ofNat len)] 7)) (T'.setTop (mkF m 3 #[.val (.ref b), .val (.int (Int32.ofNat (o + len))), .val (.ref d), .val (.int (Int32.ofNat (q + len))), .val (.int (Int32.ofNat len)), .val (.int (Int32.ofNat len)), z'] [])) := by
    intro r
    induction r with
    | zero =>
      intro i hi z hz Tl Bk Xl pl fl cl
      have hil : i = len := by omega
      rw [hil] at Xl fl cl
      exact ⟨Tl, Bk, z, Xl, pl, fl, cl⟩
    | succ r ih =>
      intro i hi z hz Tl Bk Xl pl fl cl
      have all := X0.warmed.alike.symm.trans Xl.warmed.alike
      have hAl := hA0.keep all (pl.other hne hA0.1)
      have hBk := hB0.like all pl.1 fl.1 fl.2.1 fl.2.2.1
      have hlt : q + i < Bk.slots.size := by rw [fl.2.2.1]; omega
      have c3 : Steps p.tables e below (s₁.setTop (entryFrame m #[.ref b, .int (Int32.ofNat o), .ref d, .int (Int32.ofNat q), .int (Int32.ofNat len)] 7)) (Tl.setTop (mkF m 12 #[.val (.ref b), .val (.int (Int32.ofNat (o + i))), .val (.ref d), .val (.int (Int32.ofNat (q + i))), .val (.int (Int32.ofNat len)), .val (.int (Int32.ofNat i)), z] [.int (Int32.ofNat (o + i)), .ref b])) := cl.trans (by
        refine XS.iload Xl.here hexec rfl (hb hbytes d3) rfl ?_
        refine XS.iload Xl.here hexec rfl (hb hbytes d5) rfl ?_
        refine XS.icmpNo Xl.here hexec rfl (hb hbytes d7) rfl (ii_ge_f (lt32 (by omega) (by omega))) ?_
        refine XS.aloadN Xl.here hexec rfl (hb hbytes d10) rfl rfl ?_
        refine XS.iloadN Xl.here hexec rfl (hb hbytes d11) rfl ?_
        exact Steps.refl _)
      have c4 : Steps p.tables e below (s₁.setTop (entryFrame m #[.ref b, .int (Int32.ofNat o), .ref d, .int (Int32.ofNat q), .int (Int32.ofNat len)] 7)) (Tl.setTop (mkF m 13 #[.val (.ref b), .val (.int (Int32.ofNat (o + i))), .val (.ref d), .val (.int (Int32.ofNat (q + i))), .val (.int (Int32.ofNat len)), .val (.int (Int32.ofNat i)), z] [.int (cv A (o + i))])) := c3.trans (by
        refine Xl.aget hexec hAl rfl (hA.get (i := o + i) (by omega)) rfl rfl (hb hbytes d12) ?_
        exact Steps.refl _)
      have c5 : Steps p.tables e below (s₁.setTop (entryFrame m #[.ref b, .int (Int32.ofNat o), .ref d, .int (Int32.ofNat q), .int (Int32.ofNat len)] 7)) (Tl.setTop (mkF m 15 #[.val (.ref b), .val (.int (Int32.ofNat (o + i))), .val (.ref d), .val (.int (Int32.ofNat (q + i))), .val (.int (Int32.ofNat len)), .val (.int (Int32.ofNat i)), .val (.int (cv A (o + i)))] [])) := c4.trans (by
        refine XS.istoreS Xl.here hexec rfl (hb hbytes d13) rfl rfl hz ?_
        exact Steps.refl _)
      have c6 : Steps p.tables e below (s₁.setTop (entryFrame m #[.ref b, .int (Int32.ofNat o), .ref d, .int (Int32.ofNat q), .int (Int32.ofNat len)] 7)) (Tl.setTop (mkF m 31 #[.val (.ref b), .val (.int (Int32.ofNat (o + i))), .val (.ref d), .val (.int (Int32.ofNat (q + i))), .val (.int (Int32.ofNat len)), .val (.int (Int32.ofNat i)), .val (.int (cv A (o + i)))] [.int (lo8 (cv A (o + i))), .int (Int32.ofNat (q + i)), .ref d])) := c5.trans (by
        refine XS.iload Xl.here hexec rfl (hb hbytes d15) rfl ?_
        refine sipushV Xl.here hexec rfl 255 (hb hbytes d17) (by decide) ?_
        refine XS.icmpYes Xl.here hexec rfl (pc0 := 20) rfl (hb hbytes d20) rfl (ii_le_t (hp i (by omega))) (by decide) rfl ?_
        refine XS.aloadN Xl.here hexec rfl (hb hbytes d26) rfl rfl ?_
        refine XS.iloadN Xl.here hexec rfl (hb hbytes d27) rfl ?_
        refine XS.iload Xl.here hexec rfl (hb hbytes d28) rfl ?_
        refine i2b Xl.here hexec rfl (hb hbytes d30) rfl ?_
        exact Steps.refl _)
      obtain ⟨T7, X7, p7, st7⟩ := Xl.aput hexec hBk rfl hlt rfl (fits_lo8 (cv A (o + i))) (g := (mkF m 31 #[.val (.ref b), .val (.int (Int32.ofNat (o + i))), .val (.ref d), .val (.int (Int32.ofNat (q + i))), .val (.int (Int32.ofNat len)), .val (.int (Int32.ofNat i)), .val (.int (cv A (o + i)))] [.int (lo8 (cv A (o + i))), .int (Int32.ofNat (q + i)), .ref d])) rfl (rest := []) rfl (hb hbytes d31)
      have c8 : Steps p.tables e below (s₁.setTop (entryFrame m #[.ref b, .int (Int32.ofNat o), .ref d, .int (Int32.ofNat q), .int (Int32.ofNat len)] 7)) (T7.setTop (mkF m 32 #[.val (.ref b), .val (.int (Int32.ofNat (o + i))), .val (.ref d), .val (.int (Int32.ofNat (q + i))), .val (.int (Int32.ofNat len)), .val (.int (Int32.ofNat i)), .val (.int (cv A (o + i)))] [])) := c6.trans (st7 _ (Steps.refl _))
      have c9 : Steps p.tables e below (s₁.setTop (entryFrame m #[.ref b, .int (Int32.ofNat o), .ref d, .int (Int32.ofNat q), .int (Int32.ofNat len)] 7)) (T7.setTop (mkF m 3 #[.val (.ref b), .val (.int (Int32.ofNat (o + i) + 1)), .val (.ref d), .val (.int (Int32.ofNat (q + i) + 1)), .val (.int (Int32.ofNat len)), .val (.int (Int32.ofNat i + 1)), .val (.int (cv A (o + i)))] [])) := c8.trans (by
        refine iincV X7.here hexec rfl 1 (hb hbytes d32) (by decide) rfl rfl ?_
        refine iincV X7.here hexec rfl 1 (hb hbytes d35) (by decide) rfl rfl ?_
        refine iincV X7.here hexec rfl 1 (hb hbytes d38) (by decide) rfl rfl ?_
        refine XS.goto X7.here hexec rfl (pc0 := 41) rfl (hb hbytes d41) (by decide) rfl ?_
        exact Steps.refl _)
      have c10 : Steps p.tables e below (s₁.setTop (entryFrame m #[.ref b, .int (Int32.ofNat o), .ref d, .int (Int32.ofNat q), .int (Int32.ofNat len)] 7)) (T7.setTop (mkF m 3 #[.val (.ref b), .val (.int (Int32.ofNat (o + (i + 1)))), .val (.ref d), .val (.int (Int32.ofNat (q + (i + 1)))), .val (.int (Int32.ofNat len)), .val (.int (Int32.ofNat (i + 1))), .val (.int (cv A (o + i)))] [])) := by
        have := c9
        rw [succ32, succ32, succ32] at this
        exact this
      exact ih (i + 1) (by omega) _ (Or.inr ⟨_, rfl, rfl⟩) T7 _ (by rw [copyLocs_step, ← List.append_assoc]; exact X7) (pl.trans p7) (fl.step (by omega) hlt (by simp)) c10
  obtain ⟨T9, B9, z9, X9, p9, f9, g9⟩ := loop len 0 (by omega) .unset (Or.inl rfl) s₁ B (by simpa [copyLocs] using X0) ⟨hB0.1, fun _ _ => rfl, rfl⟩ (Laid.zero _ _ _) c2
  have c11 : Steps p.tables e below (s₁.setTop (entryFrame m #[.ref b, .int (Int32.ofNat o), .ref d, .int (Int32.ofNat q), .int (Int32.ofNat len)] 7)) (T9.setTop (mkF m 46 #[.val (.ref b), .val (.int (Int32.ofNat (o + len))), .val (.ref d), .val (.int (Int32.ofNat (q + len))), .val (.int (Int32.ofNat len)), .val (.int (Int32.ofNat len)), z9] [.int (Int32.ofNat len)])) := g9.trans (by
    refine XS.iload X9.here hexec rfl (hb hbytes d3) rfl ?_
    refine XS.iload X9.here hexec rfl (hb hbytes d5) rfl ?_
    refine XS.icmpYes X9.here hexec rfl (pc0 := 7) rfl (hb hbytes d7) rfl (ii_ge_t (nlt32 (by omega) (Nat.le_refl _))) (by decide) rfl ?_
    refine XS.iload X9.here hexec rfl (hb hbytes d44) rfl ?_
    exact Steps.refl _)
  exact ⟨T9, some (.int (Int32.ofNat len)), _, _, _, X9, by simp, rfl, rfl, (fun h => by cases h), ⟨rfl, B9, p9.from hh0, f9⟩, fun fs hl => c11.trans (X9.ireturnOut hexec hret rfl (Or.inl rfl) (hb hbytes d46) hl)⟩
end Cmp5
namespace Cmp3
def yN : MethodName := ⟨"java/lang/StringUTF16", "compress", "([CII)[B"⟩
abbrev yB : ByteArray := jdk_52_method_16_code
theorem d0 : decode yB 0 = .ok (.iload_n 2, 1) := by decide +kernel
theorem d1 : decode yB 1 = .ok (.newarray .byte, 2) := by decide +kernel
theorem d3 : decode yB 3 = .ok (.astore_n 3, 1) := by decide +kernel
theorem d4 : decode yB 4 = .ok (.aload_n 0, 1) := by decide +kernel
theorem d5 : decode yB 5 = .ok (.iload_n 1, 1) := by decide +kernel
theorem d6 : decode yB 6 = .ok (.aload_n 3, 1) := by decide +kernel
theorem d7 : decode yB 7 = .ok (.iconst 0, 1) := by decide +kernel
theorem d8 : decode yB 8 = .ok (.iload_n 2, 1) := by decide +kernel
theorem d9 : decode yB 9 = .ok (.invokestatic 115, 3) := by decide +kernel
theorem d12 : decode yB 12 = .ok (.istore 4, 2) := by decide +kernel
theorem d14 : decode yB 14 = .ok (.iload 4, 2) := by decide +kernel
theorem d16 : decode yB 16 = .ok (.iload_n 2, 1) := by decide +kernel
theorem d17 : decode yB 17 = .ok (.if_icmp (.eq) 40, 3) := by decide +kernel
theorem d57 : decode yB 57 = .ok (.aload_n 3, 1) := by decide +kernel
theorem d58 : decode yB 58 = .ok (.areturn, 1) := by decide +kernel
def site : List Cond := [.arrayClass .byte, Cmp5.tab] ++ staticW U16 115 Cmp5.yN
def tab : Cond := tabOf yN yB 6 (some (.array .byte)) site
def P (b : Addr) (A : Cell) (o len : Nat) (args : Array Value) (s : State) : Prop := args = #[.ref b, .int (Int32.ofNat o), .int (Int32.ofNat len)] ∧ Ch b A s ∧ o + len ≤ A.slots.size ∧ len ≤ 536870912 ∧ ∀ i, i < len → ¬ 255 < cv A (o + i)
def E (b : Addr) (A : Cell) (o len : Nat) (r : Option Value) (s u : State) : Prop := NewArr .byte "[B" len (fun j => .int (lo8 (cv A (o + j)))) r s u ∧ u.heap.size = s.heap.size + 1
/-- no char of the range above 255: a new byte[] of their low bytes -/
theorem law (l : Launch) (b : Addr) (A : Cell) (o len : Nat) : Law l yN 3 3 1 18 yB 6 (some (.array .byte)) site (P b A o len) (E b A o len) [] 1 len := by
  refine Law.of_walk (plainFor_of_name (by decide +kernel)) (by decide +kernel) (by decide +kernel) (by decide) (fun _ _ h => by rw [h.1]; rfl) (fun _ U U' hal hh h => ⟨h.1, h.2.1.mv hal hh, h.2.2⟩) (fun r U U' V V' h1 hal h2 h => ⟨NewArr.mv r U U' V V' h1 hal h2 h.1, by rw [h1, h2]; exact h.2⟩) ?_
  intro p e s m args below meth c s₁ X0 hexec hbytes hml hret hlk hnm hown hh0 W hP
  obtain ⟨rfl, hA, l1, l2, hp⟩ := hP
  have a31 := hA.1.2.2.2
  have c1 : Steps p.tables e below (s₁.setTop (entryFrame m #[.ref b, .int (Int32.ofNat o), .int (Int32.ofNat len)] 6)) (s₁.setTop (mkF m 0 #[.val (.ref b), .val (.int (Int32.ofNat o)), .val (.int (Int32.ofNat len)), .unset, .unset, .unset] [])) := entry rfl
  have c2 : Steps p.tables e below (s₁.setTop (entryFrame m #[.ref b, .int (Int32.ofNat o), .int (Int32.ofNat len)] 6)) (s₁.setTop (mkF m 1 #[.val (.ref b), .val (.int (Int32.ofNat o)), .val (.int (Int32.ofNat len)), .unset, .unset, .unset] [.int (Int32.ofNat len)])) := c1.trans (by
    refine XS.iloadN X0.here hexec rfl (hb hbytes d0) rfl ?_
    exact Steps.refl _)
  obtain ⟨T3, B3, X3, ba3, bs3, bv3, bh3, bf3, st3⟩ := X0.anew hexec (atype := .byte) (wk W (.arrayClass .byte)) rfl (by show len * 1 ≤ _; omega) (by omega) (g := (mkF m 1 #[.val (.ref b), .val (.int (Int32.ofNat o)), .val (.int (Int32.ofNat len)), .unset, .unset, .unset] [.int (Int32.ofNat len)])) rfl (hb hbytes d1) (rest := []) rfl (Nat.le_refl _) (by show 0 + len ≤ len; omega)
  rw [hh0] at ba3 st3
  have kp3 : XT.Kept s T3 := (XT.Kept.of_eq hh0).push bh3
  have hA3 := hA.keep X3.warmed.alike (kp3 _ _ hA.1.1)
  have hne : b ≠ s.heap.size := hA.1.ne
  have c4 : Steps p.tables e below (s₁.setTop (entryFrame m #[.ref b, .int (Int32.ofNat o), .int (Int32.ofNat len)] 6)) (T3.setTop (mkF m 3 #[.val (.ref b), .val (.int (Int32.ofNat o)), .val (.int (Int32.ofNat len)), .unset, .unset, .unset] [.ref s.heap.size])) := c2.trans (st3 _ (Steps.refl _))
  have c5 : Steps p.tables e below (s₁.setTop (entryFrame m #[.ref b, .int (Int32.ofNat o), .int (Int32.ofNat len)] 6)) (T3.setTop (mkF m 9 #[.val (.ref b), .val (.int (Int32.ofNat o)), .val (.int (Int32.ofNat len)), .val (.ref s.heap.size), .unset, .unset] [.int (Int32.ofNat len), .int 0, .ref s.heap.size, .int (Int32.ofNat o), .ref b])) := c4.trans (by
    refine XS.astoreN X3.here hexec rfl (hb hbytes d3) rfl rfl rfl ?_
    refine XS.aloadN X3.here hexec rfl (hb hbytes d4) rfl rfl ?_
    refine XS.iloadN X3.here hexec rfl (hb hbytes d5) rfl ?_
    refine XS.aloadN X3.here hexec rfl (hb hbytes d6) rfl rfl ?_
    refine iconstV X3.here hexec rfl 0 (hb hbytes d7) (by decide) ?_
    refine XS.iloadN X3.here hexec rfl (hb hbytes d8) rfl ?_
    exact Steps.refl _)
  obtain ⟨v6, T6, X6, E6, g6⟩ := X3.callS hexec (Cmp5.law l b A s.heap.size B3 o 0 len) hown (wks W (staticW U16 115 Cmp5.yN)) (wk W Cmp5.tab) (W := 0) (Nat.le_of_ble_eq_true rfl) (Nat.le_of_ble_eq_true rfl) (Nat.le_refl _) (by show 0 + len + 0 ≤ len; omega) (g := (mkF m 9 #[.val (.ref b), .val (.int (Int32.ofNat o)), .val (.int (Int32.ofNat len)), .val (.ref s.heap.size), .unset, .unset] [.int (Int32.ofNat len), .int (Int32.ofNat 0), .ref s.heap.size, .int (Int32.ofNat o), .ref b])) rfl (by rw [hml]; rfl) c5 (argsL := [.ref b, .int (Int32.ofNat o), .ref s.heap.size, .int (Int32.ofNat 0), .int (Int32.ofNat len)]) (rest := []) rfl rfl (by show 2 * 0 + 0 ≤ _; decide) (hb hbytes d9) (⟨rfl, hA3, ba3, hne, l1, by rw [bs3]; simp, hp⟩)
  obtain ⟨rfl, B6, p6, f6⟩ := E6
  have c7 : Steps p.tables e below (s₁.setTop (entryFrame m #[.ref b, .int (Int32.ofNat o), .int (Int32.ofNat len)] 6)) (T6.setTop (mkF m 12 #[.val (.ref b), .val (.int (Int32.ofNat o)), .val (.int (Int32.ofNat len)), .val (.ref s.heap.size), .unset, .unset] [.int (Int32.ofNat len)])) := g6
  have c8 : Steps p.tables e below (s₁.setTop (entryFrame m #[.ref b, .int (Int32.ofNat o), .int (Int32.ofNat len)] 6)) (T6.setTop (mkF m 58 #[.val (.ref b), .val (.int (Int32.ofNat o)), .val (.int (Int32.ofNat len)), .val (.ref s.heap.size), .val (.int (Int32.ofNat len)), .unset] [.ref s.heap.size])) := c7.trans (by
    refine XS.istore X6.here hexec rfl (hb hbytes d12) rfl rfl ?_
    refine XS.iload X6.here hexec rfl (hb hbytes d14) rfl ?_
    refine XS.iloadN X6.here hexec rfl (hb hbytes d16) rfl ?_
    refine XS.icmpYes X6.here hexec rfl (pc0 := 17) rfl (hb hbytes d17) rfl (ii_eq_t rfl) (by decide) rfl ?_
    refine XS.aloadN X6.here hexec rfl (hb hbytes d57) rfl rfl ?_
    exact Steps.refl _)
  have X8 := X6.wide (L' := []) (cells' := 1) (slots' := len) (fun x hx hlt => by
    simp only [List.nil_append, copyLocs, List.mem_map, List.mem_range] at hx
    obtain ⟨i, -, rfl⟩ := hx
    exact absurd hlt (Nat.lt_irrefl _)) (Nat.le_refl _) (by omega)
  exact ⟨T6, some (.ref s.heap.size), _, _, _, X8, rfl, rfl, rfl, (fun h => by cases h), ⟨⟨rfl, B6, ba3.like (X3.warmed.alike.symm.trans X6.warmed.alike) p6.1 f6.1 f6.2.1 f6.2.2.1, f6.2.1.trans bv3, by rw [X6.warmed.alike.findClass, f6.1]; exact bf3, by rw [f6.2.2.1, bs3]; simp, fun j hj => by rw [f6.2.2.2 j, if_pos (by omega)]; rfl, kp3.put p6 (Nat.le_refl _)⟩, by rw [p6.2.2, bh3, hh0]; simp⟩, fun fs hl => c8.trans (X8.areturnOut hexec rfl hret rfl (hb hbytes d58) hl)⟩
end Cmp3
namespace CodL
def yN : MethodName := ⟨"java/lang/StringUTF16", "coderFromArrayLen", "([BI)B"⟩
abbrev yB : ByteArray := jdk_52_method_15_code
theorem d0 : decode yB 0 = .ok (.iload_n 1, 1) := by decide +kernel
theorem d1 : decode yB 1 = .ok (.aload_n 0, 1) := by decide +kernel
theorem d2 : decode yB 2 = .ok (.arraylength, 1) := by decide +kernel
theorem d3 : decode yB 3 = .ok (.isub, 1) := by decide +kernel
theorem d4 : decode yB 4 = .ok (.bipush 31, 2) := by decide +kernel
theorem d6 : decode yB 6 = .ok (.iushr, 1) := by decide +kernel
theorem d7 : decode yB 7 = .ok (.i2b, 1) := by decide +kernel
theorem d8 : decode yB 8 = .ok (.ireturn, 1) := by decide +kernel
def site : List Cond := []
def tab : Cond := tabOf yN yB 2 (some .byte) site
def P (d : Addr) (B : Cell) (args : Array Value) (s : State) : Prop := args = #[.ref d, .int (Int32.ofNat B.slots.size)] ∧ Arr .byte d B s
def E (r : Option Value) (s u : State) : Prop := XT.PureE (some (.int 0)) r s u
/-- an array as long as the number of chars: LATIN1 -/
theorem law (l : Launch) (d : Addr) (B : Cell) : Law l yN 2 2 0 0 yB 2 (some .byte) site (P d B) E [] 0 0 := by
  refine Law.of_walk (plainFor_of_name (by decide +kernel)) (by decide +kernel) (by decide +kernel) (by decide) (fun _ _ h => by rw [h.1]; rfl) (fun _ U U' hal hh h => ⟨h.1, h.2.mv hal hh⟩) (fun r U U' V V' h1 hal h2 h => XT.PureE.mv r U U' V V' h1 hal h2 h) ?_
  intro p e s m args below meth c s₁ X0 hexec hbytes hml hret hlk hnm hown hh0 W hP
  obtain ⟨rfl, hB⟩ := hP
  have hB0 := hB.mv X0.warmed.alike hh0
  have c1 : Steps p.tables e below (s₁.setTop (entryFrame m #[.ref d, .int (Int32.ofNat B.slots.size)] 2)) (s₁.setTop (mkF m 0 #[.val (.ref d), .val (.int (Int32.ofNat B.slots.size))] [])) := entry rfl
  have c2 : Steps p.tables e below (s₁.setTop (entryFrame m #[.ref d, .int (Int32.ofNat B.slots.size)] 2)) (s₁.setTop (mkF m 2 #[.val (.ref d), .val (.int (Int32.ofNat B.slots.size))] [.ref d, .int (Int32.ofNat B.slots.size)])) := c1.trans (by
    refine XS.iloadN X0.here hexec rfl (hb hbytes d0) rfl ?_
    refine XS.aloadN X0.here hexec rfl (hb hbytes d1) rfl rfl ?_
    exact Steps.refl _)
  have c3 : Steps p.tables e below (s₁.setTop (entryFrame m #[.ref d, .int (Int32.ofNat B.slots.size)] 2)) (s₁.setTop (mkF m 8 #[.val (.ref d), .val (.int (Int32.ofNat B.slots.size))] [.int (lo8 (ushr (Int32.ofNat B.slots.size - Int32.ofNat B.slots.size) 31))])) := c2.trans (by
    refine X0.alen hexec hB0 rfl rfl (hb hbytes d2) ?_
    refine XS.isub X0.here hexec rfl (hb hbytes d3) rfl ?_
    refine bipushV X0.here hexec rfl 31 (hb hbytes d4) (by decide) ?_
    refine iushr X0.here hexec rfl (hb hbytes d6) rfl ?_
    refine i2b X0.here hexec rfl (hb hbytes d7) rfl ?_
    exact Steps.refl _)
  have e0 : lo8 (ushr (Int32.ofNat B.slots.size - Int32.ofNat B.slots.size) 31) = 0 := by rw [Int32.sub_self]; decide
  rw [e0] at c3
  exact ⟨s₁, some (.int 0), _, _, _, X0, rfl, rfl, rfl, (fun h => by cases h), ⟨rfl, hh0⟩, fun fs hl => c3.trans (X0.ireturnOut hexec hret rfl (Or.inr (Or.inr (Or.inl rfl))) (hb hbytes d8) hl)⟩
end CodL
/-- the String at a is Latin-1 over a new byte[] (the heap's one new cell): the low bytes of the len chars of A from o on; every cell but a is kept -/
def Got (a : Addr) (D : Cell) (fV fC : Field) (A : Cell) (o len : Nat) (r : Option Value) (s u : State) : Prop := r = none ∧ ∃ D' V : Cell, Blank "java/lang/String" a D' u ∧ Same D D' [fV.slot, fC.slot] ∧ D'.slots[fV.slot]? = some (.ref s.heap.size) ∧ D'.slots[fC.slot]? = some (.int 0) ∧ Arr .byte s.heap.size V u ∧ V.vm = .none ∧ u.vm.findClass "[B" = some V.cls ∧ V.slots.size = len ∧ (∀ j, j < len → V.slots[j]? = some (.int (lo8 (cv A (o + j))))) ∧ (∀ (y : Addr) (c : Cell), y ≠ a → s.heap[y]? = some c → u.heap[y]? = some c) ∧ u.heap.size = s.heap.size + 1
theorem Got.mv {a : Addr} {D A : Cell} {fV fC : Field} {o len : Nat} : ∀ r (U U' V V' : State), U'.heap = U.heap → V.vm.Alike V'.vm → V'.heap = V.heap → Got a D fV fC A o len r U V → Got a D fV fC A o len r U' V' :=
  fun r U U' V V' h1 hal h2 ⟨e0, D', X, a1, a2, a3, a4, a5, a6, a7, a8, a9, a10, a11⟩ => ⟨e0, D', X, a1.mv hal h2, a2, by rw [h1]; exact a3, a4, by rw [h1]; exact a5.mv hal h2, a6, by rw [hal.findClass]; exact a7, a8, a9, by rw [h1, h2]; exact a10, by rw [h1, h2]; exact a11⟩
namespace New4
def yN : MethodName := ⟨"java/lang/String", "<init>", "([CIILjava/lang/Void;)V"⟩
abbrev yB : ByteArray := jdk_42_method_149_code
theorem d0 : decode yB 0 = .ok (.aload_n 0, 1) := by decide +kernel
theorem d1 : decode yB 1 = .ok (.invokespecial 1, 3) := by decide +kernel
theorem d4 : decode yB 4 = .ok (.iload_n 3, 1) := by decide +kernel
theorem d5 : decode yB 5 = .ok (.ifCond (.ne) 22, 3) := by decide +kernel
theorem d27 : decode yB 27 = .ok (.getstatic 38, 3) := by decide +kernel
theorem d30 : decode yB 30 = .ok (.ifCond (.eq) 28, 3) := by decide +kernel
theorem d33 : decode yB 33 = .ok (.aload_n 1, 1) := by decide +kernel
theorem d34 : decode yB 34 = .ok (.iload_n 2, 1) := by decide +kernel
theorem d35 : decode yB 35 = .ok (.iload_n 3, 1) := by decide +kernel
theorem d36 : decode yB 36 = .ok (.invokestatic 177, 3) := by decide +kernel
theorem d39 : decode yB 39 = .ok (.astore 5, 2) := by decide +kernel
theorem d41 : decode yB 41 = .ok (.aload_n 0, 1) := by decide +kernel
theorem d42 : decode yB 42 = .ok (.aload 5, 2) := by decide +kernel
theorem d44 : decode yB 44 = .ok (.iload_n 3, 1) := by decide +kernel
theorem d45 : decode yB 45 = .ok (.invokestatic 47, 3) := by decide +kernel
theorem d48 : decode yB 48 = .ok (.putfield 15, 3) := by decide +kernel
theorem d51 : decode yB 51 = .ok (.aload_n 0, 1) := by decide +kernel
theorem d52 : decode yB 52 = .ok (.aload 5, 2) := by decide +kernel
theorem d54 : decode yB 54 = .ok (.putfield 9, 3) := by decide +kernel
theorem d57 : decode yB 57 = .ok (.return_, 1) := by decide +kernel
def site : List Cond := [.fieldLink "java/lang/String" 38 "java/lang/String" "COMPACT_STRINGS" "Z", Cmp3.tab, CodL.tab, .laysFinal "java/lang/String" "java/lang/String" "value" "[B", .fieldLink "java/lang/String" 9 "java/lang/String" "value" "[B", .laysFinal "java/lang/String" "java/lang/String" "coder" "B", .fieldLink "java/lang/String" 15 "java/lang/String" "coder" "B"] ++ objW "java/lang/String" 1 ++ staticW "java/lang/String" 177 Cmp3.yN ++ staticW "java/lang/String" 47 CodL.yN
def tab : Cond := tabOf yN yB 6 none site
def P (a : Addr) (D : Cell) (fV fC : Field) (b : Addr) (A : Cell) (z : Int32) (o len : Nat) (args : Array Value) (s : State) : Prop := args = #[.ref a, .ref b, .int (Int32.ofNat o), .int (Int32.ofNat len), .null] ∧ Blank "java/lang/String" a D s ∧ Found "java/lang/String" "value" "[B" fV s ∧ Found "java/lang/String" "coder" "B" fC s ∧ Ch b A s ∧ StaticIs s "java/lang/String" "COMPACT_STRINGS" "Z" (.int z) ∧ ¬ z = 0 ∧ 0 < len ∧ o + len ≤ A.slots.size ∧ len ≤ 536870912 ∧ ∀ i, i < len → ¬ 255 < cv A (o + i)
def E (a : Addr) (D : Cell) (fV fC : Field) (A : Cell) (o len : Nat) (r : Option Value) (s u : State) : Prop := Got a D fV fC A o len r s u
/-- len > 0, no char of the range above 255: a Latin-1 String of their low bytes -/
theorem law (l : Launch) (a : Addr) (D : Cell) (fV fC : Field) (b : Addr) (A : Cell) (z : Int32) (o len : Nat) : Law l yN 5 4 2 35 yB 6 none site (P a D fV fC b A z o len) (E a D fV fC A o len) [⟨a, fC.slot⟩, ⟨a, fV.slot⟩] 1 len := by
  refine Law.of_walk (plainFor_of_name (by decide +kernel)) (by decide +kernel) (by decide +kernel) (by decide) (fun _ _ h => by rw [h.1]; rfl) (fun _ U U' hal hh h => ⟨h.1, h.2.1.mv hal hh, h.2.2.1.al hal, h.2.2.2.1.al hal, h.2.2.2.2.1.mv hal hh, h.2.2.2.2.2.1.there hal hh, h.2.2.2.2.2.2⟩) (fun r U U' V V' h1 hal h2 h => Got.mv r U U' V V' h1 hal h2 h) ?_
  intro p e s m args below meth c s₁ X0 hexec hbytes hml hret hlk hnm hown hh0 W hP
  obtain ⟨rfl, hB, f1, f2, hA, s1, hz, l0, l1, l2, hp⟩ := hP
  have a31 := hA.1.2.2.2
  have c1 : Steps p.tables e below (s₁.setTop (entryFrame m #[.ref a, .ref b, .int (Int32.ofNat o), .int (Int32.ofNat len), .null] 6)) (s₁.setTop (mkF m 0 #[.val (.ref a), .val (.ref b), .val (.int (Int32.ofNat o)), .val (.int (Int32.ofNat len)), .val .null, .unset] [])) := entry rfl
  have c2 : Steps p.tables e below (s₁.setTop (entryFrame m #[.ref a, .ref b, .int (Int32.ofNat o), .int (Int32.ofNat len), .null] 6)) (s₁.setTop (mkF m 1 #[.val (.ref a), .val (.ref b), .val (.int (Int32.ofNat o)), .val (.int (Int32.ofNat len)), .val .null, .unset] [.ref a])) := c1.trans (by
    refine XS.aloadN X0.here hexec rfl (hb hbytes d0) rfl rfl ?_
    exact Steps.refl _)
  obtain ⟨T3, X3, q3, st3⟩ := X0.oinit hexec hown (wks W (objW "java/lang/String" 1)) (g := (mkF m 1 #[.val (.ref a), .val (.ref b), .val (.int (Int32.ofNat o)), .val (.int (Int32.ofNat len)), .val .null, .unset] [.ref a])) rfl (by rw [hml]; rfl) (rest := []) rfl (hb hbytes d1) (W := 0) (by show 2 * 0 + 0 ≤ _; decide) (Nat.le_of_ble_eq_true rfl) (Nat.le_of_ble_eq_true rfl)
  have hh3 := q3.trans hh0
  have c4 : Steps p.tables e below (s₁.setTop (entryFrame m #[.ref a, .ref b, .int (Int32.ofNat o), .int (Int32.ofNat len), .null] 6)) (T3.setTop (mkF m 27 #[.val (.ref a), .val (.ref b), .val (.int (Int32.ofNat o)), .val (.int (Int32.ofNat len)), .val .null, .unset] [])) := (c2.trans (st3 _ (Steps.refl _))).trans (by
    refine XS.iloadN X3.here hexec rfl (hb hbytes d4) rfl ?_
    refine XS.ifYes X3.here hexec rfl (pc0 := 5) rfl (hb hbytes d5) rfl (i0_ne_t (nz32 (by omega) l0)) (by decide) rfl ?_
    exact Steps.refl _)
  obtain ⟨T5, X5, q5, st5⟩ := X3.sget hexec hown (wk W (.fieldLink "java/lang/String" 38 "java/lang/String" "COMPACT_STRINGS" "Z")) s1 (fun _ _ h => by rw [hh3]; exact h) (g := (mkF m 27 #[.val (.ref a), .val (.ref b), .val (.int (Int32.ofNat o)), .val (.int (Int32.ofNat len)), .val .null, .unset] [])) rfl (hb hbytes d27)
  have hh5 := q5.trans hh3
  have c6 : Steps p.tables e below (s₁.setTop (entryFrame m #[.ref a, .ref b, .int (Int32.ofNat o), .int (Int32.ofNat len), .null] 6)) (T5.setTop (mkF m 30 #[.val (.ref a), .val (.ref b), .val (.int (Int32.ofNat o)), .val (.int (Int32.ofNat len)), .val .null, .unset] [.int z])) := c4.trans (st5 _ (Steps.refl _))
  have c7 : Steps p.tables e below (s₁.setTop (entryFrame m #[.ref a, .ref b, .int (Int32.ofNat o), .int (Int32.ofNat len), .null] 6)) (T5.setTop (mkF m 36 #[.val (.ref a), .val (.ref b), .val (.int (Int32.ofNat o)), .val (.int (Int32.ofNat len)), .val .null, .unset] [.int (Int32.ofNat len), .int (Int32.ofNat o), .ref b])) := c6.trans (by
    refine XS.ifNo X5.here hexec rfl (hb hbytes d30) rfl (i0_eq_f hz) ?_
    refine XS.aloadN X5.here hexec rfl (hb hbytes d33) rfl rfl ?_
    refine XS.iloadN X5.here hexec rfl (hb hbytes d34) rfl ?_
    refine XS.iloadN X5.here hexec rfl (hb hbytes d35) rfl ?_
    exact Steps.refl _)
  obtain ⟨v8, T8, X8, E8, g8⟩ := X5.callS hexec (Cmp3.law l b A o len) hown (wks W (staticW "java/lang/String" 177 Cmp3.yN)) (wk W Cmp3.tab) (W := 0) (Nat.le_of_ble_eq_true rfl) (Nat.le_of_ble_eq_true rfl) (Nat.le_refl _) (by show 0 + len ≤ len; omega) (g := (mkF m 36 #[.val (.ref a), .val (.ref b), .val (.int (Int32.ofNat o)), .val (.int (Int32.ofNat len)), .val .null, .unset] [.int (Int32.ofNat len), .int (Int32.ofNat o), .ref b])) rfl (by rw [hml]; rfl) c7 (argsL := [.ref b, .int (Int32.ofNat o), .int (Int32.ofNat len)]) (rest := []) rfl rfl (by show 2 * 0 + 0 ≤ _; decide) (hb hbytes d36) (⟨rfl, hA.mv X5.warmed.alike hh5, l1, l2, hp⟩)
  obtain ⟨e8, z8⟩ := E8
  obtain ⟨rfl, N, n1, n2, n3, n4, n5, n6⟩ := NewArr.mv _ T5 s _ _ hh5.symm (Vm.Alike.refl _) rfl e8
  rw [hh5] at z8
  have hB1 := hB.keep X8.warmed.alike (n6 _ _ hB.1)
  have hne : s.heap.size ≠ a := (Nat.ne_of_lt (Array.getElem?_eq_some_iff.mp hB.1).1).symm
  have c9 : Steps p.tables e below (s₁.setTop (entryFrame m #[.ref a, .ref b, .int (Int32.ofNat o), .int (Int32.ofNat len), .null] 6)) (T8.setTop (mkF m 39 #[.val (.ref a), .val (.ref b), .val (.int (Int32.ofNat o)), .val (.int (Int32.ofNat len)), .val .null, .unset] [.ref s.heap.size])) := g8
  have c10 : Steps p.tables e below (s₁.setTop (entryFrame m #[.ref a, .ref b, .int (Int32.ofNat o), .int (Int32.ofNat len), .null] 6)) (T8.setTop (mkF m 45 #[.val (.ref a), .val (.ref b), .val (.int (Int32.ofNat o)), .val (.int (Int32.ofNat len)), .val .null, .val (.ref s.heap.size)] [.int (Int32.ofNat N.slots.size), .ref s.heap.size, .ref a])) := by
    have hc : Steps p.tables e below (s₁.setTop (entryFrame m #[.ref a, .ref b, .int (Int32.ofNat o), .int (Int32.ofNat len), .null] 6)) (T8.setTop (mkF m 45 #[.val (.ref a), .val (.ref b), .val (.int (Int32.ofNat o)), .val (.int (Int32.ofNat len)), .val .null, .val (.ref s.heap.size)] [.int (Int32.ofNat len), .ref s.heap.size, .ref a])) := c9.trans (by
      refine XS.astore X8.here hexec rfl (hb hbytes d39) rfl rfl rfl ?_
      refine XS.aloadN X8.here hexec rfl (hb hbytes d41) rfl rfl ?_
      refine XS.aload X8.here hexec rfl (hb hbytes d42) rfl rfl ?_
      refine XS.iloadN X8.here hexec rfl (hb hbytes d44) rfl ?_
      exact Steps.refl _)
    rw [n4]; exact hc
  obtain ⟨v11, T11, X11, E11, g11⟩ := X8.callS hexec (CodL.law l s.heap.size N) hown (wks W (staticW "java/lang/String" 47 CodL.yN)) (wk W CodL.tab) (W := 1) (Nat.le_of_ble_eq_true rfl) (Nat.le_of_ble_eq_true rfl) (Nat.le_refl _) (by show 0 + len + 0 ≤ len; omega) (g := (mkF m 45 #[.val (.ref a), .val (.ref b), .val (.int (Int32.ofNat o)), .val (.int (Int32.ofNat len)), .val .null, .val (.ref s.heap.size)] [.int (Int32.ofNat N.slots.size), .ref s.heap.size, .ref a])) rfl (by rw [hml]; rfl) c10 (argsL := [.ref s.heap.size, .int (Int32.ofNat N.slots.size)]) (rest := [.ref a]) rfl rfl (by show 2 * 0 + (1 + 0) ≤ _; decide) (hb hbytes d45) (⟨rfl, n1⟩)
  obtain ⟨rfl, q11⟩ := E11
  have hB11 := hB1.mv (X8.warmed.alike.symm.trans X11.warmed.alike) q11
  have c12 : Steps p.tables e below (s₁.setTop (entryFrame m #[.ref a, .ref b, .int (Int32.ofNat o), .int (Int32.ofNat len), .null] 6)) (T11.setTop (mkF m 48 #[.val (.ref a), .val (.ref b), .val (.int (Int32.ofNat o)), .val (.int (Int32.ofNat len)), .val .null, .val (.ref s.heap.size)] [.int 0, .ref a])) := g11
  obtain ⟨T13, X13, p13, bl13, sl13, st13⟩ := X11.finit hexec hown (wk W (.fieldLink "java/lang/String" 15 "java/lang/String" "coder" "B")) (Or.inr ⟨_, (wk W (.laysFinal "java/lang/String" "java/lang/String" "coder" "B"))⟩) (Or.inl ⟨rfl, hnm⟩) f2 (Or.inl rfl) hB11 (t := .byte) (by decide +kernel) rfl (g := (mkF m 48 #[.val (.ref a), .val (.ref b), .val (.int (Int32.ofNat o)), .val (.int (Int32.ofNat len)), .val .null, .val (.ref s.heap.size)] [.int 0, .ref a])) rfl (rest := []) rfl (hb hbytes d48)
  have c14 : Steps p.tables e below (s₁.setTop (entryFrame m #[.ref a, .ref b, .int (Int32.ofNat o), .int (Int32.ofNat len), .null] 6)) (T13.setTop (mkF m 54 #[.val (.ref a), .val (.ref b), .val (.int (Int32.ofNat o)), .val (.int (Int32.ofNat len)), .val .null, .val (.ref s.heap.size)] [.ref s.heap.size, .ref a])) := (c12.trans (st13 _ (Steps.refl _))).trans (by
    refine XS.aloadN X13.here hexec rfl (hb hbytes d51) rfl rfl ?_
    refine XS.aload X13.here hexec rfl (hb hbytes d52) rfl rfl ?_
    exact Steps.refl _)
  obtain ⟨T15, X15, p15, bl15, sl15, st15⟩ := X13.finit hexec hown (wk W (.fieldLink "java/lang/String" 9 "java/lang/String" "value" "[B")) (Or.inr ⟨_, (wk W (.laysFinal "java/lang/String" "java/lang/String" "value" "[B"))⟩) (Or.inl ⟨rfl, hnm⟩) f1 (Or.inl rfl) bl13 (t := (.array .byte)) (by decide +kernel) rfl (g := (mkF m 54 #[.val (.ref a), .val (.ref b), .val (.int (Int32.ofNat o)), .val (.int (Int32.ofNat len)), .val .null, .val (.ref s.heap.size)] [.ref s.heap.size, .ref a])) rfl (rest := []) rfl (hb hbytes d54)
  have c16 : Steps p.tables e below (s₁.setTop (entryFrame m #[.ref a, .ref b, .int (Int32.ofNat o), .int (Int32.ofNat len), .null] 6)) (T15.setTop (mkF m 57 #[.val (.ref a), .val (.ref b), .val (.int (Int32.ofNat o)), .val (.int (Int32.ofNat len)), .val .null, .val (.ref s.heap.size)] [])) := c14.trans (st15 _ (Steps.refl _))
  have ap := apart (Or.inr ⟨_, (wk W (.laysFinal "java/lang/String" "java/lang/String" "value" "[B"))⟩) (Or.inr ⟨_, (wk W (.laysFinal "java/lang/String" "java/lang/String" "coder" "B"))⟩) f1 f2 (t₁ := .array .byte) (t₂ := .byte) (by decide +kernel) (by decide +kernel) (by decide)
  have al := X8.warmed.alike.symm.trans X15.warmed.alike
  have n7 : T11.heap[s.heap.size]? = some N := by rw [q11]; exact n1.1
  exact ⟨T15, none, _, _, _, X15, by simp, rfl, by omega, (fun _ => rfl), ⟨rfl, _, N, bl15, ((Same.refl D _).set _ (by simp)).set _ (by simp), sl15, (Cell.slots_setSlot_ne _ ap).trans sl13, n1.keep al (p15.other hne (p13.other hne n7)), n2, by rw [al.findClass]; exact n3, n4, n5, fun y c h1 h2 => p15.other h1 (p13.other h1 (by rw [q11]; exact n6 y c h2)), by rw [p15.2.2, p13.2.2, q11]; exact z8⟩, fun fs hl => c16.trans (X15.returnOut hexec hret (hb hbytes d57) hl)⟩
end New4
namespace New1
def yN : MethodName := ⟨"java/lang/String", "<init>", "([C)V"⟩
abbrev yB : ByteArray := jdk_42_method_3_code
theorem d0 : decode yB 0 = .ok (.aload_n 0, 1) := by decide +kernel
theorem d1 : decode yB 1 = .ok (.aload_n 1, 1) := by decide +kernel
theorem d2 : decode yB 2 = .ok (.iconst 0, 1) := by decide +kernel
theorem d3 : decode yB 3 = .ok (.aload_n 1, 1) := by decide +kernel
theorem d4 : decode yB 4 = .ok (.arraylength, 1) := by decide +kernel
theorem d5 : decode yB 5 = .ok (.aconst_null, 1) := by decide +kernel
theorem d6 : decode yB 6 = .ok (.invokespecial 27, 3) := by decide +kernel
theorem d9 : decode yB 9 = .ok (.return_, 1) := by decide +kernel
def site : List Cond := [New4.tab] ++ initW "java/lang/String" 27 New4.yN
def tab : Cond := tabOf yN yB 2 none site
def P (a : Addr) (D : Cell) (fV fC : Field) (b : Addr) (A : Cell) (z : Int32) (args : Array Value) (s : State) : Prop := args = #[.ref a, .ref b] ∧ Blank "java/lang/String" a D s ∧ Found "java/lang/String" "value" "[B" fV s ∧ Found "java/lang/String" "coder" "B" fC s ∧ Ch b A s ∧ StaticIs s "java/lang/String" "COMPACT_STRINGS" "Z" (.int z) ∧ ¬ z = 0 ∧ 0 < A.slots.size ∧ A.slots.size ≤ 536870912 ∧ ∀ i, i < A.slots.size → ¬ 255 < cv A i
def E (a : Addr) (D : Cell) (fV fC : Field) (A : Cell) (r : Option Value) (s u : State) : Prop := Got a D fV fC A 0 A.slots.size r s u
/-- new String(chars), not empty, no char above 255: a Latin-1 String of their low bytes -/
theorem law (l : Launch) (a : Addr) (D : Cell) (fV fC : Field) (b : Addr) (A : Cell) (z : Int32) : Law l yN 2 1 3 52 yB 2 none site (P a D fV fC b A z) (E a D fV fC A) [⟨a, fC.slot⟩, ⟨a, fV.slot⟩] 1 A.slots.size := by
  refine Law.of_walk (plainFor_of_name (by decide +kernel)) (by decide +kernel) (by decide +kernel) (by decide) (fun _ _ h => by rw [h.1]; rfl) (fun _ U U' hal hh h => ⟨h.1, h.2.1.mv hal hh, h.2.2.1.al hal, h.2.2.2.1.al hal, h.2.2.2.2.1.mv hal hh, h.2.2.2.2.2.1.there hal hh, h.2.2.2.2.2.2⟩) (fun r U U' V V' h1 hal h2 h => Got.mv r U U' V V' h1 hal h2 h) ?_
  intro p e s m args below meth c s₁ X0 hexec hbytes hml hret hlk hnm hown hh0 W hP
  obtain ⟨rfl, hB, f1, f2, hA, s1, hz, l0, l2, hp⟩ := hP
  have c1 : Steps p.tables e below (s₁.setTop (entryFrame m #[.ref a, .ref b] 2)) (s₁.setTop (mkF m 0 #[.val (.ref a), .val (.ref b)] [])) := entry rfl
  have c2 : Steps p.tables e below (s₁.setTop (entryFrame m #[.ref a, .ref b] 2)) (s₁.setTop (mkF m 6 #[.val (.ref a), .val (.ref b)] [.null, .int (Int32.ofNat A.slots.size), .int 0, .ref b, .ref a])) := c1.trans (by
    refine XS.aloadN X0.here hexec rfl (hb hbytes d0) rfl rfl ?_
    refine XS.aloadN X0.here hexec rfl (hb hbytes d1) rfl rfl ?_
    refine iconstV X0.here hexec rfl 0 (hb hbytes d2) (by decide) ?_
    refine XS.aloadN X0.here hexec rfl (hb hbytes d3) rfl rfl ?_
    refine X0.alen hexec (hA.1.mv X0.warmed.alike hh0) rfl rfl (hb hbytes d4) ?_
    refine XS.aconstNull X0.here hexec rfl (hb hbytes d5) ?_
    exact Steps.refl _)
  obtain ⟨v3, T3, X3, E3, g3⟩ := X0.callN hexec (New4.law l a D fV fC b A z 0 A.slots.size) rfl hown (wks W (initW "java/lang/String" 27 New4.yN)) (W New4.tab (by simp only [site, List.mem_cons, List.mem_append, true_or, or_true])) (W := 0) (Nat.le_of_ble_eq_true rfl) (Nat.le_of_ble_eq_true rfl) (Nat.le_refl _) (by show 0 + A.slots.size ≤ A.slots.size; omega) (g := (mkF m 6 #[.val (.ref a), .val (.ref b)] [.null, .int (Int32.ofNat A.slots.size), .int (Int32.ofNat 0), .ref b, .ref a])) rfl (by rw [hml]; rfl) c2 (argsL := [.ref b, .int (Int32.ofNat 0), .int (Int32.ofNat A.slots.size), .null]) (rest := []) rfl rfl (by show 2 * 0 + 0 ≤ _; decide) (hb hbytes d6) (⟨rfl, hB.mv X0.warmed.alike hh0, f1.al X0.warmed.alike, f2.al X0.warmed.alike, hA.mv X0.warmed.alike hh0, s1.there X0.warmed.alike hh0, hz, l0, by omega, l2, fun i hi => by rw [Nat.zero_add]; exact hp i hi⟩)
  have e0 := Got.mv _ s₁ s _ _ hh0.symm (Vm.Alike.refl _) rfl E3
  obtain rfl := e0.1
  have c4 : Steps p.tables e below (s₁.setTop (entryFrame m #[.ref a, .ref b] 2)) (T3.setTop (mkF m 9 #[.val (.ref a), .val (.ref b)] [])) := g3
  exact ⟨T3, none, _, _, _, X3, by simp, rfl, by omega, (fun _ => rfl), e0, fun fs hl => c4.trans (X3.returnOut hexec hret (hb hbytes d9) hl)⟩
theorem pays {l : Launch} {R : Room} {p : Program} {e : Env} {below : List Frame} {s : State} {sargs : Array Value} {len W : Nat} (a : Addr) (D : Cell) (fV fC : Field) (b : Addr) (A : Cell) (z : Int32) (htab : tab.before sargs s = true) (hfr : 4 ≤ R.frames) (hlo : W + 65 ≤ R.locals) :
    Back l R p e below s sargs yN len W (fun A₁ a₁ => A₁.cells + 1 ≤ R.cells ∧ A₁.slots + A.slots.size ≤ R.slots ∧ P a D fV fC b A z a₁ A₁.U) (fun A₁ _ v₁ B₁ => E a D fV fC A v₁ A₁.U B₁.U ∧ B₁.locs = A₁.locs ++ [⟨a, fC.slot⟩, ⟨a, fV.slot⟩] ∧ B₁.cells = A₁.cells + 1 ∧ B₁.slots = A₁.slots + A.slots.size) :=
  (law l a D fV fC b A z).pays htab hfr (by omega)
end New1
/-- the byte, read back as charAt reads it, is the char -/
theorem lo8_mask {x : Int32} (h0 : ¬ x < 0) (h1 : ¬ 255 < x) : lo8 x &&& 255 = x := by
  have t : ∀ k : Fin 256, lo8 (Int32.ofNat k.val) &&& 255 = Int32.ofNat k.val := by decide +kernel
  rw [Int32.lt_iff_toInt_lt] at h0 h1
  have e0 : (0 : Int32).toInt = 0 := rfl
  have e1 : (255 : Int32).toInt = 255 := rfl
  obtain ⟨k, hk⟩ : ∃ k : Nat, x.toInt = k := ⟨x.toInt.toNat, by omega⟩
  have hx : x = Int32.ofNat k := Int32.toInt_inj.mp (by rw [hk, Int32.toInt_ofNat_small (by omega)])
  rw [hx]
  exact t ⟨k, by omega⟩
end StrChars
namespace StrChars.Road
open Jvm Sem ClassFile Op Lib Jvm.Stand Jvm.Free Jvm.Free.XT
open Jvm.Lib.Cold (StaticIs)
abbrev ST : String := "java/lang/String"
/-- every table word that New1's law asks, flat -/
abbrev words : List Jvm.Cond := [.code New1.yN New1.yB 2 none, .initialized ST, .methodLink ST 27 New4.yN, .instanceMethod New4.yN,
  .code New4.yN New4.yB 6 none, .fieldLink ST 38 ST "COMPACT_STRINGS" "Z", .laysFinal ST ST "value" "[B", .fieldLink ST 9 ST "value" "[B", .laysFinal ST ST "coder" "B", .fieldLink ST 15 ST "coder" "B",
  .methodLink ST 1 Lib.objectInit, .instanceMethod Lib.objectInit, .code Lib.objectInit ⟨#[0xb1]⟩ 1 none, .methodLink ST 177 Cmp3.yN, .static Cmp3.yN, .methodLink ST 47 CodL.yN, .static CodL.yN,
  .code Cmp3.yN Cmp3.yB 6 (some (.array .byte)), .initialized U16, .arrayClass .byte, .methodLink U16 115 Cmp5.yN, .static Cmp5.yN, .code Cmp5.yN Cmp5.yB 7 (some .int), .code CodL.yN CodL.yB 2 (some .byte)]
theorem tab_of {a : Array Value} {s : State} (h : ∀ w ∈ words, w.before a s = true) : New1.tab.before a s = true := by
  have h5 : Cmp5.tab.before a s = true := unparts (wk h (.code Cmp5.yN Cmp5.yB 7 (some .int))) (wks h (.initialized Cmp5.yN.cls :: Cmp5.site))
  have hc : CodL.tab.before a s = true := unparts (wk h (.code CodL.yN CodL.yB 2 (some .byte))) (wks h (.initialized CodL.yN.cls :: CodL.site))
  have q5 : ∀ w ∈ Cmp5.tab :: words, w.before a s = true := fun w hw => (List.mem_cons.mp hw).elim (fun e => e ▸ h5) (h w)
  have h3 : Cmp3.tab.before a s = true := unparts (wk q5 (.code Cmp3.yN Cmp3.yB 6 (some (.array .byte)))) (wks q5 (.initialized Cmp3.yN.cls :: Cmp3.site))
  have q3 : ∀ w ∈ Cmp3.tab :: CodL.tab :: words, w.before a s = true := fun w hw => (List.mem_cons.mp hw).elim (fun e => e ▸ h3) fun hw => (List.mem_cons.mp hw).elim (fun e => e ▸ hc) (h w)
  have h4 : New4.tab.before a s = true := unparts (wk q3 (.code New4.yN New4.yB 6 none)) (wks q3 (.initialized New4.yN.cls :: New4.site))
  have q4 : ∀ w ∈ New4.tab :: words, w.before a s = true := fun w hw => (List.mem_cons.mp hw).elim (fun e => e ▸ h4) (h w)
  exact unparts (wk q4 (.code New1.yN New1.yB 2 none)) (wks q4 (.initialized New1.yN.cls :: New1.site))
/-- the words ride from the start Z to the walk's own state -/
theorem moved {Z s : State} {a0 args : Array Value} (hZ : Z.Warmed39 s.vm) (hw : ∀ d ∈ words, d.before a0 Z = true) : ∀ d ∈ words, d.before args s = true := fun d hd => by
  have q := hw d hd
  have t : ∀ d ∈ words, d = .arrayClass .byte ∨ (d.onTables && d.keepsFace) = true := by decide +kernel
  rcases t d hd with rfl | t
  · exact RoadKit.mvA hZ q
  · exact RoadKit.mv hZ q t
/-- WHAT COMES BACK, over the tables of the start Z: h the heap at the call, h' behind it -/
def Q (Z : State) (x : Addr) (A : Cell) (h : Heap) (v : Option Value) (h' : Heap) (L : List Loc) : Prop := v = none ∧ (∀ y ∈ L, y.base = x) ∧ RoadKit.Keep h h' [x] ∧ h'.size = h.size + 1 ∧ RoadKit.Exa Z h' x ST ∧ RoadKit.Fld Z h' x ST "value" "[B" (.ref h.size) ∧ RoadKit.Fld Z h' x ST "coder" "B" (.int 0) ∧
  (∃ V : Cell, RoadKit.Arr Z h' h.size V .byte ∧ V.vm = .none ∧ Z.vm.findClass "[B" = some V.cls ∧ V.slots.size = A.slots.size ∧ ∀ j, j < A.slots.size → V.slots[j]? = some (.int (lo8 (cv A j)))) ∧
  ∀ (O n d : String) (w : Value), RoadKit.Fld Z h x O n d w → RoadKit.slotOf Z O n d ≠ RoadKit.slotOf Z ST "value" "[B" → RoadKit.slotOf Z O n d ≠ RoadKit.slotOf Z ST "coder" "B" → RoadKit.Fld Z h' x O n d w
/-- **new String(chars) AT A CALL, IN THE ROAD'S FORM**: for specialBack behind newO: x the fresh String, b the char[] with the cell A -/
theorem back {p : Program} {l : Launch} {e : Env} {R : Room} {s : State} {args : Array Value} {below : List Frame} {len W : Nat} {Z : State} {a0 : Array Value} {h : Heap} (hZ : Z.Warmed39 s.vm) (hw : ∀ d ∈ words, d.before a0 Z = true) {kI : Nat} (wi : (Jvm.Cond.instantiable ST kI).before a0 Z = true)
    {x b : Addr} {A : Cell} {z : Int32} {v0 c0 : Value} (E : RoadKit.Exa Z h x ST) (V : RoadKit.Fld Z h x ST "value" "[B" v0) (C : RoadKit.Fld Z h x ST "coder" "B" c0) (K : RoadKit.Arr Z h b A .char) (hty : Typed .char A) (S : RoadKit.Sta Z h ST "COMPACT_STRINGS" "Z" (.int z)) (hz : ¬ z = 0)
    (l0 : 0 < A.slots.size) (l2 : A.slots.size ≤ 536870912) (hp : ∀ i, i < A.slots.size → ¬ 255 < cv A i) (hfr : 4 ≤ R.frames) (hlo : W + 65 ≤ R.locals) :
    Back l R p e below s args New1.yN len W (fun P a => a = #[.ref x, .ref b] ∧ P.U.heap = h ∧ P.cells + 1 ≤ R.cells ∧ P.slots + A.slots.size ≤ R.slots)
      (fun P _ v B => ∃ L, Q Z x A h v B.U.heap L ∧ B.locs = P.locs ++ L ∧ B.cells = P.cells + 1 ∧ B.slots = P.slots + A.slots.size) := by
  intro m meth c P g ig mk a X hg hsize hdg hW hn hp'
  obtain ⟨rfl, rfl, r1, r2⟩ := hp'
  have al : Z.vm.Alike P.U.vm := hZ.alike.trans X.warmed.alike
  obtain ⟨D, cfV, kV, iV, fV, hD, gV, stV, knV, obV, asV, slV⟩ := id V
  obtain ⟨D', cfC, kC, iC, fC, hD', gC, stC, -, -, asC, slC⟩ := id C
  cases hD.symm.trans hD'
  obtain ⟨D2, kD, e1, e2, e3, e4, e5⟩ := id E
  cases hD.symm.trans e1
  obtain ⟨c2, k2, i1, i2, i3, -⟩ := Cond.instantiable_spec wi
  cases e2.symm.trans i1
  cases e3.symm.trans i2
  obtain ⟨kU, u1, u2⟩ := al.2.2 _ _ e3
  have hB : Blank ST x D P.U := ⟨hD, ⟨knV, fun q hq => by rw [hq] at obV; cases obV⟩, by rw [al.findClass]; exact e2, kU, u1, by rw [u2]; exact i3, by rw [u2]; exact e5 i3⟩
  have F1 : Found ST "value" "[B" fV P.U := ⟨SBG.found_only al ⟨cfV, kV, iV, gV⟩, stV⟩
  have F2 : Found ST "coder" "B" fC P.U := ⟨SBG.found_only al ⟨cfC, kC, iC, gC⟩, stC⟩
  have hA : Ch b A P.U := ⟨⟨K.1, State.isArrayOf_alike al K.2.1, K.2.2, by omega⟩, hty⟩
  have hS : StaticIs P.U ST "COMPACT_STRINGS" "Z" (.int z) := by
    obtain ⟨cfS, iS, kS, fS, st, cS, t1, t2, t3, t4, t5, t6, t7⟩ := S
    exact StaticIs.there (s := { Z with heap := P.U.heap }) ⟨cfS, iS, kS, fS, st, cS, t1, t2, t3, t4, t5, (fun q => by rw [q] at t6; cases t6), t7⟩ al rfl
  obtain ⟨v, B, X', ⟨⟨hv, E', V', q1, q2, q3, q4, q5, q6, q7, q8, q9, q10, q11⟩, hl, hc, hs⟩, st⟩ := New1.pays x D fV fC b A z (tab_of (moved hZ hw)) hfr hlo m meth c P g ig mk _ X hg hsize hdg hW hn ⟨r1, r2, rfl, hB, F1, F2, hA, hS, hz, l0, l2, hp⟩
  have al' : Z.vm.Alike B.U.vm := hZ.alike.trans X'.warmed.alike
  have hsz : E'.slots.size = D.slots.size := by
    obtain ⟨-, -, -, kB, w1, w2, w3⟩ := q1
    obtain ⟨kB', y1, y2⟩ := al'.2.2 _ _ e3
    rw [q2.2.1] at w1
    cases w1.symm.trans y1
    rw [w3, e5 i3, y2]
  refine ⟨v, B, X', ⟨_, ⟨hv, ?_, ⟨by omega, fun y cy hy hn' => q10 y cy (by simpa using hn') hy, fun y cy hy => ?_⟩, q11, ⟨E', _, q1.1, by rw [q2.2.1]; exact e2, by rw [q2.2.1]; exact e3, by rw [q2.1]; exact obV, fun _ => by rw [hsz]; exact e5 i3⟩,
    ⟨E', cfV, kV, iV, fV, q1.1, gV, stV, by rw [q2.1]; exact knV, by rw [q2.1]; exact obV, by rw [q2.2.1]; exact asV, q3⟩, ⟨E', cfC, kC, iC, fC, q1.1, gC, stC, by rw [q2.1]; exact knV, by rw [q2.1]; exact obV, by rw [q2.2.1]; exact asC, q4⟩,
    ⟨V', ⟨q5.1, State.isArrayOf_alike al'.symm q5.2.1, q5.2.2.1⟩, q6, by rw [← al'.findClass]; exact q7, q8, fun j hj => by have := q9 j hj; rwa [Nat.zero_add] at this⟩, fun O n d w F n1 n2 => ?_⟩, hl, hc, hs⟩, st⟩
  · intro y hy
    simp only [List.mem_cons, List.not_mem_nil, or_false] at hy
    rcases hy with rfl | rfl <;> rfl
  · by_cases q : y = x
    · subst q
      cases hD.symm.trans hy
      exact ⟨E', q1.1, q2.2.1, q2.1, hsz⟩
    · exact ⟨cy, q10 y cy q hy, rfl, rfl, rfl⟩
  · obtain ⟨D3, cf, k, i, f, g1, g2, g3, g4, g5, g6, g7⟩ := F
    cases hD.symm.trans g1
    simp only [RoadKit.slotOf, g2, gV, gC, Option.map_some, Option.getD_some] at n1 n2
    exact ⟨E', cf, k, i, f, q1.1, g2, g3, by rw [q2.1]; exact g4, by rw [q2.1]; exact g5, by rw [q2.2.1]; exact g6, by rw [q2.2.2 f.slot (by simp [n1, n2])]; exact g7⟩
end StrChars.Road
namespace StrChars.Road
open Jvm Sem ClassFile Op Lib Jvm.Stand Jvm.Free Jvm.Free.XT
/-- WHAT COMES BACK, the byte[] as a list of values -/
def QA (Z : State) (x : Addr) (zn : Int32) (cs : List Int32) (h : Heap) (v : Option Value) (h' : Heap) (L : List Loc) : Prop := v = none ∧ (∀ y ∈ L, y.base = x) ∧ RoadKit.Keep h h' [x] ∧ h'.size = h.size + 1 ∧ RoadKit.Exa Z h' x ST ∧ RoadKit.Fld Z h' x ST "value" "[B" (.ref h.size) ∧ RoadKit.Fld Z h' x ST "coder" "B" (.int 0) ∧
  (∃ kb, Z.vm.findClass "[B" = some kb ∧ RoadKit.Arv Z h' h.size kb .byte zn (cs.map fun c => .int (lo8 c)) (.int 0)) ∧
  ∀ (O n d : String) (w : Value), RoadKit.Fld Z h x O n d w → RoadKit.slotOf Z O n d ≠ RoadKit.slotOf Z ST "value" "[B" → RoadKit.slotOf Z O n d ≠ RoadKit.slotOf Z ST "coder" "B" → RoadKit.Fld Z h' x O n d w
/-- **new String(chars) AT A CALL, THE ARRAYS AS LISTS**: the char[] at b holds cs, not empty, no char above 255 -/
theorem backArv {p : Program} {l : Launch} {e : Env} {R : Room} {s : State} {args : Array Value} {below : List Frame} {len W : Nat} {Z : State} {a0 : Array Value} {h : Heap} (hZ : Z.Warmed39 s.vm) (hw : ∀ d ∈ words, d.before a0 Z = true) {kI : Nat} (wi : (Jvm.Cond.instantiable ST kI).before a0 Z = true)
    {x b : Addr} {k : ClassId} {zn z : Int32} {cs : List Int32} {dv v0 c0 : Value} (E : RoadKit.Exa Z h x ST) (V : RoadKit.Fld Z h x ST "value" "[B" v0) (C : RoadKit.Fld Z h x ST "coder" "B" c0) (K : RoadKit.Arv Z h b k .char zn (cs.map Value.int) dv) (S : RoadKit.Sta Z h ST "COMPACT_STRINGS" "Z" (.int z)) (hz : ¬ z = 0)
    (hlen : zn.toNatClampNeg = cs.length) (h0 : 0 < cs.length) (hbig : cs.length ≤ 536870912) (hall : ∀ c ∈ cs, ¬ 255 < c) (hfr : 4 ≤ R.frames) (hlo : W + 65 ≤ R.locals) :
    Back l R p e below s args New1.yN len W (fun P a => a = #[.ref x, .ref b] ∧ P.U.heap = h ∧ P.cells + 1 ≤ R.cells ∧ P.slots + cs.length ≤ R.slots)
      (fun P _ v B => ∃ L, QA Z x zn cs h v B.U.heap L ∧ B.locs = P.locs ++ L ∧ B.cells = P.cells + 1 ∧ B.slots = P.slots + cs.length) := by
  obtain ⟨A, K1, K2, K3, K4, K5, K6⟩ := K
  have e : A.slots.size = cs.length := K3.trans hlen
  have hat : ∀ (i : Nat) (hi : i < cs.length), A.slots[i]? = some (.int cs[i]) := fun i hi => by rw [K5 i (by omega)]; simp [List.getD_eq_getElem?_getD, hi]
  have hcv : ∀ (i : Nat) (hi : i < cs.length), cv A i = cs[i] := fun i hi => by unfold cv; rw [hat i hi]
  have hty : Typed .char A := fun i v hv => by
    have hi : i < A.slots.size := (Array.getElem?_eq_some_iff.mp hv).1
    have q := K5 i hi
    rw [hv] at q
    rw [Option.some.inj q]
    exact K6 i hi
  refine Back.mono (back hZ hw wi E V C K1 hty S hz (by omega) (by omega) (fun i hi => by rw [hcv i (by omega)]; exact hall _ (List.getElem_mem _)) hfr hlo) (fun P a hp => ⟨hp.1, hp.2.1, hp.2.2.1, by rw [e]; exact hp.2.2.2⟩) (fun P a v B hp hq => ?_)
  obtain ⟨L, ⟨q1, q2, q3, q4, q5, q6, q7, ⟨V', v1, v2, v3, v4, v5⟩, q9⟩, hl, hc, hs⟩ := hq
  refine ⟨L, ⟨q1, q2, q3, q4, q5, q6, q7, ⟨V'.cls, v3, V', v1, rfl, by rw [v4, e, hlen], K4, fun i hi => ?_, fun i hi => ?_⟩, q9⟩, hl, hc, by rw [hs, e]⟩
  · have hi' : i < cs.length := by omega
    rw [v5 i (by omega), hcv i hi']; simp [List.getD_eq_getElem?_getD, hi']
  · have hi' : i < cs.length := by omega
    simp only [List.getD_eq_getElem?_getD, List.getElem?_map, List.getElem?_eq_getElem hi', Option.map_some, Option.getD_some]
    exact fits_lo8 _
end StrChars.Road
namespace StrChars.Road
open Jvm Sem ClassFile Op Lib Jvm.Stand Jvm.Free Jvm.Free.XT
/-- WHAT COMES BACK, in the writer's own shape -/
def QV (Z : State) (x : Addr) (N : Int32) (bs : List Int32) (h : Heap) (n0 : Nat) (v : Option Value) (h' : Heap) (L : List Loc) : Prop := v = none ∧ RoadKit.Fr n0 L ∧ RoadKit.Keep h h' [x] ∧ RoadKit.Exa Z h' x ST ∧ RoadKit.Fld Z h' x ST "coder" "B" (.int 0) ∧
  ∃ (t : Addr) (kb : ClassId), n0 ≤ t ∧ h.size ≤ t ∧ ¬ t = x ∧ RoadKit.Fld Z h' x ST "value" "[B" (.ref t) ∧ RoadKit.Arv Z h' t kb .byte N (bs.map Value.int) (.int 0)
/-- **new String(chars) AT A CALL, FOR THE WRITER**: a char[] of n known ints, each 0 to 255 -/
theorem backV {p : Program} {l : Launch} {e : Env} {R : Room} {s : State} {args : Array Value} {below : List Frame} {len W : Nat} {Z : State} {a0 : Array Value} {h : Heap} (hZ : Z.Warmed39 s.vm) (hw : ∀ d ∈ words, d.before a0 Z = true) {kI : Nat} (wi : (Jvm.Cond.instantiable ST kI).before a0 Z = true)
    {x b : Addr} {kC : ClassId} {cs bs : List Int32} {d v0 c0 : Value} {z N : Int32} {n n0 : Nat} (hx0 : n0 ≤ x) (hh0 : n0 ≤ h.size) (E : RoadKit.Exa Z h x ST) (V : RoadKit.Fld Z h x ST "value" "[B" v0) (C : RoadKit.Fld Z h x ST "coder" "B" c0) (K : RoadKit.Arv Z h b kC .char N (cs.map Value.int) d) (S : RoadKit.Sta Z h ST "COMPACT_STRINGS" "Z" (.int z)) (hz : ¬ z = 0)
    (hn : cs.length = n) (hN : N = Int32.ofNat n) (l0 : 0 < n) (l2 : n ≤ 4000) (hp : ∀ c ∈ cs, ¬ c < 0 ∧ ¬ (255 : Int32) < c) (hb : bs = cs.map (fun c => c.toInt8.toInt32)) (hfr : 4 ≤ R.frames) (hlo : W + 65 ≤ R.locals) :
    Back l R p e below s args (⟨"java/lang/String", "<init>", "([C)V"⟩ : MethodName) len W (fun P a => a = #[.ref x, .ref b] ∧ P.U.heap = h ∧ P.cells + 1 ≤ R.cells ∧ P.slots + n ≤ R.slots)
      (fun P _ v B => ∃ L, QV Z x N bs h n0 v B.U.heap L ∧ B.locs = P.locs ++ L ∧ B.cells = P.cells + 1 ∧ B.slots = P.slots + n) := by
  subst hn hN hb
  refine Back.mono (backArv hZ hw wi E V C K S hz (n32 (by omega)) l0 (by omega) (fun c hc => (hp c hc).2) hfr hlo) (fun P a hp => hp) (fun P a v B hp hq => ?_)
  obtain ⟨L, ⟨q1, q2, q3, q4, q5, q6, q7, ⟨kb, v1, v2⟩, q9⟩, hl, hc, hs⟩ := hq
  exact ⟨L, ⟨q1, fun y hy => by rw [q2 y hy]; exact hx0, q3, q5, q7, h.size, kb, hh0, Nat.le_refl _, Nat.ne_of_gt E.lt, q6, by rw [List.map_map]; exact v2⟩, hl, hc, hs⟩
end StrChars.Road
namespace StrChars
open Jvm Sem ClassFile Op Lib Jvm.Stand Jvm.Free.XT Jvm.Free.ALB Jvm.Free.JM Jvm.Free
open Jvm.Lib.Cold (StaticIs)
def hi8 (x : Int32) : Int32 := lo8 (x >>> ((8 : Int32) &&& 31))
/-- what StringUTF16.getChar makes of two bytes -/
def pairCh (u v : Int32) : Int32 := (((u &&& 255) <<< ((0 : Int32) &&& 31)) ||| ((v &&& 255) <<< ((8 : Int32) &&& 31))).toUInt32.toUInt16.toUInt32.toInt32
theorem lo8_and (x : Int32) : (lo8 x &&& 255).toBitVec.toNat = x.toBitVec.toNat % 256 := by
  have h : (lo8 x).toBitVec = (x.toBitVec.signExtend 8).signExtend 32 := by rw [lo8, Int8.toBitVec_toInt32, Int32.toBitVec_toInt8]
  rw [Int32.toBitVec_and, BitVec.toNat_and, h]
  have e : ((x.toBitVec.signExtend 8).signExtend 32).toNat % 256 = x.toBitVec.toNat % 256 := by
    rw [BitVec.toNat_signExtend]
    have hlt := x.toBitVec.isLt
    simp only [BitVec.toNat_setWidth, BitVec.toNat_signExtend]
    split <;> split <;> omega
  rw [← e]
  exact Nat.and_two_pow_sub_one_eq_mod _ 8
theorem pair_says {c : Int32} (h0 : ¬ c < 0) (h1 : ¬ 65535 < c) : pairCh (lo8 c) (hi8 c) = c := by
  rw [Int32.lt_iff_toInt_lt] at h0 h1
  have e0 : (0 : Int32).toInt = 0 := rfl
  have e1 : (65535 : Int32).toInt = 65535 := rfl
  have hc : c.toInt = c.toBitVec.toNat := by
    have := c.toBitVec.isLt
    have e : c.toInt = c.toBitVec.toInt := rfl
    rw [e] at h0 h1
    rw [e]
    rw [BitVec.toInt_eq_toNat_cond] at h0 h1 ⊢
    split at h0 <;> split <;> omega
  have hn : c.toBitVec.toNat < 65536 := by omega
  have a1 := lo8_and c
  have a2 : (hi8 c &&& 255).toBitVec.toNat = c.toBitVec.toNat / 256 := by
    rw [hi8, lo8_and]
    have e : ((8 : Int32) &&& 31) = 8 := by decide
    rw [e, Int32.toBitVec_shiftRight]
    have e2 : ((8 : Int32).toBitVec.smod 32) = 8#32 := by decide
    rw [e2, BitVec.sshiftRight_eq', BitVec.toNat_sshiftRight_of_msb_false (by rw [BitVec.msb_eq_false_iff_two_mul_lt]; omega)]
    show c.toBitVec.toNat >>> 8 % 256 = _
    rw [Nat.shiftRight_eq_div_pow]
    omega
  unfold pairCh
  apply Int32.toBitVec_inj.mp
  apply BitVec.eq_of_toNat_eq
  have f0 : ((0 : Int32) &&& 31) = 0 := by decide
  have f8 : ((8 : Int32) &&& 31) = 8 := by decide
  rw [f0, f8]
  have g : (((lo8 c &&& 255) <<< (0 : Int32)) ||| ((hi8 c &&& 255) <<< (8 : Int32))).toBitVec.toNat = c.toBitVec.toNat := by
    rw [Int32.toBitVec_or, Int32.toBitVec_shiftLeft, Int32.toBitVec_shiftLeft]
    have s0 : ((0 : Int32).toBitVec.smod 32) = 0#32 := by decide
    have s8 : ((8 : Int32).toBitVec.smod 32) = 8#32 := by decide
    rw [s0, s8, BitVec.toNat_or]
    simp only [BitVec.shiftLeft_eq', BitVec.toNat_shiftLeft, a1, a2]
    show (c.toBitVec.toNat % 256) <<< 0 % 2 ^ 32 ||| (c.toBitVec.toNat / 256) <<< 8 % 2 ^ 32 = _
    rw [Nat.shiftLeft_zero, Nat.mod_eq_of_lt (show c.toBitVec.toNat % 256 < 2 ^ 32 by omega), Nat.mod_eq_of_lt (show (c.toBitVec.toNat / 256) <<< 8 < 2 ^ 32 by rw [Nat.shiftLeft_eq]; omega), Nat.or_comm, ← Nat.shiftLeft_add_eq_or_of_lt (by omega), Nat.shiftLeft_eq]
    omega
  show BitVec.toNat (((((lo8 c &&& 255) <<< (0 : Int32)) ||| ((hi8 c &&& 255) <<< (8 : Int32))).toBitVec.setWidth 16).setWidth 32) = _
  rw [BitVec.toNat_setWidth, BitVec.toNat_setWidth, g]
  omega
end StrChars
namespace StrChars
open Jvm Sem ClassFile Op Lib Jvm.Stand Jvm.Free.XT Jvm.Free.ALB Jvm.Free.JM Jvm.Free
open Jvm.Lib.Cold (StaticIs)
/-- the array's cell V codes the n chars f 0 .. f (n - 1) by the coder cd, as the JDK does: coder 1 just where some char is above 255 -/
def Cod (cd : Int32) (n : Nat) (f : Nat → Int32) (V : Cell) : Prop := (cd = 0 ∧ V.slots.size = n ∧ ∀ j, j < n → V.slots[j]? = some (.int (lo8 (f j))) ∧ ¬ 255 < f j) ∨ (cd = 1 ∧ V.slots.size = 2 * n ∧ (∀ j, j < n → V.slots[2 * j]? = some (.int (lo8 (f j))) ∧ V.slots[2 * j + 1]? = some (.int (hi8 (f j)))) ∧ ∃ j, j < n ∧ 255 < f j)
/-- **x is a String of the n chars f 0 .. f (n - 1)**, Latin-1 or UTF-16; its array at t has the cell V -/
def Txt (x t : Addr) (V : Cell) (cd : Int32) (n : Nat) (f : Nat → Int32) (U : State) : Prop := Exact "java/lang/String" x U ∧ Has x "java/lang/String" "value" "[B" (.ref t) U ∧ Has x "java/lang/String" "coder" "B" (.int cd) U ∧ XT.Arr .byte t V U ∧ Cod cd n f V ∧ ∀ j, j < n → ¬ f j < 0 ∧ ¬ 65535 < f j
theorem Txt.mv {x t : Addr} {V : Cell} {cd : Int32} {n : Nat} {f : Nat → Int32} {U U' : State} (h : Txt x t V cd n f U) (hal : U.vm.Alike U'.vm) (hh : U'.heap = U.heap) : Txt x t V cd n f U' := ⟨h.1.mv hal hh, h.2.1.mv hal hh, h.2.2.1.mv hal hh, h.2.2.2.1.mv hal hh, h.2.2.2.2⟩
end StrChars
namespace StrChars.Road
open Jvm Sem ClassFile Op Lib Jvm.Stand Jvm.Free Jvm.Free.XT
open Jvm.Lib.Cold (StaticIs)
theorem consq {a : Array Value} {s : State} {c : Jvm.Cond} {L : List Jvm.Cond} (h0 : c.before a s = true) (h : ∀ w ∈ L, w.before a s = true) : ∀ w ∈ c :: L, w.before a s = true := fun w hw => (List.mem_cons.mp hw).elim (fun e => e ▸ h0) (h w)
/-- the bytes of the chars cs, low before high -/
def wideBytes : List Int32 → List Value
  | [] => []
  | c :: cs => .int (lo8 c) :: .int (hi8 c) :: wideBytes cs
theorem wide_lo (d : Value) : ∀ (cs : List Int32) (j : Nat), j < cs.length → (wideBytes cs).getD (2 * j) d = .int (lo8 (cs.getD j 0))
  | [], j, h => absurd h (Nat.not_lt_zero j)
  | c :: cs, 0, _ => rfl
  | c :: cs, j + 1, h => by
    have q := wide_lo d cs j (by simpa using h)
    rw [show 2 * (j + 1) = 2 * j + 1 + 1 from by omega]
    simpa [wideBytes] using q
theorem wide_hi (d : Value) : ∀ (cs : List Int32) (j : Nat), j < cs.length → (wideBytes cs).getD (2 * j + 1) d = .int (hi8 (cs.getD j 0))
  | [], j, h => absurd h (Nat.not_lt_zero j)
  | c :: cs, 0, _ => rfl
  | c :: cs, j + 1, h => by
    have q := wide_hi d cs j (by simpa using h)
    rw [show 2 * (j + 1) + 1 = 2 * j + 1 + 1 + 1 from by omega]
    simpa [wideBytes] using q
theorem low_at (d : Value) (cs : List Int32) (j : Nat) (h : j < cs.length) : (cs.map fun c => Value.int (lo8 c)).getD j d = .int (lo8 (cs.getD j 0)) := by
  simp [List.getD_eq_getElem?_getD, h]
/-- an array of N2 bytes vs codes the chars cs by the coder cd -/
def CodA (cs : List Int32) (cd N2 : Int32) (vs : List Value) : Prop := (cd = 0 ∧ N2 = Int32.ofNat cs.length ∧ vs = (cs.map fun c => Value.int (lo8 c)) ∧ ∀ c ∈ cs, ¬ 255 < c) ∨ (cd = 1 ∧ N2 = Int32.ofNat (2 * cs.length) ∧ vs = wideBytes cs ∧ ∃ c ∈ cs, 255 < c)
theorem CodA.cod {cs : List Int32} {cd N2 : Int32} {vs : List Value} {V : Cell} (h : CodA cs cd N2 vs) (hn : 2 * cs.length < 2 ^ 31) (hs : V.slots.size = N2.toNatClampNeg) (hv : RoadKit.Has V vs (.int 0)) : Cod cd cs.length (fun j => cs.getD j 0) V := by
  rcases h with ⟨rfl, rfl, rfl, h⟩ | ⟨rfl, rfl, rfl, c, hc, hw⟩
  · rw [n32 (by omega)] at hs
    exact Or.inl ⟨rfl, hs, fun j hj => ⟨by rw [hv j (by omega), low_at _ _ _ hj], by
      have e : cs.getD j 0 = cs[j] := by simp [List.getD_eq_getElem?_getD, hj]
      show ¬ 255 < cs.getD j 0
      rw [e]; exact h _ (List.getElem_mem _)⟩⟩
  · rw [n32 (by omega)] at hs
    obtain ⟨j, hj, rfl⟩ := List.getElem_of_mem hc
    exact Or.inr ⟨rfl, hs, fun j hj => ⟨by rw [hv _ (by omega), wide_lo _ _ _ hj], by rw [hv _ (by omega), wide_hi _ _ _ hj]⟩, j, hj, by
      have e : cs.getD j 0 = cs[j] := by simp [List.getD_eq_getElem?_getD, hj]
      show 255 < cs.getD j 0
      rw [e]; exact hw⟩
/-- an object of exactly java/lang/String, its two fields found: as the laws ask it -/
theorem strObj {Z U : State} {a0 : Array Value} {kI : Nat} (wi : (Jvm.Cond.instantiable ST kI).before a0 Z = true) (al : Z.vm.Alike U.vm) {x : Addr} {v0 c0 : Value} (E : RoadKit.Exa Z U.heap x ST) (V : RoadKit.Fld Z U.heap x ST "value" "[B" v0) (C : RoadKit.Fld Z U.heap x ST "coder" "B" c0) :
    ∃ (D : Cell) (fV fC : Field), Blank ST x D U ∧ Found ST "value" "[B" fV U ∧ Found ST "coder" "B" fC U ∧ D.slots[fV.slot]? = some v0 ∧ D.slots[fC.slot]? = some c0 ∧ RoadKit.slotOf Z ST "value" "[B" = fV.slot ∧ RoadKit.slotOf Z ST "coder" "B" = fC.slot := by
  obtain ⟨D, cfV, kV, iV, fV, hD, gV, stV, knV, obV, asV, slV⟩ := V
  obtain ⟨D', cfC, kC, iC, fC, hD', gC, stC, -, -, asC, slC⟩ := C
  cases hD.symm.trans hD'
  obtain ⟨D2, kD, e1, e2, e3, e4, e5⟩ := E
  cases hD.symm.trans e1
  obtain ⟨c2, k2, i1, i2, i3, -⟩ := Cond.instantiable_spec wi
  cases e2.symm.trans i1
  cases e3.symm.trans i2
  obtain ⟨kU, u1, u2⟩ := al.2.2 _ _ e3
  exact ⟨D, fV, fC, ⟨hD, ⟨knV, fun q hq => by rw [hq] at obV; cases obV⟩, by rw [al.findClass]; exact e2, kU, u1, by rw [u2]; exact i3, by rw [u2]; exact e5 i3⟩, ⟨SBG.found_only al ⟨cfV, kV, iV, gV⟩, stV⟩, ⟨SBG.found_only al ⟨cfC, kC, iC, gC⟩, stC⟩, slV, slC, by simp [RoadKit.slotOf, gV], by simp [RoadKit.slotOf, gC]⟩
theorem sta_is {Z U : State} (al : Z.vm.Alike U.vm) {C n d : String} {v : Value} (S : RoadKit.Sta Z U.heap C n d v) : StaticIs U C n d v := by
  obtain ⟨cfS, iS, kS, fS, st, cS, t1, t2, t3, t4, t5, t6, t7⟩ := S
  exact StaticIs.there (s := { Z with heap := U.heap }) ⟨cfS, iS, kS, fS, st, cS, t1, t2, t3, t4, t5, (fun q => by rw [q] at t6; cases t6), t7⟩ al rfl
end StrChars.Road
namespace StrChars
open Jvm Sem ClassFile Op Lib Jvm.Stand Jvm.Free.XT Jvm.Free.ALB Jvm.Free.JM Jvm.Free
open Jvm.Lib.Cold (StaticIs)
/-- what place i of a byte[]'s cell holds -/
def yv (A : Cell) (i : Nat) : Int32 := match A.slots[i]? with | some (.int x) => x | _ => 0
theorem yv_get {a : Addr} {A : Cell} {U : State} (h : XT.Arr .byte a A U) (ht : Typed .byte A) {i : Nat} (hi : i < A.slots.size) : A.slots[i]? = some (.int (yv A i)) := by
  have e := Array.getElem?_eq_getElem hi
  have f := ht i _ e
  unfold yv; rw [e]
  generalize A.slots[i] = v at f
  cases v <;> simp [fits] at f ⊢
/-- the two arrays are equal, place for place -/
def EqC (A B : Cell) : Prop := A.slots.size = B.slots.size ∧ ∀ i, i < A.slots.size → yv A i = yv B i
/-- a boolean that says whether p -/
def Says01 (q : Prop) (r : Option Value) (s u : State) : Prop := ∃ v : Int32, r = some (.int v) ∧ u.heap = s.heap ∧ ((v = 1 ∧ q) ∨ (v = 0 ∧ ¬ q))
theorem Says01.mv {q : Prop} : ∀ r (U U' V V' : State), U'.heap = U.heap → V.vm.Alike V'.vm → V'.heap = V.heap → Says01 q r U V → Says01 q r U' V' :=
  fun r U U' V V' h1 _ h2 ⟨v, a, b, c⟩ => ⟨v, a, by rw [h1, h2]; exact b, c⟩
namespace LEq
def yN : MethodName := ⟨"java/lang/StringLatin1", "equals", "([B[B)Z"⟩
abbrev yB : ByteArray := jdk_43_method_13_code
theorem d0 : decode yB 0 = .ok (.aload_n 0, 1) := by decide +kernel
theorem d1 : decode yB 1 = .ok (.arraylength, 1) := by decide +kernel
theorem d2 : decode yB 2 = .ok (.aload_n 1, 1) := by decide +kernel
theorem d3 : decode yB 3 = .ok (.arraylength, 1) := by decide +kernel
theorem d4 : decode yB 4 = .ok (.if_icmp (.ne) 30, 3) := by decide +kernel
theorem d7 : decode yB 7 = .ok (.iconst 0, 1) := by decide +kernel
theorem d8 : decode yB 8 = .ok (.istore_n 2, 1) := by decide +kernel
theorem d9 : decode yB 9 = .ok (.iload_n 2, 1) := by decide +kernel
theorem d10 : decode yB 10 = .ok (.aload_n 0, 1) := by decide +kernel
theorem d11 : decode yB 11 = .ok (.arraylength, 1) := by decide +kernel
theorem d12 : decode yB 12 = .ok (.if_icmp (.ge) 20, 3) := by decide +kernel
theorem d15 : decode yB 15 = .ok (.aload_n 0, 1) := by decide +kernel
theorem d16 : decode yB 16 = .ok (.iload_n 2, 1) := by decide +kernel
theorem d17 : decode yB 17 = .ok (.baload, 1) := by decide +kernel
theorem d18 : decode yB 18 = .ok (.aload_n 1, 1) := by decide +kernel
theorem d19 : decode yB 19 = .ok (.iload_n 2, 1) := by decide +kernel
theorem d20 : decode yB 20 = .ok (.baload, 1) := by decide +kernel
theorem d21 : decode yB 21 = .ok (.if_icmp (.eq) 5, 3) := by decide +kernel
theorem d24 : decode yB 24 = .ok (.iconst 0, 1) := by decide +kernel
theorem d25 : decode yB 25 = .ok (.ireturn, 1) := by decide +kernel
theorem d26 : decode yB 26 = .ok (.iinc 2 1, 3) := by decide +kernel
theorem d29 : decode yB 29 = .ok (.goto (-20), 3) := by decide +kernel
theorem d32 : decode yB 32 = .ok (.iconst 1, 1) := by decide +kernel
theorem d33 : decode yB 33 = .ok (.ireturn, 1) := by decide +kernel
theorem d34 : decode yB 34 = .ok (.iconst 0, 1) := by decide +kernel
theorem d35 : decode yB 35 = .ok (.ireturn, 1) := by decide +kernel
def site : List Cond := []
def tab : Cond := tabOf yN yB 3 (some .boolean) site
def P (a : Addr) (A : Cell) (b : Addr) (B : Cell) (args : Array Value) (s : State) : Prop := args = #[.ref a, .ref b] ∧ XT.Arr .byte a A s ∧ Typed .byte A ∧ XT.Arr .byte b B s ∧ Typed .byte B
/-- whether two byte[] are equal, place for place -/
theorem law (l : Launch) (a : Addr) (A : Cell) (b : Addr) (B : Cell) : Law l yN 2 2 0 0 yB 3 (some .boolean) site (P a A b B) (Says01 (EqC A B)) [] 0 0 := by
  refine Law.of_walk (plainFor_of_name (by decide +kernel)) (by decide +kernel) (by decide +kernel) (by decide) (fun _ _ h => by rw [h.1]; rfl) (fun _ U U' hal hh h => ⟨h.1, h.2.1.mv hal hh, h.2.2.1, h.2.2.2.1.mv hal hh, h.2.2.2.2⟩) (fun r U U' V V' h1 hal h2 h => Says01.mv r U U' V V' h1 hal h2 h) ?_
  intro p e s m args below meth c s₁ X0 hexec hbytes hml hret hlk hnm hown hh0 W hP
  obtain ⟨rfl, hA, tA, hB, tB⟩ := hP
  have a31 := hA.2.2.2
  have b31 := hB.2.2.2
  have hA0 := hA.mv X0.warmed.alike hh0
  have hB0 := hB.mv X0.warmed.alike hh0
  have c1 : Steps p.tables e below (s₁.setTop (entryFrame m #[.ref a, .ref b] 3)) (s₁.setTop (mkF m 0 #[.val (.ref a), .val (.ref b), .unset] [])) := entry rfl
  have c2 : Steps p.tables e below (s₁.setTop (entryFrame m #[.ref a, .ref b] 3)) (s₁.setTop (mkF m 4 #[.val (.ref a), .val (.ref b), .unset] [.int (Int32.ofNat B.slots.size), .int (Int32.ofNat A.slots.size)])) := c1.trans (by
    refine XS.aloadN X0.here hexec rfl (hb hbytes d0) rfl rfl ?_
    refine X0.alen hexec hA0 rfl rfl (hb hbytes d1) ?_
    refine XS.aloadN X0.here hexec rfl (hb hbytes d2) rfl rfl ?_
    refine X0.alen hexec hB0 rfl rfl (hb hbytes d3) ?_
    exact Steps.refl _)
  by_cases hs : A.slots.size = B.slots.size
  · have c3 : Steps p.tables e below (s₁.setTop (entryFrame m #[.ref a, .ref b] 3)) (s₁.setTop (mkF m 9 #[.val (.ref a), .val (.ref b), .val (.int 0)] [])) := c2.trans (by
      refine XS.icmpNo X0.here hexec rfl (hb hbytes d4) rfl (ii_ne_f (by rw [hs])) ?_
      refine iconstV X0.here hexec rfl 0 (hb hbytes d7) (by decide) ?_
      refine XS.istoreN X0.here hexec rfl (hb hbytes d8) rfl rfl ?_
      exact Steps.refl _)
    have loop : ∀ (r i : Nat), i + r = A.slots.size → (∀ j, j < i → yv A j = yv B j) → Steps p.tables e below (s₁.setTop (entryFrame m #[.ref a, .ref b] 3)) (s₁.setTop (mkF m 9 #[.val (.ref a), .val (.ref b), .val (.int (Int32.ofNat i))] [])) → ∃ (pc : Nat) (Ls : Array Slot) (v : Int32), (pc = 25 ∨ pc = 33) ∧ ((v = 1 ∧ EqC A B) ∨ (v = 0 ∧ ¬ EqC A B)) ∧ Steps p.tables e below (s₁.setTop (entryFrame m #[.ref a, .ref b] 3)) (s₁.setTop (mkF m pc Ls [.int v])) := by
      intro r
      induction r with
      | zero =>
        intro i hi he cl
        exact ⟨33, _, 1, Or.inr rfl, Or.inl ⟨rfl, hs, fun j hj => he j (by omega)⟩, cl.trans (by
          refine XS.iloadN X0.here hexec rfl (hb hbytes d9) rfl ?_
          refine XS.aloadN X0.here hexec rfl (hb hbytes d10) rfl rfl ?_
          refine X0.alen hexec hA0 rfl rfl (hb hbytes d11) ?_
          refine XS.icmpYes X0.here hexec rfl (pc0 := 12) rfl (hb hbytes d12) rfl (ii_ge_t (nlt32 (by omega) (by omega))) (by decide) rfl ?_
          refine iconstV X0.here hexec rfl 1 (hb hbytes d32) (by decide) ?_
          exact Steps.refl _)⟩
      | succ r ih =>
        intro i hi he cl
        have c4 : Steps p.tables e below (s₁.setTop (entryFrame m #[.ref a, .ref b] 3)) (s₁.setTop (mkF m 21 #[.val (.ref a), .val (.ref b), .val (.int (Int32.ofNat i))] [.int (yv B i), .int (yv A i)])) := cl.trans (by
          refine XS.iloadN X0.here hexec rfl (hb hbytes d9) rfl ?_
          refine XS.aloadN X0.here hexec rfl (hb hbytes d10) rfl rfl ?_
          refine X0.alen hexec hA0 rfl rfl (hb hbytes d11) ?_
          refine XS.icmpNo X0.here hexec rfl (hb hbytes d12) rfl (ii_ge_f (lt32 (by omega) (by omega))) ?_
          refine XS.aloadN X0.here hexec rfl (hb hbytes d15) rfl rfl ?_
          refine XS.iloadN X0.here hexec rfl (hb hbytes d16) rfl ?_
          refine X0.aget hexec hA0 rfl (yv_get hA tA (i := i) (by omega)) rfl rfl (hb hbytes d17) ?_
          refine XS.aloadN X0.here hexec rfl (hb hbytes d18) rfl rfl ?_
          refine XS.iloadN X0.here hexec rfl (hb hbytes d19) rfl ?_
          refine X0.aget hexec hB0 rfl (yv_get hB tB (i := i) (by omega)) rfl rfl (hb hbytes d20) ?_
          exact Steps.refl _)
        by_cases hv : yv A i = yv B i
        · have c5 : Steps p.tables e below (s₁.setTop (entryFrame m #[.ref a, .ref b] 3)) (s₁.setTop (mkF m 9 #[.val (.ref a), .val (.ref b), .val (.int (Int32.ofNat i + 1))] [])) := c4.trans (by
            refine XS.icmpYes X0.here hexec rfl (pc0 := 21) rfl (hb hbytes d21) rfl (ii_eq_t hv) (by decide) rfl ?_
            refine iincV X0.here hexec rfl 1 (hb hbytes d26) (by decide) rfl rfl ?_
            refine XS.goto X0.here hexec rfl (pc0 := 29) rfl (hb hbytes d29) (by decide) rfl ?_
            exact Steps.refl _)
          rw [succ32] at c5
          exact ih (i + 1) (by omega) (fun j hj => by
            by_cases e : j = i
            · rw [e]; exact hv
            · exact he j (by omega)) c5
        · exact ⟨25, _, 0, Or.inl rfl, Or.inr ⟨rfl, fun q => hv (q.2 i (by omega))⟩, c4.trans (by
            refine XS.icmpNo X0.here hexec rfl (hb hbytes d21) rfl (ii_eq_f hv) ?_
            refine iconstV X0.here hexec rfl 0 (hb hbytes d24) (by decide) ?_
            exact Steps.refl _)⟩
    obtain ⟨pc, Ls, v, hpc, hv, cz⟩ := loop A.slots.size 0 (by omega) (fun j hj => absurd hj (Nat.not_lt_zero j)) c3
    have nv : narrow .boolean (.int v) = .int v := by rcases hv with ⟨rfl, -⟩ | ⟨rfl, -⟩ <;> rfl
    rcases hpc with rfl | rfl
    · exact ⟨s₁, some (.int v), _, _, _, X0, rfl, rfl, rfl, (fun h => by cases h), ⟨v, rfl, hh0, hv⟩, fun fs hl => cz.trans (X0.ireturnOut hexec hret nv (Or.inr (Or.inl rfl)) (hb hbytes d25) hl)⟩
    · exact ⟨s₁, some (.int v), _, _, _, X0, rfl, rfl, rfl, (fun h => by cases h), ⟨v, rfl, hh0, hv⟩, fun fs hl => cz.trans (X0.ireturnOut hexec hret nv (Or.inr (Or.inl rfl)) (hb hbytes d33) hl)⟩
  · have c3 : Steps p.tables e below (s₁.setTop (entryFrame m #[.ref a, .ref b] 3)) (s₁.setTop (mkF m 35 #[.val (.ref a), .val (.ref b), .unset] [.int 0])) := c2.trans (by
      refine XS.icmpYes X0.here hexec rfl (pc0 := 4) rfl (hb hbytes d4) rfl (ii_ne_t (ne32 a31 b31 hs)) (by decide) rfl ?_
      refine iconstV X0.here hexec rfl 0 (hb hbytes d34) (by decide) ?_
      exact Steps.refl _)
    exact ⟨s₁, some (.int 0), _, _, _, X0, rfl, rfl, rfl, (fun h => by cases h), ⟨0, rfl, hh0, Or.inr ⟨rfl, fun q => hs q.1⟩⟩, fun fs hl => c3.trans (X0.ireturnOut hexec hret rfl (Or.inr (Or.inl rfl)) (hb hbytes d35) hl)⟩
end LEq
theorem Cod.ty {cd : Int32} {n : Nat} {f : Nat → Int32} {V : Cell} (h : Cod cd n f V) : Typed .byte V := fun i v hv => by
  have hi : i < V.slots.size := (Array.getElem?_eq_some_iff.mp hv).1
  rcases h with ⟨-, k1, k2⟩ | ⟨-, k1, k2, -⟩
  · rw [(k2 i (by omega)).1] at hv; cases hv; exact fits_lo8 _
  · rcases Nat.mod_two_eq_zero_or_one i with e | e
    · obtain ⟨j, rfl⟩ : ∃ j, i = 2 * j := ⟨i / 2, by omega⟩
      rw [(k2 j (by omega)).1] at hv; cases hv; exact fits_lo8 _
    · obtain ⟨j, rfl⟩ : ∃ j, i = 2 * j + 1 := ⟨i / 2, by omega⟩
      rw [(k2 j (by omega)).2] at hv; cases hv; exact fits_lo8 _
/-- the same text -/
def SameT (n : Nat) (f : Nat → Int32) (k : Nat) (g : Nat → Int32) : Prop := n = k ∧ ∀ j, j < n → f j = g j
theorem lo8_inj {x y : Int32} (h0 : ¬ x < 0) (h1 : ¬ 255 < x) (k0 : ¬ y < 0) (k1 : ¬ 255 < y) (h : lo8 x = lo8 y) : x = y := by
  rw [← lo8_mask h0 h1, ← lo8_mask k0 k1, h]
/-- arrays coded by one coder are equal just where the texts are -/
theorem Cod.eqv {cd : Int32} {n k : Nat} {f g : Nat → Int32} {V V' : Cell} (h : Cod cd n f V) (h' : Cod cd k g V') (hf : ∀ j, j < n → ¬ f j < 0 ∧ ¬ 65535 < f j) (hg : ∀ j, j < k → ¬ g j < 0 ∧ ¬ 65535 < g j) : EqC V V' ↔ SameT n f k g := by
  have yvv : ∀ {W : Cell} {i : Nat} {x : Int32}, W.slots[i]? = some (.int x) → yv W i = x := fun q => by unfold yv; rw [q]
  rcases h with ⟨rfl, k1, k2⟩ | ⟨rfl, k1, k2, -⟩
  · rcases h' with ⟨-, m1, m2⟩ | ⟨e, -⟩
    · constructor
      · rintro ⟨e1, e2⟩
        refine ⟨by omega, fun j hj => ?_⟩
        have q := e2 j (by omega)
        rw [yvv (k2 j hj).1, yvv (m2 j (by omega)).1] at q
        exact lo8_inj (hf j hj).1 (k2 j hj).2 (hg j (by omega)).1 (m2 j (by omega)).2 q
      · rintro ⟨rfl, e2⟩
        refine ⟨by omega, fun j hj => ?_⟩
        rw [yvv (k2 j (by omega)).1, yvv (m2 j (by omega)).1, e2 j (by omega)]
    · exact absurd e (by decide)
  · rcases h' with ⟨e, -⟩ | ⟨-, m1, m2, -⟩
    · exact absurd e (by decide)
    · constructor
      · rintro ⟨e1, e2⟩
        refine ⟨by omega, fun j hj => ?_⟩
        have q1 := e2 (2 * j) (by omega)
        have q2 := e2 (2 * j + 1) (by omega)
        rw [yvv (k2 j hj).1, yvv (m2 j (by omega)).1] at q1
        rw [yvv (k2 j hj).2, yvv (m2 j (by omega)).2] at q2
        rw [← pair_says (hf j hj).1 (hf j hj).2, ← pair_says (hg j (by omega)).1 (hg j (by omega)).2, q1, q2]
      · rintro ⟨rfl, e2⟩
        refine ⟨by omega, fun i hi => ?_⟩
        rcases Nat.mod_two_eq_zero_or_one i with e | e
        · obtain ⟨j, rfl⟩ : ∃ j, i = 2 * j := ⟨i / 2, by omega⟩
          rw [yvv (k2 j (by omega)).1, yvv (m2 j (by omega)).1, e2 j (by omega)]
        · obtain ⟨j, rfl⟩ : ∃ j, i = 2 * j + 1 := ⟨i / 2, by omega⟩
          rw [yvv (k2 j (by omega)).2, yvv (m2 j (by omega)).2, e2 j (by omega)]
/-- two codings differ: so do the texts -/
theorem Cod.dif {cd cd' : Int32} {n k : Nat} {f g : Nat → Int32} {V V' : Cell} (h : Cod cd n f V) (h' : Cod cd' k g V') (hne : ¬ cd = cd') : ¬ SameT n f k g := by
  rintro ⟨rfl, e⟩
  rcases h with ⟨rfl, -, k2⟩ | ⟨rfl, -, -, j, hj, hw⟩
  · rcases h' with ⟨rfl, -⟩ | ⟨-, -, -, j, hj, hw⟩
    · exact hne rfl
    · exact (k2 j hj).2 (by rw [e j hj]; exact hw)
  · rcases h' with ⟨-, -, m2⟩ | ⟨rfl, -⟩
    · exact (m2 j hj).2 (by rw [← e j hj]; exact hw)
    · exact hne rfl
/-- an object of exactly C is an instance of C -/
theorem cinst {p : Program} {l : Launch} {e : Env} {R : Room} {s : State} {m : MethodId} {args : Array Value} {below : List Frame} {meth : Method} {c : Code} {T : State} {locs : List Loc} {cells slots : Nat} (X : Stand p l e R s m args below meth c T locs cells slots) (hexec : p.tables.exec = Jvm.exec) {own C : String} {index : Nat} (hown : s.vm.findClass own = some m.cls) (hlink : (Cond.classLink own index C).before args s = true) {a : Addr} (hE : Exact C a T)
    {g : JFrame} (hg : g.method = m) {rest : List Value} (hstack : g.stack = .ref a :: rest) (hdg : decode c.code g.pc = .ok (.instanceof index, 3)) :
    ∃ T', Stand p l e R s m args below meth c T' locs cells slots ∧ T'.heap = T.heap ∧ ∀ target, Steps p.tables e below (T'.setTop { g with pc := g.pc + 3, stack := .int 1 :: rest }) target → Steps p.tables e below (T.setTop g) target := by
  obtain ⟨cB, h1, D, h2, h3, h4⟩ := hE
  have h1' : s.vm.findClass C = some cB := by rw [← X.warmed.alike.findClass]; exact h1
  obtain ⟨vm', X', st⟩ := X.instanceofYes hexec hown hlink h2 h4 h1' (by rw [h3]; exact Jvm.Free.SB.assignable_self _ _) hg hstack hdg
  exact ⟨_, X', rfl, st⟩
theorem cself {p : Program} {l : Launch} {e : Env} {R : Room} {s : State} {m : MethodId} {args : Array Value} {below : List Frame} {meth : Method} {c : Code} {T : State} {locs : List Loc} {cells slots : Nat} (X : Stand p l e R s m args below meth c T locs cells slots) (hexec : p.tables.exec = Jvm.exec) {own C : String} {index : Nat} (hown : s.vm.findClass own = some m.cls) (hlink : (Cond.classLink own index C).before args s = true) {a : Addr} (hE : Exact C a T)
    {g : JFrame} (hg : g.method = m) {rest : List Value} (hstack : g.stack = .ref a :: rest) (hdg : decode c.code g.pc = .ok (.checkcast index, 3)) :
    ∃ T', Stand p l e R s m args below meth c T' locs cells slots ∧ T'.heap = T.heap ∧ ∀ target, Steps p.tables e below (T'.setTop { g with pc := g.pc + 3, stack := .ref a :: rest }) target → Steps p.tables e below (T.setTop g) target := by
  obtain ⟨cB, h1, D, h2, h3, h4⟩ := hE
  have h1' : s.vm.findClass C = some cB := by rw [← X.warmed.alike.findClass]; exact h1
  obtain ⟨vm', X', st⟩ := X.checkcastYes hexec hown hlink h2 h4 h1' (by rw [h3]; exact Jvm.Free.SB.assignable_self _ _) hg hstack hdg
  exact ⟨_, X', rfl, fun t h => st t (by rw [← hstack] at h; exact h)⟩
namespace SEq
def yN : MethodName := ⟨"java/lang/String", "equals", "(Ljava/lang/Object;)Z"⟩
abbrev yB : ByteArray := jdk_42_method_66_code
theorem d0 : decode yB 0 = .ok (.aload_n 0, 1) := by decide +kernel
theorem d1 : decode yB 1 = .ok (.aload_n 1, 1) := by decide +kernel
theorem d2 : decode yB 2 = .ok (.if_acmp (.ne) 5, 3) := by decide +kernel
theorem d5 : decode yB 5 = .ok (.iconst 1, 1) := by decide +kernel
theorem d6 : decode yB 6 = .ok (.ireturn, 1) := by decide +kernel
theorem d7 : decode yB 7 = .ok (.aload_n 1, 1) := by decide +kernel
theorem d8 : decode yB 8 = .ok (.instanceof 10, 3) := by decide +kernel
theorem d11 : decode yB 11 = .ok (.ifCond (.eq) 43, 3) := by decide +kernel
theorem d14 : decode yB 14 = .ok (.aload_n 1, 1) := by decide +kernel
theorem d15 : decode yB 15 = .ok (.checkcast 10, 3) := by decide +kernel
theorem d18 : decode yB 18 = .ok (.astore_n 2, 1) := by decide +kernel
theorem d19 : decode yB 19 = .ok (.getstatic 38, 3) := by decide +kernel
theorem d22 : decode yB 22 = .ok (.ifCond (.eq) 14, 3) := by decide +kernel
theorem d25 : decode yB 25 = .ok (.aload_n 0, 1) := by decide +kernel
theorem d26 : decode yB 26 = .ok (.getfield 15, 3) := by decide +kernel
theorem d29 : decode yB 29 = .ok (.aload_n 2, 1) := by decide +kernel
theorem d30 : decode yB 30 = .ok (.getfield 15, 3) := by decide +kernel
theorem d33 : decode yB 33 = .ok (.if_icmp (.ne) 21, 3) := by decide +kernel
theorem d36 : decode yB 36 = .ok (.aload_n 0, 1) := by decide +kernel
theorem d37 : decode yB 37 = .ok (.getfield 9, 3) := by decide +kernel
theorem d40 : decode yB 40 = .ok (.aload_n 2, 1) := by decide +kernel
theorem d41 : decode yB 41 = .ok (.getfield 9, 3) := by decide +kernel
theorem d44 : decode yB 44 = .ok (.invokestatic 541, 3) := by decide +kernel
theorem d47 : decode yB 47 = .ok (.ifCond (.eq) 7, 3) := by decide +kernel
theorem d50 : decode yB 50 = .ok (.iconst 1, 1) := by decide +kernel
theorem d51 : decode yB 51 = .ok (.goto 4, 3) := by decide +kernel
theorem d54 : decode yB 54 = .ok (.iconst 0, 1) := by decide +kernel
theorem d55 : decode yB 55 = .ok (.ireturn, 1) := by decide +kernel
def site : List Cond := [.classLink "java/lang/String" 10 "java/lang/String", .fieldLink "java/lang/String" 38 "java/lang/String" "COMPACT_STRINGS" "Z", .fieldLink "java/lang/String" 15 "java/lang/String" "coder" "B", .fieldLink "java/lang/String" 9 "java/lang/String" "value" "[B", LEq.tab] ++ staticW "java/lang/String" 541 LEq.yN
def tab : Cond := tabOf yN yB 3 (some .boolean) site
def P (x t : Addr) (V : Cell) (cd : Int32) (n : Nat) (f : Nat → Int32) (y t' : Addr) (V' : Cell) (cd' : Int32) (k : Nat) (g : Nat → Int32) (z : Int32) (args : Array Value) (s : State) : Prop := args = #[.ref x, .ref y] ∧ Txt x t V cd n f s ∧ Txt y t' V' cd' k g s ∧ StaticIs s "java/lang/String" "COMPACT_STRINGS" "Z" (.int z) ∧ ¬ z = 0
/-- equals(Object) of two Strings: whether the texts are the same -/
theorem law (l : Launch) (x t : Addr) (V : Cell) (cd : Int32) (n : Nat) (f : Nat → Int32) (y t' : Addr) (V' : Cell) (cd' : Int32) (k : Nat) (g : Nat → Int32) (z : Int32) : Law l yN 2 1 1 14 yB 3 (some .boolean) site (P x t V cd n f y t' V' cd' k g z) (Says01 (SameT n f k g)) [] 0 0 := by
  refine Law.of_walk (plainFor_of_name (by decide +kernel)) (by decide +kernel) (by decide +kernel) (by decide) (fun _ _ h => by rw [h.1]; rfl) (fun _ U U' hal hh h => ⟨h.1, h.2.1.mv hal hh, h.2.2.1.mv hal hh, h.2.2.2.1.there hal hh, h.2.2.2.2⟩) (fun r U U' V V' h1 hal h2 h => Says01.mv r U U' V V' h1 hal h2 h) ?_
  intro p e s m args below meth c s₁ X0 hexec hbytes hml hret hlk hnm hown hh0 W hP
  obtain ⟨rfl, hx, hy, s1, hz⟩ := hP
  have c1 : Steps p.tables e below (s₁.setTop (entryFrame m #[.ref x, .ref y] 3)) (s₁.setTop (mkF m 2 #[.val (.ref x), .val (.ref y), .unset] [.ref y, .ref x])) := Steps.trans (entry rfl) (by
    show Steps p.tables e below (s₁.setTop (mkF m 0 #[.val (.ref x), .val (.ref y), .unset] [])) _
    refine XS.aloadN X0.here hexec rfl (hb hbytes d0) rfl rfl ?_
    refine XS.aloadN X0.here hexec rfl (hb hbytes d1) rfl rfl ?_
    exact Steps.refl _)
  by_cases hxy : x = y
  · have c2 : Steps p.tables e below (s₁.setTop (entryFrame m #[.ref x, .ref y] 3)) (s₁.setTop (mkF m 6 #[.val (.ref x), .val (.ref y), .unset] [.int 1])) := c1.trans (by
      refine acmpNo X0.here hexec rfl (hb hbytes d2) rfl rfl rfl (by simp [acmp, hxy]) ?_
      refine iconstV X0.here hexec rfl 1 (hb hbytes d5) (by decide) ?_
      exact Steps.refl _)
    subst hxy
    have ec : cd = cd' := by
      obtain ⟨D, fd, a1, a2, a3⟩ := hx.2.2.1
      obtain ⟨D', fd', b1, b2, b3⟩ := hy.2.2.1
      cases a1.symm.trans b1
      obtain ⟨q1, q2, q3, q4⟩ := a2.1
      obtain ⟨r1, r2, r3, r4⟩ := b2.1
      cases q4.symm.trans r4
      cases a3.symm.trans b3; rfl
    have et : t = t' := by
      obtain ⟨D, fd, a1, a2, a3⟩ := hx.2.1
      obtain ⟨D', fd', b1, b2, b3⟩ := hy.2.1
      cases a1.symm.trans b1
      obtain ⟨q1, q2, q3, q4⟩ := a2.1
      obtain ⟨r1, r2, r3, r4⟩ := b2.1
      cases q4.symm.trans r4
      cases a3.symm.trans b3; rfl
    subst ec et
    have ev : V = V' := by cases hx.2.2.2.1.1.symm.trans hy.2.2.2.1.1; rfl
    subst ev
    have hs : SameT n f k g := (Cod.eqv hx.2.2.2.2.1 hy.2.2.2.2.1 hx.2.2.2.2.2 hy.2.2.2.2.2).mp ⟨rfl, fun _ _ => rfl⟩
    exact ⟨s₁, some (.int 1), _, _, _, X0, rfl, rfl, rfl, (fun h => by cases h), ⟨1, rfl, hh0, Or.inl ⟨rfl, hs⟩⟩, fun fs hl => c2.trans (X0.ireturnOut hexec hret rfl (Or.inr (Or.inl rfl)) (hb hbytes d6) hl)⟩
  · have c2 : Steps p.tables e below (s₁.setTop (entryFrame m #[.ref x, .ref y] 3)) (s₁.setTop (mkF m 8 #[.val (.ref x), .val (.ref y), .unset] [.ref y])) := c1.trans (by
      refine acmpYes X0.here hexec rfl (pc0 := 2) rfl (hb hbytes d2) rfl rfl rfl (by simp [acmp, hxy]) (by decide) rfl ?_
      refine XS.aloadN X0.here hexec rfl (hb hbytes d7) rfl rfl ?_
      exact Steps.refl _)
    obtain ⟨T3, X3, q3, st3⟩ := cinst X0 hexec hown (wk W (.classLink "java/lang/String" 10 "java/lang/String")) (hy.mv X0.warmed.alike hh0).1 (g := (mkF m 8 #[.val (.ref x), .val (.ref y), .unset] [.ref y])) rfl (rest := []) rfl (hb hbytes d8)
    have hh3 := q3.trans hh0
    have c4 : Steps p.tables e below (s₁.setTop (entryFrame m #[.ref x, .ref y] 3)) (T3.setTop (mkF m 15 #[.val (.ref x), .val (.ref y), .unset] [.ref y])) := (c2.trans (st3 _ (Steps.refl _))).trans (by
      refine XS.ifNo X3.here hexec rfl (hb hbytes d11) rfl (i0_eq_f (by decide)) ?_
      refine XS.aloadN X3.here hexec rfl (hb hbytes d14) rfl rfl ?_
      exact Steps.refl _)
    obtain ⟨T5, X5, q5, st5⟩ := cself X3 hexec hown (wk W (.classLink "java/lang/String" 10 "java/lang/String")) (hy.mv X3.warmed.alike hh3).1 (g := (mkF m 15 #[.val (.ref x), .val (.ref y), .unset] [.ref y])) rfl (rest := []) rfl (hb hbytes d15)
    have hh5 := q5.trans hh3
    have c6 : Steps p.tables e below (s₁.setTop (entryFrame m #[.ref x, .ref y] 3)) (T5.setTop (mkF m 19 #[.val (.ref x), .val (.ref y), .val (.ref y)] [])) := (c4.trans (st5 _ (Steps.refl _))).trans (by
      refine XS.astoreN X5.here hexec rfl (hb hbytes d18) rfl rfl rfl ?_
      exact Steps.refl _)
    obtain ⟨T7, X7, q7, st7⟩ := X5.sget hexec hown (wk W (.fieldLink "java/lang/String" 38 "java/lang/String" "COMPACT_STRINGS" "Z")) s1 (fun _ _ h => by rw [hh5]; exact h) (g := (mkF m 19 #[.val (.ref x), .val (.ref y), .val (.ref y)] [])) rfl (hb hbytes d19)
    have hh7 := q7.trans hh5
    have c8 : Steps p.tables e below (s₁.setTop (entryFrame m #[.ref x, .ref y] 3)) (T7.setTop (mkF m 26 #[.val (.ref x), .val (.ref y), .val (.ref y)] [.ref x])) := (c6.trans (st7 _ (Steps.refl _))).trans (by
      refine XS.ifNo X7.here hexec rfl (hb hbytes d22) rfl (i0_eq_f hz) ?_
      refine XS.aloadN X7.here hexec rfl (hb hbytes d25) rfl rfl ?_
      exact Steps.refl _)
    obtain ⟨T9, X9, q9, st9⟩ := X7.hget hexec hown (wk W (.fieldLink "java/lang/String" 15 "java/lang/String" "coder" "B")) (hx.mv X7.warmed.alike hh7).2.2.1 (g := (mkF m 26 #[.val (.ref x), .val (.ref y), .val (.ref y)] [.ref x])) rfl (rest := []) rfl (hb hbytes d26)
    have hh9 := q9.trans hh7
    have c10 : Steps p.tables e below (s₁.setTop (entryFrame m #[.ref x, .ref y] 3)) (T9.setTop (mkF m 30 #[.val (.ref x), .val (.ref y), .val (.ref y)] [.ref y, .int cd])) := (c8.trans (st9 _ (Steps.refl _))).trans (by
      refine XS.aloadN X9.here hexec rfl (hb hbytes d29) rfl rfl ?_
      exact Steps.refl _)
    obtain ⟨T11, X11, q11, st11⟩ := X9.hget hexec hown (wk W (.fieldLink "java/lang/String" 15 "java/lang/String" "coder" "B")) (hy.mv X9.warmed.alike hh9).2.2.1 (g := (mkF m 30 #[.val (.ref x), .val (.ref y), .val (.ref y)] [.ref y, .int cd])) rfl (rest := [.int cd]) rfl (hb hbytes d30)
    have hh11 := q11.trans hh9
    have c12 : Steps p.tables e below (s₁.setTop (entryFrame m #[.ref x, .ref y] 3)) (T11.setTop (mkF m 33 #[.val (.ref x), .val (.ref y), .val (.ref y)] [.int cd', .int cd])) := c10.trans (st11 _ (Steps.refl _))
    by_cases hcd : cd = cd'
    · subst hcd
      have c13 : Steps p.tables e below (s₁.setTop (entryFrame m #[.ref x, .ref y] 3)) (T11.setTop (mkF m 37 #[.val (.ref x), .val (.ref y), .val (.ref y)] [.ref x])) := c12.trans (by
        refine XS.icmpNo X11.here hexec rfl (hb hbytes d33) rfl (ii_ne_f rfl) ?_
        refine XS.aloadN X11.here hexec rfl (hb hbytes d36) rfl rfl ?_
        exact Steps.refl _)
      obtain ⟨T14, X14, q14, st14⟩ := X11.hget hexec hown (wk W (.fieldLink "java/lang/String" 9 "java/lang/String" "value" "[B")) (hx.mv X11.warmed.alike hh11).2.1 (g := (mkF m 37 #[.val (.ref x), .val (.ref y), .val (.ref y)] [.ref x])) rfl (rest := []) rfl (hb hbytes d37)
      have hh14 := q14.trans hh11
      have c15 : Steps p.tables e below (s₁.setTop (entryFrame m #[.ref x, .ref y] 3)) (T14.setTop (mkF m 41 #[.val (.ref x), .val (.ref y), .val (.ref y)] [.ref y, .ref t])) := (c13.trans (st14 _ (Steps.refl _))).trans (by
        refine XS.aloadN X14.here hexec rfl (hb hbytes d40) rfl rfl ?_
        exact Steps.refl _)
      obtain ⟨T16, X16, q16, st16⟩ := X14.hget hexec hown (wk W (.fieldLink "java/lang/String" 9 "java/lang/String" "value" "[B")) (hy.mv X14.warmed.alike hh14).2.1 (g := (mkF m 41 #[.val (.ref x), .val (.ref y), .val (.ref y)] [.ref y, .ref t])) rfl (rest := [.ref t]) rfl (hb hbytes d41)
      have hh16 := q16.trans hh14
      have c17 : Steps p.tables e below (s₁.setTop (entryFrame m #[.ref x, .ref y] 3)) (T16.setTop (mkF m 44 #[.val (.ref x), .val (.ref y), .val (.ref y)] [.ref t', .ref t])) := c15.trans (st16 _ (Steps.refl _))
      obtain ⟨v18, T18, X18, E18, g18⟩ := X16.callS hexec (LEq.law l t V t' V') hown (wks W (staticW "java/lang/String" 541 LEq.yN)) (wk W LEq.tab) (W := 0) (Nat.le_of_ble_eq_true rfl) (Nat.le_of_ble_eq_true rfl) (Nat.le_refl _) (Nat.le_refl _) (g := (mkF m 44 #[.val (.ref x), .val (.ref y), .val (.ref y)] [.ref t', .ref t])) rfl (by rw [hml]; rfl) c17 (argsL := [.ref t, .ref t']) (rest := []) rfl rfl (by show 2 * 0 + 0 ≤ _; decide) (hb hbytes d44) (⟨rfl, hx.2.2.2.1.mv X16.warmed.alike hh16, hx.2.2.2.2.1.ty, hy.2.2.2.1.mv X16.warmed.alike hh16, hy.2.2.2.2.1.ty⟩)
      obtain ⟨v, rfl, q18, hv⟩ := E18
      have iff := Cod.eqv hx.2.2.2.2.1 hy.2.2.2.2.1 hx.2.2.2.2.2 hy.2.2.2.2.2
      rcases hv with ⟨rfl, he⟩ | ⟨rfl, he⟩
      · have c19 : Steps p.tables e below (s₁.setTop (entryFrame m #[.ref x, .ref y] 3)) (T18.setTop (mkF m 55 #[.val (.ref x), .val (.ref y), .val (.ref y)] [.int 1])) := Steps.trans g18 (by
          refine XS.ifNo X18.here hexec rfl (hb hbytes d47) rfl (i0_eq_f (by decide)) ?_
          refine iconstV X18.here hexec rfl 1 (hb hbytes d50) (by decide) ?_
          refine XS.goto X18.here hexec rfl (pc0 := 51) rfl (hb hbytes d51) (by decide) rfl ?_
          exact Steps.refl _)
        exact ⟨T18, some (.int 1), _, _, _, X18, rfl, rfl, rfl, (fun h => by cases h), ⟨1, rfl, q18.trans hh16, Or.inl ⟨rfl, iff.mp he⟩⟩, fun fs hl => c19.trans (X18.ireturnOut hexec hret rfl (Or.inr (Or.inl rfl)) (hb hbytes d55) hl)⟩
      · have c19 : Steps p.tables e below (s₁.setTop (entryFrame m #[.ref x, .ref y] 3)) (T18.setTop (mkF m 55 #[.val (.ref x), .val (.ref y), .val (.ref y)] [.int 0])) := Steps.trans g18 (by
          refine XS.ifYes X18.here hexec rfl (pc0 := 47) rfl (hb hbytes d47) rfl (i0_eq_t rfl) (by decide) rfl ?_
          refine iconstV X18.here hexec rfl 0 (hb hbytes d54) (by decide) ?_
          exact Steps.refl _)
        exact ⟨T18, some (.int 0), _, _, _, X18, rfl, rfl, rfl, (fun h => by cases h), ⟨0, rfl, q18.trans hh16, Or.inr ⟨rfl, fun q => he (iff.mpr q)⟩⟩, fun fs hl => c19.trans (X18.ireturnOut hexec hret rfl (Or.inr (Or.inl rfl)) (hb hbytes d55) hl)⟩
    · have c13 : Steps p.tables e below (s₁.setTop (entryFrame m #[.ref x, .ref y] 3)) (T11.setTop (mkF m 55 #[.val (.ref x), .val (.ref y), .val (.ref y)] [.int 0])) := c12.trans (by
        refine XS.icmpYes X11.here hexec rfl (pc0 := 33) rfl (hb hbytes d33) rfl (ii_ne_t hcd) (by decide) rfl ?_
        refine iconstV X11.here hexec rfl 0 (hb hbytes d54) (by decide) ?_
        exact Steps.refl _)
      exact ⟨T11, some (.int 0), _, _, _, X11, rfl, rfl, rfl, (fun h => by cases h), ⟨0, rfl, hh11, Or.inr ⟨rfl, Cod.dif hx.2.2.2.2.1 hy.2.2.2.2.1 hcd⟩⟩, fun fs hl => c13.trans (X11.ireturnOut hexec hret rfl (Or.inr (Or.inl rfl)) (hb hbytes d55) hl)⟩
theorem pays {l : Launch} {R : Room} {p : Program} {e : Env} {below : List Frame} {s : State} {sargs : Array Value} {len W : Nat} (x t : Addr) (V : Cell) (cd : Int32) (n : Nat) (f : Nat → Int32) (y t' : Addr) (V' : Cell) (cd' : Int32) (k : Nat) (g : Nat → Int32) (z : Int32) (htab : tab.before sargs s = true) (hfr : 2 ≤ R.frames) (hlo : W + 28 ≤ R.locals) :
    Back l R p e below s sargs yN len W (fun A₁ a₁ => A₁.cells + 0 ≤ R.cells ∧ A₁.slots + 0 ≤ R.slots ∧ P x t V cd n f y t' V' cd' k g z a₁ A₁.U) (fun A₁ _ v₁ B₁ => Says01 (SameT n f k g) v₁ A₁.U B₁.U ∧ B₁.locs = A₁.locs ++ [] ∧ B₁.cells = A₁.cells + 0 ∧ B₁.slots = A₁.slots + 0) :=
  (law l x t V cd n f y t' V' cd' k g z).pays htab hfr (by omega)
end SEq
end StrChars
namespace StrChars.Road
open Jvm Sem ClassFile Op Lib Jvm.Stand Jvm.Free Jvm.Free.XT
open Jvm.Lib.Cold (StaticIs)
/-- the words of String.equals(Object) -/
abbrev wordsEq : List Jvm.Cond := [.code SEq.yN SEq.yB 3 (some .boolean), .initialized ST, .classLink ST 10 ST, .fieldLink ST 38 ST "COMPACT_STRINGS" "Z", .fieldLink ST 15 ST "coder" "B", .fieldLink ST 9 ST "value" "[B", .methodLink ST 541 LEq.yN, .static LEq.yN, .code LEq.yN LEq.yB 3 (some .boolean), .initialized "java/lang/StringLatin1"]
theorem tabEq_of {a : Array Value} {s : State} (h : ∀ w ∈ wordsEq, w.before a s = true) : SEq.tab.before a s = true := by
  have hl : LEq.tab.before a s = true := unparts (wk h (.code LEq.yN LEq.yB 3 (some .boolean))) (wks h (.initialized LEq.yN.cls :: LEq.site))
  have q := consq hl h
  exact unparts (wk q (.code SEq.yN SEq.yB 3 (some .boolean))) (wks q (.initialized SEq.yN.cls :: SEq.site))
theorem movedEq {Z s : State} {a0 args : Array Value} (hZ : Z.Warmed39 s.vm) (hw : ∀ d ∈ wordsEq, d.before a0 Z = true) : ∀ d ∈ wordsEq, d.before args s = true := fun d hd => by
  have t : ∀ d ∈ wordsEq, (d.onTables && d.keepsFace) = true := by decide +kernel
  exact RoadKit.mv hZ (hw d hd) (t d hd)
/-- the road's facts of a String, as the laws ask it -/
theorem txt_of {Z U : State} {a0 : Array Value} {kI : Nat} (wi : (Jvm.Cond.instantiable ST kI).before a0 Z = true) (al : Z.vm.Alike U.vm) {x t : Addr} {kb : ClassId} {cs : List Int32} {cd N2 : Int32} {vs : List Value} (E : RoadKit.Exa Z U.heap x ST) (V : RoadKit.Fld Z U.heap x ST "value" "[B" (.ref t)) (C : RoadKit.Fld Z U.heap x ST "coder" "B" (.int cd)) (K : RoadKit.Arv Z U.heap t kb .byte N2 vs (.int 0)) (hc : CodA cs cd N2 vs) (hb : ∀ c ∈ cs, ¬ c < 0 ∧ ¬ (65535 : Int32) < c) (l2 : cs.length ≤ 4000) :
    ∃ A, Txt x t A cd cs.length (fun j => cs.getD j 0) U := by
  obtain ⟨A, K1, K2, K3, K4, K5, K6⟩ := K
  have hcod := hc.cod (by omega) K3 K5
  obtain ⟨D, fV, fC, hB, F1, F2, g1, g2, -, -⟩ := strObj wi al E V C
  exact ⟨A, ⟨_, hB.2.2.1, D, hB.1, rfl, by cases q : D.vm <;> first | rfl | exact absurd q (hB.2.1.2 _)⟩, Has.of hB F1 g1, Has.of hB F2 g2, ⟨K1.1, State.isArrayOf_alike al K1.2.1, K1.2.2, by rcases hcod with ⟨-, q, -⟩ | ⟨-, q, -⟩ <;> omega⟩, hcod, fun j hj => by
    have e : cs.getD j 0 = cs[j] := by simp [List.getD_eq_getElem?_getD, hj]
    show ¬ cs.getD j 0 < 0 ∧ ¬ 65535 < cs.getD j 0
    rw [e]; exact hb _ (List.getElem_mem _)⟩
theorem same_list (cs ds : List Int32) : SameT cs.length (fun j => cs.getD j 0) ds.length (fun j => ds.getD j 0) ↔ cs = ds := by
  constructor
  · rintro ⟨e, q⟩
    refine List.ext_getElem e fun j h1 h2 => ?_
    have := q j h1
    simpa [List.getD_eq_getElem?_getD, h1, h2] using this
  · rintro rfl
    exact ⟨rfl, fun _ _ => rfl⟩
/-- **equals(Object) OF TWO SUCH STRINGS**: 1 just where the chars are the same -/
theorem eqW {p : Program} {l : Launch} {e : Env} {R : Room} {s : State} {args : Array Value} {below : List Frame} {len W : Nat} {Z : State} {a0 : Array Value} {h : Heap} (hZ : Z.Warmed39 s.vm) (hw : ∀ d ∈ wordsEq, d.before a0 Z = true) {kI : Nat} (wi : (Jvm.Cond.instantiable ST kI).before a0 Z = true)
    {x t : Addr} {kb : ClassId} {cs : List Int32} {cd N2 : Int32} {vs : List Value} (E : RoadKit.Exa Z h x ST) (V : RoadKit.Fld Z h x ST "value" "[B" (.ref t)) (C : RoadKit.Fld Z h x ST "coder" "B" (.int cd)) (K : RoadKit.Arv Z h t kb .byte N2 vs (.int 0)) (hc : CodA cs cd N2 vs) (hb : ∀ c ∈ cs, ¬ c < 0 ∧ ¬ (65535 : Int32) < c) (l2 : cs.length ≤ 4000)
    {y t' : Addr} {kb' : ClassId} {ds : List Int32} {cd' N2' : Int32} {vs' : List Value} (E' : RoadKit.Exa Z h y ST) (V' : RoadKit.Fld Z h y ST "value" "[B" (.ref t')) (C' : RoadKit.Fld Z h y ST "coder" "B" (.int cd')) (K' : RoadKit.Arv Z h t' kb' .byte N2' vs' (.int 0)) (hc' : CodA ds cd' N2' vs') (hb' : ∀ c ∈ ds, ¬ c < 0 ∧ ¬ (65535 : Int32) < c) (l2' : ds.length ≤ 4000)
    {z : Int32} (S : RoadKit.Sta Z h ST "COMPACT_STRINGS" "Z" (.int z)) (hz : ¬ z = 0) (hfr : 2 ≤ R.frames) (hlo : W + 28 ≤ R.locals) :
    Back l R p e below s args (⟨"java/lang/String", "equals", "(Ljava/lang/Object;)Z"⟩ : MethodName) len W (fun P a => a = #[.ref x, .ref y] ∧ P.U.heap = h ∧ P.cells + 0 ≤ R.cells ∧ P.slots + 0 ≤ R.slots)
      (fun P _ v B => ∃ L, (((v = some (.int 1) ∧ cs = ds) ∨ (v = some (.int 0) ∧ ¬ cs = ds)) ∧ L = [] ∧ B.U.heap = h) ∧ B.locs = P.locs ++ L ∧ B.cells = P.cells + 0 ∧ B.slots = P.slots + 0) := by
  intro m meth c P g ig mk a X hg hsize hdg hW hn hp'
  obtain ⟨rfl, rfl, r1, r2⟩ := hp'
  have al : Z.vm.Alike P.U.vm := hZ.alike.trans X.warmed.alike
  obtain ⟨A, hx⟩ := txt_of wi al E V C K hc hb l2
  obtain ⟨A', hy⟩ := txt_of wi al E' V' C' K' hc' hb' l2'
  obtain ⟨v, B, X', ⟨⟨w, hv, hh, hq⟩, hl, hk, hs⟩, st⟩ := SEq.pays x t A cd cs.length (fun j => cs.getD j 0) y t' A' cd' ds.length (fun j => ds.getD j 0) z (tabEq_of (movedEq hZ hw)) hfr hlo m meth c P g ig mk _ X hg hsize hdg hW hn ⟨r1, r2, rfl, hx, hy, sta_is al S, hz⟩
  refine ⟨v, B, X', ⟨[], ⟨?_, rfl, hh⟩, hl, hk, hs⟩, st⟩
  rcases hq with ⟨rfl, q⟩ | ⟨rfl, q⟩
  · exact Or.inl ⟨hv, (same_list cs ds).mp q⟩
  · exact Or.inr ⟨hv, fun e => q ((same_list cs ds).mpr e)⟩
end StrChars.Road
end Jvm.Pilot.@@N@@
namespace Jvm.Pilot.@@N@@
open Jvm Jvm.ClassFile Sem Op Lib Jvm.Free Jvm.Stand Jvm.LawKit Jvm.RoadKit Bundle Jvm.Own Jvm.Pilot.@@N@@.Jvm.D
/-- at x a String whose chars are cs, its bytes at t -/
def Str (Z : State) (h : Heap) (x t : Addr) (cs : List Int32) : Prop := Exa Z h x "java/lang/String" ∧ Fld Z h x "java/lang/String" "value" "[B" (.ref t) ∧
  ∃ (cd N2 : Int32) (vs : List Value) (kb : ClassId), Fld Z h x "java/lang/String" "coder" "B" (.int cd) ∧ Arv Z h t kb .byte N2 vs (.int 0) ∧ StrChars.Road.CodA cs cd N2 vs ∧ (∀ c ∈ cs, ¬ c < 0 ∧ ¬ (65535 : Int32) < c) ∧ cs.length ≤ 4000
section StrFacts
variable {Z : State} {h h' : Heap} {x t a : Addr} {cs : List Int32} {sl : Nat} {v : Value} {ws : List Addr}
theorem Str.exa (S : Str Z h x t cs) : Exa Z h x "java/lang/String" := S.1
theorem Str.lt (S : Str Z h x t cs) : @LT.lt Nat _ x h.size := S.1.lt
theorem Str.lt' (S : Str Z h x t cs) : @LT.lt Nat _ t h.size := by obtain ⟨-, -, _, _, _, _, -, A, -⟩ := S; exact A.lt
theorem Str.ext (S : Str Z h x t cs) (E : Ext h h') : Str Z h' x t cs := by
  obtain ⟨s1, s2, cd, N2, vs, kb, s3, s4, r⟩ := S; exact ⟨s1.ext E, s2.ext E, cd, N2, vs, kb, s3.ext E, s4.ext E, r⟩
theorem Str.keep (S : Str Z h x t cs) (K : Keep h h' ws) (q : x ∉ ws ∧ t ∉ ws) : Str Z h' x t cs := by
  obtain ⟨s1, s2, cd, N2, vs, kb, s3, s4, r⟩ := S; exact ⟨s1.keep K, s2.keep K q.1, cd, N2, vs, kb, s3.keep K q.1, s4.keep K q.2, r⟩
theorem Str.wr (S : Str Z h x t cs) (W : Wr h h' a sl v) (q : x ≠ a ∧ t ≠ a) : Str Z h' x t cs := S.keep (Keep.of_wr W) ⟨ninS q.1 nin0, ninS q.2 nin0⟩
theorem Str.mk0 {kb : ClassId} {N2 : Int32} {vs : List Value} (E : Exa Z h x "java/lang/String") (V : Fld Z h x "java/lang/String" "value" "[B" (.ref t)) (C : Fld Z h x "java/lang/String" "coder" "B" (.int 0)) (A : Arv Z h t kb .byte N2 vs (.int 0)) (hN : N2 = Int32.ofNat cs.length) (hv : vs = cs.map fun c => .int (StrChars.lo8 c)) (hb : ∀ c ∈ cs, ¬ c < 0 ∧ ¬ (255 : Int32) < c) (hl : cs.length ≤ 4000) : Str Z h x t cs :=
  ⟨E, V, 0, N2, vs, kb, C, A, Or.inl ⟨rfl, hN, hv, fun c hc => (hb c hc).2⟩, fun c hc => ⟨(hb c hc).1, fun w => (hb c hc).2 (Int32.lt_trans (by decide) w)⟩, hl⟩
end StrFacts
theorem own_eq {p : Program} {l : Launch} {e : Env} {R : Room} {s : State} {args : Array Value} {below : List Frame} {W : Nat} {Z : State} {a0 : Array Value} {h : Heap} {kI : Nat} {x t y t' : Addr} {cs ds : List Int32} {z : Int32} (hZ : Z.Warmed39 s.vm) (hw : ∀ d ∈ StrChars.Road.wordsEq, d.before a0 Z = true) (wi : (Jvm.Cond.instantiable "java/lang/String" kI).before a0 Z = true)
    (S : Str Z h x t cs) (S' : Str Z h y t' ds) (SC : Sta Z h "java/lang/String" "COMPACT_STRINGS" "Z" (.int z)) (hz : ¬ z = 0) (hfr : 2 ≤ R.frames) (hlo : W + 28 ≤ R.locals) :
    Back l R p e below s args (⟨"java/lang/String", "equals", "(Ljava/lang/Object;)Z"⟩ : MethodName) 3 W (fun A a => a = #[.ref x, .ref y] ∧ A.U.heap = h ∧ A.cells + 0 ≤ R.cells ∧ A.slots + 0 ≤ R.slots)
      (fun A _ v B => ∃ L, (v = some (.int (if cs = ds then 1 else 0)) ∧ L = [] ∧ h = B.U.heap) ∧ B.locs = A.locs ++ L ∧ B.cells = A.cells + 0 ∧ B.slots = A.slots + 0) := by
  obtain ⟨s1, s2, cd, N2, vs, kb, s3, s4, s5, s6, s7⟩ := S
  obtain ⟨r1, r2, cd', N2', vs', kb', r3, r4, r5, r6, r7⟩ := S'
  refine Back.mono (StrChars.Road.eqW hZ hw wi s1 s2 s3 s4 s5 s6 s7 r1 r2 r3 r4 r5 r6 r7 SC hz hfr hlo) (fun P a hp => hp) (fun P a v B hp hq => ?_)
  obtain ⟨L, ⟨q1, q2, q3⟩, r⟩ := hq
  refine ⟨L, ⟨?_, q2, q3.symm⟩, r⟩
  rcases q1 with ⟨q, e⟩ | ⟨q, e⟩
  · rw [q, if_pos e]
  · rw [q, if_neg e]
theorem mask255 (x : Int32) : ∃ k : Fin 256, x &&& (255 : Int32) = Int32.ofNat k.val := by
  have h : (x &&& 255).toBitVec.toNat < 256 := by
    simp only [Int32.toBitVec_and, BitVec.toNat_and]
    exact Nat.lt_succ_of_le Nat.and_le_right
  refine ⟨⟨_, h⟩, ?_⟩
  apply Int32.toBitVec_inj.mp
  show _ = BitVec.ofNat 32 _
  rw [BitVec.ofNat_toNat]; simp
theorem c8 (x : Int32) : nar .char ((x &&& (255 : Int32)).toUInt32.toUInt16.toUInt32.toInt32) = x &&& (255 : Int32) := by
  have t : ∀ k : Fin 256, nar .char ((Int32.ofNat k.val).toUInt32.toUInt16.toUInt32.toInt32) = Int32.ofNat k.val := by decide +kernel
  obtain ⟨k, e⟩ := mask255 x
  rw [e]; exact t k
theorem lo255 (x : Int32) : ¬ (x &&& (255 : Int32)) < 0 ∧ ¬ (255 : Int32) < (x &&& (255 : Int32)) := by
  have t : ∀ k : Fin 256, ¬ (Int32.ofNat k.val) < 0 ∧ ¬ (255 : Int32) < (Int32.ofNat k.val) := by decide +kernel
  obtain ⟨k, e⟩ := mask255 x
  rw [e]; exact t k
theorem own_new {p : Program} {l : Launch} {e : Env} {R : Room} {s : State} {args : Array Value} {below : List Frame} {W : Nat} {Z : State} {a0 : Array Value} {h : Heap} {kI : Nat} {x b : Addr} {kC : ClassId} {d v0 c0 : Value} {z N : Int32} {n0 : Nat} (cs : List Int32) (n : Nat) (hZ : Z.Warmed39 s.vm) (hw : ∀ d ∈ StrChars.Road.words, d.before a0 Z = true) (wi : (Jvm.Cond.instantiable "java/lang/String" kI).before a0 Z = true)
    (hx0 : n0 ≤ x) (hh0 : n0 ≤ h.size) (E : Exa Z h x "java/lang/String") (V : Fld Z h x "java/lang/String" "value" "[B" v0) (C : Fld Z h x "java/lang/String" "coder" "B" c0) (K : Arv Z h b kC .char N (cs.map Value.int) d) (S : Sta Z h "java/lang/String" "COMPACT_STRINGS" "Z" (.int z)) (hz : ¬ z = 0)
    (hn : cs.length = n) (hN : N = Int32.ofNat n) (l0 : 0 < n) (l2 : n ≤ 4000) (hp : ∀ c ∈ cs, ¬ c < 0 ∧ ¬ (255 : Int32) < c) (hfr : 4 ≤ R.frames) (hlo : W + 65 ≤ R.locals) :
    Back l R p e below s args (⟨"java/lang/String", "<init>", "([C)V"⟩ : MethodName) 3 W (fun P a => a = #[.ref x, .ref b] ∧ P.U.heap = h ∧ P.cells + 1 ≤ R.cells ∧ P.slots + n ≤ R.slots)
      (fun P _ v B => ∃ L, (v = none ∧ Fr n0 L ∧ Keep h B.U.heap [x] ∧ ∃ t : Addr, @Eq Nat t h.size ∧ Str Z B.U.heap x t cs) ∧ B.locs = P.locs ++ L ∧ B.cells = P.cells + 1 ∧ B.slots = P.slots + n) := by
  subst hn hN
  refine Back.mono (StrChars.Road.backArv hZ hw wi E V C K S hz (Int32.toNatClampNeg_ofNat_of_lt (by omega)) l0 (by omega) (fun c hc => (hp c hc).2) hfr hlo) (fun P a hp => hp) (fun P a v B hp' hq => ?_)
  obtain ⟨L, ⟨q1, q2, q3, q4, q5, q6, q7, ⟨kb, v1, v2⟩, q9⟩, hl, hc, hs⟩ := hq
  exact ⟨L, ⟨q1, fun y hy => by rw [q2 y hy]; exact hx0, q3, h.size, rfl, q5, q6, 0, _, _, kb, q7, v2, Or.inl ⟨rfl, rfl, rfl, fun c hc => (hp c hc).2⟩, fun c hc => ⟨(hp c hc).1, fun w => (hp c hc).2 (Int32.lt_trans (by decide) w)⟩, l2⟩, hl, hc, hs⟩
section StartF
variable {args : Array Value} {s : State} {a b t : Term} {e x : Addr} {k z : Int32}
theorem eq_ref (h : (Cond.eq a b).value args s none s [] = some true) (hb : b.eval args s none [] s = some (.ref e)) : a.eval args s none [] s = some (.ref e) := by
  obtain ⟨u, v, hu, hv, h1, h2⟩ := cmp_v (Or.inl h)
  cases hb.symm.trans hv
  obtain ⟨-, r⟩ : Kin (.ref e) u := h2
  rw [eq_R hu hb r rfl] at h
  rw [hu]
  exact congrArg some (of_decide_eq_true (Option.some.inj h))
theorem eq_int (h : (Cond.eq a (.int k)).value args s none s [] = some true) : a.eval args s none [] s = some (.int k) := by
  obtain ⟨u, v, hu, hv, h1, h2⟩ := cmp_v (Or.inl h)
  cases (Term.int_eval k (args := args) (first := s) (o := none) (idx := []) (s := s)).symm.trans hv
  obtain ⟨y, rfl⟩ : Kin (.int k) u := h2
  rw [Cond.eq_ints hu (Term.int_eval k)] at h
  rw [hu, of_decide_eq_true (Option.some.inj h)]
theorem len_start {cl : Cell} {ty : FieldType} (ev : t.eval args s none [] s = some (.ref x)) (A : Arr s s.heap x cl ty) (h : (Cond.eq (.length t) (.int z)).value args s none s [] = some true) : cl.slots.size < 2 ^ 31 ∧ cl.slots.size.toInt32 = z := by
  have h' := eq_int h
  have hA := A.fin (Vm.Alike.refl _)
  simp only [Term.eval, ev, Option.bind_eq_bind, Option.bind_some] at h'
  rw [hA] at h'
  simp at h'
  by_cases q : cl.slots.size < 2 ^ 31
  · refine ⟨q, ?_⟩
    simpa [q] using h'
  · simp [q] at h'
theorem elem_start {cl : Cell} {ty : FieldType} {j : Int32} {v : Value} (ev : t.eval args s none [] s = some (.ref x)) (A : Arr s s.heap x cl ty) (h : (Term.elem t (.int j)).eval args s none [] s = some v) : cl.slots[j.toNatClampNeg]? = some v :=
  (elem_in h ev (Term.int_eval j) A.1).2
theorem str_start (hf : Fit s) {c0 c1 c2 : Int32} (ev : t.eval args s none [] s = some (.ref x)) (he : (Cond.exactly t "java/lang/String").value args s none s [] = some true) (hc : (Cond.eq (.field t "java/lang/String" "coder" "B") (.int 0)).value args s none s [] = some true)
    (ha : (Cond.arrayOf (.field t "java/lang/String" "value" "[B") .byte).value args s none s [] = some true) (hl : (Cond.eq (.length (.field t "java/lang/String" "value" "[B")) (.int 3)).value args s none s [] = some true)
    (h0 : (Cond.eq (.elem (.field t "java/lang/String" "value" "[B") (.int 0)) (.int c0)).value args s none s [] = some true) (h1 : (Cond.eq (.elem (.field t "java/lang/String" "value" "[B") (.int 1)) (.int c1)).value args s none s [] = some true) (h2 : (Cond.eq (.elem (.field t "java/lang/String" "value" "[B") (.int 2)) (.int c2)).value args s none s [] = some true)
    (hb : ∀ c ∈ [c0, c1, c2], ¬ c < 0 ∧ ¬ (127 : Int32) < c) (hv : [c0, c1, c2].map Value.int = [c0, c1, c2].map fun c => Value.int (StrChars.lo8 c)) : ∃ tt : Addr, Str s s.heap x tt [c0, c1, c2] := by
  obtain ⟨y, ey⟩ := arr_v ha
  obtain ⟨cl, A⟩ := Arr.start ey ha
  obtain ⟨q, ez⟩ := len_start ey A hl
  have H : HasL cl 0 [.int c0, .int c1, .int c2] := ⟨elem_start ey A (eq_int h0), elem_start ey A (eq_int h1), elem_start ey A (eq_int h2), trivial⟩
  have V : Arv s s.heap y cl.cls .byte 3 [.int c0, .int c1, .int c2] (.int 0) := Arv.start hf A q ez (by decide) rfl H
  have FV : Fld s s.heap x "java/lang/String" "value" "[B" (.ref y) := Fld.start ((fld_at ev).symm.trans ey)
  have FC : Fld s s.heap x "java/lang/String" "coder" "B" (.int 0) := Fld.start ((fld_at ev).symm.trans (eq_int hc))
  exact ⟨y, Str.mk0 (Exa.start ev he) FV FC V rfl hv (fun c hc => ⟨(hb c hc).1, fun w => (hb c hc).2 (Int32.lt_trans (by decide) w)⟩) (by simp)⟩
end StartF
theorem own_wnew : ∀ d ∈ StrChars.Road.words, d ∈ tables_1 := by decide +kernel
theorem own_weq : ∀ d ∈ StrChars.Road.wordsEq, d ∈ tables_1 := by decide +kernel
theorem own_wstr : ∀ d ∈ Bundle.stringAtoms, d ∈ tables_1 := by decide +kernel
/-- one constant of the enum: its static, its object, its version's String -/
def Enm (Z : State) (nme : String) (e s t : Addr) (cs : List Int32) : Prop := Sta Z Z.heap "com/example/dutiful_container/dutifulcontainer/PersistenceSchema" nme "Lcom/example/dutiful_container/dutifulcontainer/PersistenceSchema;" (.ref e) ∧ Fld Z Z.heap e "com/example/dutiful_container/dutifulcontainer/PersistenceSchema" "version" "Ljava/lang/String;" (.ref s) ∧ Str Z Z.heap s t cs
def Enums (Z : State) (va : Addr) (kv : ClassId) (ee ss tt : Nat → Addr) : Prop :=
  Enm Z "V1_0" (ee 0) (ss 0) (tt 0) [49, 46, 48] ∧ Enm Z "V2_0" (ee 1) (ss 1) (tt 1) [50, 46, 48] ∧ Enm Z "V2_1" (ee 2) (ss 2) (tt 2) [50, 46, 49] ∧ Enm Z "V2_2" (ee 3) (ss 3) (tt 3) [50, 46, 50] ∧ Enm Z "V3_0" (ee 4) (ss 4) (tt 4) [51, 46, 48] ∧ Enm Z "V3_2" (ee 5) (ss 5) (tt 5) [51, 46, 50] ∧
  Sta Z Z.heap "com/example/dutiful_container/dutifulcontainer/PersistenceSchema" "$VALUES" "[Lcom/example/dutiful_container/dutifulcontainer/PersistenceSchema;" (.ref va) ∧ Exa Z Z.heap va "[Lcom/example/dutiful_container/dutifulcontainer/PersistenceSchema;" ∧
  Arv Z Z.heap va kv (.object "com/example/dutiful_container/dutifulcontainer/PersistenceSchema") 6 [.ref (ee 0), .ref (ee 1), .ref (ee 2), .ref (ee 3), .ref (ee 4), .ref (ee 5)] .null
def ofV (ee : Nat → Addr) (cs : List Int32) : Value :=
  if [49, 46, 48] = cs then .ref (ee 0) else if [50, 46, 48] = cs then .ref (ee 1) else if [50, 46, 49] = cs then .ref (ee 2) else if [50, 46, 50] = cs then .ref (ee 3) else if [51, 46, 48] = cs then .ref (ee 4) else if [51, 46, 50] = cs then .ref (ee 5) else .null
def refV (ee : Nat → Addr) (a b c : Int32) : Value :=
  if b = 46 then (if a = 49 then (if c = 48 then .ref (ee 0) else .null) else if a = 50 then (if c = 48 then .ref (ee 1) else if c = 49 then .ref (ee 2) else if c = 50 then .ref (ee 3) else .null) else if a = 51 then (if c = 48 then .ref (ee 4) else if c = 50 then .ref (ee 5) else .null) else .null) else .null
theorem of_ref (ee : Nat → Addr) (a b c : Int32) : ofV ee [a, b, c] = refV ee a b c := by
  have g : ∀ x y z : Int32, ([x, y, z] = [a, b, c]) = (a = x ∧ b = y ∧ c = z) := fun x y z => by
    simp only [List.cons.injEq, and_true]; exact propext ⟨fun ⟨p, q, r⟩ => ⟨p.symm, q.symm, r.symm⟩, fun ⟨p, q, r⟩ => ⟨p.symm, q.symm, r.symm⟩⟩
  unfold ofV refV
  simp only [g]
  by_cases hb : b = 46
  · by_cases h1 : a = 49
    · subst h1 hb; simp
    · by_cases h2 : a = 50
      · subst h2 hb; by_cases c1 : c = 48
        · simp [c1]
        · by_cases c2 : c = 49
          · simp [c2]
          · by_cases c3 : c = 50 <;> simp [c1, c2, c3]
      · by_cases h3 : a = 51
        · subst h3 hb; by_cases c1 : c = 48
          · simp [c1]
          · by_cases c3 : c = 50 <;> simp [c1, c3]
        · simp [hb, h1, h2, h3]
  · simp [hb]
theorem of_two (ee : Nat → Addr) (a b : Int32) : ofV ee [a, b] = .null := by simp [ofV]
theorem of_four (ee : Nat → Addr) (a b c d : Int32) : ofV ee [a, b, c, d] = .null := by simp [ofV]
theorem of_nil (ee : Nat → Addr) : ofV ee [] = .null := by simp [ofV]
theorem refV_ref (ee : Nat → Addr) (a b c : Int32) : (refV ee a b c).isRef = true := by
  unfold refV; repeat' (first | rfl | split)
abbrev rng (c : Int32) : Prop := ¬ c < 0 ∧ ¬ (255 : Int32) < c
theorem nar8 {c : Int32} (h : rng c) : nar .char c = c := by
  obtain ⟨h1, h2⟩ := h
  rw [Int32.lt_iff_toInt_lt] at h1 h2
  have e0 : (0 : Int32).toInt = 0 := by decide
  have e2 : (255 : Int32).toInt = 255 := by decide
  rw [e0] at h1; rw [e2] at h2
  have t : ∀ k : Fin 256, nar .char (Int32.ofNat k.val) = Int32.ofNat k.val := by decide +kernel
  have e : c = Int32.ofNat c.toInt.toNat := by
    apply Int32.toInt_inj.mp
    have t2 : ∀ k : Fin 256, (Int32.ofNat k.val).toInt = k.val := by decide +kernel
    rw [t2 ⟨c.toInt.toNat, by omega⟩]
    show c.toInt = (c.toInt.toNat : Int)
    omega
  rw [e]; exact t ⟨c.toInt.toNat, by omega⟩
theorem rng255 (x : Int32) : rng ((x &&& (255 : Int32)).toUInt32.toUInt16.toUInt32.toInt32) := by rw [i2c_mask]; exact lo255 x
theorem and7 (x : Int32) : ∃ k : Fin 8, x &&& (7 : Int32) = Int32.ofNat k.val := by
  have h : (x &&& 7).toBitVec.toNat < 8 := by
    simp only [Int32.toBitVec_and, BitVec.toNat_and]
    exact Nat.lt_succ_of_le Nat.and_le_right
  refine ⟨⟨_, h⟩, ?_⟩
  apply Int32.toBitVec_inj.mp
  show _ = BitVec.ofNat 32 _
  rw [BitVec.ofNat_toNat]; simp
def fst8 (j : Int32) : Int32 := [49, 50, 50, 50, 51, 51, 51, 49].getD j.toNatClampNeg 0
def lst8 (j : Int32) : Int32 := [48, 48, 49, 50, 48, 50, 49, 49].getD j.toNatClampNeg 0
theorem idx7 (x : Int32) : ¬ (x &&& (7 : Int32)) < 0 ∧ (x &&& (7 : Int32)) < 8 := by
  obtain ⟨k, e⟩ := and7 x; rw [e]; exact (by decide : ∀ k : Fin 8, ¬ Int32.ofNat k.val < 0 ∧ Int32.ofNat k.val < 8) k
theorem fst8_rng (x : Int32) : rng (fst8 (x &&& (7 : Int32))) := by
  obtain ⟨k, e⟩ := and7 x; rw [e]; exact (by decide : ∀ k : Fin 8, rng (fst8 (Int32.ofNat k.val))) k
theorem lst8_rng (x : Int32) : rng (lst8 (x &&& (7 : Int32))) := by
  obtain ⟨k, e⟩ := and7 x; rw [e]; exact (by decide : ∀ k : Fin 8, rng (lst8 (Int32.ofNat k.val))) k
theorem vget (cs : List Int32) (p : Int32) : (cs.map Value.int).getD p.toNatClampNeg (.int (0 : Int32)) = .int (cs.getD p.toNatClampNeg 0) := by
  simp only [List.getD_eq_getElem?_getD, List.getElem?_map]; cases cs[p.toNatClampNeg]? <;> rfl
theorem pn_com_example_dutiful_container_dutifulcontainer_PersistenceSchema : plainName "com/example/dutiful_container/dutifulcontainer/PersistenceSchema" = true := by first | (simp [plainName, overriddenIn]; done) | decide +kernel
theorem d9_0 : decode prog_4_method_1_code 0 = .ok (.getstatic 22, 3) := by decide +kernel
theorem d9_3 : decode prog_4_method_1_code 3 = .ok (.invokevirtual 26, 3) := by decide +kernel
theorem d9_6 : decode prog_4_method_1_code 6 = .ok (.checkcast 27, 3) := by decide +kernel
theorem d9_9 : decode prog_4_method_1_code 9 = .ok (.areturn, 1) := by decide +kernel
set_option maxRecDepth 65536 in
set_option maxHeartbeats 40000000 in
theorem own_vals (l : Launch) (Z : State) (a0 : Array Value) (hw : ∀ d ∈ tables_1, d.before a0 Z = true) (hEL : EW Z a0 consts_1)  (va : Addr) (kv : ClassId) (ee ss tt : Nat → Addr) (h0 : Heap) (n0 : Nat) (PO : Old Z n0 h0) (PE : Enums Z va kv ee ss tt) :
    Met true Z consts_1 l (⟨"com/example/dutiful_container/dutifulcontainer/PersistenceSchema", "values", "()[Lcom/example/dutiful_container/dutifulcontainer/PersistenceSchema;"⟩ : MethodName) prog_4_method_1_code 0 (some (.array (.object "com/example/dutiful_container/dutifulcontainer/PersistenceSchema"))) ({ frames := 1, cells := 1, slots := 6, locals := 14 } : Room) #[] h0 [] n0 (fun v h => ∃ x : Addr, v = some (.ref x) ∧ Keep h0 h [] ∧ h0.size ≤ x ∧ Arv Z h x kv (.object "com/example/dutiful_container/dutifulcontainer/PersistenceSchema") 6 [.ref (ee 0), .ref (ee 1), .ref (ee 2), .ref (ee 3), .ref (ee 4), .ref (ee 5)] .null) := by
  refine Met.of (a0 := a0) (Ls := #[]) (fun z => (nomatch z)) (plainFor_of_name pn_com_example_dutiful_container_dutifulcontainer_PersistenceSchema) hEL (fun m => by first | (simp [entryFrame, mkF, argsToLocals, Value.category]; done) | rfl) ?_
  intro p e s m below meth c B hSf
  refine g_wt (fun Wt0 => ?_)
  obtain ⟨⟨S0, F0, X0⟩, ⟨S1, F1, X1⟩, ⟨S2, F2, X2⟩, ⟨S3, F3, X3⟩, ⟨S4, F4, X4⟩, ⟨S5, F5, X5⟩, SV, EV, AV⟩ := id PE
  refine g_getS B (hw _ (List.mem_of_getElem? (i := 41) rfl)) (SV.ext PO.2) d9_0 (q := 3) rfl ?_
  refine g_clone (cap := 6) (W := 0) B (hw _ (List.mem_of_getElem? (i := 43) rfl)) (hw _ (List.mem_of_getElem? (i := 44) rfl)) (hw _ (List.mem_of_getElem? (i := 48) rfl)) (hw _ (List.mem_of_getElem? (i := 46) rfl)) (hw _ (List.mem_of_getElem? (i := 47) rfl)) (hw _ (List.mem_of_getElem? (i := 49) rfl)) (AV.ext PO.2) (EV.ext PO.2) rfl d9_3 (by decide) (Nat.le_of_eq rfl) (by decide) (by decide) (by decide) (by decide) (q := 6) rfl ?_
  intro h21 b21 g21 E21 S21 V21 A21
  refine g_wt (fun Wt22 => ?_)
  have z21 := E21.1; have y21 : @LT.lt Nat _ b21 h21.size := V21.lt
  refine g_cast B (hw _ (List.mem_of_getElem? (i := 57) rfl)) (Ins.self A21) d9_6 (q := 9) rfl ?_
  exact g_retA B rfl rfl d9_9 (by decide) (by decide) ⟨_, rfl, ((Keep.refl h0 []).ext E21), (by omega), V21⟩
theorem pn_java_lang_String : plainName "java/lang/String" = true := by first | (simp [plainName, overriddenIn]; done) | decide +kernel
theorem d10_0 : decode jdk_42_method_66_code 0 = .ok (.aload_n 0, 1) := by decide +kernel
theorem d10_1 : decode jdk_42_method_66_code 1 = .ok (.aload_n 1, 1) := by decide +kernel
theorem d10_2 : decode jdk_42_method_66_code 2 = .ok (.if_acmp .ne 5, 3) := by decide +kernel
theorem d10_7 : decode jdk_42_method_66_code 7 = .ok (.aload_n 1, 1) := by decide +kernel
theorem d10_8 : decode jdk_42_method_66_code 8 = .ok (.instanceof 10, 3) := by decide +kernel
theorem d10_11 : decode jdk_42_method_66_code 11 = .ok (.ifCond .eq 43, 3) := by decide +kernel
theorem d10_54 : decode jdk_42_method_66_code 54 = .ok (.iconst 0, 1) := by decide +kernel
theorem d10_55 : decode jdk_42_method_66_code 55 = .ok (.ireturn, 1) := by decide +kernel
set_option maxRecDepth 65536 in
set_option maxHeartbeats 40000000 in
theorem own_eq0 (l : Launch) (Z : State) (a0 : Array Value) (hw : ∀ d ∈ tables_1, d.before a0 Z = true) (hEL : EW Z a0 consts_1) (a1 : Addr)  (h0 : Heap) (n0 : Nat)  :
    Met true Z consts_1 l (⟨"java/lang/String", "equals", "(Ljava/lang/Object;)Z"⟩ : MethodName) jdk_42_method_66_code 3 (some .boolean) ({ frames := 0, cells := 0, slots := 0, locals := 0 } : Room) #[(.ref a1), .null] h0 [] n0 (fun v h => v = some (.int 0) ∧ h0 = h) := by
  refine Met.of (a0 := a0) (Ls := #[.val (.ref a1), .val .null, .unset]) (fun z => (nomatch z)) (plainFor_of_name pn_java_lang_String) hEL (fun m => by first | (simp [entryFrame, mkF, argsToLocals, Value.category]; done) | rfl) ?_
  intro p e s m below meth c B hSf
  refine g_wt (fun Wt0 => ?_)
  refine gs (mkF m 1 _ [(.ref a1)]) (fun T A t k => XS.aloadN A B.x rfl (B.d d10_0) rfl rfl k) ?_
  refine gs (mkF m 2 _ [.null, (.ref a1)]) (fun T A t k => XS.aloadN A B.x rfl (B.d d10_1) rfl rfl k) ?_
  refine g_acmp B rfl rfl d10_2 (same := false) (decide_eq_false nofun) (by decide) (q := 7) (by decide) ?_
  refine gs (mkF m 8 _ [.null]) (fun T A t k => XS.aloadN A B.x rfl (B.d d10_7) rfl rfl k) ?_
  refine g_instNull B d10_8 (q := 11) rfl ?_
  refine gs (mkF m 54 _ []) (fun T A t k => XS.ifYes A B.x rfl (pc0 := 11) (pc' := 54) rfl (B.d d10_11) rfl ((if0 _ _).trans (teq (by decide : (0 : Int32) = (0 : Int32))).1) (by decide) (by decide) k) ?_
  refine gs (mkF m 55 _ [(.int (0 : Int32))]) (fun T A t k => XS.iconst A B.x rfl (B.d d10_54) k) ?_
  exact g_retN (t := .boolean) B (by simp) d10_55 (by decide) (by decide) ⟨rfl, rfl⟩
theorem pd_28295bLcom2fexample2fdutiful_container2fdutifulcontainer2fPersistenceSchema3b : parseMethodDescriptor "()[Lcom/example/dutiful_container/dutifulcontainer/PersistenceSchema;" = some ⟨[], some (.array (.object "com/example/dutiful_container/dutifulcontainer/PersistenceSchema"))⟩ := by decide +kernel
theorem d8_0 : decode prog_4_method_4_code 0 = .ok (.invokestatic 51, 3) := by decide +kernel
theorem d8_3 : decode prog_4_method_4_code 3 = .ok (.astore_n 1, 1) := by decide +kernel
theorem d8_4 : decode prog_4_method_4_code 4 = .ok (.aload_n 1, 1) := by decide +kernel
theorem d8_5 : decode prog_4_method_4_code 5 = .ok (.arraylength, 1) := by decide +kernel
theorem d8_6 : decode prog_4_method_4_code 6 = .ok (.istore_n 2, 1) := by decide +kernel
theorem d8_7 : decode prog_4_method_4_code 7 = .ok (.iconst 0, 1) := by decide +kernel
theorem d8_8 : decode prog_4_method_4_code 8 = .ok (.istore_n 3, 1) := by decide +kernel
theorem d8_9 : decode prog_4_method_4_code 9 = .ok (.iload_n 3, 1) := by decide +kernel
theorem d8_10 : decode prog_4_method_4_code 10 = .ok (.iload_n 2, 1) := by decide +kernel
theorem d8_11 : decode prog_4_method_4_code 11 = .ok (.if_icmp .ge 29, 3) := by decide +kernel
theorem d8_14 : decode prog_4_method_4_code 14 = .ok (.aload_n 1, 1) := by decide +kernel
theorem d8_15 : decode prog_4_method_4_code 15 = .ok (.iload_n 3, 1) := by decide +kernel
theorem d8_16 : decode prog_4_method_4_code 16 = .ok (.aaload, 1) := by decide +kernel
theorem d8_17 : decode prog_4_method_4_code 17 = .ok (.astore 4, 2) := by decide +kernel
theorem d8_19 : decode prog_4_method_4_code 19 = .ok (.aload 4, 2) := by decide +kernel
theorem d8_21 : decode prog_4_method_4_code 21 = .ok (.getfield 41, 3) := by decide +kernel
theorem d8_24 : decode prog_4_method_4_code 24 = .ok (.aload_n 0, 1) := by decide +kernel
theorem pd_28Ljava2flang2fObject3b29Z : parseMethodDescriptor "(Ljava/lang/Object;)Z" = some ⟨[(.object "java/lang/Object")], some .boolean⟩ := by decide +kernel
theorem d8_25 : decode prog_4_method_4_code 25 = .ok (.invokevirtual 55, 3) := by decide +kernel
theorem d8_28 : decode prog_4_method_4_code 28 = .ok (.ifCond .eq 6, 3) := by decide +kernel
theorem d8_31 : decode prog_4_method_4_code 31 = .ok (.aload 4, 2) := by decide +kernel
theorem d8_33 : decode prog_4_method_4_code 33 = .ok (.areturn, 1) := by decide +kernel
theorem d8_34 : decode prog_4_method_4_code 34 = .ok (.iinc 3 1, 3) := by decide +kernel
theorem d8_37 : decode prog_4_method_4_code 37 = .ok (.goto (-28), 3) := by decide +kernel
theorem d8_40 : decode prog_4_method_4_code 40 = .ok (.aconst_null, 1) := by decide +kernel
theorem d8_41 : decode prog_4_method_4_code 41 = .ok (.areturn, 1) := by decide +kernel
set_option maxRecDepth 65536 in
set_option maxHeartbeats 40000000 in
theorem own_of (l : Launch) (Z : State) (a0 : Array Value) (hw : ∀ d ∈ tables_1, d.before a0 Z = true) (hEL : EW Z a0 consts_1) (a1 : Addr) (va : Addr) (kv : ClassId) (ee ss tt : Nat → Addr) (zc : Int32) (t : Addr) (cs : List Int32) (h0 : Heap) (n0 : Nat) (PE : Enums Z va kv ee ss tt) (PS : Str Z h0 a1 t cs) (PO : Old Z n0 h0) (SC : Sta Z Z.heap "java/lang/String" "COMPACT_STRINGS" "Z" (.int zc)) (hzc : ¬ zc = 0) :
    Met true Z consts_1 l (⟨"com/example/dutiful_container/dutifulcontainer/PersistenceSchema", "of", "(Ljava/lang/String;)Lcom/example/dutiful_container/dutifulcontainer/PersistenceSchema;"⟩ : MethodName) prog_4_method_4_code 5 (some (.object "com/example/dutiful_container/dutifulcontainer/PersistenceSchema")) ({ frames := 4, cells := 1, slots := 6, locals := 60 } : Room) #[(.ref a1)] h0 [] n0 (fun v h => v = some (ofV ee cs) ∧ Keep h0 h []) := by
  refine Met.of (a0 := a0) (Ls := #[.val (.ref a1), .unset, .unset, .unset, .unset]) (fun z => (nomatch z)) (plainFor_of_name pn_com_example_dutiful_container_dutifulcontainer_PersistenceSchema) hEL (fun m => by first | (simp [entryFrame, mkF, argsToLocals, Value.category]; done) | rfl) ?_
  intro p e s m below meth c B hSf
  refine g_wt (fun Wt0 => ?_)
  obtain ⟨⟨S0, F0, X0⟩, ⟨S1, F1, X1⟩, ⟨S2, F2, X2⟩, ⟨S3, F3, X3⟩, ⟨S4, F4, X4⟩, ⟨S5, F5, X5⟩, SV, EV, AV⟩ := id PE
  have ys := PS.lt; have yt := PS.lt'
  refine g_met hEL (c_static B (hw _ (List.mem_of_getElem? (i := 38) rfl)) (hw _ (List.mem_of_getElem? (i := 39) rfl)) (hw _ (List.mem_of_getElem? (i := 36) rfl)) (hw _ (List.mem_of_getElem? (i := 40) rfl)) (by decide) rfl (lenOf pd_28295bLcom2fexample2fdutiful_container2fdutifulcontainer2fPersistenceSchema3b rfl) rfl (Nat.le_of_eq rfl) d8_0 rfl (argsL := []) (rest := []) (W := 0) (q := 3)) (own_vals l Z a0 hw hEL  va kv ee ss tt h0 n0 PO PE) (hw _ (List.mem_of_getElem? (i := 40) rfl)) (hw _ (List.mem_of_getElem? (i := 36) rfl)) (by decide) (by decide) (by decide) (by decide) (fun _ q => nomatch q) ?_
  intro v21 h21 vm21 hZ21 C21 hQ21
  obtain ⟨x21, rfl, K21, g21, V21⟩ := hQ21
  refine g_wt (fun Wt22 => ?_)
  have z21 := K21.1; have y21 : @LT.lt Nat _ x21 h21.size := V21.lt
  refine gs (mkF m 4 #[.val (.ref a1), .val (.ref x21), .unset, .unset, .unset] []) (fun T A t k => XS.astoreN A B.x rfl (B.d d8_3) rfl rfl (l' := #[.val (.ref a1), .val (.ref x21), .unset, .unset, .unset]) rfl k) ?_
  refine gs (mkF m 5 _ [(.ref x21)]) (fun T A t k => XS.aloadN A B.x rfl (B.d d8_4) rfl rfl k) ?_
  refine g_len B V21 d8_5 (q := 6) rfl ?_
  refine gs (mkF m 7 #[.val (.ref a1), .val (.ref x21), .val (.int (6 : Int32)), .unset, .unset] []) (fun T A t k => XS.istoreN A B.x rfl (B.d d8_6) rfl (l' := #[.val (.ref a1), .val (.ref x21), .val (.int (6 : Int32)), .unset, .unset]) rfl k) ?_
  refine gs (mkF m 8 _ [(.int (0 : Int32))]) (fun T A t k => XS.iconst A B.x rfl (B.d d8_7) k) ?_
  refine gs (mkF m 9 #[.val (.ref a1), .val (.ref x21), .val (.int (6 : Int32)), .val (.int (0 : Int32)), .unset] []) (fun T A t k => XS.istoreN A B.x rfl (B.d d8_8) rfl (l' := #[.val (.ref a1), .val (.ref x21), .val (.int (6 : Int32)), .val (.int (0 : Int32)), .unset]) rfl k) ?_
  refine gs (mkF m 10 _ [(.int (0 : Int32))]) (fun T A t k => XS.iloadN A B.x rfl (B.d d8_9) rfl k) ?_
  refine gs (mkF m 11 _ [(.int (6 : Int32)), (.int (0 : Int32))]) (fun T A t k => XS.iloadN A B.x rfl (B.d d8_10) rfl k) ?_
  refine gs (mkF m 14 _ []) (fun T A t k => XS.icmpNo A B.x rfl (B.d d8_11) rfl (tlt (by decide : (0 : Int32) < (6 : Int32))).2.1 k) ?_
  refine gs (mkF m 15 _ [(.ref x21)]) (fun T A t k => XS.aloadN A B.x rfl (B.d d8_14) rfl rfl k) ?_
  refine gs (mkF m 16 _ [(.int (0 : Int32)), (.ref x21)]) (fun T A t k => XS.iloadN A B.x rfl (B.d d8_15) rfl k) ?_
  refine g_ldR B V21 rfl ⟨by decide, by decide⟩ (v := (.ref (ee 0))) rfl d8_16 (q := 17) rfl ?_
  refine gs (mkF m 19 #[.val (.ref a1), .val (.ref x21), .val (.int (6 : Int32)), .val (.int (0 : Int32)), .val (.ref (ee 0))] []) (fun T A t k => XS.astore A B.x rfl (B.d d8_17) rfl rfl (l' := #[.val (.ref a1), .val (.ref x21), .val (.int (6 : Int32)), .val (.int (0 : Int32)), .val (.ref (ee 0))]) rfl k) ?_
  refine gs (mkF m 21 _ [(.ref (ee 0))]) (fun T A t k => XS.aload A B.x rfl (B.d d8_19) rfl rfl k) ?_
  refine g_getF B (hw _ (List.mem_of_getElem? (i := 59) rfl)) Via.refl (F0.ext (PO.keep K21 all0).2) d8_21 (q := 24) rfl ?_
  refine gs (mkF m 25 _ [(.ref a1), (.ref (ss 0))]) (fun T A t k => XS.aloadN A B.x rfl (B.d d8_24) rfl rfl k) ?_
  refine g_pay (Q' := fun v h' L => v = some (.int (if [49, 46, 48] = cs then 1 else 0 : Int32)) ∧ L = [] ∧ h21 = h') (k := 0) (n := 0) (c_virt B (X0.exa.ext (PO.keep K21 all0).2) (hw _ (List.mem_of_getElem? (i := 61) rfl)) (hw _ (List.mem_of_getElem? (i := 62) rfl)) (hw _ (List.mem_of_getElem? (i := 64) rfl)) (hw _ (List.mem_of_getElem? (i := 63) rfl)) (nfs (z := (⟨"java/lang/String", "equals", "(Ljava/lang/Object;)Z"⟩ : MethodName)) (hw _ (List.mem_of_getElem? (i := 64) rfl))) (by decide) rfl (lenOf pd_28Ljava2flang2fObject3b29Z rfl) rfl (Nat.le_of_eq rfl) d8_25 rfl (argsL := [(.ref a1)]) (rest := []) (W := 0) (q := 28)) (fun hZ => own_eq hZ (fun d hd => hw d (own_weq d hd)) (hw _ (List.mem_of_getElem? (i := 2) rfl)) (X0.ext (PO.keep K21 all0).2) (PS.keep K21 ⟨nin0, nin0⟩) (SC.ext (PO.keep K21 all0).2) hzc (by decide) (by decide)) (by decide) (by decide) (fun v h' L q => ⟨by rw [q.2.1]; exact Fr.nil _, [], by rw [← q.2.2]; exact Keep.refl _ _, all0⟩) ?_
  rintro v23 h23 L23 ⟨rfl, -, rfl⟩
  by_cases hE0 : [49, 46, 48] = cs
  · rw [if_pos hE0]
    refine gs (mkF m 31 _ []) (fun T A t k => XS.ifNo A B.x rfl (B.d d8_28) rfl ((if0 _ _).trans (feq (by decide : ¬ ((1 : Int32) = (0 : Int32)))).1) k) ?_
    refine gs (mkF m 33 _ [(.ref (ee 0))]) (fun T A t k => XS.aload A B.x rfl (B.d d8_31) rfl rfl k) ?_
    exact g_retA B rfl rfl d8_33 (by decide) (by decide) ⟨by rw [ofV, if_pos hE0], ((Keep.refl h0 []).trans K21 all0)⟩
  · rw [if_neg hE0]
    refine gs (mkF m 34 _ []) (fun T A t k => XS.ifYes A B.x rfl (pc0 := 28) (pc' := 34) rfl (B.d d8_28) rfl ((if0 _ _).trans (teq (by decide : (0 : Int32) = (0 : Int32))).1) (by decide) (by decide) k) ?_
    refine gs (mkF m 37 #[.val (.ref a1), .val (.ref x21), .val (.int (6 : Int32)), .val (.int (1 : Int32)), .val (.ref (ee 0))] []) (fun T A t k => XS.iinc A B.x rfl (B.d d8_34) rfl (l' := #[.val (.ref a1), .val (.ref x21), .val (.int (6 : Int32)), .val (.int (1 : Int32)), .val (.ref (ee 0))]) rfl k) ?_
    refine gs (mkF m 9 _ []) (fun T A t k => XS.goto A B.x rfl (pc0 := 37) (pc' := 9) rfl (B.d d8_37) (by decide) (by decide) k) ?_
    refine gs (mkF m 10 _ [(.int (1 : Int32))]) (fun T A t k => XS.iloadN A B.x rfl (B.d d8_9) rfl k) ?_
    refine gs (mkF m 11 _ [(.int (6 : Int32)), (.int (1 : Int32))]) (fun T A t k => XS.iloadN A B.x rfl (B.d d8_10) rfl k) ?_
    refine gs (mkF m 14 _ []) (fun T A t k => XS.icmpNo A B.x rfl (B.d d8_11) rfl (tlt (by decide : (1 : Int32) < (6 : Int32))).2.1 k) ?_
    refine gs (mkF m 15 _ [(.ref x21)]) (fun T A t k => XS.aloadN A B.x rfl (B.d d8_14) rfl rfl k) ?_
    refine gs (mkF m 16 _ [(.int (1 : Int32)), (.ref x21)]) (fun T A t k => XS.iloadN A B.x rfl (B.d d8_15) rfl k) ?_
    refine g_ldR B V21 rfl ⟨by decide, by decide⟩ (v := (.ref (ee 1))) rfl d8_16 (q := 17) rfl ?_
    refine gs (mkF m 19 #[.val (.ref a1), .val (.ref x21), .val (.int (6 : Int32)), .val (.int (1 : Int32)), .val (.ref (ee 1))] []) (fun T A t k => XS.astore A B.x rfl (B.d d8_17) rfl rfl (l' := #[.val (.ref a1), .val (.ref x21), .val (.int (6 : Int32)), .val (.int (1 : Int32)), .val (.ref (ee 1))]) rfl k) ?_
    refine gs (mkF m 21 _ [(.ref (ee 1))]) (fun T A t k => XS.aload A B.x rfl (B.d d8_19) rfl rfl k) ?_
    refine g_getF B (hw _ (List.mem_of_getElem? (i := 59) rfl)) Via.refl (F1.ext (PO.keep K21 all0).2) d8_21 (q := 24) rfl ?_
    refine gs (mkF m 25 _ [(.ref a1), (.ref (ss 1))]) (fun T A t k => XS.aloadN A B.x rfl (B.d d8_24) rfl rfl k) ?_
    refine g_pay (Q' := fun v h' L => v = some (.int (if [50, 46, 48] = cs then 1 else 0 : Int32)) ∧ L = [] ∧ h21 = h') (k := 0) (n := 0) (c_virt B (X1.exa.ext (PO.keep K21 all0).2) (hw _ (List.mem_of_getElem? (i := 61) rfl)) (hw _ (List.mem_of_getElem? (i := 62) rfl)) (hw _ (List.mem_of_getElem? (i := 64) rfl)) (hw _ (List.mem_of_getElem? (i := 63) rfl)) (nfs (z := (⟨"java/lang/String", "equals", "(Ljava/lang/Object;)Z"⟩ : MethodName)) (hw _ (List.mem_of_getElem? (i := 64) rfl))) (by decide) rfl (lenOf pd_28Ljava2flang2fObject3b29Z rfl) rfl (Nat.le_of_eq rfl) d8_25 rfl (argsL := [(.ref a1)]) (rest := []) (W := 0) (q := 28)) (fun hZ => own_eq hZ (fun d hd => hw d (own_weq d hd)) (hw _ (List.mem_of_getElem? (i := 2) rfl)) (X1.ext (PO.keep K21 all0).2) (PS.keep K21 ⟨nin0, nin0⟩) (SC.ext (PO.keep K21 all0).2) hzc (by decide) (by decide)) (by decide) (by decide) (fun v h' L q => ⟨by rw [q.2.1]; exact Fr.nil _, [], by rw [← q.2.2]; exact Keep.refl _ _, all0⟩) ?_
    rintro v24 h24 L24 ⟨rfl, -, rfl⟩
    by_cases hE1 : [50, 46, 48] = cs
    · rw [if_pos hE1]
      refine gs (mkF m 31 _ []) (fun T A t k => XS.ifNo A B.x rfl (B.d d8_28) rfl ((if0 _ _).trans (feq (by decide : ¬ ((1 : Int32) = (0 : Int32)))).1) k) ?_
      refine gs (mkF m 33 _ [(.ref (ee 1))]) (fun T A t k => XS.aload A B.x rfl (B.d d8_31) rfl rfl k) ?_
      exact g_retA B rfl rfl d8_33 (by decide) (by decide) ⟨by rw [ofV, if_neg hE0, if_pos hE1], ((Keep.refl h0 []).trans K21 all0)⟩
    · rw [if_neg hE1]
      refine gs (mkF m 34 _ []) (fun T A t k => XS.ifYes A B.x rfl (pc0 := 28) (pc' := 34) rfl (B.d d8_28) rfl ((if0 _ _).trans (teq (by decide : (0 : Int32) = (0 : Int32))).1) (by decide) (by decide) k) ?_
      refine gs (mkF m 37 #[.val (.ref a1), .val (.ref x21), .val (.int (6 : Int32)), .val (.int (2 : Int32)), .val (.ref (ee 1))] []) (fun T A t k => XS.iinc A B.x rfl (B.d d8_34) rfl (l' := #[.val (.ref a1), .val (.ref x21), .val (.int (6 : Int32)), .val (.int (2 : Int32)), .val (.ref (ee 1))]) rfl k) ?_
      refine gs (mkF m 9 _ []) (fun T A t k => XS.goto A B.x rfl (pc0 := 37) (pc' := 9) rfl (B.d d8_37) (by decide) (by decide) k) ?_
      refine gs (mkF m 10 _ [(.int (2 : Int32))]) (fun T A t k => XS.iloadN A B.x rfl (B.d d8_9) rfl k) ?_
      refine gs (mkF m 11 _ [(.int (6 : Int32)), (.int (2 : Int32))]) (fun T A t k => XS.iloadN A B.x rfl (B.d d8_10) rfl k) ?_
      refine gs (mkF m 14 _ []) (fun T A t k => XS.icmpNo A B.x rfl (B.d d8_11) rfl (tlt (by decide : (2 : Int32) < (6 : Int32))).2.1 k) ?_
      refine gs (mkF m 15 _ [(.ref x21)]) (fun T A t k => XS.aloadN A B.x rfl (B.d d8_14) rfl rfl k) ?_
      refine gs (mkF m 16 _ [(.int (2 : Int32)), (.ref x21)]) (fun T A t k => XS.iloadN A B.x rfl (B.d d8_15) rfl k) ?_
      refine g_ldR B V21 rfl ⟨by decide, by decide⟩ (v := (.ref (ee 2))) rfl d8_16 (q := 17) rfl ?_
      refine gs (mkF m 19 #[.val (.ref a1), .val (.ref x21), .val (.int (6 : Int32)), .val (.int (2 : Int32)), .val (.ref (ee 2))] []) (fun T A t k => XS.astore A B.x rfl (B.d d8_17) rfl rfl (l' := #[.val (.ref a1), .val (.ref x21), .val (.int (6 : Int32)), .val (.int (2 : Int32)), .val (.ref (ee 2))]) rfl k) ?_
      refine gs (mkF m 21 _ [(.ref (ee 2))]) (fun T A t k => XS.aload A B.x rfl (B.d d8_19) rfl rfl k) ?_
      refine g_getF B (hw _ (List.mem_of_getElem? (i := 59) rfl)) Via.refl (F2.ext (PO.keep K21 all0).2) d8_21 (q := 24) rfl ?_
      refine gs (mkF m 25 _ [(.ref a1), (.ref (ss 2))]) (fun T A t k => XS.aloadN A B.x rfl (B.d d8_24) rfl rfl k) ?_
      refine g_pay (Q' := fun v h' L => v = some (.int (if [50, 46, 49] = cs then 1 else 0 : Int32)) ∧ L = [] ∧ h21 = h') (k := 0) (n := 0) (c_virt B (X2.exa.ext (PO.keep K21 all0).2) (hw _ (List.mem_of_getElem? (i := 61) rfl)) (hw _ (List.mem_of_getElem? (i := 62) rfl)) (hw _ (List.mem_of_getElem? (i := 64) rfl)) (hw _ (List.mem_of_getElem? (i := 63) rfl)) (nfs (z := (⟨"java/lang/String", "equals", "(Ljava/lang/Object;)Z"⟩ : MethodName)) (hw _ (List.mem_of_getElem? (i := 64) rfl))) (by decide) rfl (lenOf pd_28Ljava2flang2fObject3b29Z rfl) rfl (Nat.le_of_eq rfl) d8_25 rfl (argsL := [(.ref a1)]) (rest := []) (W := 0) (q := 28)) (fun hZ => own_eq hZ (fun d hd => hw d (own_weq d hd)) (hw _ (List.mem_of_getElem? (i := 2) rfl)) (X2.ext (PO.keep K21 all0).2) (PS.keep K21 ⟨nin0, nin0⟩) (SC.ext (PO.keep K21 all0).2) hzc (by decide) (by decide)) (by decide) (by decide) (fun v h' L q => ⟨by rw [q.2.1]; exact Fr.nil _, [], by rw [← q.2.2]; exact Keep.refl _ _, all0⟩) ?_
      rintro v25 h25 L25 ⟨rfl, -, rfl⟩
      by_cases hE2 : [50, 46, 49] = cs
      · rw [if_pos hE2]
        refine gs (mkF m 31 _ []) (fun T A t k => XS.ifNo A B.x rfl (B.d d8_28) rfl ((if0 _ _).trans (feq (by decide : ¬ ((1 : Int32) = (0 : Int32)))).1) k) ?_
        refine gs (mkF m 33 _ [(.ref (ee 2))]) (fun T A t k => XS.aload A B.x rfl (B.d d8_31) rfl rfl k) ?_
        exact g_retA B rfl rfl d8_33 (by decide) (by decide) ⟨by rw [ofV, if_neg hE0, if_neg hE1, if_pos hE2], ((Keep.refl h0 []).trans K21 all0)⟩
      · rw [if_neg hE2]
        refine gs (mkF m 34 _ []) (fun T A t k => XS.ifYes A B.x rfl (pc0 := 28) (pc' := 34) rfl (B.d d8_28) rfl ((if0 _ _).trans (teq (by decide : (0 : Int32) = (0 : Int32))).1) (by decide) (by decide) k) ?_
        refine gs (mkF m 37 #[.val (.ref a1), .val (.ref x21), .val (.int (6 : Int32)), .val (.int (3 : Int32)), .val (.ref (ee 2))] []) (fun T A t k => XS.iinc A B.x rfl (B.d d8_34) rfl (l' := #[.val (.ref a1), .val (.ref x21), .val (.int (6 : Int32)), .val (.int (3 : Int32)), .val (.ref (ee 2))]) rfl k) ?_
        refine gs (mkF m 9 _ []) (fun T A t k => XS.goto A B.x rfl (pc0 := 37) (pc' := 9) rfl (B.d d8_37) (by decide) (by decide) k) ?_
        refine gs (mkF m 10 _ [(.int (3 : Int32))]) (fun T A t k => XS.iloadN A B.x rfl (B.d d8_9) rfl k) ?_
        refine gs (mkF m 11 _ [(.int (6 : Int32)), (.int (3 : Int32))]) (fun T A t k => XS.iloadN A B.x rfl (B.d d8_10) rfl k) ?_
        refine gs (mkF m 14 _ []) (fun T A t k => XS.icmpNo A B.x rfl (B.d d8_11) rfl (tlt (by decide : (3 : Int32) < (6 : Int32))).2.1 k) ?_
        refine gs (mkF m 15 _ [(.ref x21)]) (fun T A t k => XS.aloadN A B.x rfl (B.d d8_14) rfl rfl k) ?_
        refine gs (mkF m 16 _ [(.int (3 : Int32)), (.ref x21)]) (fun T A t k => XS.iloadN A B.x rfl (B.d d8_15) rfl k) ?_
        refine g_ldR B V21 rfl ⟨by decide, by decide⟩ (v := (.ref (ee 3))) rfl d8_16 (q := 17) rfl ?_
        refine gs (mkF m 19 #[.val (.ref a1), .val (.ref x21), .val (.int (6 : Int32)), .val (.int (3 : Int32)), .val (.ref (ee 3))] []) (fun T A t k => XS.astore A B.x rfl (B.d d8_17) rfl rfl (l' := #[.val (.ref a1), .val (.ref x21), .val (.int (6 : Int32)), .val (.int (3 : Int32)), .val (.ref (ee 3))]) rfl k) ?_
        refine gs (mkF m 21 _ [(.ref (ee 3))]) (fun T A t k => XS.aload A B.x rfl (B.d d8_19) rfl rfl k) ?_
        refine g_getF B (hw _ (List.mem_of_getElem? (i := 59) rfl)) Via.refl (F3.ext (PO.keep K21 all0).2) d8_21 (q := 24) rfl ?_
        refine gs (mkF m 25 _ [(.ref a1), (.ref (ss 3))]) (fun T A t k => XS.aloadN A B.x rfl (B.d d8_24) rfl rfl k) ?_
        refine g_pay (Q' := fun v h' L => v = some (.int (if [50, 46, 50] = cs then 1 else 0 : Int32)) ∧ L = [] ∧ h21 = h') (k := 0) (n := 0) (c_virt B (X3.exa.ext (PO.keep K21 all0).2) (hw _ (List.mem_of_getElem? (i := 61) rfl)) (hw _ (List.mem_of_getElem? (i := 62) rfl)) (hw _ (List.mem_of_getElem? (i := 64) rfl)) (hw _ (List.mem_of_getElem? (i := 63) rfl)) (nfs (z := (⟨"java/lang/String", "equals", "(Ljava/lang/Object;)Z"⟩ : MethodName)) (hw _ (List.mem_of_getElem? (i := 64) rfl))) (by decide) rfl (lenOf pd_28Ljava2flang2fObject3b29Z rfl) rfl (Nat.le_of_eq rfl) d8_25 rfl (argsL := [(.ref a1)]) (rest := []) (W := 0) (q := 28)) (fun hZ => own_eq hZ (fun d hd => hw d (own_weq d hd)) (hw _ (List.mem_of_getElem? (i := 2) rfl)) (X3.ext (PO.keep K21 all0).2) (PS.keep K21 ⟨nin0, nin0⟩) (SC.ext (PO.keep K21 all0).2) hzc (by decide) (by decide)) (by decide) (by decide) (fun v h' L q => ⟨by rw [q.2.1]; exact Fr.nil _, [], by rw [← q.2.2]; exact Keep.refl _ _, all0⟩) ?_
        rintro v26 h26 L26 ⟨rfl, -, rfl⟩
        by_cases hE3 : [50, 46, 50] = cs
        · rw [if_pos hE3]
          refine gs (mkF m 31 _ []) (fun T A t k => XS.ifNo A B.x rfl (B.d d8_28) rfl ((if0 _ _).trans (feq (by decide : ¬ ((1 : Int32) = (0 : Int32)))).1) k) ?_
          refine gs (mkF m 33 _ [(.ref (ee 3))]) (fun T A t k => XS.aload A B.x rfl (B.d d8_31) rfl rfl k) ?_
          exact g_retA B rfl rfl d8_33 (by decide) (by decide) ⟨by rw [ofV, if_neg hE0, if_neg hE1, if_neg hE2, if_pos hE3], ((Keep.refl h0 []).trans K21 all0)⟩
        · rw [if_neg hE3]
          refine gs (mkF m 34 _ []) (fun T A t k => XS.ifYes A B.x rfl (pc0 := 28) (pc' := 34) rfl (B.d d8_28) rfl ((if0 _ _).trans (teq (by decide : (0 : Int32) = (0 : Int32))).1) (by decide) (by decide) k) ?_
          refine gs (mkF m 37 #[.val (.ref a1), .val (.ref x21), .val (.int (6 : Int32)), .val (.int (4 : Int32)), .val (.ref (ee 3))] []) (fun T A t k => XS.iinc A B.x rfl (B.d d8_34) rfl (l' := #[.val (.ref a1), .val (.ref x21), .val (.int (6 : Int32)), .val (.int (4 : Int32)), .val (.ref (ee 3))]) rfl k) ?_
          refine gs (mkF m 9 _ []) (fun T A t k => XS.goto A B.x rfl (pc0 := 37) (pc' := 9) rfl (B.d d8_37) (by decide) (by decide) k) ?_
          refine gs (mkF m 10 _ [(.int (4 : Int32))]) (fun T A t k => XS.iloadN A B.x rfl (B.d d8_9) rfl k) ?_
          refine gs (mkF m 11 _ [(.int (6 : Int32)), (.int (4 : Int32))]) (fun T A t k => XS.iloadN A B.x rfl (B.d d8_10) rfl k) ?_
          refine gs (mkF m 14 _ []) (fun T A t k => XS.icmpNo A B.x rfl (B.d d8_11) rfl (tlt (by decide : (4 : Int32) < (6 : Int32))).2.1 k) ?_
          refine gs (mkF m 15 _ [(.ref x21)]) (fun T A t k => XS.aloadN A B.x rfl (B.d d8_14) rfl rfl k) ?_
          refine gs (mkF m 16 _ [(.int (4 : Int32)), (.ref x21)]) (fun T A t k => XS.iloadN A B.x rfl (B.d d8_15) rfl k) ?_
          refine g_ldR B V21 rfl ⟨by decide, by decide⟩ (v := (.ref (ee 4))) rfl d8_16 (q := 17) rfl ?_
          refine gs (mkF m 19 #[.val (.ref a1), .val (.ref x21), .val (.int (6 : Int32)), .val (.int (4 : Int32)), .val (.ref (ee 4))] []) (fun T A t k => XS.astore A B.x rfl (B.d d8_17) rfl rfl (l' := #[.val (.ref a1), .val (.ref x21), .val (.int (6 : Int32)), .val (.int (4 : Int32)), .val (.ref (ee 4))]) rfl k) ?_
          refine gs (mkF m 21 _ [(.ref (ee 4))]) (fun T A t k => XS.aload A B.x rfl (B.d d8_19) rfl rfl k) ?_
          refine g_getF B (hw _ (List.mem_of_getElem? (i := 59) rfl)) Via.refl (F4.ext (PO.keep K21 all0).2) d8_21 (q := 24) rfl ?_
          refine gs (mkF m 25 _ [(.ref a1), (.ref (ss 4))]) (fun T A t k => XS.aloadN A B.x rfl (B.d d8_24) rfl rfl k) ?_
          refine g_pay (Q' := fun v h' L => v = some (.int (if [51, 46, 48] = cs then 1 else 0 : Int32)) ∧ L = [] ∧ h21 = h') (k := 0) (n := 0) (c_virt B (X4.exa.ext (PO.keep K21 all0).2) (hw _ (List.mem_of_getElem? (i := 61) rfl)) (hw _ (List.mem_of_getElem? (i := 62) rfl)) (hw _ (List.mem_of_getElem? (i := 64) rfl)) (hw _ (List.mem_of_getElem? (i := 63) rfl)) (nfs (z := (⟨"java/lang/String", "equals", "(Ljava/lang/Object;)Z"⟩ : MethodName)) (hw _ (List.mem_of_getElem? (i := 64) rfl))) (by decide) rfl (lenOf pd_28Ljava2flang2fObject3b29Z rfl) rfl (Nat.le_of_eq rfl) d8_25 rfl (argsL := [(.ref a1)]) (rest := []) (W := 0) (q := 28)) (fun hZ => own_eq hZ (fun d hd => hw d (own_weq d hd)) (hw _ (List.mem_of_getElem? (i := 2) rfl)) (X4.ext (PO.keep K21 all0).2) (PS.keep K21 ⟨nin0, nin0⟩) (SC.ext (PO.keep K21 all0).2) hzc (by decide) (by decide)) (by decide) (by decide) (fun v h' L q => ⟨by rw [q.2.1]; exact Fr.nil _, [], by rw [← q.2.2]; exact Keep.refl _ _, all0⟩) ?_
          rintro v27 h27 L27 ⟨rfl, -, rfl⟩
          by_cases hE4 : [51, 46, 48] = cs
          · rw [if_pos hE4]
            refine gs (mkF m 31 _ []) (fun T A t k => XS.ifNo A B.x rfl (B.d d8_28) rfl ((if0 _ _).trans (feq (by decide : ¬ ((1 : Int32) = (0 : Int32)))).1) k) ?_
            refine gs (mkF m 33 _ [(.ref (ee 4))]) (fun T A t k => XS.aload A B.x rfl (B.d d8_31) rfl rfl k) ?_
            exact g_retA B rfl rfl d8_33 (by decide) (by decide) ⟨by rw [ofV, if_neg hE0, if_neg hE1, if_neg hE2, if_neg hE3, if_pos hE4], ((Keep.refl h0 []).trans K21 all0)⟩
          · rw [if_neg hE4]
            refine gs (mkF m 34 _ []) (fun T A t k => XS.ifYes A B.x rfl (pc0 := 28) (pc' := 34) rfl (B.d d8_28) rfl ((if0 _ _).trans (teq (by decide : (0 : Int32) = (0 : Int32))).1) (by decide) (by decide) k) ?_
            refine gs (mkF m 37 #[.val (.ref a1), .val (.ref x21), .val (.int (6 : Int32)), .val (.int (5 : Int32)), .val (.ref (ee 4))] []) (fun T A t k => XS.iinc A B.x rfl (B.d d8_34) rfl (l' := #[.val (.ref a1), .val (.ref x21), .val (.int (6 : Int32)), .val (.int (5 : Int32)), .val (.ref (ee 4))]) rfl k) ?_
            refine gs (mkF m 9 _ []) (fun T A t k => XS.goto A B.x rfl (pc0 := 37) (pc' := 9) rfl (B.d d8_37) (by decide) (by decide) k) ?_
            refine gs (mkF m 10 _ [(.int (5 : Int32))]) (fun T A t k => XS.iloadN A B.x rfl (B.d d8_9) rfl k) ?_
            refine gs (mkF m 11 _ [(.int (6 : Int32)), (.int (5 : Int32))]) (fun T A t k => XS.iloadN A B.x rfl (B.d d8_10) rfl k) ?_
            refine gs (mkF m 14 _ []) (fun T A t k => XS.icmpNo A B.x rfl (B.d d8_11) rfl (tlt (by decide : (5 : Int32) < (6 : Int32))).2.1 k) ?_
            refine gs (mkF m 15 _ [(.ref x21)]) (fun T A t k => XS.aloadN A B.x rfl (B.d d8_14) rfl rfl k) ?_
            refine gs (mkF m 16 _ [(.int (5 : Int32)), (.ref x21)]) (fun T A t k => XS.iloadN A B.x rfl (B.d d8_15) rfl k) ?_
            refine g_ldR B V21 rfl ⟨by decide, by decide⟩ (v := (.ref (ee 5))) rfl d8_16 (q := 17) rfl ?_
            refine gs (mkF m 19 #[.val (.ref a1), .val (.ref x21), .val (.int (6 : Int32)), .val (.int (5 : Int32)), .val (.ref (ee 5))] []) (fun T A t k => XS.astore A B.x rfl (B.d d8_17) rfl rfl (l' := #[.val (.ref a1), .val (.ref x21), .val (.int (6 : Int32)), .val (.int (5 : Int32)), .val (.ref (ee 5))]) rfl k) ?_
            refine gs (mkF m 21 _ [(.ref (ee 5))]) (fun T A t k => XS.aload A B.x rfl (B.d d8_19) rfl rfl k) ?_
            refine g_getF B (hw _ (List.mem_of_getElem? (i := 59) rfl)) Via.refl (F5.ext (PO.keep K21 all0).2) d8_21 (q := 24) rfl ?_
            refine gs (mkF m 25 _ [(.ref a1), (.ref (ss 5))]) (fun T A t k => XS.aloadN A B.x rfl (B.d d8_24) rfl rfl k) ?_
            refine g_pay (Q' := fun v h' L => v = some (.int (if [51, 46, 50] = cs then 1 else 0 : Int32)) ∧ L = [] ∧ h21 = h') (k := 0) (n := 0) (c_virt B (X5.exa.ext (PO.keep K21 all0).2) (hw _ (List.mem_of_getElem? (i := 61) rfl)) (hw _ (List.mem_of_getElem? (i := 62) rfl)) (hw _ (List.mem_of_getElem? (i := 64) rfl)) (hw _ (List.mem_of_getElem? (i := 63) rfl)) (nfs (z := (⟨"java/lang/String", "equals", "(Ljava/lang/Object;)Z"⟩ : MethodName)) (hw _ (List.mem_of_getElem? (i := 64) rfl))) (by decide) rfl (lenOf pd_28Ljava2flang2fObject3b29Z rfl) rfl (Nat.le_of_eq rfl) d8_25 rfl (argsL := [(.ref a1)]) (rest := []) (W := 0) (q := 28)) (fun hZ => own_eq hZ (fun d hd => hw d (own_weq d hd)) (hw _ (List.mem_of_getElem? (i := 2) rfl)) (X5.ext (PO.keep K21 all0).2) (PS.keep K21 ⟨nin0, nin0⟩) (SC.ext (PO.keep K21 all0).2) hzc (by decide) (by decide)) (by decide) (by decide) (fun v h' L q => ⟨by rw [q.2.1]; exact Fr.nil _, [], by rw [← q.2.2]; exact Keep.refl _ _, all0⟩) ?_
            rintro v28 h28 L28 ⟨rfl, -, rfl⟩
            by_cases hE5 : [51, 46, 50] = cs
            · rw [if_pos hE5]
              refine gs (mkF m 31 _ []) (fun T A t k => XS.ifNo A B.x rfl (B.d d8_28) rfl ((if0 _ _).trans (feq (by decide : ¬ ((1 : Int32) = (0 : Int32)))).1) k) ?_
              refine gs (mkF m 33 _ [(.ref (ee 5))]) (fun T A t k => XS.aload A B.x rfl (B.d d8_31) rfl rfl k) ?_
              exact g_retA B rfl rfl d8_33 (by decide) (by decide) ⟨by rw [ofV, if_neg hE0, if_neg hE1, if_neg hE2, if_neg hE3, if_neg hE4, if_pos hE5], ((Keep.refl h0 []).trans K21 all0)⟩
            · rw [if_neg hE5]
              refine gs (mkF m 34 _ []) (fun T A t k => XS.ifYes A B.x rfl (pc0 := 28) (pc' := 34) rfl (B.d d8_28) rfl ((if0 _ _).trans (teq (by decide : (0 : Int32) = (0 : Int32))).1) (by decide) (by decide) k) ?_
              refine gs (mkF m 37 #[.val (.ref a1), .val (.ref x21), .val (.int (6 : Int32)), .val (.int (6 : Int32)), .val (.ref (ee 5))] []) (fun T A t k => XS.iinc A B.x rfl (B.d d8_34) rfl (l' := #[.val (.ref a1), .val (.ref x21), .val (.int (6 : Int32)), .val (.int (6 : Int32)), .val (.ref (ee 5))]) rfl k) ?_
              refine gs (mkF m 9 _ []) (fun T A t k => XS.goto A B.x rfl (pc0 := 37) (pc' := 9) rfl (B.d d8_37) (by decide) (by decide) k) ?_
              refine gs (mkF m 10 _ [(.int (6 : Int32))]) (fun T A t k => XS.iloadN A B.x rfl (B.d d8_9) rfl k) ?_
              refine gs (mkF m 11 _ [(.int (6 : Int32)), (.int (6 : Int32))]) (fun T A t k => XS.iloadN A B.x rfl (B.d d8_10) rfl k) ?_
              refine gs (mkF m 40 _ []) (fun T A t k => XS.icmpYes A B.x rfl (pc0 := 11) (pc' := 40) rfl (B.d d8_11) rfl (flt (by decide : ¬ ((6 : Int32) < (6 : Int32)))).2.1 (by decide) (by decide) k) ?_
              refine gs (mkF m 41 _ [.null]) (fun T A t k => XS.aconstNull A B.x rfl (B.d d8_40) k) ?_
              exact g_retA B rfl rfl d8_41 (by decide) (by decide) ⟨by rw [ofV, if_neg hE0, if_neg hE1, if_neg hE2, if_neg hE3, if_neg hE4, if_neg hE5], ((Keep.refl h0 []).trans K21 all0)⟩
set_option maxRecDepth 65536 in
set_option maxHeartbeats 40000000 in
theorem own_of0 (l : Launch) (Z : State) (a0 : Array Value) (hw : ∀ d ∈ tables_1, d.before a0 Z = true) (hEL : EW Z a0 consts_1)  (va : Addr) (kv : ClassId) (ee ss tt : Nat → Addr) (h0 : Heap) (n0 : Nat) (PE : Enums Z va kv ee ss tt) (PO : Old Z n0 h0) :
    Met true Z consts_1 l (⟨"com/example/dutiful_container/dutifulcontainer/PersistenceSchema", "of", "(Ljava/lang/String;)Lcom/example/dutiful_container/dutifulcontainer/PersistenceSchema;"⟩ : MethodName) prog_4_method_4_code 5 (some (.object "com/example/dutiful_container/dutifulcontainer/PersistenceSchema")) ({ frames := 4, cells := 1, slots := 6, locals := 60 } : Room) #[.null] h0 [] n0 (fun v h => v = some .null ∧ Keep h0 h []) := by
  refine Met.of (a0 := a0) (Ls := #[.val .null, .unset, .unset, .unset, .unset]) (fun z => (nomatch z)) (plainFor_of_name pn_com_example_dutiful_container_dutifulcontainer_PersistenceSchema) hEL (fun m => by first | (simp [entryFrame, mkF, argsToLocals, Value.category]; done) | rfl) ?_
  intro p e s m below meth c B hSf
  refine g_wt (fun Wt0 => ?_)
  obtain ⟨⟨S0, F0, X0⟩, ⟨S1, F1, X1⟩, ⟨S2, F2, X2⟩, ⟨S3, F3, X3⟩, ⟨S4, F4, X4⟩, ⟨S5, F5, X5⟩, SV, EV, AV⟩ := id PE
  refine g_met hEL (c_static B (hw _ (List.mem_of_getElem? (i := 38) rfl)) (hw _ (List.mem_of_getElem? (i := 39) rfl)) (hw _ (List.mem_of_getElem? (i := 36) rfl)) (hw _ (List.mem_of_getElem? (i := 40) rfl)) (by decide) rfl (lenOf pd_28295bLcom2fexample2fdutiful_container2fdutifulcontainer2fPersistenceSchema3b rfl) rfl (Nat.le_of_eq rfl) d8_0 rfl (argsL := []) (rest := []) (W := 0) (q := 3)) (own_vals l Z a0 hw hEL  va kv ee ss tt h0 n0 PO PE) (hw _ (List.mem_of_getElem? (i := 40) rfl)) (hw _ (List.mem_of_getElem? (i := 36) rfl)) (by decide) (by decide) (by decide) (by decide) (fun _ q => nomatch q) ?_
  intro v21 h21 vm21 hZ21 C21 hQ21
  obtain ⟨x21, rfl, K21, g21, V21⟩ := hQ21
  refine g_wt (fun Wt22 => ?_)
  have z21 := K21.1; have y21 : @LT.lt Nat _ x21 h21.size := V21.lt
  refine gs (mkF m 4 #[.val .null, .val (.ref x21), .unset, .unset, .unset] []) (fun T A t k => XS.astoreN A B.x rfl (B.d d8_3) rfl rfl (l' := #[.val .null, .val (.ref x21), .unset, .unset, .unset]) rfl k) ?_
  refine gs (mkF m 5 _ [(.ref x21)]) (fun T A t k => XS.aloadN A B.x rfl (B.d d8_4) rfl rfl k) ?_
  refine g_len B V21 d8_5 (q := 6) rfl ?_
  refine gs (mkF m 7 #[.val .null, .val (.ref x21), .val (.int (6 : Int32)), .unset, .unset] []) (fun T A t k => XS.istoreN A B.x rfl (B.d d8_6) rfl (l' := #[.val .null, .val (.ref x21), .val (.int (6 : Int32)), .unset, .unset]) rfl k) ?_
  refine gs (mkF m 8 _ [(.int (0 : Int32))]) (fun T A t k => XS.iconst A B.x rfl (B.d d8_7) k) ?_
  refine gs (mkF m 9 #[.val .null, .val (.ref x21), .val (.int (6 : Int32)), .val (.int (0 : Int32)), .unset] []) (fun T A t k => XS.istoreN A B.x rfl (B.d d8_8) rfl (l' := #[.val .null, .val (.ref x21), .val (.int (6 : Int32)), .val (.int (0 : Int32)), .unset]) rfl k) ?_
  refine gs (mkF m 10 _ [(.int (0 : Int32))]) (fun T A t k => XS.iloadN A B.x rfl (B.d d8_9) rfl k) ?_
  refine gs (mkF m 11 _ [(.int (6 : Int32)), (.int (0 : Int32))]) (fun T A t k => XS.iloadN A B.x rfl (B.d d8_10) rfl k) ?_
  refine gs (mkF m 14 _ []) (fun T A t k => XS.icmpNo A B.x rfl (B.d d8_11) rfl (tlt (by decide : (0 : Int32) < (6 : Int32))).2.1 k) ?_
  refine gs (mkF m 15 _ [(.ref x21)]) (fun T A t k => XS.aloadN A B.x rfl (B.d d8_14) rfl rfl k) ?_
  refine gs (mkF m 16 _ [(.int (0 : Int32)), (.ref x21)]) (fun T A t k => XS.iloadN A B.x rfl (B.d d8_15) rfl k) ?_
  refine g_ldR B V21 rfl ⟨by decide, by decide⟩ (v := (.ref (ee 0))) rfl d8_16 (q := 17) rfl ?_
  refine gs (mkF m 19 #[.val .null, .val (.ref x21), .val (.int (6 : Int32)), .val (.int (0 : Int32)), .val (.ref (ee 0))] []) (fun T A t k => XS.astore A B.x rfl (B.d d8_17) rfl rfl (l' := #[.val .null, .val (.ref x21), .val (.int (6 : Int32)), .val (.int (0 : Int32)), .val (.ref (ee 0))]) rfl k) ?_
  refine gs (mkF m 21 _ [(.ref (ee 0))]) (fun T A t k => XS.aload A B.x rfl (B.d d8_19) rfl rfl k) ?_
  refine g_getF B (hw _ (List.mem_of_getElem? (i := 59) rfl)) Via.refl (F0.ext (PO.keep K21 all0).2) d8_21 (q := 24) rfl ?_
  refine gs (mkF m 25 _ [.null, (.ref (ss 0))]) (fun T A t k => XS.aloadN A B.x rfl (B.d d8_24) rfl rfl k) ?_
  refine g_met hEL (c_virt B (X0.exa.ext (PO.keep K21 all0).2) (hw _ (List.mem_of_getElem? (i := 61) rfl)) (hw _ (List.mem_of_getElem? (i := 62) rfl)) (hw _ (List.mem_of_getElem? (i := 64) rfl)) (hw _ (List.mem_of_getElem? (i := 63) rfl)) (nfs (z := (⟨"java/lang/String", "equals", "(Ljava/lang/Object;)Z"⟩ : MethodName)) (hw _ (List.mem_of_getElem? (i := 64) rfl))) (by decide) rfl (lenOf pd_28Ljava2flang2fObject3b29Z rfl) rfl (Nat.le_of_eq rfl) d8_25 rfl (argsL := [.null]) (rest := []) (W := 0) (q := 28)) (own_eq0 l Z a0 hw hEL (ss 0) h21 n0) (hw _ (List.mem_of_getElem? (i := 65) rfl)) (hw _ (List.mem_of_getElem? (i := 3) rfl)) (by decide) (by decide) (by decide) (by decide) (fun _ q => nomatch q) ?_
  intro v23 h23 vm23 hZ23 C23 hQ23
  obtain ⟨rfl, rfl⟩ := hQ23
  refine g_wt (fun Wt24 => ?_)
  refine gs (mkF m 34 _ []) (fun T A t k => XS.ifYes A B.x rfl (pc0 := 28) (pc' := 34) rfl (B.d d8_28) rfl ((if0 _ _).trans (teq (by decide : (0 : Int32) = (0 : Int32))).1) (by decide) (by decide) k) ?_
  refine gs (mkF m 37 #[.val .null, .val (.ref x21), .val (.int (6 : Int32)), .val (.int (1 : Int32)), .val (.ref (ee 0))] []) (fun T A t k => XS.iinc A B.x rfl (B.d d8_34) rfl (l' := #[.val .null, .val (.ref x21), .val (.int (6 : Int32)), .val (.int (1 : Int32)), .val (.ref (ee 0))]) rfl k) ?_
  refine gs (mkF m 9 _ []) (fun T A t k => XS.goto A B.x rfl (pc0 := 37) (pc' := 9) rfl (B.d d8_37) (by decide) (by decide) k) ?_
  refine gs (mkF m 10 _ [(.int (1 : Int32))]) (fun T A t k => XS.iloadN A B.x rfl (B.d d8_9) rfl k) ?_
  refine gs (mkF m 11 _ [(.int (6 : Int32)), (.int (1 : Int32))]) (fun T A t k => XS.iloadN A B.x rfl (B.d d8_10) rfl k) ?_
  refine gs (mkF m 14 _ []) (fun T A t k => XS.icmpNo A B.x rfl (B.d d8_11) rfl (tlt (by decide : (1 : Int32) < (6 : Int32))).2.1 k) ?_
  refine gs (mkF m 15 _ [(.ref x21)]) (fun T A t k => XS.aloadN A B.x rfl (B.d d8_14) rfl rfl k) ?_
  refine gs (mkF m 16 _ [(.int (1 : Int32)), (.ref x21)]) (fun T A t k => XS.iloadN A B.x rfl (B.d d8_15) rfl k) ?_
  refine g_ldR B V21 rfl ⟨by decide, by decide⟩ (v := (.ref (ee 1))) rfl d8_16 (q := 17) rfl ?_
  refine gs (mkF m 19 #[.val .null, .val (.ref x21), .val (.int (6 : Int32)), .val (.int (1 : Int32)), .val (.ref (ee 1))] []) (fun T A t k => XS.astore A B.x rfl (B.d d8_17) rfl rfl (l' := #[.val .null, .val (.ref x21), .val (.int (6 : Int32)), .val (.int (1 : Int32)), .val (.ref (ee 1))]) rfl k) ?_
  refine gs (mkF m 21 _ [(.ref (ee 1))]) (fun T A t k => XS.aload A B.x rfl (B.d d8_19) rfl rfl k) ?_
  refine g_getF B (hw _ (List.mem_of_getElem? (i := 59) rfl)) Via.refl (F1.ext (PO.keep K21 all0).2) d8_21 (q := 24) rfl ?_
  refine gs (mkF m 25 _ [.null, (.ref (ss 1))]) (fun T A t k => XS.aloadN A B.x rfl (B.d d8_24) rfl rfl k) ?_
  refine g_met hEL (c_virt B (X1.exa.ext (PO.keep K21 all0).2) (hw _ (List.mem_of_getElem? (i := 61) rfl)) (hw _ (List.mem_of_getElem? (i := 62) rfl)) (hw _ (List.mem_of_getElem? (i := 64) rfl)) (hw _ (List.mem_of_getElem? (i := 63) rfl)) (nfs (z := (⟨"java/lang/String", "equals", "(Ljava/lang/Object;)Z"⟩ : MethodName)) (hw _ (List.mem_of_getElem? (i := 64) rfl))) (by decide) rfl (lenOf pd_28Ljava2flang2fObject3b29Z rfl) rfl (Nat.le_of_eq rfl) d8_25 rfl (argsL := [.null]) (rest := []) (W := 0) (q := 28)) (own_eq0 l Z a0 hw hEL (ss 1) h21 n0) (hw _ (List.mem_of_getElem? (i := 65) rfl)) (hw _ (List.mem_of_getElem? (i := 3) rfl)) (by decide) (by decide) (by decide) (by decide) (fun _ q => nomatch q) ?_
  intro v25 h25 vm25 hZ25 C25 hQ25
  obtain ⟨rfl, rfl⟩ := hQ25
  refine g_wt (fun Wt26 => ?_)
  refine gs (mkF m 34 _ []) (fun T A t k => XS.ifYes A B.x rfl (pc0 := 28) (pc' := 34) rfl (B.d d8_28) rfl ((if0 _ _).trans (teq (by decide : (0 : Int32) = (0 : Int32))).1) (by decide) (by decide) k) ?_
  refine gs (mkF m 37 #[.val .null, .val (.ref x21), .val (.int (6 : Int32)), .val (.int (2 : Int32)), .val (.ref (ee 1))] []) (fun T A t k => XS.iinc A B.x rfl (B.d d8_34) rfl (l' := #[.val .null, .val (.ref x21), .val (.int (6 : Int32)), .val (.int (2 : Int32)), .val (.ref (ee 1))]) rfl k) ?_
  refine gs (mkF m 9 _ []) (fun T A t k => XS.goto A B.x rfl (pc0 := 37) (pc' := 9) rfl (B.d d8_37) (by decide) (by decide) k) ?_
  refine gs (mkF m 10 _ [(.int (2 : Int32))]) (fun T A t k => XS.iloadN A B.x rfl (B.d d8_9) rfl k) ?_
  refine gs (mkF m 11 _ [(.int (6 : Int32)), (.int (2 : Int32))]) (fun T A t k => XS.iloadN A B.x rfl (B.d d8_10) rfl k) ?_
  refine gs (mkF m 14 _ []) (fun T A t k => XS.icmpNo A B.x rfl (B.d d8_11) rfl (tlt (by decide : (2 : Int32) < (6 : Int32))).2.1 k) ?_
  refine gs (mkF m 15 _ [(.ref x21)]) (fun T A t k => XS.aloadN A B.x rfl (B.d d8_14) rfl rfl k) ?_
  refine gs (mkF m 16 _ [(.int (2 : Int32)), (.ref x21)]) (fun T A t k => XS.iloadN A B.x rfl (B.d d8_15) rfl k) ?_
  refine g_ldR B V21 rfl ⟨by decide, by decide⟩ (v := (.ref (ee 2))) rfl d8_16 (q := 17) rfl ?_
  refine gs (mkF m 19 #[.val .null, .val (.ref x21), .val (.int (6 : Int32)), .val (.int (2 : Int32)), .val (.ref (ee 2))] []) (fun T A t k => XS.astore A B.x rfl (B.d d8_17) rfl rfl (l' := #[.val .null, .val (.ref x21), .val (.int (6 : Int32)), .val (.int (2 : Int32)), .val (.ref (ee 2))]) rfl k) ?_
  refine gs (mkF m 21 _ [(.ref (ee 2))]) (fun T A t k => XS.aload A B.x rfl (B.d d8_19) rfl rfl k) ?_
  refine g_getF B (hw _ (List.mem_of_getElem? (i := 59) rfl)) Via.refl (F2.ext (PO.keep K21 all0).2) d8_21 (q := 24) rfl ?_
  refine gs (mkF m 25 _ [.null, (.ref (ss 2))]) (fun T A t k => XS.aloadN A B.x rfl (B.d d8_24) rfl rfl k) ?_
  refine g_met hEL (c_virt B (X2.exa.ext (PO.keep K21 all0).2) (hw _ (List.mem_of_getElem? (i := 61) rfl)) (hw _ (List.mem_of_getElem? (i := 62) rfl)) (hw _ (List.mem_of_getElem? (i := 64) rfl)) (hw _ (List.mem_of_getElem? (i := 63) rfl)) (nfs (z := (⟨"java/lang/String", "equals", "(Ljava/lang/Object;)Z"⟩ : MethodName)) (hw _ (List.mem_of_getElem? (i := 64) rfl))) (by decide) rfl (lenOf pd_28Ljava2flang2fObject3b29Z rfl) rfl (Nat.le_of_eq rfl) d8_25 rfl (argsL := [.null]) (rest := []) (W := 0) (q := 28)) (own_eq0 l Z a0 hw hEL (ss 2) h21 n0) (hw _ (List.mem_of_getElem? (i := 65) rfl)) (hw _ (List.mem_of_getElem? (i := 3) rfl)) (by decide) (by decide) (by decide) (by decide) (fun _ q => nomatch q) ?_
  intro v27 h27 vm27 hZ27 C27 hQ27
  obtain ⟨rfl, rfl⟩ := hQ27
  refine g_wt (fun Wt28 => ?_)
  refine gs (mkF m 34 _ []) (fun T A t k => XS.ifYes A B.x rfl (pc0 := 28) (pc' := 34) rfl (B.d d8_28) rfl ((if0 _ _).trans (teq (by decide : (0 : Int32) = (0 : Int32))).1) (by decide) (by decide) k) ?_
  refine gs (mkF m 37 #[.val .null, .val (.ref x21), .val (.int (6 : Int32)), .val (.int (3 : Int32)), .val (.ref (ee 2))] []) (fun T A t k => XS.iinc A B.x rfl (B.d d8_34) rfl (l' := #[.val .null, .val (.ref x21), .val (.int (6 : Int32)), .val (.int (3 : Int32)), .val (.ref (ee 2))]) rfl k) ?_
  refine gs (mkF m 9 _ []) (fun T A t k => XS.goto A B.x rfl (pc0 := 37) (pc' := 9) rfl (B.d d8_37) (by decide) (by decide) k) ?_
  refine gs (mkF m 10 _ [(.int (3 : Int32))]) (fun T A t k => XS.iloadN A B.x rfl (B.d d8_9) rfl k) ?_
  refine gs (mkF m 11 _ [(.int (6 : Int32)), (.int (3 : Int32))]) (fun T A t k => XS.iloadN A B.x rfl (B.d d8_10) rfl k) ?_
  refine gs (mkF m 14 _ []) (fun T A t k => XS.icmpNo A B.x rfl (B.d d8_11) rfl (tlt (by decide : (3 : Int32) < (6 : Int32))).2.1 k) ?_
  refine gs (mkF m 15 _ [(.ref x21)]) (fun T A t k => XS.aloadN A B.x rfl (B.d d8_14) rfl rfl k) ?_
  refine gs (mkF m 16 _ [(.int (3 : Int32)), (.ref x21)]) (fun T A t k => XS.iloadN A B.x rfl (B.d d8_15) rfl k) ?_
  refine g_ldR B V21 rfl ⟨by decide, by decide⟩ (v := (.ref (ee 3))) rfl d8_16 (q := 17) rfl ?_
  refine gs (mkF m 19 #[.val .null, .val (.ref x21), .val (.int (6 : Int32)), .val (.int (3 : Int32)), .val (.ref (ee 3))] []) (fun T A t k => XS.astore A B.x rfl (B.d d8_17) rfl rfl (l' := #[.val .null, .val (.ref x21), .val (.int (6 : Int32)), .val (.int (3 : Int32)), .val (.ref (ee 3))]) rfl k) ?_
  refine gs (mkF m 21 _ [(.ref (ee 3))]) (fun T A t k => XS.aload A B.x rfl (B.d d8_19) rfl rfl k) ?_
  refine g_getF B (hw _ (List.mem_of_getElem? (i := 59) rfl)) Via.refl (F3.ext (PO.keep K21 all0).2) d8_21 (q := 24) rfl ?_
  refine gs (mkF m 25 _ [.null, (.ref (ss 3))]) (fun T A t k => XS.aloadN A B.x rfl (B.d d8_24) rfl rfl k) ?_
  refine g_met hEL (c_virt B (X3.exa.ext (PO.keep K21 all0).2) (hw _ (List.mem_of_getElem? (i := 61) rfl)) (hw _ (List.mem_of_getElem? (i := 62) rfl)) (hw _ (List.mem_of_getElem? (i := 64) rfl)) (hw _ (List.mem_of_getElem? (i := 63) rfl)) (nfs (z := (⟨"java/lang/String", "equals", "(Ljava/lang/Object;)Z"⟩ : MethodName)) (hw _ (List.mem_of_getElem? (i := 64) rfl))) (by decide) rfl (lenOf pd_28Ljava2flang2fObject3b29Z rfl) rfl (Nat.le_of_eq rfl) d8_25 rfl (argsL := [.null]) (rest := []) (W := 0) (q := 28)) (own_eq0 l Z a0 hw hEL (ss 3) h21 n0) (hw _ (List.mem_of_getElem? (i := 65) rfl)) (hw _ (List.mem_of_getElem? (i := 3) rfl)) (by decide) (by decide) (by decide) (by decide) (fun _ q => nomatch q) ?_
  intro v29 h29 vm29 hZ29 C29 hQ29
  obtain ⟨rfl, rfl⟩ := hQ29
  refine g_wt (fun Wt30 => ?_)
  refine gs (mkF m 34 _ []) (fun T A t k => XS.ifYes A B.x rfl (pc0 := 28) (pc' := 34) rfl (B.d d8_28) rfl ((if0 _ _).trans (teq (by decide : (0 : Int32) = (0 : Int32))).1) (by decide) (by decide) k) ?_
  refine gs (mkF m 37 #[.val .null, .val (.ref x21), .val (.int (6 : Int32)), .val (.int (4 : Int32)), .val (.ref (ee 3))] []) (fun T A t k => XS.iinc A B.x rfl (B.d d8_34) rfl (l' := #[.val .null, .val (.ref x21), .val (.int (6 : Int32)), .val (.int (4 : Int32)), .val (.ref (ee 3))]) rfl k) ?_
  refine gs (mkF m 9 _ []) (fun T A t k => XS.goto A B.x rfl (pc0 := 37) (pc' := 9) rfl (B.d d8_37) (by decide) (by decide) k) ?_
  refine gs (mkF m 10 _ [(.int (4 : Int32))]) (fun T A t k => XS.iloadN A B.x rfl (B.d d8_9) rfl k) ?_
  refine gs (mkF m 11 _ [(.int (6 : Int32)), (.int (4 : Int32))]) (fun T A t k => XS.iloadN A B.x rfl (B.d d8_10) rfl k) ?_
  refine gs (mkF m 14 _ []) (fun T A t k => XS.icmpNo A B.x rfl (B.d d8_11) rfl (tlt (by decide : (4 : Int32) < (6 : Int32))).2.1 k) ?_
  refine gs (mkF m 15 _ [(.ref x21)]) (fun T A t k => XS.aloadN A B.x rfl (B.d d8_14) rfl rfl k) ?_
  refine gs (mkF m 16 _ [(.int (4 : Int32)), (.ref x21)]) (fun T A t k => XS.iloadN A B.x rfl (B.d d8_15) rfl k) ?_
  refine g_ldR B V21 rfl ⟨by decide, by decide⟩ (v := (.ref (ee 4))) rfl d8_16 (q := 17) rfl ?_
  refine gs (mkF m 19 #[.val .null, .val (.ref x21), .val (.int (6 : Int32)), .val (.int (4 : Int32)), .val (.ref (ee 4))] []) (fun T A t k => XS.astore A B.x rfl (B.d d8_17) rfl rfl (l' := #[.val .null, .val (.ref x21), .val (.int (6 : Int32)), .val (.int (4 : Int32)), .val (.ref (ee 4))]) rfl k) ?_
  refine gs (mkF m 21 _ [(.ref (ee 4))]) (fun T A t k => XS.aload A B.x rfl (B.d d8_19) rfl rfl k) ?_
  refine g_getF B (hw _ (List.mem_of_getElem? (i := 59) rfl)) Via.refl (F4.ext (PO.keep K21 all0).2) d8_21 (q := 24) rfl ?_
  refine gs (mkF m 25 _ [.null, (.ref (ss 4))]) (fun T A t k => XS.aloadN A B.x rfl (B.d d8_24) rfl rfl k) ?_
  refine g_met hEL (c_virt B (X4.exa.ext (PO.keep K21 all0).2) (hw _ (List.mem_of_getElem? (i := 61) rfl)) (hw _ (List.mem_of_getElem? (i := 62) rfl)) (hw _ (List.mem_of_getElem? (i := 64) rfl)) (hw _ (List.mem_of_getElem? (i := 63) rfl)) (nfs (z := (⟨"java/lang/String", "equals", "(Ljava/lang/Object;)Z"⟩ : MethodName)) (hw _ (List.mem_of_getElem? (i := 64) rfl))) (by decide) rfl (lenOf pd_28Ljava2flang2fObject3b29Z rfl) rfl (Nat.le_of_eq rfl) d8_25 rfl (argsL := [.null]) (rest := []) (W := 0) (q := 28)) (own_eq0 l Z a0 hw hEL (ss 4) h21 n0) (hw _ (List.mem_of_getElem? (i := 65) rfl)) (hw _ (List.mem_of_getElem? (i := 3) rfl)) (by decide) (by decide) (by decide) (by decide) (fun _ q => nomatch q) ?_
  intro v31 h31 vm31 hZ31 C31 hQ31
  obtain ⟨rfl, rfl⟩ := hQ31
  refine g_wt (fun Wt32 => ?_)
  refine gs (mkF m 34 _ []) (fun T A t k => XS.ifYes A B.x rfl (pc0 := 28) (pc' := 34) rfl (B.d d8_28) rfl ((if0 _ _).trans (teq (by decide : (0 : Int32) = (0 : Int32))).1) (by decide) (by decide) k) ?_
  refine gs (mkF m 37 #[.val .null, .val (.ref x21), .val (.int (6 : Int32)), .val (.int (5 : Int32)), .val (.ref (ee 4))] []) (fun T A t k => XS.iinc A B.x rfl (B.d d8_34) rfl (l' := #[.val .null, .val (.ref x21), .val (.int (6 : Int32)), .val (.int (5 : Int32)), .val (.ref (ee 4))]) rfl k) ?_
  refine gs (mkF m 9 _ []) (fun T A t k => XS.goto A B.x rfl (pc0 := 37) (pc' := 9) rfl (B.d d8_37) (by decide) (by decide) k) ?_
  refine gs (mkF m 10 _ [(.int (5 : Int32))]) (fun T A t k => XS.iloadN A B.x rfl (B.d d8_9) rfl k) ?_
  refine gs (mkF m 11 _ [(.int (6 : Int32)), (.int (5 : Int32))]) (fun T A t k => XS.iloadN A B.x rfl (B.d d8_10) rfl k) ?_
  refine gs (mkF m 14 _ []) (fun T A t k => XS.icmpNo A B.x rfl (B.d d8_11) rfl (tlt (by decide : (5 : Int32) < (6 : Int32))).2.1 k) ?_
  refine gs (mkF m 15 _ [(.ref x21)]) (fun T A t k => XS.aloadN A B.x rfl (B.d d8_14) rfl rfl k) ?_
  refine gs (mkF m 16 _ [(.int (5 : Int32)), (.ref x21)]) (fun T A t k => XS.iloadN A B.x rfl (B.d d8_15) rfl k) ?_
  refine g_ldR B V21 rfl ⟨by decide, by decide⟩ (v := (.ref (ee 5))) rfl d8_16 (q := 17) rfl ?_
  refine gs (mkF m 19 #[.val .null, .val (.ref x21), .val (.int (6 : Int32)), .val (.int (5 : Int32)), .val (.ref (ee 5))] []) (fun T A t k => XS.astore A B.x rfl (B.d d8_17) rfl rfl (l' := #[.val .null, .val (.ref x21), .val (.int (6 : Int32)), .val (.int (5 : Int32)), .val (.ref (ee 5))]) rfl k) ?_
  refine gs (mkF m 21 _ [(.ref (ee 5))]) (fun T A t k => XS.aload A B.x rfl (B.d d8_19) rfl rfl k) ?_
  refine g_getF B (hw _ (List.mem_of_getElem? (i := 59) rfl)) Via.refl (F5.ext (PO.keep K21 all0).2) d8_21 (q := 24) rfl ?_
  refine gs (mkF m 25 _ [.null, (.ref (ss 5))]) (fun T A t k => XS.aloadN A B.x rfl (B.d d8_24) rfl rfl k) ?_
  refine g_met hEL (c_virt B (X5.exa.ext (PO.keep K21 all0).2) (hw _ (List.mem_of_getElem? (i := 61) rfl)) (hw _ (List.mem_of_getElem? (i := 62) rfl)) (hw _ (List.mem_of_getElem? (i := 64) rfl)) (hw _ (List.mem_of_getElem? (i := 63) rfl)) (nfs (z := (⟨"java/lang/String", "equals", "(Ljava/lang/Object;)Z"⟩ : MethodName)) (hw _ (List.mem_of_getElem? (i := 64) rfl))) (by decide) rfl (lenOf pd_28Ljava2flang2fObject3b29Z rfl) rfl (Nat.le_of_eq rfl) d8_25 rfl (argsL := [.null]) (rest := []) (W := 0) (q := 28)) (own_eq0 l Z a0 hw hEL (ss 5) h21 n0) (hw _ (List.mem_of_getElem? (i := 65) rfl)) (hw _ (List.mem_of_getElem? (i := 3) rfl)) (by decide) (by decide) (by decide) (by decide) (fun _ q => nomatch q) ?_
  intro v33 h33 vm33 hZ33 C33 hQ33
  obtain ⟨rfl, rfl⟩ := hQ33
  refine g_wt (fun Wt34 => ?_)
  refine gs (mkF m 34 _ []) (fun T A t k => XS.ifYes A B.x rfl (pc0 := 28) (pc' := 34) rfl (B.d d8_28) rfl ((if0 _ _).trans (teq (by decide : (0 : Int32) = (0 : Int32))).1) (by decide) (by decide) k) ?_
  refine gs (mkF m 37 #[.val .null, .val (.ref x21), .val (.int (6 : Int32)), .val (.int (6 : Int32)), .val (.ref (ee 5))] []) (fun T A t k => XS.iinc A B.x rfl (B.d d8_34) rfl (l' := #[.val .null, .val (.ref x21), .val (.int (6 : Int32)), .val (.int (6 : Int32)), .val (.ref (ee 5))]) rfl k) ?_
  refine gs (mkF m 9 _ []) (fun T A t k => XS.goto A B.x rfl (pc0 := 37) (pc' := 9) rfl (B.d d8_37) (by decide) (by decide) k) ?_
  refine gs (mkF m 10 _ [(.int (6 : Int32))]) (fun T A t k => XS.iloadN A B.x rfl (B.d d8_9) rfl k) ?_
  refine gs (mkF m 11 _ [(.int (6 : Int32)), (.int (6 : Int32))]) (fun T A t k => XS.iloadN A B.x rfl (B.d d8_10) rfl k) ?_
  refine gs (mkF m 40 _ []) (fun T A t k => XS.icmpYes A B.x rfl (pc0 := 11) (pc' := 40) rfl (B.d d8_11) rfl (flt (by decide : ¬ ((6 : Int32) < (6 : Int32)))).2.1 (by decide) (by decide) k) ?_
  refine gs (mkF m 41 _ [.null]) (fun T A t k => XS.aconstNull A B.x rfl (B.d d8_40) k) ?_
  exact g_retA B rfl rfl d8_41 (by decide) (by decide) ⟨rfl, ((Keep.refl h0 []).trans K21 all0)⟩
theorem pn_com_example_dutiful_container_dutifulcontainer_PersistenceSchemaOfPinLaw : plainName "com/example/dutiful_container/dutifulcontainer/PersistenceSchemaOfPinLaw" = true := by first | (simp [plainName, overriddenIn]; done) | decide +kernel
theorem d7_0 : decode method_3_code 0 = .ok (.iload_n 1, 1) := by decide +kernel
theorem d7_1 : decode method_3_code 1 = .ok (.bipush 46, 2) := by decide +kernel
theorem d7_3 : decode method_3_code 3 = .ok (.if_icmp .eq 5, 3) := by decide +kernel
theorem d7_8 : decode method_3_code 8 = .ok (.iload_n 0, 1) := by decide +kernel
theorem d7_9 : decode method_3_code 9 = .ok (.bipush 49, 2) := by decide +kernel
theorem d7_11 : decode method_3_code 11 = .ok (.if_icmp .ne 15, 3) := by decide +kernel
theorem d7_14 : decode method_3_code 14 = .ok (.iload_n 2, 1) := by decide +kernel
theorem d7_15 : decode method_3_code 15 = .ok (.bipush 48, 2) := by decide +kernel
theorem d7_17 : decode method_3_code 17 = .ok (.if_icmp .ne 7, 3) := by decide +kernel
theorem d7_20 : decode method_3_code 20 = .ok (.getstatic 26, 3) := by decide +kernel
theorem d7_23 : decode method_3_code 23 = .ok (.areturn, 1) := by decide +kernel
theorem d7_24 : decode method_3_code 24 = .ok (.aconst_null, 1) := by decide +kernel
theorem d7_25 : decode method_3_code 25 = .ok (.areturn, 1) := by decide +kernel
theorem d7_26 : decode method_3_code 26 = .ok (.iload_n 0, 1) := by decide +kernel
theorem d7_27 : decode method_3_code 27 = .ok (.bipush 50, 2) := by decide +kernel
theorem d7_29 : decode method_3_code 29 = .ok (.if_icmp .ne 35, 3) := by decide +kernel
theorem d7_32 : decode method_3_code 32 = .ok (.iload_n 2, 1) := by decide +kernel
theorem d7_33 : decode method_3_code 33 = .ok (.bipush 48, 2) := by decide +kernel
theorem d7_35 : decode method_3_code 35 = .ok (.if_icmp .ne 7, 3) := by decide +kernel
theorem d7_38 : decode method_3_code 38 = .ok (.getstatic 30, 3) := by decide +kernel
theorem d7_41 : decode method_3_code 41 = .ok (.areturn, 1) := by decide +kernel
theorem d7_42 : decode method_3_code 42 = .ok (.iload_n 2, 1) := by decide +kernel
theorem d7_43 : decode method_3_code 43 = .ok (.bipush 49, 2) := by decide +kernel
theorem d7_45 : decode method_3_code 45 = .ok (.if_icmp .ne 7, 3) := by decide +kernel
theorem d7_48 : decode method_3_code 48 = .ok (.getstatic 33, 3) := by decide +kernel
theorem d7_51 : decode method_3_code 51 = .ok (.areturn, 1) := by decide +kernel
theorem d7_52 : decode method_3_code 52 = .ok (.iload_n 2, 1) := by decide +kernel
theorem d7_53 : decode method_3_code 53 = .ok (.bipush 50, 2) := by decide +kernel
theorem d7_55 : decode method_3_code 55 = .ok (.if_icmp .ne 7, 3) := by decide +kernel
theorem d7_58 : decode method_3_code 58 = .ok (.getstatic 36, 3) := by decide +kernel
theorem d7_61 : decode method_3_code 61 = .ok (.areturn, 1) := by decide +kernel
theorem d7_62 : decode method_3_code 62 = .ok (.aconst_null, 1) := by decide +kernel
theorem d7_63 : decode method_3_code 63 = .ok (.areturn, 1) := by decide +kernel
theorem d7_64 : decode method_3_code 64 = .ok (.iload_n 0, 1) := by decide +kernel
theorem d7_65 : decode method_3_code 65 = .ok (.bipush 51, 2) := by decide +kernel
theorem d7_67 : decode method_3_code 67 = .ok (.if_icmp .ne 25, 3) := by decide +kernel
theorem d7_70 : decode method_3_code 70 = .ok (.iload_n 2, 1) := by decide +kernel
theorem d7_71 : decode method_3_code 71 = .ok (.bipush 48, 2) := by decide +kernel
theorem d7_73 : decode method_3_code 73 = .ok (.if_icmp .ne 7, 3) := by decide +kernel
theorem d7_76 : decode method_3_code 76 = .ok (.getstatic 39, 3) := by decide +kernel
theorem d7_79 : decode method_3_code 79 = .ok (.areturn, 1) := by decide +kernel
theorem d7_80 : decode method_3_code 80 = .ok (.iload_n 2, 1) := by decide +kernel
theorem d7_81 : decode method_3_code 81 = .ok (.bipush 50, 2) := by decide +kernel
theorem d7_83 : decode method_3_code 83 = .ok (.if_icmp .ne 7, 3) := by decide +kernel
theorem d7_86 : decode method_3_code 86 = .ok (.getstatic 42, 3) := by decide +kernel
theorem d7_89 : decode method_3_code 89 = .ok (.areturn, 1) := by decide +kernel
theorem d7_90 : decode method_3_code 90 = .ok (.aconst_null, 1) := by decide +kernel
theorem d7_91 : decode method_3_code 91 = .ok (.areturn, 1) := by decide +kernel
theorem d7_92 : decode method_3_code 92 = .ok (.aconst_null, 1) := by decide +kernel
theorem d7_93 : decode method_3_code 93 = .ok (.areturn, 1) := by decide +kernel
theorem d7_6 : decode method_3_code 6 = .ok (.aconst_null, 1) := by decide +kernel
theorem d7_7 : decode method_3_code 7 = .ok (.areturn, 1) := by decide +kernel
set_option maxRecDepth 65536 in
set_option maxHeartbeats 40000000 in
theorem own_ref (l : Launch) (Z : State) (a0 : Array Value) (hw : ∀ d ∈ tables_1, d.before a0 Z = true) (hEL : EW Z a0 consts_1) (c1 : Int32) (c2 : Int32) (c3 : Int32) (va : Addr) (kv : ClassId) (ee ss tt : Nat → Addr) (h0 : Heap) (n0 : Nat) (PE : Enums Z va kv ee ss tt) (PO : Old Z n0 h0) :
    Met true Z consts_1 l (⟨"com/example/dutiful_container/dutifulcontainer/PersistenceSchemaOfPinLaw", "ref", "(CCC)Lcom/example/dutiful_container/dutifulcontainer/PersistenceSchema;"⟩ : MethodName) method_3_code 3 (some (.object "com/example/dutiful_container/dutifulcontainer/PersistenceSchema")) ({ frames := 0, cells := 0, slots := 0, locals := 0 } : Room) #[(.int c1), (.int c2), (.int c3)] h0 [] n0 (fun v h => v = some (refV ee c1 c2 c3) ∧ h0 = h) := by
  refine Met.of (a0 := a0) (Ls := #[.val (.int c1), .val (.int c2), .val (.int c3)]) (fun z => (nomatch z)) (plainFor_of_name pn_com_example_dutiful_container_dutifulcontainer_PersistenceSchemaOfPinLaw) hEL (fun m => by first | (simp [entryFrame, mkF, argsToLocals, Value.category]; done) | rfl) ?_
  intro p e s m below meth c B hSf
  refine g_wt (fun Wt0 => ?_)
  obtain ⟨⟨S0, F0, X0⟩, ⟨S1, F1, X1⟩, ⟨S2, F2, X2⟩, ⟨S3, F3, X3⟩, ⟨S4, F4, X4⟩, ⟨S5, F5, X5⟩, SV, EV, AV⟩ := id PE
  refine gs (mkF m 1 _ [(.int c2)]) (fun T A t k => XS.iloadN A B.x rfl (B.d d7_0) rfl k) ?_
  refine gs (mkF m 3 _ [(.int (46 : Int32)), (.int c2)]) (fun T A t k => XS.bipush A B.x rfl (B.d d7_1) k) ?_
  by_cases hr3 : c2 = (46 : Int32)
  · refine gs (mkF m 8 _ []) (fun T A t k => XS.icmpYes A B.x rfl (pc0 := 3) (pc' := 8) rfl (B.d d7_3) rfl (teq (hr3 : c2 = (46 : Int32))).1 (by decide) (by decide) k) ?_
    refine gs (mkF m 9 _ [(.int c1)]) (fun T A t k => XS.iloadN A B.x rfl (B.d d7_8) rfl k) ?_
    refine gs (mkF m 11 _ [(.int (49 : Int32)), (.int c1)]) (fun T A t k => XS.bipush A B.x rfl (B.d d7_9) k) ?_
    by_cases hr11 : c1 = (49 : Int32)
    · refine gs (mkF m 14 _ []) (fun T A t k => XS.icmpNo A B.x rfl (B.d d7_11) rfl (teq (hr11 : c1 = (49 : Int32))).2 k) ?_
      refine gs (mkF m 15 _ [(.int c3)]) (fun T A t k => XS.iloadN A B.x rfl (B.d d7_14) rfl k) ?_
      refine gs (mkF m 17 _ [(.int (48 : Int32)), (.int c3)]) (fun T A t k => XS.bipush A B.x rfl (B.d d7_15) k) ?_
      by_cases hr17 : c3 = (48 : Int32)
      · refine gs (mkF m 20 _ []) (fun T A t k => XS.icmpNo A B.x rfl (B.d d7_17) rfl (teq (hr17 : c3 = (48 : Int32))).2 k) ?_
        refine g_getS B (hw _ (List.mem_of_getElem? (i := 74) rfl)) (S0.ext PO.2) d7_20 (q := 23) rfl ?_
        exact g_retA B rfl rfl d7_23 (by decide) (by decide) ⟨by simp [refV, hr3, hr11, hr17], rfl⟩
      · refine gs (mkF m 24 _ []) (fun T A t k => XS.icmpYes A B.x rfl (pc0 := 17) (pc' := 24) rfl (B.d d7_17) rfl (feq (hr17 : ¬ (c3 = (48 : Int32)))).2 (by decide) (by decide) k) ?_
        refine gs (mkF m 25 _ [.null]) (fun T A t k => XS.aconstNull A B.x rfl (B.d d7_24) k) ?_
        exact g_retA B rfl rfl d7_25 (by decide) (by decide) ⟨by simp [refV, hr3, hr11, hr17], rfl⟩
    · refine gs (mkF m 26 _ []) (fun T A t k => XS.icmpYes A B.x rfl (pc0 := 11) (pc' := 26) rfl (B.d d7_11) rfl (feq (hr11 : ¬ (c1 = (49 : Int32)))).2 (by decide) (by decide) k) ?_
      refine gs (mkF m 27 _ [(.int c1)]) (fun T A t k => XS.iloadN A B.x rfl (B.d d7_26) rfl k) ?_
      refine gs (mkF m 29 _ [(.int (50 : Int32)), (.int c1)]) (fun T A t k => XS.bipush A B.x rfl (B.d d7_27) k) ?_
      by_cases hr29 : c1 = (50 : Int32)
      · refine gs (mkF m 32 _ []) (fun T A t k => XS.icmpNo A B.x rfl (B.d d7_29) rfl (teq (hr29 : c1 = (50 : Int32))).2 k) ?_
        refine gs (mkF m 33 _ [(.int c3)]) (fun T A t k => XS.iloadN A B.x rfl (B.d d7_32) rfl k) ?_
        refine gs (mkF m 35 _ [(.int (48 : Int32)), (.int c3)]) (fun T A t k => XS.bipush A B.x rfl (B.d d7_33) k) ?_
        by_cases hr35 : c3 = (48 : Int32)
        · refine gs (mkF m 38 _ []) (fun T A t k => XS.icmpNo A B.x rfl (B.d d7_35) rfl (teq (hr35 : c3 = (48 : Int32))).2 k) ?_
          refine g_getS B (hw _ (List.mem_of_getElem? (i := 71) rfl)) (S1.ext PO.2) d7_38 (q := 41) rfl ?_
          exact g_retA B rfl rfl d7_41 (by decide) (by decide) ⟨by simp [refV, hr3, hr11, hr29, hr35], rfl⟩
        · refine gs (mkF m 42 _ []) (fun T A t k => XS.icmpYes A B.x rfl (pc0 := 35) (pc' := 42) rfl (B.d d7_35) rfl (feq (hr35 : ¬ (c3 = (48 : Int32)))).2 (by decide) (by decide) k) ?_
          refine gs (mkF m 43 _ [(.int c3)]) (fun T A t k => XS.iloadN A B.x rfl (B.d d7_42) rfl k) ?_
          refine gs (mkF m 45 _ [(.int (49 : Int32)), (.int c3)]) (fun T A t k => XS.bipush A B.x rfl (B.d d7_43) k) ?_
          by_cases hr45 : c3 = (49 : Int32)
          · refine gs (mkF m 48 _ []) (fun T A t k => XS.icmpNo A B.x rfl (B.d d7_45) rfl (teq (hr45 : c3 = (49 : Int32))).2 k) ?_
            refine g_getS B (hw _ (List.mem_of_getElem? (i := 75) rfl)) (S2.ext PO.2) d7_48 (q := 51) rfl ?_
            exact g_retA B rfl rfl d7_51 (by decide) (by decide) ⟨by simp [refV, hr3, hr11, hr29, hr35, hr45], rfl⟩
          · refine gs (mkF m 52 _ []) (fun T A t k => XS.icmpYes A B.x rfl (pc0 := 45) (pc' := 52) rfl (B.d d7_45) rfl (feq (hr45 : ¬ (c3 = (49 : Int32)))).2 (by decide) (by decide) k) ?_
            refine gs (mkF m 53 _ [(.int c3)]) (fun T A t k => XS.iloadN A B.x rfl (B.d d7_52) rfl k) ?_
            refine gs (mkF m 55 _ [(.int (50 : Int32)), (.int c3)]) (fun T A t k => XS.bipush A B.x rfl (B.d d7_53) k) ?_
            by_cases hr55 : c3 = (50 : Int32)
            · refine gs (mkF m 58 _ []) (fun T A t k => XS.icmpNo A B.x rfl (B.d d7_55) rfl (teq (hr55 : c3 = (50 : Int32))).2 k) ?_
              refine g_getS B (hw _ (List.mem_of_getElem? (i := 73) rfl)) (S3.ext PO.2) d7_58 (q := 61) rfl ?_
              exact g_retA B rfl rfl d7_61 (by decide) (by decide) ⟨by simp [refV, hr3, hr11, hr29, hr35, hr45, hr55], rfl⟩
            · refine gs (mkF m 62 _ []) (fun T A t k => XS.icmpYes A B.x rfl (pc0 := 55) (pc' := 62) rfl (B.d d7_55) rfl (feq (hr55 : ¬ (c3 = (50 : Int32)))).2 (by decide) (by decide) k) ?_
              refine gs (mkF m 63 _ [.null]) (fun T A t k => XS.aconstNull A B.x rfl (B.d d7_62) k) ?_
              exact g_retA B rfl rfl d7_63 (by decide) (by decide) ⟨by simp [refV, hr3, hr11, hr29, hr35, hr45, hr55], rfl⟩
      · refine gs (mkF m 64 _ []) (fun T A t k => XS.icmpYes A B.x rfl (pc0 := 29) (pc' := 64) rfl (B.d d7_29) rfl (feq (hr29 : ¬ (c1 = (50 : Int32)))).2 (by decide) (by decide) k) ?_
        refine gs (mkF m 65 _ [(.int c1)]) (fun T A t k => XS.iloadN A B.x rfl (B.d d7_64) rfl k) ?_
        refine gs (mkF m 67 _ [(.int (51 : Int32)), (.int c1)]) (fun T A t k => XS.bipush A B.x rfl (B.d d7_65) k) ?_
        by_cases hr67 : c1 = (51 : Int32)
        · refine gs (mkF m 70 _ []) (fun T A t k => XS.icmpNo A B.x rfl (B.d d7_67) rfl (teq (hr67 : c1 = (51 : Int32))).2 k) ?_
          refine gs (mkF m 71 _ [(.int c3)]) (fun T A t k => XS.iloadN A B.x rfl (B.d d7_70) rfl k) ?_
          refine gs (mkF m 73 _ [(.int (48 : Int32)), (.int c3)]) (fun T A t k => XS.bipush A B.x rfl (B.d d7_71) k) ?_
          by_cases hr73 : c3 = (48 : Int32)
          · refine gs (mkF m 76 _ []) (fun T A t k => XS.icmpNo A B.x rfl (B.d d7_73) rfl (teq (hr73 : c3 = (48 : Int32))).2 k) ?_
            refine g_getS B (hw _ (List.mem_of_getElem? (i := 72) rfl)) (S4.ext PO.2) d7_76 (q := 79) rfl ?_
            exact g_retA B rfl rfl d7_79 (by decide) (by decide) ⟨by simp [refV, hr3, hr11, hr29, hr67, hr73], rfl⟩
          · refine gs (mkF m 80 _ []) (fun T A t k => XS.icmpYes A B.x rfl (pc0 := 73) (pc' := 80) rfl (B.d d7_73) rfl (feq (hr73 : ¬ (c3 = (48 : Int32)))).2 (by decide) (by decide) k) ?_
            refine gs (mkF m 81 _ [(.int c3)]) (fun T A t k => XS.iloadN A B.x rfl (B.d d7_80) rfl k) ?_
            refine gs (mkF m 83 _ [(.int (50 : Int32)), (.int c3)]) (fun T A t k => XS.bipush A B.x rfl (B.d d7_81) k) ?_
            by_cases hr83 : c3 = (50 : Int32)
            · refine gs (mkF m 86 _ []) (fun T A t k => XS.icmpNo A B.x rfl (B.d d7_83) rfl (teq (hr83 : c3 = (50 : Int32))).2 k) ?_
              refine g_getS B (hw _ (List.mem_of_getElem? (i := 79) rfl)) (S5.ext PO.2) d7_86 (q := 89) rfl ?_
              exact g_retA B rfl rfl d7_89 (by decide) (by decide) ⟨by simp [refV, hr3, hr11, hr29, hr67, hr73, hr83], rfl⟩
            · refine gs (mkF m 90 _ []) (fun T A t k => XS.icmpYes A B.x rfl (pc0 := 83) (pc' := 90) rfl (B.d d7_83) rfl (feq (hr83 : ¬ (c3 = (50 : Int32)))).2 (by decide) (by decide) k) ?_
              refine gs (mkF m 91 _ [.null]) (fun T A t k => XS.aconstNull A B.x rfl (B.d d7_90) k) ?_
              exact g_retA B rfl rfl d7_91 (by decide) (by decide) ⟨by simp [refV, hr3, hr11, hr29, hr67, hr73, hr83], rfl⟩
        · refine gs (mkF m 92 _ []) (fun T A t k => XS.icmpYes A B.x rfl (pc0 := 67) (pc' := 92) rfl (B.d d7_67) rfl (feq (hr67 : ¬ (c1 = (51 : Int32)))).2 (by decide) (by decide) k) ?_
          refine gs (mkF m 93 _ [.null]) (fun T A t k => XS.aconstNull A B.x rfl (B.d d7_92) k) ?_
          exact g_retA B rfl rfl d7_93 (by decide) (by decide) ⟨by simp [refV, hr3, hr11, hr29, hr67], rfl⟩
  · refine gs (mkF m 6 _ []) (fun T A t k => XS.icmpNo A B.x rfl (B.d d7_3) rfl (feq (hr3 : ¬ (c2 = (46 : Int32)))).1 k) ?_
    refine gs (mkF m 7 _ [.null]) (fun T A t k => XS.aconstNull A B.x rfl (B.d d7_6) k) ?_
    exact g_retA B rfl rfl d7_7 (by decide) (by decide) ⟨by simp [refV, hr3], rfl⟩
theorem pd_285bC29V : parseMethodDescriptor "([C)V" = some ⟨[(.array .char)], none⟩ := by decide +kernel
theorem pd_28Ljava2flang2fString3b29Lcom2fexample2fdutiful_container2fdutifulcontainer2fPersistenceSchema3b : parseMethodDescriptor "(Ljava/lang/String;)Lcom/example/dutiful_container/dutifulcontainer/PersistenceSchema;" = some ⟨[(.object "java/lang/String")], some (.object "com/example/dutiful_container/dutifulcontainer/PersistenceSchema")⟩ := by decide +kernel
theorem pd_28CCC29Lcom2fexample2fdutiful_container2fdutifulcontainer2fPersistenceSchema3b : parseMethodDescriptor "(CCC)Lcom/example/dutiful_container/dutifulcontainer/PersistenceSchema;" = some ⟨[.char, .char, .char], some (.object "com/example/dutiful_container/dutifulcontainer/PersistenceSchema")⟩ := by decide +kernel
set_option maxRecDepth 65536 in
set_option maxHeartbeats 40000000 in
theorem own_law (l : Launch) (Z : State) (a0 : Array Value) (hw : ∀ d ∈ tables_1, d.before a0 Z = true) (hEL : EW Z a0 consts_1) (p1 : Int32) (p2 : Int32) (p3 : Int32) (p4 : Int32) (va : Addr) (kv : ClassId) (ee ss tt : Nat → Addr) (zc : Int32) (h0 : Heap) (n0 : Nat) (hn : n0 ≤ h0.size) (PE : Enums Z va kv ee ss tt) (PO : Old Z n0 h0) (SC : Sta Z Z.heap "java/lang/String" "COMPACT_STRINGS" "Z" (.int zc)) (hzc : ¬ zc = 0) :
    Met true Z consts_1 l x code maxLocals ret room_1 #[(.int p1), (.int p2), (.int p3), (.int p4)] h0 [] n0 (fun v h => v = some (.int 1)) := by
  refine Met.of (a0 := a0) (Ls := #[.val (.int p1), .val (.int p2), .val (.int p3), .val (.int p4), .unset, .unset, .unset, .unset, .unset, .unset, .unset, .unset, .unset, .unset, .unset, .unset]) (fun z => (nomatch z)) (plainFor_of_name pn_com_example_dutiful_container_dutifulcontainer_PersistenceSchemaOfPinLaw) hEL (fun m => by first | (simp [entryFrame, mkF, argsToLocals, Value.category, maxLocals]; done) | rfl) ?_
  intro p e s m below meth c B hSf
  refine g_wt (fun Wt0 => ?_)
  obtain ⟨⟨S0, F0, X0⟩, ⟨S1, F1, X1⟩, ⟨S2, F2, X2⟩, ⟨S3, F3, X3⟩, ⟨S4, F4, X4⟩, ⟨S5, F5, X5⟩, SV, EV, AV⟩ := id PE
  refine gs (mkF m 2 _ [(.int (8 : Int32))]) (fun T A t k => XS.bipush A B.x rfl (B.d at_0) k) ?_
  refine g_newP B (hw _ (List.mem_of_getElem? (i := 0) rfl)) at_2 (by decide) (cap := 8) (by decide) (by decide) (by decide) (by decide) (q := 4) rfl ?_
  intro h21 b21 k21 g21 E21 S21 A21
  refine g_wt (fun Wt22 => ?_)
  have z21 := E21.1; have y21 : @LT.lt Nat _ b21 h21.size := A21.lt
  have V21 : Arv Z h21 b21 k21 .char (8 : Int32) [(.int (0 : Int32)), (.int (0 : Int32)), (.int (0 : Int32)), (.int (0 : Int32)), (.int (0 : Int32)), (.int (0 : Int32)), (.int (0 : Int32)), (.int (0 : Int32))] (.int (0 : Int32)) := A21
  refine gs (mkF m 5 _ [(.ref b21), (.ref b21)]) (fun T A t k => XS.dup A B.x rfl (B.d at_4) rfl rfl k) ?_
  refine gs (mkF m 6 _ [(.int (0 : Int32)), (.ref b21), (.ref b21)]) (fun T A t k => XS.iconst A B.x rfl (B.d at_5) k) ?_
  refine gs (mkF m 8 _ [(.int (49 : Int32)), (.int (0 : Int32)), (.ref b21), (.ref b21)]) (fun T A t k => XS.bipush A B.x rfl (B.d at_6) k) ?_
  refine g_stC B V21 (x' := (49 : Int32)) (by decide) ⟨by decide, by decide⟩ (i := 0) rfl (Nat.le_of_ble_eq_true rfl) at_8 (Safe.arv Wt22.1.alike V21 (by decide)) (by omega) (q := 9) rfl ?_
  intro h23 W23 A23
  refine g_wt (fun Wt24 => ?_)
  have z23 := W23.size
  have V23 : Arv Z h23 b21 k21 .char (8 : Int32) [(.int (49 : Int32)), (.int (0 : Int32)), (.int (0 : Int32)), (.int (0 : Int32)), (.int (0 : Int32)), (.int (0 : Int32)), (.int (0 : Int32)), (.int (0 : Int32))] (.int (0 : Int32)) := A23
  refine gs (mkF m 10 _ [(.ref b21), (.ref b21)]) (fun T A t k => XS.dup A B.x rfl (B.d at_9) rfl rfl k) ?_
  refine gs (mkF m 11 _ [(.int (1 : Int32)), (.ref b21), (.ref b21)]) (fun T A t k => XS.iconst A B.x rfl (B.d at_10) k) ?_
  refine gs (mkF m 13 _ [(.int (50 : Int32)), (.int (1 : Int32)), (.ref b21), (.ref b21)]) (fun T A t k => XS.bipush A B.x rfl (B.d at_11) k) ?_
  refine g_stC B V23 (x' := (50 : Int32)) (by decide) ⟨by decide, by decide⟩ (i := 1) rfl (Nat.le_of_ble_eq_true rfl) at_13 (Safe.arv Wt24.1.alike V23 (by decide)) (by omega) (q := 14) rfl ?_
  intro h25 W25 A25
  refine g_wt (fun Wt26 => ?_)
  have z25 := W25.size
  have V25 : Arv Z h25 b21 k21 .char (8 : Int32) [(.int (49 : Int32)), (.int (50 : Int32)), (.int (0 : Int32)), (.int (0 : Int32)), (.int (0 : Int32)), (.int (0 : Int32)), (.int (0 : Int32)), (.int (0 : Int32))] (.int (0 : Int32)) := A25
  refine gs (mkF m 15 _ [(.ref b21), (.ref b21)]) (fun T A t k => XS.dup A B.x rfl (B.d at_14) rfl rfl k) ?_
  refine gs (mkF m 16 _ [(.int (2 : Int32)), (.ref b21), (.ref b21)]) (fun T A t k => XS.iconst A B.x rfl (B.d at_15) k) ?_
  refine gs (mkF m 18 _ [(.int (50 : Int32)), (.int (2 : Int32)), (.ref b21), (.ref b21)]) (fun T A t k => XS.bipush A B.x rfl (B.d at_16) k) ?_
  refine g_stC B V25 (x' := (50 : Int32)) (by decide) ⟨by decide, by decide⟩ (i := 2) rfl (Nat.le_of_ble_eq_true rfl) at_18 (Safe.arv Wt26.1.alike V25 (by decide)) (by omega) (q := 19) rfl ?_
  intro h27 W27 A27
  refine g_wt (fun Wt28 => ?_)
  have z27 := W27.size
  have V27 : Arv Z h27 b21 k21 .char (8 : Int32) [(.int (49 : Int32)), (.int (50 : Int32)), (.int (50 : Int32)), (.int (0 : Int32)), (.int (0 : Int32)), (.int (0 : Int32)), (.int (0 : Int32)), (.int (0 : Int32))] (.int (0 : Int32)) := A27
  refine gs (mkF m 20 _ [(.ref b21), (.ref b21)]) (fun T A t k => XS.dup A B.x rfl (B.d at_19) rfl rfl k) ?_
  refine gs (mkF m 21 _ [(.int (3 : Int32)), (.ref b21), (.ref b21)]) (fun T A t k => XS.iconst A B.x rfl (B.d at_20) k) ?_
  refine gs (mkF m 23 _ [(.int (50 : Int32)), (.int (3 : Int32)), (.ref b21), (.ref b21)]) (fun T A t k => XS.bipush A B.x rfl (B.d at_21) k) ?_
  refine g_stC B V27 (x' := (50 : Int32)) (by decide) ⟨by decide, by decide⟩ (i := 3) rfl (Nat.le_of_ble_eq_true rfl) at_23 (Safe.arv Wt28.1.alike V27 (by decide)) (by omega) (q := 24) rfl ?_
  intro h29 W29 A29
  refine g_wt (fun Wt30 => ?_)
  have z29 := W29.size
  have V29 : Arv Z h29 b21 k21 .char (8 : Int32) [(.int (49 : Int32)), (.int (50 : Int32)), (.int (50 : Int32)), (.int (50 : Int32)), (.int (0 : Int32)), (.int (0 : Int32)), (.int (0 : Int32)), (.int (0 : Int32))] (.int (0 : Int32)) := A29
  refine gs (mkF m 25 _ [(.ref b21), (.ref b21)]) (fun T A t k => XS.dup A B.x rfl (B.d at_24) rfl rfl k) ?_
  refine gs (mkF m 26 _ [(.int (4 : Int32)), (.ref b21), (.ref b21)]) (fun T A t k => XS.iconst A B.x rfl (B.d at_25) k) ?_
  refine gs (mkF m 28 _ [(.int (51 : Int32)), (.int (4 : Int32)), (.ref b21), (.ref b21)]) (fun T A t k => XS.bipush A B.x rfl (B.d at_26) k) ?_
  refine g_stC B V29 (x' := (51 : Int32)) (by decide) ⟨by decide, by decide⟩ (i := 4) rfl (Nat.le_of_ble_eq_true rfl) at_28 (Safe.arv Wt30.1.alike V29 (by decide)) (by omega) (q := 29) rfl ?_
  intro h31 W31 A31
  refine g_wt (fun Wt32 => ?_)
  have z31 := W31.size
  have V31 : Arv Z h31 b21 k21 .char (8 : Int32) [(.int (49 : Int32)), (.int (50 : Int32)), (.int (50 : Int32)), (.int (50 : Int32)), (.int (51 : Int32)), (.int (0 : Int32)), (.int (0 : Int32)), (.int (0 : Int32))] (.int (0 : Int32)) := A31
  refine gs (mkF m 30 _ [(.ref b21), (.ref b21)]) (fun T A t k => XS.dup A B.x rfl (B.d at_29) rfl rfl k) ?_
  refine gs (mkF m 31 _ [(.int (5 : Int32)), (.ref b21), (.ref b21)]) (fun T A t k => XS.iconst A B.x rfl (B.d at_30) k) ?_
  refine gs (mkF m 33 _ [(.int (51 : Int32)), (.int (5 : Int32)), (.ref b21), (.ref b21)]) (fun T A t k => XS.bipush A B.x rfl (B.d at_31) k) ?_
  refine g_stC B V31 (x' := (51 : Int32)) (by decide) ⟨by decide, by decide⟩ (i := 5) rfl (Nat.le_of_ble_eq_true rfl) at_33 (Safe.arv Wt32.1.alike V31 (by decide)) (by omega) (q := 34) rfl ?_
  intro h33 W33 A33
  refine g_wt (fun Wt34 => ?_)
  have z33 := W33.size
  have V33 : Arv Z h33 b21 k21 .char (8 : Int32) [(.int (49 : Int32)), (.int (50 : Int32)), (.int (50 : Int32)), (.int (50 : Int32)), (.int (51 : Int32)), (.int (51 : Int32)), (.int (0 : Int32)), (.int (0 : Int32))] (.int (0 : Int32)) := A33
  refine gs (mkF m 35 _ [(.ref b21), (.ref b21)]) (fun T A t k => XS.dup A B.x rfl (B.d at_34) rfl rfl k) ?_
  refine gs (mkF m 37 _ [(.int (6 : Int32)), (.ref b21), (.ref b21)]) (fun T A t k => XS.bipush A B.x rfl (B.d at_35) k) ?_
  refine gs (mkF m 39 _ [(.int (51 : Int32)), (.int (6 : Int32)), (.ref b21), (.ref b21)]) (fun T A t k => XS.bipush A B.x rfl (B.d at_37) k) ?_
  refine g_stC B V33 (x' := (51 : Int32)) (by decide) ⟨by decide, by decide⟩ (i := 6) rfl (Nat.le_of_ble_eq_true rfl) at_39 (Safe.arv Wt34.1.alike V33 (by decide)) (by omega) (q := 40) rfl ?_
  intro h35 W35 A35
  refine g_wt (fun Wt36 => ?_)
  have z35 := W35.size
  have V35 : Arv Z h35 b21 k21 .char (8 : Int32) [(.int (49 : Int32)), (.int (50 : Int32)), (.int (50 : Int32)), (.int (50 : Int32)), (.int (51 : Int32)), (.int (51 : Int32)), (.int (51 : Int32)), (.int (0 : Int32))] (.int (0 : Int32)) := A35
  refine gs (mkF m 41 _ [(.ref b21), (.ref b21)]) (fun T A t k => XS.dup A B.x rfl (B.d at_40) rfl rfl k) ?_
  refine gs (mkF m 43 _ [(.int (7 : Int32)), (.ref b21), (.ref b21)]) (fun T A t k => XS.bipush A B.x rfl (B.d at_41) k) ?_
  refine gs (mkF m 45 _ [(.int (49 : Int32)), (.int (7 : Int32)), (.ref b21), (.ref b21)]) (fun T A t k => XS.bipush A B.x rfl (B.d at_43) k) ?_
  refine g_stC B V35 (x' := (49 : Int32)) (by decide) ⟨by decide, by decide⟩ (i := 7) rfl (Nat.le_of_ble_eq_true rfl) at_45 (Safe.arv Wt36.1.alike V35 (by decide)) (by omega) (q := 46) rfl ?_
  intro h37 W37 A37
  refine g_wt (fun Wt38 => ?_)
  have z37 := W37.size
  have V37 : Arv Z h37 b21 k21 .char (8 : Int32) [(.int (49 : Int32)), (.int (50 : Int32)), (.int (50 : Int32)), (.int (50 : Int32)), (.int (51 : Int32)), (.int (51 : Int32)), (.int (51 : Int32)), (.int (49 : Int32))] (.int (0 : Int32)) := A37
  refine gs (mkF m 48 #[.val (.int p1), .val (.int p2), .val (.int p3), .val (.int p4), .val (.ref b21), .unset, .unset, .unset, .unset, .unset, .unset, .unset, .unset, .unset, .unset, .unset] []) (fun T A t k => XS.astore A B.x rfl (B.d at_46) rfl rfl (l' := #[.val (.int p1), .val (.int p2), .val (.int p3), .val (.int p4), .val (.ref b21), .unset, .unset, .unset, .unset, .unset, .unset, .unset, .unset, .unset, .unset, .unset]) rfl k) ?_
  refine gs (mkF m 50 _ [(.int (8 : Int32))]) (fun T A t k => XS.bipush A B.x rfl (B.d at_48) k) ?_
  refine g_newP B (hw _ (List.mem_of_getElem? (i := 0) rfl)) at_50 (by decide) (cap := 8) (by decide) (by decide) (by decide) (by decide) (q := 52) rfl ?_
  intro h39 b39 k39 g39 E39 S39 A39
  refine g_wt (fun Wt40 => ?_)
  have z39 := E39.1; have y39 : @LT.lt Nat _ b39 h39.size := A39.lt
  have V39 : Arv Z h39 b39 k39 .char (8 : Int32) [(.int (0 : Int32)), (.int (0 : Int32)), (.int (0 : Int32)), (.int (0 : Int32)), (.int (0 : Int32)), (.int (0 : Int32)), (.int (0 : Int32)), (.int (0 : Int32))] (.int (0 : Int32)) := A39
  refine gs (mkF m 53 _ [(.ref b39), (.ref b39)]) (fun T A t k => XS.dup A B.x rfl (B.d at_52) rfl rfl k) ?_
  refine gs (mkF m 54 _ [(.int (0 : Int32)), (.ref b39), (.ref b39)]) (fun T A t k => XS.iconst A B.x rfl (B.d at_53) k) ?_
  refine gs (mkF m 56 _ [(.int (48 : Int32)), (.int (0 : Int32)), (.ref b39), (.ref b39)]) (fun T A t k => XS.bipush A B.x rfl (B.d at_54) k) ?_
  refine g_stC B V39 (x' := (48 : Int32)) (by decide) ⟨by decide, by decide⟩ (i := 0) rfl (Nat.le_of_ble_eq_true rfl) at_56 (Safe.arv Wt40.1.alike V39 (by decide)) (by omega) (q := 57) rfl ?_
  intro h41 W41 A41
  refine g_wt (fun Wt42 => ?_)
  have z41 := W41.size
  have V41 : Arv Z h41 b39 k39 .char (8 : Int32) [(.int (48 : Int32)), (.int (0 : Int32)), (.int (0 : Int32)), (.int (0 : Int32)), (.int (0 : Int32)), (.int (0 : Int32)), (.int (0 : Int32)), (.int (0 : Int32))] (.int (0 : Int32)) := A41
  refine gs (mkF m 58 _ [(.ref b39), (.ref b39)]) (fun T A t k => XS.dup A B.x rfl (B.d at_57) rfl rfl k) ?_
  refine gs (mkF m 59 _ [(.int (1 : Int32)), (.ref b39), (.ref b39)]) (fun T A t k => XS.iconst A B.x rfl (B.d at_58) k) ?_
  refine gs (mkF m 61 _ [(.int (48 : Int32)), (.int (1 : Int32)), (.ref b39), (.ref b39)]) (fun T A t k => XS.bipush A B.x rfl (B.d at_59) k) ?_
  refine g_stC B V41 (x' := (48 : Int32)) (by decide) ⟨by decide, by decide⟩ (i := 1) rfl (Nat.le_of_ble_eq_true rfl) at_61 (Safe.arv Wt42.1.alike V41 (by decide)) (by omega) (q := 62) rfl ?_
  intro h43 W43 A43
  refine g_wt (fun Wt44 => ?_)
  have z43 := W43.size
  have V43 : Arv Z h43 b39 k39 .char (8 : Int32) [(.int (48 : Int32)), (.int (48 : Int32)), (.int (0 : Int32)), (.int (0 : Int32)), (.int (0 : Int32)), (.int (0 : Int32)), (.int (0 : Int32)), (.int (0 : Int32))] (.int (0 : Int32)) := A43
  refine gs (mkF m 63 _ [(.ref b39), (.ref b39)]) (fun T A t k => XS.dup A B.x rfl (B.d at_62) rfl rfl k) ?_
  refine gs (mkF m 64 _ [(.int (2 : Int32)), (.ref b39), (.ref b39)]) (fun T A t k => XS.iconst A B.x rfl (B.d at_63) k) ?_
  refine gs (mkF m 66 _ [(.int (49 : Int32)), (.int (2 : Int32)), (.ref b39), (.ref b39)]) (fun T A t k => XS.bipush A B.x rfl (B.d at_64) k) ?_
  refine g_stC B V43 (x' := (49 : Int32)) (by decide) ⟨by decide, by decide⟩ (i := 2) rfl (Nat.le_of_ble_eq_true rfl) at_66 (Safe.arv Wt44.1.alike V43 (by decide)) (by omega) (q := 67) rfl ?_
  intro h45 W45 A45
  refine g_wt (fun Wt46 => ?_)
  have z45 := W45.size
  have V45 : Arv Z h45 b39 k39 .char (8 : Int32) [(.int (48 : Int32)), (.int (48 : Int32)), (.int (49 : Int32)), (.int (0 : Int32)), (.int (0 : Int32)), (.int (0 : Int32)), (.int (0 : Int32)), (.int (0 : Int32))] (.int (0 : Int32)) := A45
  refine gs (mkF m 68 _ [(.ref b39), (.ref b39)]) (fun T A t k => XS.dup A B.x rfl (B.d at_67) rfl rfl k) ?_
  refine gs (mkF m 69 _ [(.int (3 : Int32)), (.ref b39), (.ref b39)]) (fun T A t k => XS.iconst A B.x rfl (B.d at_68) k) ?_
  refine gs (mkF m 71 _ [(.int (50 : Int32)), (.int (3 : Int32)), (.ref b39), (.ref b39)]) (fun T A t k => XS.bipush A B.x rfl (B.d at_69) k) ?_
  refine g_stC B V45 (x' := (50 : Int32)) (by decide) ⟨by decide, by decide⟩ (i := 3) rfl (Nat.le_of_ble_eq_true rfl) at_71 (Safe.arv Wt46.1.alike V45 (by decide)) (by omega) (q := 72) rfl ?_
  intro h47 W47 A47
  refine g_wt (fun Wt48 => ?_)
  have z47 := W47.size
  have V47 : Arv Z h47 b39 k39 .char (8 : Int32) [(.int (48 : Int32)), (.int (48 : Int32)), (.int (49 : Int32)), (.int (50 : Int32)), (.int (0 : Int32)), (.int (0 : Int32)), (.int (0 : Int32)), (.int (0 : Int32))] (.int (0 : Int32)) := A47
  refine gs (mkF m 73 _ [(.ref b39), (.ref b39)]) (fun T A t k => XS.dup A B.x rfl (B.d at_72) rfl rfl k) ?_
  refine gs (mkF m 74 _ [(.int (4 : Int32)), (.ref b39), (.ref b39)]) (fun T A t k => XS.iconst A B.x rfl (B.d at_73) k) ?_
  refine gs (mkF m 76 _ [(.int (48 : Int32)), (.int (4 : Int32)), (.ref b39), (.ref b39)]) (fun T A t k => XS.bipush A B.x rfl (B.d at_74) k) ?_
  refine g_stC B V47 (x' := (48 : Int32)) (by decide) ⟨by decide, by decide⟩ (i := 4) rfl (Nat.le_of_ble_eq_true rfl) at_76 (Safe.arv Wt48.1.alike V47 (by decide)) (by omega) (q := 77) rfl ?_
  intro h49 W49 A49
  refine g_wt (fun Wt50 => ?_)
  have z49 := W49.size
  have V49 : Arv Z h49 b39 k39 .char (8 : Int32) [(.int (48 : Int32)), (.int (48 : Int32)), (.int (49 : Int32)), (.int (50 : Int32)), (.int (48 : Int32)), (.int (0 : Int32)), (.int (0 : Int32)), (.int (0 : Int32))] (.int (0 : Int32)) := A49
  refine gs (mkF m 78 _ [(.ref b39), (.ref b39)]) (fun T A t k => XS.dup A B.x rfl (B.d at_77) rfl rfl k) ?_
  refine gs (mkF m 79 _ [(.int (5 : Int32)), (.ref b39), (.ref b39)]) (fun T A t k => XS.iconst A B.x rfl (B.d at_78) k) ?_
  refine gs (mkF m 81 _ [(.int (50 : Int32)), (.int (5 : Int32)), (.ref b39), (.ref b39)]) (fun T A t k => XS.bipush A B.x rfl (B.d at_79) k) ?_
  refine g_stC B V49 (x' := (50 : Int32)) (by decide) ⟨by decide, by decide⟩ (i := 5) rfl (Nat.le_of_ble_eq_true rfl) at_81 (Safe.arv Wt50.1.alike V49 (by decide)) (by omega) (q := 82) rfl ?_
  intro h51 W51 A51
  refine g_wt (fun Wt52 => ?_)
  have z51 := W51.size
  have V51 : Arv Z h51 b39 k39 .char (8 : Int32) [(.int (48 : Int32)), (.int (48 : Int32)), (.int (49 : Int32)), (.int (50 : Int32)), (.int (48 : Int32)), (.int (50 : Int32)), (.int (0 : Int32)), (.int (0 : Int32))] (.int (0 : Int32)) := A51
  refine gs (mkF m 83 _ [(.ref b39), (.ref b39)]) (fun T A t k => XS.dup A B.x rfl (B.d at_82) rfl rfl k) ?_
  refine gs (mkF m 85 _ [(.int (6 : Int32)), (.ref b39), (.ref b39)]) (fun T A t k => XS.bipush A B.x rfl (B.d at_83) k) ?_
  refine gs (mkF m 87 _ [(.int (49 : Int32)), (.int (6 : Int32)), (.ref b39), (.ref b39)]) (fun T A t k => XS.bipush A B.x rfl (B.d at_85) k) ?_
  refine g_stC B V51 (x' := (49 : Int32)) (by decide) ⟨by decide, by decide⟩ (i := 6) rfl (Nat.le_of_ble_eq_true rfl) at_87 (Safe.arv Wt52.1.alike V51 (by decide)) (by omega) (q := 88) rfl ?_
  intro h53 W53 A53
  refine g_wt (fun Wt54 => ?_)
  have z53 := W53.size
  have V53 : Arv Z h53 b39 k39 .char (8 : Int32) [(.int (48 : Int32)), (.int (48 : Int32)), (.int (49 : Int32)), (.int (50 : Int32)), (.int (48 : Int32)), (.int (50 : Int32)), (.int (49 : Int32)), (.int (0 : Int32))] (.int (0 : Int32)) := A53
  refine gs (mkF m 89 _ [(.ref b39), (.ref b39)]) (fun T A t k => XS.dup A B.x rfl (B.d at_88) rfl rfl k) ?_
  refine gs (mkF m 91 _ [(.int (7 : Int32)), (.ref b39), (.ref b39)]) (fun T A t k => XS.bipush A B.x rfl (B.d at_89) k) ?_
  refine gs (mkF m 93 _ [(.int (49 : Int32)), (.int (7 : Int32)), (.ref b39), (.ref b39)]) (fun T A t k => XS.bipush A B.x rfl (B.d at_91) k) ?_
  refine g_stC B V53 (x' := (49 : Int32)) (by decide) ⟨by decide, by decide⟩ (i := 7) rfl (Nat.le_of_ble_eq_true rfl) at_93 (Safe.arv Wt54.1.alike V53 (by decide)) (by omega) (q := 94) rfl ?_
  intro h55 W55 A55
  refine g_wt (fun Wt56 => ?_)
  have z55 := W55.size
  have V55 : Arv Z h55 b39 k39 .char (8 : Int32) [(.int (48 : Int32)), (.int (48 : Int32)), (.int (49 : Int32)), (.int (50 : Int32)), (.int (48 : Int32)), (.int (50 : Int32)), (.int (49 : Int32)), (.int (49 : Int32))] (.int (0 : Int32)) := A55
  refine gs (mkF m 96 #[.val (.int p1), .val (.int p2), .val (.int p3), .val (.int p4), .val (.ref b21), .val (.ref b39), .unset, .unset, .unset, .unset, .unset, .unset, .unset, .unset, .unset, .unset] []) (fun T A t k => XS.astore A B.x rfl (B.d at_94) rfl rfl (l' := #[.val (.int p1), .val (.int p2), .val (.int p3), .val (.int p4), .val (.ref b21), .val (.ref b39), .unset, .unset, .unset, .unset, .unset, .unset, .unset, .unset, .unset, .unset]) rfl k) ?_
  refine gs (mkF m 97 _ [(.int p1)]) (fun T A t k => XS.iloadN A B.x rfl (B.d at_96) rfl k) ?_
  refine gs (mkF m 99 _ [(.int (7 : Int32)), (.int p1)]) (fun T A t k => XS.bipush A B.x rfl (B.d at_97) k) ?_
  refine gs (mkF m 100 _ [(.int (p1 &&& (7 : Int32)))]) (fun T A t k => XS.iand A B.x rfl (B.d at_99) rfl k) ?_
  refine gs (mkF m 102 #[.val (.int p1), .val (.int p2), .val (.int p3), .val (.int p4), .val (.ref b21), .val (.ref b39), .val (.int (p1 &&& (7 : Int32))), .unset, .unset, .unset, .unset, .unset, .unset, .unset, .unset, .unset] []) (fun T A t k => XS.istore A B.x rfl (B.d at_100) rfl (l' := #[.val (.int p1), .val (.int p2), .val (.int p3), .val (.int p4), .val (.ref b21), .val (.ref b39), .val (.int (p1 &&& (7 : Int32))), .unset, .unset, .unset, .unset, .unset, .unset, .unset, .unset, .unset]) rfl k) ?_
  refine gs (mkF m 104 _ [(.ref b21)]) (fun T A t k => XS.aload A B.x rfl (B.d at_102) rfl rfl k) ?_
  refine gs (mkF m 106 _ [(.int (p1 &&& (7 : Int32))), (.ref b21)]) (fun T A t k => XS.iload A B.x rfl (B.d at_104) rfl k) ?_
  refine g_ldC B (((((((((V37.ext E39).other W41 (by omega : @Ne Nat b21 b39)).other W43 (by omega : @Ne Nat b21 b39)).other W45 (by omega : @Ne Nat b21 b39)).other W47 (by omega : @Ne Nat b21 b39)).other W49 (by omega : @Ne Nat b21 b39)).other W51 (by omega : @Ne Nat b21 b39)).other W53 (by omega : @Ne Nat b21 b39)).other W55 (by omega : @Ne Nat b21 b39)) (idx7 p1) (v := (.int (fst8 (p1 &&& (7 : Int32))))) (vget [49, 50, 50, 50, 51, 51, 51, 49] _) at_106 (q := 107) rfl ?_
  refine gs (mkF m 109 #[.val (.int p1), .val (.int p2), .val (.int p3), .val (.int p4), .val (.ref b21), .val (.ref b39), .val (.int (p1 &&& (7 : Int32))), .val (.int (fst8 (p1 &&& (7 : Int32)))), .unset, .unset, .unset, .unset, .unset, .unset, .unset, .unset] []) (fun T A t k => XS.istore A B.x rfl (B.d at_107) rfl (l' := #[.val (.int p1), .val (.int p2), .val (.int p3), .val (.int p4), .val (.ref b21), .val (.ref b39), .val (.int (p1 &&& (7 : Int32))), .val (.int (fst8 (p1 &&& (7 : Int32)))), .unset, .unset, .unset, .unset, .unset, .unset, .unset, .unset]) rfl k) ?_
  refine gs (mkF m 111 _ [(.int (46 : Int32))]) (fun T A t k => XS.bipush A B.x rfl (B.d at_109) k) ?_
  refine gs (mkF m 113 #[.val (.int p1), .val (.int p2), .val (.int p3), .val (.int p4), .val (.ref b21), .val (.ref b39), .val (.int (p1 &&& (7 : Int32))), .val (.int (fst8 (p1 &&& (7 : Int32)))), .val (.int (46 : Int32)), .unset, .unset, .unset, .unset, .unset, .unset, .unset] []) (fun T A t k => XS.istore A B.x rfl (B.d at_111) rfl (l' := #[.val (.int p1), .val (.int p2), .val (.int p3), .val (.int p4), .val (.ref b21), .val (.ref b39), .val (.int (p1 &&& (7 : Int32))), .val (.int (fst8 (p1 &&& (7 : Int32)))), .val (.int (46 : Int32)), .unset, .unset, .unset, .unset, .unset, .unset, .unset]) rfl k) ?_
  refine gs (mkF m 115 _ [(.ref b39)]) (fun T A t k => XS.aload A B.x rfl (B.d at_113) rfl rfl k) ?_
  refine gs (mkF m 117 _ [(.int (p1 &&& (7 : Int32))), (.ref b39)]) (fun T A t k => XS.iload A B.x rfl (B.d at_115) rfl k) ?_
  refine g_ldC B V55 (idx7 p1) (v := (.int (lst8 (p1 &&& (7 : Int32))))) (vget [48, 48, 49, 50, 48, 50, 49, 49] _) at_117 (q := 118) rfl ?_
  refine gs (mkF m 120 #[.val (.int p1), .val (.int p2), .val (.int p3), .val (.int p4), .val (.ref b21), .val (.ref b39), .val (.int (p1 &&& (7 : Int32))), .val (.int (fst8 (p1 &&& (7 : Int32)))), .val (.int (46 : Int32)), .val (.int (lst8 (p1 &&& (7 : Int32)))), .unset, .unset, .unset, .unset, .unset, .unset] []) (fun T A t k => XS.istore A B.x rfl (B.d at_118) rfl (l' := #[.val (.int p1), .val (.int p2), .val (.int p3), .val (.int p4), .val (.ref b21), .val (.ref b39), .val (.int (p1 &&& (7 : Int32))), .val (.int (fst8 (p1 &&& (7 : Int32)))), .val (.int (46 : Int32)), .val (.int (lst8 (p1 &&& (7 : Int32)))), .unset, .unset, .unset, .unset, .unset, .unset]) rfl k) ?_
  refine gs (mkF m 121 _ [(.int p3)]) (fun T A t k => XS.iloadN A B.x rfl (B.d at_120) rfl k) ?_
  refine gs (mkF m 124 _ [(.int (255 : Int32)), (.int p3)]) (fun T A t k => XS.sipush A B.x rfl (B.d at_121) k) ?_
  refine gs (mkF m 125 _ [(.int (p3 &&& (255 : Int32)))]) (fun T A t k => XS.iand A B.x rfl (B.d at_124) rfl k) ?_
  refine gs (mkF m 126 _ [(.int ((p3 &&& (255 : Int32)).toUInt32.toUInt16.toUInt32.toInt32))]) (fun T A t k => XS.i2c A B.x rfl (B.d at_125) rfl k) ?_
  refine gs (mkF m 128 #[.val (.int p1), .val (.int p2), .val (.int p3), .val (.int p4), .val (.ref b21), .val (.ref b39), .val (.int (p1 &&& (7 : Int32))), .val (.int (fst8 (p1 &&& (7 : Int32)))), .val (.int (46 : Int32)), .val (.int (lst8 (p1 &&& (7 : Int32)))), .val (.int ((p3 &&& (255 : Int32)).toUInt32.toUInt16.toUInt32.toInt32)), .unset, .unset, .unset, .unset, .unset] []) (fun T A t k => XS.istore A B.x rfl (B.d at_126) rfl (l' := #[.val (.int p1), .val (.int p2), .val (.int p3), .val (.int p4), .val (.ref b21), .val (.ref b39), .val (.int (p1 &&& (7 : Int32))), .val (.int (fst8 (p1 &&& (7 : Int32)))), .val (.int (46 : Int32)), .val (.int (lst8 (p1 &&& (7 : Int32)))), .val (.int ((p3 &&& (255 : Int32)).toUInt32.toUInt16.toUInt32.toInt32)), .unset, .unset, .unset, .unset, .unset]) rfl k) ?_
  generalize e_cd : ((p3 &&& (255 : Int32)).toUInt32.toUInt16.toUInt32.toInt32) = cd
  have hcd : rng cd := e_cd ▸ rng255 p3
  refine gs (mkF m 129 _ [(.int p2)]) (fun T A t k => XS.iloadN A B.x rfl (B.d at_128) rfl k) ?_
  refine gs (mkF m 130 _ [(.int (3 : Int32)), (.int p2)]) (fun T A t k => XS.iconst A B.x rfl (B.d at_129) k) ?_
  refine gs (mkF m 131 _ [(.int (p2 &&& (3 : Int32)))]) (fun T A t k => XS.iand A B.x rfl (B.d at_130) rfl k) ?_
  refine gs (mkF m 133 #[.val (.int p1), .val (.int p2), .val (.int p3), .val (.int p4), .val (.ref b21), .val (.ref b39), .val (.int (p1 &&& (7 : Int32))), .val (.int (fst8 (p1 &&& (7 : Int32)))), .val (.int (46 : Int32)), .val (.int (lst8 (p1 &&& (7 : Int32)))), .val (.int cd), .val (.int (p2 &&& (3 : Int32))), .unset, .unset, .unset, .unset] []) (fun T A t k => XS.istore A B.x rfl (B.d at_131) rfl (l' := #[.val (.int p1), .val (.int p2), .val (.int p3), .val (.int p4), .val (.ref b21), .val (.ref b39), .val (.int (p1 &&& (7 : Int32))), .val (.int (fst8 (p1 &&& (7 : Int32)))), .val (.int (46 : Int32)), .val (.int (lst8 (p1 &&& (7 : Int32)))), .val (.int cd), .val (.int (p2 &&& (3 : Int32))), .unset, .unset, .unset, .unset]) rfl k) ?_
  refine gs (mkF m 135 _ [(.int (p2 &&& (3 : Int32)))]) (fun T A t k => XS.iload A B.x rfl (B.d at_133) rfl k) ?_
  refine gs (mkF m 136 _ [(.int (1 : Int32)), (.int (p2 &&& (3 : Int32)))]) (fun T A t k => XS.iconst A B.x rfl (B.d at_135) k) ?_
  refine gjA3 (fun x y z => mkF m 169 #[.val (.int p1), .val (.int p2), .val (.int p3), .val (.int p4), .val (.ref b21), .val (.ref b39), .val (.int (p1 &&& (7 : Int32))), .val (.int x), .val (.int y), .val (.int z), .val (.int cd), .val (.int (p2 &&& (3 : Int32))), .unset, .unset, .unset, .unset] []) (fun x y z => rng x ∧ rng y ∧ rng z) ?_ (fun J => ?_)
  · rintro c0 c1 c2 ⟨hc0, hc1, hc2⟩
    refine gs (mkF m 170 _ [(.int p3)]) (fun T A t k => XS.iloadN A B.x rfl (B.d at_169) rfl k) ?_
    refine gs (mkF m 172 _ [(.int (8 : Int32)), (.int p3)]) (fun T A t k => XS.bipush A B.x rfl (B.d at_170) k) ?_
    refine gs (mkF m 173 _ [(.int ((p3.toUInt32 >>> ((8 : Int32) &&& 31).toUInt32).toInt32))]) (fun T A t k => XS.iushr A B.x rfl (B.d at_172) rfl k) ?_
    refine gs (mkF m 176 _ [(.int (255 : Int32)), (.int ((p3.toUInt32 >>> ((8 : Int32) &&& 31).toUInt32).toInt32))]) (fun T A t k => XS.sipush A B.x rfl (B.d at_173) k) ?_
    refine gs (mkF m 177 _ [(.int (((p3.toUInt32 >>> ((8 : Int32) &&& 31).toUInt32).toInt32) &&& (255 : Int32)))]) (fun T A t k => XS.iand A B.x rfl (B.d at_176) rfl k) ?_
    refine gs (mkF m 178 _ [(.int ((((p3.toUInt32 >>> ((8 : Int32) &&& 31).toUInt32).toInt32) &&& (255 : Int32)).toUInt32.toUInt16.toUInt32.toInt32))]) (fun T A t k => XS.i2c A B.x rfl (B.d at_177) rfl k) ?_
    refine gs (mkF m 180 #[.val (.int p1), .val (.int p2), .val (.int p3), .val (.int p4), .val (.ref b21), .val (.ref b39), .val (.int (p1 &&& (7 : Int32))), .val (.int c0), .val (.int c1), .val (.int c2), .val (.int cd), .val (.int (p2 &&& (3 : Int32))), .val (.int ((((p3.toUInt32 >>> ((8 : Int32) &&& 31).toUInt32).toInt32) &&& (255 : Int32)).toUInt32.toUInt16.toUInt32.toInt32)), .unset, .unset, .unset] []) (fun T A t k => XS.istore A B.x rfl (B.d at_178) rfl (l' := #[.val (.int p1), .val (.int p2), .val (.int p3), .val (.int p4), .val (.ref b21), .val (.ref b39), .val (.int (p1 &&& (7 : Int32))), .val (.int c0), .val (.int c1), .val (.int c2), .val (.int cd), .val (.int (p2 &&& (3 : Int32))), .val (.int ((((p3.toUInt32 >>> ((8 : Int32) &&& 31).toUInt32).toInt32) &&& (255 : Int32)).toUInt32.toUInt16.toUInt32.toInt32)), .unset, .unset, .unset]) rfl k) ?_
    generalize e_ce : ((((p3.toUInt32 >>> ((8 : Int32) &&& 31).toUInt32).toInt32) &&& (255 : Int32)).toUInt32.toUInt16.toUInt32.toInt32) = ce
    have hce : rng ce := e_ce ▸ rng255 _
    refine gs (mkF m 181 _ [(.int p4)]) (fun T A t k => XS.iloadN A B.x rfl (B.d at_180) rfl k) ?_
    refine gs (mkF m 183 _ [(.int (7 : Int32)), (.int p4)]) (fun T A t k => XS.bipush A B.x rfl (B.d at_181) k) ?_
    refine gs (mkF m 184 _ [(.int (p4 &&& (7 : Int32)))]) (fun T A t k => XS.iand A B.x rfl (B.d at_183) rfl k) ?_
    refine gs (mkF m 186 #[.val (.int p1), .val (.int p2), .val (.int p3), .val (.int p4), .val (.ref b21), .val (.ref b39), .val (.int (p1 &&& (7 : Int32))), .val (.int c0), .val (.int c1), .val (.int c2), .val (.int cd), .val (.int (p2 &&& (3 : Int32))), .val (.int ce), .val (.int (p4 &&& (7 : Int32))), .unset, .unset] []) (fun T A t k => XS.istore A B.x rfl (B.d at_184) rfl (l' := #[.val (.int p1), .val (.int p2), .val (.int p3), .val (.int p4), .val (.ref b21), .val (.ref b39), .val (.int (p1 &&& (7 : Int32))), .val (.int c0), .val (.int c1), .val (.int c2), .val (.int cd), .val (.int (p2 &&& (3 : Int32))), .val (.int ce), .val (.int (p4 &&& (7 : Int32))), .unset, .unset]) rfl k) ?_
    refine gs (mkF m 188 _ [(.int (p4 &&& (7 : Int32)))]) (fun T A t k => XS.iload A B.x rfl (B.d at_186) rfl k) ?_
    refine gs (mkF m 189 _ [(.int (3 : Int32)), (.int (p4 &&& (7 : Int32)))]) (fun T A t k => XS.iconst A B.x rfl (B.d at_188) k) ?_
    by_cases hc189_57 : (p4 &&& (7 : Int32)) = (3 : Int32)
    · refine gs (mkF m 192 _ []) (fun T A t k => XS.icmpNo A B.x rfl (B.d at_189) rfl (teq (hc189_57 : (p4 &&& (7 : Int32)) = (3 : Int32))).2 k) ?_
      refine g_newO B (hw _ (List.mem_of_getElem? (i := 1) rfl)) (hw _ (List.mem_of_getElem? (i := 2) rfl)) (hw _ (List.mem_of_getElem? (i := 3) rfl)) at_192 (by decide) (by decide) (q := 195) rfl ?_
      intro h58 b58 g58 E58 S58 A58 D58
      refine g_wt (fun Wt59 => ?_)
      have z58 := E58.1; have y58 : @LT.lt Nat _ b58 h58.size := A58.lt
      have F58_coder : Fld Z h58 b58 "java/lang/String" "coder" "B" (.int (0 : Int32)) := D58 (Or.inr (hw _ (List.mem_of_getElem? (i := 27) rfl))) (ty := .byte) (by decide)
      have F58_value : Fld Z h58 b58 "java/lang/String" "value" "[B" .null := D58 (Or.inr (hw _ (List.mem_of_getElem? (i := 29) rfl))) (ty := (.array .byte)) (by decide)
      refine gs (mkF m 196 _ [(.ref b58), (.ref b58)]) (fun T A t k => XS.dup A B.x rfl (B.d at_195) rfl rfl k) ?_
      refine gs (mkF m 197 _ [(.int (2 : Int32)), (.ref b58), (.ref b58)]) (fun T A t k => XS.iconst A B.x rfl (B.d at_196) k) ?_
      refine g_newP B (hw _ (List.mem_of_getElem? (i := 0) rfl)) at_197 (by decide) (cap := 2) (by decide) (by decide) (by decide) (by decide) (q := 199) rfl ?_
      intro h60 b60 k60 g60 E60 S60 A60
      refine g_wt (fun Wt61 => ?_)
      have z60 := E60.1; have y60 : @LT.lt Nat _ b60 h60.size := A60.lt
      have V60 : Arv Z h60 b60 k60 .char (2 : Int32) [(.int (0 : Int32)), (.int (0 : Int32))] (.int (0 : Int32)) := A60
      refine gs (mkF m 200 _ [(.ref b60), (.ref b60), (.ref b58), (.ref b58)]) (fun T A t k => XS.dup A B.x rfl (B.d at_199) rfl rfl k) ?_
      refine gs (mkF m 201 _ [(.int (0 : Int32)), (.ref b60), (.ref b60), (.ref b58), (.ref b58)]) (fun T A t k => XS.iconst A B.x rfl (B.d at_200) k) ?_
      refine gs (mkF m 203 _ [(.int c0), (.int (0 : Int32)), (.ref b60), (.ref b60), (.ref b58), (.ref b58)]) (fun T A t k => XS.iload A B.x rfl (B.d at_201) rfl k) ?_
      refine g_stC B V60 (x' := c0) (nar8 hc0) ⟨by decide, by decide⟩ (i := 0) rfl (Nat.le_of_ble_eq_true rfl) at_203 (Safe.arv Wt61.1.alike V60 (by decide)) (by omega) (q := 204) rfl ?_
      intro h62 W62 A62
      refine g_wt (fun Wt63 => ?_)
      have z62 := W62.size
      have V62 : Arv Z h62 b60 k60 .char (2 : Int32) [(.int c0), (.int (0 : Int32))] (.int (0 : Int32)) := A62
      refine gs (mkF m 205 _ [(.ref b60), (.ref b60), (.ref b58), (.ref b58)]) (fun T A t k => XS.dup A B.x rfl (B.d at_204) rfl rfl k) ?_
      refine gs (mkF m 206 _ [(.int (1 : Int32)), (.ref b60), (.ref b60), (.ref b58), (.ref b58)]) (fun T A t k => XS.iconst A B.x rfl (B.d at_205) k) ?_
      refine gs (mkF m 208 _ [(.int c1), (.int (1 : Int32)), (.ref b60), (.ref b60), (.ref b58), (.ref b58)]) (fun T A t k => XS.iload A B.x rfl (B.d at_206) rfl k) ?_
      refine g_stC B V62 (x' := c1) (nar8 hc1) ⟨by decide, by decide⟩ (i := 1) rfl (Nat.le_of_ble_eq_true rfl) at_208 (Safe.arv Wt63.1.alike V62 (by decide)) (by omega) (q := 209) rfl ?_
      intro h64 W64 A64
      refine g_wt (fun Wt65 => ?_)
      have z64 := W64.size
      have V64 : Arv Z h64 b60 k60 .char (2 : Int32) [(.int c0), (.int c1)] (.int (0 : Int32)) := A64
      have hp66 : ∀ c ∈ ([c0, c1] : List Int32), ¬ c < 0 ∧ ¬ (255 : Int32) < c := by intro c hc; simp only [List.mem_cons, List.not_mem_nil, or_false] at hc; rcases hc with rfl | rfl <;> first | assumption | exact lo255 _ | decide
      refine g_pay (Q' := fun v h' L => v = none ∧ Fr n0 L ∧ Keep h64 h' [b58] ∧ ∃ t : Addr, @Eq Nat t h64.size ∧ Str Z h' b58 t [c0, c1]) (k := 1) (n := 2) (c_init B rfl (hw _ (List.mem_of_getElem? (i := 4) rfl)) (hw _ (List.mem_of_getElem? (i := 5) rfl)) (hw _ (List.mem_of_getElem? (i := 6) rfl)) (by decide) rfl (lenOf pd_285bC29V rfl) rfl (Nat.le_of_eq rfl) at_209 rfl (argsL := [(.ref b60)]) (rest := [(.ref b58)]) (W := 1) (q := 212)) (fun hZ => own_new [c0, c1] 2 hZ (fun d hd => hw d (own_wnew d hd)) (hw _ (List.mem_of_getElem? (i := 2) rfl)) (n0 := n0) (by omega) (by omega) (((A58.ext E60).wr W62).wr W64) (((F58_value.ext E60).other W62 (Or.inl (by omega : @Ne Nat b58 b60))).other W64 (Or.inl (by omega : @Ne Nat b58 b60))) (((F58_coder.ext E60).other W62 (Or.inl (by omega : @Ne Nat b58 b60))).other W64 (Or.inl (by omega : @Ne Nat b58 b60))) V64 (SC.ext ((((((((((((((((((((((PO.ext E21).wr W23 (by omega)).wr W25 (by omega)).wr W27 (by omega)).wr W29 (by omega)).wr W31 (by omega)).wr W33 (by omega)).wr W35 (by omega)).wr W37 (by omega)).ext E39).wr W41 (by omega)).wr W43 (by omega)).wr W45 (by omega)).wr W47 (by omega)).wr W49 (by omega)).wr W51 (by omega)).wr W53 (by omega)).wr W55 (by omega)).ext E58).ext E60).wr W62 (by omega)).wr W64 (by omega)).2) hzc rfl rfl (by decide) (by decide) hp66 (by decide) (by decide)) (by decide) (by decide) (fun v h' L q => ⟨q.2.1, [b58], q.2.2.1, fun z hz => by cases List.mem_singleton.mp hz; exact (Safe.wr W64 (Safe.wr W62 S60 Wt61.2.2.1.1 S60) Wt63.2.2.1.1 (Safe.wr W62 S60 Wt61.2.2.1.1 (Safe.ext E60 Wt59.2.2.1.1 S58)))⟩) ?_
      rintro v67 h67 L67 ⟨rfl, -, K67, t67, e67, X67⟩
      refine g_wt (fun Wt68 => ?_)
      have z67 := K67.1; have y67 := X67.lt; have x67 := X67.lt'
      refine gs (mkF m 214 #[.val (.int p1), .val (.int p2), .val (.int p3), .val (.int p4), .val (.ref b21), .val (.ref b39), .val (.int (p1 &&& (7 : Int32))), .val (.int c0), .val (.int c1), .val (.int c2), .val (.int cd), .val (.int (p2 &&& (3 : Int32))), .val (.int ce), .val (.int (p4 &&& (7 : Int32))), .val (.ref b58), .unset] []) (fun T A t k => XS.astore A B.x rfl (B.d at_212) rfl rfl (l' := #[.val (.int p1), .val (.int p2), .val (.int p3), .val (.int p4), .val (.ref b21), .val (.ref b39), .val (.int (p1 &&& (7 : Int32))), .val (.int c0), .val (.int c1), .val (.int c2), .val (.int cd), .val (.int (p2 &&& (3 : Int32))), .val (.int ce), .val (.int (p4 &&& (7 : Int32))), .val (.ref b58), .unset]) rfl k) ?_
      refine gs (mkF m 215 _ [.null]) (fun T A t k => XS.aconstNull A B.x rfl (B.d at_214) k) ?_
      refine gs (mkF m 217 #[.val (.int p1), .val (.int p2), .val (.int p3), .val (.int p4), .val (.ref b21), .val (.ref b39), .val (.int (p1 &&& (7 : Int32))), .val (.int c0), .val (.int c1), .val (.int c2), .val (.int cd), .val (.int (p2 &&& (3 : Int32))), .val (.int ce), .val (.int (p4 &&& (7 : Int32))), .val (.ref b58), .val .null] []) (fun T A t k => XS.astore A B.x rfl (B.d at_215) rfl rfl (l' := #[.val (.int p1), .val (.int p2), .val (.int p3), .val (.int p4), .val (.ref b21), .val (.ref b39), .val (.int (p1 &&& (7 : Int32))), .val (.int c0), .val (.int c1), .val (.int c2), .val (.int cd), .val (.int (p2 &&& (3 : Int32))), .val (.int ce), .val (.int (p4 &&& (7 : Int32))), .val (.ref b58), .val .null]) rfl k) ?_
      refine gs (mkF m 334 _ []) (fun T A t k => XS.goto A B.x rfl (pc0 := 217) (pc' := 334) rfl (B.d at_217) (by decide) (by decide) k) ?_
      refine gs (mkF m 336 _ [(.ref b58)]) (fun T A t k => XS.aload A B.x rfl (B.d at_334) rfl rfl k) ?_
      refine g_met hEL (c_static B (hw _ (List.mem_of_getElem? (i := 34) rfl)) (hw _ (List.mem_of_getElem? (i := 35) rfl)) (hw _ (List.mem_of_getElem? (i := 36) rfl)) (hw _ (List.mem_of_getElem? (i := 37) rfl)) (by decide) rfl (lenOf pd_28Ljava2flang2fString3b29Lcom2fexample2fdutiful_container2fdutifulcontainer2fPersistenceSchema3b rfl) rfl (Nat.le_of_eq rfl) at_336 rfl (argsL := [(.ref b58)]) (rest := []) (W := 0) (q := 339)) (own_of l Z a0 hw hEL b58 va kv ee ss tt zc t67 [c0, c1] h67 n0 PE X67 (((((((((((((((((((((((PO.ext E21).wr W23 (by omega)).wr W25 (by omega)).wr W27 (by omega)).wr W29 (by omega)).wr W31 (by omega)).wr W33 (by omega)).wr W35 (by omega)).wr W37 (by omega)).ext E39).wr W41 (by omega)).wr W43 (by omega)).wr W45 (by omega)).wr W47 (by omega)).wr W49 (by omega)).wr W51 (by omega)).wr W53 (by omega)).wr W55 (by omega)).ext E58).ext E60).wr W62 (by omega)).wr W64 (by omega)).keep K67 (allS (by omega) all0)) SC hzc) (hw _ (List.mem_of_getElem? (i := 37) rfl)) (hw _ (List.mem_of_getElem? (i := 36) rfl)) (by decide) (by decide) (by decide) (by decide) (fun _ q => nomatch q) ?_
      intro v69 h69 vm69 hZ69 C69 hQ69
      obtain ⟨e69, K69⟩ := hQ69
      rw [of_two] at e69; subst e69
      refine g_wt (fun Wt70 => ?_)
      refine gs (mkF m 341 _ [.null, .null]) (fun T A t k => XS.aload A B.x rfl (B.d at_339) rfl rfl k) ?_
      refine g_acmp B rfl rfl at_341 (same := true) (decide_eq_true rfl) (by decide) (q := 344) (by decide) ?_
      refine gs (mkF m 345 _ [(.int (1 : Int32))]) (fun T A t k => XS.iconst A B.x rfl (B.d at_344) k) ?_
      refine gs (mkF m 349 _ [(.int (1 : Int32))]) (fun T A t k => XS.goto A B.x rfl (pc0 := 345) (pc' := 349) rfl (B.d at_345) (by decide) (by decide) k) ?_
      exact g_retN (t := .boolean) B (by simp) at_349 (by decide) (by decide) rfl
    · refine gs (mkF m 220 _ []) (fun T A t k => XS.icmpYes A B.x rfl (pc0 := 189) (pc' := 220) rfl (B.d at_189) rfl (feq (hc189_57 : ¬ ((p4 &&& (7 : Int32)) = (3 : Int32)))).2 (by decide) (by decide) k) ?_
      refine gs (mkF m 222 _ [(.int (p4 &&& (7 : Int32)))]) (fun T A t k => XS.iload A B.x rfl (B.d at_220) rfl k) ?_
      refine gs (mkF m 223 _ [(.int (4 : Int32)), (.int (p4 &&& (7 : Int32)))]) (fun T A t k => XS.iconst A B.x rfl (B.d at_222) k) ?_
      by_cases hc223_71 : (p4 &&& (7 : Int32)) = (4 : Int32)
      · refine gs (mkF m 226 _ []) (fun T A t k => XS.icmpNo A B.x rfl (B.d at_223) rfl (teq (hc223_71 : (p4 &&& (7 : Int32)) = (4 : Int32))).2 k) ?_
        refine g_newO B (hw _ (List.mem_of_getElem? (i := 1) rfl)) (hw _ (List.mem_of_getElem? (i := 2) rfl)) (hw _ (List.mem_of_getElem? (i := 3) rfl)) at_226 (by decide) (by decide) (q := 229) rfl ?_
        intro h72 b72 g72 E72 S72 A72 D72
        refine g_wt (fun Wt73 => ?_)
        have z72 := E72.1; have y72 : @LT.lt Nat _ b72 h72.size := A72.lt
        have F72_coder : Fld Z h72 b72 "java/lang/String" "coder" "B" (.int (0 : Int32)) := D72 (Or.inr (hw _ (List.mem_of_getElem? (i := 27) rfl))) (ty := .byte) (by decide)
        have F72_value : Fld Z h72 b72 "java/lang/String" "value" "[B" .null := D72 (Or.inr (hw _ (List.mem_of_getElem? (i := 29) rfl))) (ty := (.array .byte)) (by decide)
        refine gs (mkF m 230 _ [(.ref b72), (.ref b72)]) (fun T A t k => XS.dup A B.x rfl (B.d at_229) rfl rfl k) ?_
        refine gs (mkF m 231 _ [(.int (4 : Int32)), (.ref b72), (.ref b72)]) (fun T A t k => XS.iconst A B.x rfl (B.d at_230) k) ?_
        refine g_newP B (hw _ (List.mem_of_getElem? (i := 0) rfl)) at_231 (by decide) (cap := 4) (by decide) (by decide) (by decide) (by decide) (q := 233) rfl ?_
        intro h74 b74 k74 g74 E74 S74 A74
        refine g_wt (fun Wt75 => ?_)
        have z74 := E74.1; have y74 : @LT.lt Nat _ b74 h74.size := A74.lt
        have V74 : Arv Z h74 b74 k74 .char (4 : Int32) [(.int (0 : Int32)), (.int (0 : Int32)), (.int (0 : Int32)), (.int (0 : Int32))] (.int (0 : Int32)) := A74
        refine gs (mkF m 234 _ [(.ref b74), (.ref b74), (.ref b72), (.ref b72)]) (fun T A t k => XS.dup A B.x rfl (B.d at_233) rfl rfl k) ?_
        refine gs (mkF m 235 _ [(.int (0 : Int32)), (.ref b74), (.ref b74), (.ref b72), (.ref b72)]) (fun T A t k => XS.iconst A B.x rfl (B.d at_234) k) ?_
        refine gs (mkF m 237 _ [(.int c0), (.int (0 : Int32)), (.ref b74), (.ref b74), (.ref b72), (.ref b72)]) (fun T A t k => XS.iload A B.x rfl (B.d at_235) rfl k) ?_
        refine g_stC B V74 (x' := c0) (nar8 hc0) ⟨by decide, by decide⟩ (i := 0) rfl (Nat.le_of_ble_eq_true rfl) at_237 (Safe.arv Wt75.1.alike V74 (by decide)) (by omega) (q := 238) rfl ?_
        intro h76 W76 A76
        refine g_wt (fun Wt77 => ?_)
        have z76 := W76.size
        have V76 : Arv Z h76 b74 k74 .char (4 : Int32) [(.int c0), (.int (0 : Int32)), (.int (0 : Int32)), (.int (0 : Int32))] (.int (0 : Int32)) := A76
        refine gs (mkF m 239 _ [(.ref b74), (.ref b74), (.ref b72), (.ref b72)]) (fun T A t k => XS.dup A B.x rfl (B.d at_238) rfl rfl k) ?_
        refine gs (mkF m 240 _ [(.int (1 : Int32)), (.ref b74), (.ref b74), (.ref b72), (.ref b72)]) (fun T A t k => XS.iconst A B.x rfl (B.d at_239) k) ?_
        refine gs (mkF m 242 _ [(.int c1), (.int (1 : Int32)), (.ref b74), (.ref b74), (.ref b72), (.ref b72)]) (fun T A t k => XS.iload A B.x rfl (B.d at_240) rfl k) ?_
        refine g_stC B V76 (x' := c1) (nar8 hc1) ⟨by decide, by decide⟩ (i := 1) rfl (Nat.le_of_ble_eq_true rfl) at_242 (Safe.arv Wt77.1.alike V76 (by decide)) (by omega) (q := 243) rfl ?_
        intro h78 W78 A78
        refine g_wt (fun Wt79 => ?_)
        have z78 := W78.size
        have V78 : Arv Z h78 b74 k74 .char (4 : Int32) [(.int c0), (.int c1), (.int (0 : Int32)), (.int (0 : Int32))] (.int (0 : Int32)) := A78
        refine gs (mkF m 244 _ [(.ref b74), (.ref b74), (.ref b72), (.ref b72)]) (fun T A t k => XS.dup A B.x rfl (B.d at_243) rfl rfl k) ?_
        refine gs (mkF m 245 _ [(.int (2 : Int32)), (.ref b74), (.ref b74), (.ref b72), (.ref b72)]) (fun T A t k => XS.iconst A B.x rfl (B.d at_244) k) ?_
        refine gs (mkF m 247 _ [(.int c2), (.int (2 : Int32)), (.ref b74), (.ref b74), (.ref b72), (.ref b72)]) (fun T A t k => XS.iload A B.x rfl (B.d at_245) rfl k) ?_
        refine g_stC B V78 (x' := c2) (nar8 hc2) ⟨by decide, by decide⟩ (i := 2) rfl (Nat.le_of_ble_eq_true rfl) at_247 (Safe.arv Wt79.1.alike V78 (by decide)) (by omega) (q := 248) rfl ?_
        intro h80 W80 A80
        refine g_wt (fun Wt81 => ?_)
        have z80 := W80.size
        have V80 : Arv Z h80 b74 k74 .char (4 : Int32) [(.int c0), (.int c1), (.int c2), (.int (0 : Int32))] (.int (0 : Int32)) := A80
        refine gs (mkF m 249 _ [(.ref b74), (.ref b74), (.ref b72), (.ref b72)]) (fun T A t k => XS.dup A B.x rfl (B.d at_248) rfl rfl k) ?_
        refine gs (mkF m 250 _ [(.int (3 : Int32)), (.ref b74), (.ref b74), (.ref b72), (.ref b72)]) (fun T A t k => XS.iconst A B.x rfl (B.d at_249) k) ?_
        refine gs (mkF m 252 _ [(.int ce), (.int (3 : Int32)), (.ref b74), (.ref b74), (.ref b72), (.ref b72)]) (fun T A t k => XS.iload A B.x rfl (B.d at_250) rfl k) ?_
        refine g_stC B V80 (x' := ce) (nar8 hce) ⟨by decide, by decide⟩ (i := 3) rfl (Nat.le_of_ble_eq_true rfl) at_252 (Safe.arv Wt81.1.alike V80 (by decide)) (by omega) (q := 253) rfl ?_
        intro h82 W82 A82
        refine g_wt (fun Wt83 => ?_)
        have z82 := W82.size
        have V82 : Arv Z h82 b74 k74 .char (4 : Int32) [(.int c0), (.int c1), (.int c2), (.int ce)] (.int (0 : Int32)) := A82
        have hp84 : ∀ c ∈ ([c0, c1, c2, ce] : List Int32), ¬ c < 0 ∧ ¬ (255 : Int32) < c := by intro c hc; simp only [List.mem_cons, List.not_mem_nil, or_false] at hc; rcases hc with rfl | rfl | rfl | rfl <;> first | assumption | exact lo255 _ | decide
        refine g_pay (Q' := fun v h' L => v = none ∧ Fr n0 L ∧ Keep h82 h' [b72] ∧ ∃ t : Addr, @Eq Nat t h82.size ∧ Str Z h' b72 t [c0, c1, c2, ce]) (k := 1) (n := 4) (c_init B rfl (hw _ (List.mem_of_getElem? (i := 4) rfl)) (hw _ (List.mem_of_getElem? (i := 5) rfl)) (hw _ (List.mem_of_getElem? (i := 6) rfl)) (by decide) rfl (lenOf pd_285bC29V rfl) rfl (Nat.le_of_eq rfl) at_253 rfl (argsL := [(.ref b74)]) (rest := [(.ref b72)]) (W := 1) (q := 256)) (fun hZ => own_new [c0, c1, c2, ce] 4 hZ (fun d hd => hw d (own_wnew d hd)) (hw _ (List.mem_of_getElem? (i := 2) rfl)) (n0 := n0) (by omega) (by omega) (((((A72.ext E74).wr W76).wr W78).wr W80).wr W82) (((((F72_value.ext E74).other W76 (Or.inl (by omega : @Ne Nat b72 b74))).other W78 (Or.inl (by omega : @Ne Nat b72 b74))).other W80 (Or.inl (by omega : @Ne Nat b72 b74))).other W82 (Or.inl (by omega : @Ne Nat b72 b74))) (((((F72_coder.ext E74).other W76 (Or.inl (by omega : @Ne Nat b72 b74))).other W78 (Or.inl (by omega : @Ne Nat b72 b74))).other W80 (Or.inl (by omega : @Ne Nat b72 b74))).other W82 (Or.inl (by omega : @Ne Nat b72 b74))) V82 (SC.ext ((((((((((((((((((((((((PO.ext E21).wr W23 (by omega)).wr W25 (by omega)).wr W27 (by omega)).wr W29 (by omega)).wr W31 (by omega)).wr W33 (by omega)).wr W35 (by omega)).wr W37 (by omega)).ext E39).wr W41 (by omega)).wr W43 (by omega)).wr W45 (by omega)).wr W47 (by omega)).wr W49 (by omega)).wr W51 (by omega)).wr W53 (by omega)).wr W55 (by omega)).ext E72).ext E74).wr W76 (by omega)).wr W78 (by omega)).wr W80 (by omega)).wr W82 (by omega)).2) hzc rfl rfl (by decide) (by decide) hp84 (by decide) (by decide)) (by decide) (by decide) (fun v h' L q => ⟨q.2.1, [b72], q.2.2.1, fun z hz => by cases List.mem_singleton.mp hz; exact (Safe.wr W82 (Safe.wr W80 (Safe.wr W78 (Safe.wr W76 S74 Wt75.2.2.1.1 S74) Wt77.2.2.1.1 (Safe.wr W76 S74 Wt75.2.2.1.1 S74)) Wt79.2.2.1.1 (Safe.wr W78 (Safe.wr W76 S74 Wt75.2.2.1.1 S74) Wt77.2.2.1.1 (Safe.wr W76 S74 Wt75.2.2.1.1 S74))) Wt81.2.2.1.1 (Safe.wr W80 (Safe.wr W78 (Safe.wr W76 S74 Wt75.2.2.1.1 S74) Wt77.2.2.1.1 (Safe.wr W76 S74 Wt75.2.2.1.1 S74)) Wt79.2.2.1.1 (Safe.wr W78 (Safe.wr W76 S74 Wt75.2.2.1.1 S74) Wt77.2.2.1.1 (Safe.wr W76 S74 Wt75.2.2.1.1 (Safe.ext E74 Wt73.2.2.1.1 S72)))))⟩) ?_
        rintro v85 h85 L85 ⟨rfl, -, K85, t85, e85, X85⟩
        refine g_wt (fun Wt86 => ?_)
        have z85 := K85.1; have y85 := X85.lt; have x85 := X85.lt'
        refine gs (mkF m 258 #[.val (.int p1), .val (.int p2), .val (.int p3), .val (.int p4), .val (.ref b21), .val (.ref b39), .val (.int (p1 &&& (7 : Int32))), .val (.int c0), .val (.int c1), .val (.int c2), .val (.int cd), .val (.int (p2 &&& (3 : Int32))), .val (.int ce), .val (.int (p4 &&& (7 : Int32))), .val (.ref b72), .unset] []) (fun T A t k => XS.astore A B.x rfl (B.d at_256) rfl rfl (l' := #[.val (.int p1), .val (.int p2), .val (.int p3), .val (.int p4), .val (.ref b21), .val (.ref b39), .val (.int (p1 &&& (7 : Int32))), .val (.int c0), .val (.int c1), .val (.int c2), .val (.int cd), .val (.int (p2 &&& (3 : Int32))), .val (.int ce), .val (.int (p4 &&& (7 : Int32))), .val (.ref b72), .unset]) rfl k) ?_
        refine gs (mkF m 259 _ [.null]) (fun T A t k => XS.aconstNull A B.x rfl (B.d at_258) k) ?_
        refine gs (mkF m 261 #[.val (.int p1), .val (.int p2), .val (.int p3), .val (.int p4), .val (.ref b21), .val (.ref b39), .val (.int (p1 &&& (7 : Int32))), .val (.int c0), .val (.int c1), .val (.int c2), .val (.int cd), .val (.int (p2 &&& (3 : Int32))), .val (.int ce), .val (.int (p4 &&& (7 : Int32))), .val (.ref b72), .val .null] []) (fun T A t k => XS.astore A B.x rfl (B.d at_259) rfl rfl (l' := #[.val (.int p1), .val (.int p2), .val (.int p3), .val (.int p4), .val (.ref b21), .val (.ref b39), .val (.int (p1 &&& (7 : Int32))), .val (.int c0), .val (.int c1), .val (.int c2), .val (.int cd), .val (.int (p2 &&& (3 : Int32))), .val (.int ce), .val (.int (p4 &&& (7 : Int32))), .val (.ref b72), .val .null]) rfl k) ?_
        refine gs (mkF m 334 _ []) (fun T A t k => XS.goto A B.x rfl (pc0 := 261) (pc' := 334) rfl (B.d at_261) (by decide) (by decide) k) ?_
        refine gs (mkF m 336 _ [(.ref b72)]) (fun T A t k => XS.aload A B.x rfl (B.d at_334) rfl rfl k) ?_
        refine g_met hEL (c_static B (hw _ (List.mem_of_getElem? (i := 34) rfl)) (hw _ (List.mem_of_getElem? (i := 35) rfl)) (hw _ (List.mem_of_getElem? (i := 36) rfl)) (hw _ (List.mem_of_getElem? (i := 37) rfl)) (by decide) rfl (lenOf pd_28Ljava2flang2fString3b29Lcom2fexample2fdutiful_container2fdutifulcontainer2fPersistenceSchema3b rfl) rfl (Nat.le_of_eq rfl) at_336 rfl (argsL := [(.ref b72)]) (rest := []) (W := 0) (q := 339)) (own_of l Z a0 hw hEL b72 va kv ee ss tt zc t85 [c0, c1, c2, ce] h85 n0 PE X85 (((((((((((((((((((((((((PO.ext E21).wr W23 (by omega)).wr W25 (by omega)).wr W27 (by omega)).wr W29 (by omega)).wr W31 (by omega)).wr W33 (by omega)).wr W35 (by omega)).wr W37 (by omega)).ext E39).wr W41 (by omega)).wr W43 (by omega)).wr W45 (by omega)).wr W47 (by omega)).wr W49 (by omega)).wr W51 (by omega)).wr W53 (by omega)).wr W55 (by omega)).ext E72).ext E74).wr W76 (by omega)).wr W78 (by omega)).wr W80 (by omega)).wr W82 (by omega)).keep K85 (allS (by omega) all0)) SC hzc) (hw _ (List.mem_of_getElem? (i := 37) rfl)) (hw _ (List.mem_of_getElem? (i := 36) rfl)) (by decide) (by decide) (by decide) (by decide) (fun _ q => nomatch q) ?_
        intro v87 h87 vm87 hZ87 C87 hQ87
        obtain ⟨e87, K87⟩ := hQ87
        rw [of_four] at e87; subst e87
        refine g_wt (fun Wt88 => ?_)
        refine gs (mkF m 341 _ [.null, .null]) (fun T A t k => XS.aload A B.x rfl (B.d at_339) rfl rfl k) ?_
        refine g_acmp B rfl rfl at_341 (same := true) (decide_eq_true rfl) (by decide) (q := 344) (by decide) ?_
        refine gs (mkF m 345 _ [(.int (1 : Int32))]) (fun T A t k => XS.iconst A B.x rfl (B.d at_344) k) ?_
        refine gs (mkF m 349 _ [(.int (1 : Int32))]) (fun T A t k => XS.goto A B.x rfl (pc0 := 345) (pc' := 349) rfl (B.d at_345) (by decide) (by decide) k) ?_
        exact g_retN (t := .boolean) B (by simp) at_349 (by decide) (by decide) rfl
      · refine gs (mkF m 264 _ []) (fun T A t k => XS.icmpYes A B.x rfl (pc0 := 223) (pc' := 264) rfl (B.d at_223) rfl (feq (hc223_71 : ¬ ((p4 &&& (7 : Int32)) = (4 : Int32)))).2 (by decide) (by decide) k) ?_
        refine gs (mkF m 266 _ [(.int (p4 &&& (7 : Int32)))]) (fun T A t k => XS.iload A B.x rfl (B.d at_264) rfl k) ?_
        refine gs (mkF m 267 _ [(.int (5 : Int32)), (.int (p4 &&& (7 : Int32)))]) (fun T A t k => XS.iconst A B.x rfl (B.d at_266) k) ?_
        by_cases hc267_89 : (p4 &&& (7 : Int32)) = (5 : Int32)
        · refine gs (mkF m 270 _ []) (fun T A t k => XS.icmpNo A B.x rfl (B.d at_267) rfl (teq (hc267_89 : (p4 &&& (7 : Int32)) = (5 : Int32))).2 k) ?_
          refine g_ldcS (z := (0 : Int32)) (vs := []) (n := 0) B (hw _ (List.mem_of_getElem? (i := 76) rfl)) (fun d hd => hw d (own_wstr d hd)) (by decide) (by decide) (by decide) rfl at_270 (by decide) (by decide) (by decide) (by decide) (q := 272) rfl ?_
          intro h90 vm90 b90 t90 k90 hZ90 E90 C90 A90 F90c F90v V90 N90
          refine g_wt (fun Wt91 => ?_)
          have X90 : Str Z h90 b90 t90 ([] : List Int32) := Str.mk0 A90 F90v F90c V90 rfl rfl (by decide) (by decide)
          have z90 := E90.1; have y90 := X90.lt; have x90 := X90.lt'
          refine gs (mkF m 274 #[.val (.int p1), .val (.int p2), .val (.int p3), .val (.int p4), .val (.ref b21), .val (.ref b39), .val (.int (p1 &&& (7 : Int32))), .val (.int c0), .val (.int c1), .val (.int c2), .val (.int cd), .val (.int (p2 &&& (3 : Int32))), .val (.int ce), .val (.int (p4 &&& (7 : Int32))), .val (.ref b90), .unset] []) (fun T A t k => XS.astore A B.x rfl (B.d at_272) rfl rfl (l' := #[.val (.int p1), .val (.int p2), .val (.int p3), .val (.int p4), .val (.ref b21), .val (.ref b39), .val (.int (p1 &&& (7 : Int32))), .val (.int c0), .val (.int c1), .val (.int c2), .val (.int cd), .val (.int (p2 &&& (3 : Int32))), .val (.int ce), .val (.int (p4 &&& (7 : Int32))), .val (.ref b90), .unset]) rfl k) ?_
          refine gs (mkF m 275 _ [.null]) (fun T A t k => XS.aconstNull A B.x rfl (B.d at_274) k) ?_
          refine gs (mkF m 277 #[.val (.int p1), .val (.int p2), .val (.int p3), .val (.int p4), .val (.ref b21), .val (.ref b39), .val (.int (p1 &&& (7 : Int32))), .val (.int c0), .val (.int c1), .val (.int c2), .val (.int cd), .val (.int (p2 &&& (3 : Int32))), .val (.int ce), .val (.int (p4 &&& (7 : Int32))), .val (.ref b90), .val .null] []) (fun T A t k => XS.astore A B.x rfl (B.d at_275) rfl rfl (l' := #[.val (.int p1), .val (.int p2), .val (.int p3), .val (.int p4), .val (.ref b21), .val (.ref b39), .val (.int (p1 &&& (7 : Int32))), .val (.int c0), .val (.int c1), .val (.int c2), .val (.int cd), .val (.int (p2 &&& (3 : Int32))), .val (.int ce), .val (.int (p4 &&& (7 : Int32))), .val (.ref b90), .val .null]) rfl k) ?_
          refine gs (mkF m 334 _ []) (fun T A t k => XS.goto A B.x rfl (pc0 := 277) (pc' := 334) rfl (B.d at_277) (by decide) (by decide) k) ?_
          refine gs (mkF m 336 _ [(.ref b90)]) (fun T A t k => XS.aload A B.x rfl (B.d at_334) rfl rfl k) ?_
          refine g_met hEL (c_static B (hw _ (List.mem_of_getElem? (i := 34) rfl)) (hw _ (List.mem_of_getElem? (i := 35) rfl)) (hw _ (List.mem_of_getElem? (i := 36) rfl)) (hw _ (List.mem_of_getElem? (i := 37) rfl)) (by decide) rfl (lenOf pd_28Ljava2flang2fString3b29Lcom2fexample2fdutiful_container2fdutifulcontainer2fPersistenceSchema3b rfl) rfl (Nat.le_of_eq rfl) at_336 rfl (argsL := [(.ref b90)]) (rest := []) (W := 0) (q := 339)) (own_of l Z a0 hw hEL b90 va kv ee ss tt zc t90 ([] : List Int32) h90 n0 PE X90 (((((((((((((((((((PO.ext E21).wr W23 (by omega)).wr W25 (by omega)).wr W27 (by omega)).wr W29 (by omega)).wr W31 (by omega)).wr W33 (by omega)).wr W35 (by omega)).wr W37 (by omega)).ext E39).wr W41 (by omega)).wr W43 (by omega)).wr W45 (by omega)).wr W47 (by omega)).wr W49 (by omega)).wr W51 (by omega)).wr W53 (by omega)).wr W55 (by omega)).ext E90) SC hzc) (hw _ (List.mem_of_getElem? (i := 37) rfl)) (hw _ (List.mem_of_getElem? (i := 36) rfl)) (by decide) (by decide) (by decide) (by decide) (fun _ q => nomatch q) ?_
          intro v92 h92 vm92 hZ92 C92 hQ92
          obtain ⟨e92, K92⟩ := hQ92
          rw [of_nil] at e92; subst e92
          refine g_wt (fun Wt93 => ?_)
          refine gs (mkF m 341 _ [.null, .null]) (fun T A t k => XS.aload A B.x rfl (B.d at_339) rfl rfl k) ?_
          refine g_acmp B rfl rfl at_341 (same := true) (decide_eq_true rfl) (by decide) (q := 344) (by decide) ?_
          refine gs (mkF m 345 _ [(.int (1 : Int32))]) (fun T A t k => XS.iconst A B.x rfl (B.d at_344) k) ?_
          refine gs (mkF m 349 _ [(.int (1 : Int32))]) (fun T A t k => XS.goto A B.x rfl (pc0 := 345) (pc' := 349) rfl (B.d at_345) (by decide) (by decide) k) ?_
          exact g_retN (t := .boolean) B (by simp) at_349 (by decide) (by decide) rfl
        · refine gs (mkF m 280 _ []) (fun T A t k => XS.icmpYes A B.x rfl (pc0 := 267) (pc' := 280) rfl (B.d at_267) rfl (feq (hc267_89 : ¬ ((p4 &&& (7 : Int32)) = (5 : Int32)))).2 (by decide) (by decide) k) ?_
          refine gs (mkF m 282 _ [(.int (p4 &&& (7 : Int32)))]) (fun T A t k => XS.iload A B.x rfl (B.d at_280) rfl k) ?_
          refine gs (mkF m 284 _ [(.int (6 : Int32)), (.int (p4 &&& (7 : Int32)))]) (fun T A t k => XS.bipush A B.x rfl (B.d at_282) k) ?_
          by_cases hc284_94 : (p4 &&& (7 : Int32)) = (6 : Int32)
          · refine gs (mkF m 287 _ []) (fun T A t k => XS.icmpNo A B.x rfl (B.d at_284) rfl (teq (hc284_94 : (p4 &&& (7 : Int32)) = (6 : Int32))).2 k) ?_
            refine gs (mkF m 288 _ [.null]) (fun T A t k => XS.aconstNull A B.x rfl (B.d at_287) k) ?_
            refine gs (mkF m 290 #[.val (.int p1), .val (.int p2), .val (.int p3), .val (.int p4), .val (.ref b21), .val (.ref b39), .val (.int (p1 &&& (7 : Int32))), .val (.int c0), .val (.int c1), .val (.int c2), .val (.int cd), .val (.int (p2 &&& (3 : Int32))), .val (.int ce), .val (.int (p4 &&& (7 : Int32))), .val .null, .unset] []) (fun T A t k => XS.astore A B.x rfl (B.d at_288) rfl rfl (l' := #[.val (.int p1), .val (.int p2), .val (.int p3), .val (.int p4), .val (.ref b21), .val (.ref b39), .val (.int (p1 &&& (7 : Int32))), .val (.int c0), .val (.int c1), .val (.int c2), .val (.int cd), .val (.int (p2 &&& (3 : Int32))), .val (.int ce), .val (.int (p4 &&& (7 : Int32))), .val .null, .unset]) rfl k) ?_
            refine gs (mkF m 291 _ [.null]) (fun T A t k => XS.aconstNull A B.x rfl (B.d at_290) k) ?_
            refine gs (mkF m 293 #[.val (.int p1), .val (.int p2), .val (.int p3), .val (.int p4), .val (.ref b21), .val (.ref b39), .val (.int (p1 &&& (7 : Int32))), .val (.int c0), .val (.int c1), .val (.int c2), .val (.int cd), .val (.int (p2 &&& (3 : Int32))), .val (.int ce), .val (.int (p4 &&& (7 : Int32))), .val .null, .val .null] []) (fun T A t k => XS.astore A B.x rfl (B.d at_291) rfl rfl (l' := #[.val (.int p1), .val (.int p2), .val (.int p3), .val (.int p4), .val (.ref b21), .val (.ref b39), .val (.int (p1 &&& (7 : Int32))), .val (.int c0), .val (.int c1), .val (.int c2), .val (.int cd), .val (.int (p2 &&& (3 : Int32))), .val (.int ce), .val (.int (p4 &&& (7 : Int32))), .val .null, .val .null]) rfl k) ?_
            refine gs (mkF m 334 _ []) (fun T A t k => XS.goto A B.x rfl (pc0 := 293) (pc' := 334) rfl (B.d at_293) (by decide) (by decide) k) ?_
            refine gs (mkF m 336 _ [.null]) (fun T A t k => XS.aload A B.x rfl (B.d at_334) rfl rfl k) ?_
            refine g_met hEL (c_static B (hw _ (List.mem_of_getElem? (i := 34) rfl)) (hw _ (List.mem_of_getElem? (i := 35) rfl)) (hw _ (List.mem_of_getElem? (i := 36) rfl)) (hw _ (List.mem_of_getElem? (i := 37) rfl)) (by decide) rfl (lenOf pd_28Ljava2flang2fString3b29Lcom2fexample2fdutiful_container2fdutifulcontainer2fPersistenceSchema3b rfl) rfl (Nat.le_of_eq rfl) at_336 rfl (argsL := [.null]) (rest := []) (W := 0) (q := 339)) (own_of0 l Z a0 hw hEL  va kv ee ss tt h55 n0 PE ((((((((((((((((((PO.ext E21).wr W23 (by omega)).wr W25 (by omega)).wr W27 (by omega)).wr W29 (by omega)).wr W31 (by omega)).wr W33 (by omega)).wr W35 (by omega)).wr W37 (by omega)).ext E39).wr W41 (by omega)).wr W43 (by omega)).wr W45 (by omega)).wr W47 (by omega)).wr W49 (by omega)).wr W51 (by omega)).wr W53 (by omega)).wr W55 (by omega))) (hw _ (List.mem_of_getElem? (i := 37) rfl)) (hw _ (List.mem_of_getElem? (i := 36) rfl)) (by decide) (by decide) (by decide) (by decide) (fun _ q => nomatch q) ?_
            intro v95 h95 vm95 hZ95 C95 hQ95
            obtain ⟨rfl, K95⟩ := hQ95
            refine g_wt (fun Wt96 => ?_)
            refine gs (mkF m 341 _ [.null, .null]) (fun T A t k => XS.aload A B.x rfl (B.d at_339) rfl rfl k) ?_
            refine g_acmp B rfl rfl at_341 (same := true) (decide_eq_true rfl) (by decide) (q := 344) (by decide) ?_
            refine gs (mkF m 345 _ [(.int (1 : Int32))]) (fun T A t k => XS.iconst A B.x rfl (B.d at_344) k) ?_
            refine gs (mkF m 349 _ [(.int (1 : Int32))]) (fun T A t k => XS.goto A B.x rfl (pc0 := 345) (pc' := 349) rfl (B.d at_345) (by decide) (by decide) k) ?_
            exact g_retN (t := .boolean) B (by simp) at_349 (by decide) (by decide) rfl
          · refine gs (mkF m 296 _ []) (fun T A t k => XS.icmpYes A B.x rfl (pc0 := 284) (pc' := 296) rfl (B.d at_284) rfl (feq (hc284_94 : ¬ ((p4 &&& (7 : Int32)) = (6 : Int32)))).2 (by decide) (by decide) k) ?_
            refine g_newO B (hw _ (List.mem_of_getElem? (i := 1) rfl)) (hw _ (List.mem_of_getElem? (i := 2) rfl)) (hw _ (List.mem_of_getElem? (i := 3) rfl)) at_296 (by decide) (by decide) (q := 299) rfl ?_
            intro h97 b97 g97 E97 S97 A97 D97
            refine g_wt (fun Wt98 => ?_)
            have z97 := E97.1; have y97 : @LT.lt Nat _ b97 h97.size := A97.lt
            have F97_coder : Fld Z h97 b97 "java/lang/String" "coder" "B" (.int (0 : Int32)) := D97 (Or.inr (hw _ (List.mem_of_getElem? (i := 27) rfl))) (ty := .byte) (by decide)
            have F97_value : Fld Z h97 b97 "java/lang/String" "value" "[B" .null := D97 (Or.inr (hw _ (List.mem_of_getElem? (i := 29) rfl))) (ty := (.array .byte)) (by decide)
            refine gs (mkF m 300 _ [(.ref b97), (.ref b97)]) (fun T A t k => XS.dup A B.x rfl (B.d at_299) rfl rfl k) ?_
            refine gs (mkF m 301 _ [(.int (3 : Int32)), (.ref b97), (.ref b97)]) (fun T A t k => XS.iconst A B.x rfl (B.d at_300) k) ?_
            refine g_newP B (hw _ (List.mem_of_getElem? (i := 0) rfl)) at_301 (by decide) (cap := 3) (by decide) (by decide) (by decide) (by decide) (q := 303) rfl ?_
            intro h99 b99 k99 g99 E99 S99 A99
            refine g_wt (fun Wt100 => ?_)
            have z99 := E99.1; have y99 : @LT.lt Nat _ b99 h99.size := A99.lt
            have V99 : Arv Z h99 b99 k99 .char (3 : Int32) [(.int (0 : Int32)), (.int (0 : Int32)), (.int (0 : Int32))] (.int (0 : Int32)) := A99
            refine gs (mkF m 304 _ [(.ref b99), (.ref b99), (.ref b97), (.ref b97)]) (fun T A t k => XS.dup A B.x rfl (B.d at_303) rfl rfl k) ?_
            refine gs (mkF m 305 _ [(.int (0 : Int32)), (.ref b99), (.ref b99), (.ref b97), (.ref b97)]) (fun T A t k => XS.iconst A B.x rfl (B.d at_304) k) ?_
            refine gs (mkF m 307 _ [(.int c0), (.int (0 : Int32)), (.ref b99), (.ref b99), (.ref b97), (.ref b97)]) (fun T A t k => XS.iload A B.x rfl (B.d at_305) rfl k) ?_
            refine g_stC B V99 (x' := c0) (nar8 hc0) ⟨by decide, by decide⟩ (i := 0) rfl (Nat.le_of_ble_eq_true rfl) at_307 (Safe.arv Wt100.1.alike V99 (by decide)) (by omega) (q := 308) rfl ?_
            intro h101 W101 A101
            refine g_wt (fun Wt102 => ?_)
            have z101 := W101.size
            have V101 : Arv Z h101 b99 k99 .char (3 : Int32) [(.int c0), (.int (0 : Int32)), (.int (0 : Int32))] (.int (0 : Int32)) := A101
            refine gs (mkF m 309 _ [(.ref b99), (.ref b99), (.ref b97), (.ref b97)]) (fun T A t k => XS.dup A B.x rfl (B.d at_308) rfl rfl k) ?_
            refine gs (mkF m 310 _ [(.int (1 : Int32)), (.ref b99), (.ref b99), (.ref b97), (.ref b97)]) (fun T A t k => XS.iconst A B.x rfl (B.d at_309) k) ?_
            refine gs (mkF m 312 _ [(.int c1), (.int (1 : Int32)), (.ref b99), (.ref b99), (.ref b97), (.ref b97)]) (fun T A t k => XS.iload A B.x rfl (B.d at_310) rfl k) ?_
            refine g_stC B V101 (x' := c1) (nar8 hc1) ⟨by decide, by decide⟩ (i := 1) rfl (Nat.le_of_ble_eq_true rfl) at_312 (Safe.arv Wt102.1.alike V101 (by decide)) (by omega) (q := 313) rfl ?_
            intro h103 W103 A103
            refine g_wt (fun Wt104 => ?_)
            have z103 := W103.size
            have V103 : Arv Z h103 b99 k99 .char (3 : Int32) [(.int c0), (.int c1), (.int (0 : Int32))] (.int (0 : Int32)) := A103
            refine gs (mkF m 314 _ [(.ref b99), (.ref b99), (.ref b97), (.ref b97)]) (fun T A t k => XS.dup A B.x rfl (B.d at_313) rfl rfl k) ?_
            refine gs (mkF m 315 _ [(.int (2 : Int32)), (.ref b99), (.ref b99), (.ref b97), (.ref b97)]) (fun T A t k => XS.iconst A B.x rfl (B.d at_314) k) ?_
            refine gs (mkF m 317 _ [(.int c2), (.int (2 : Int32)), (.ref b99), (.ref b99), (.ref b97), (.ref b97)]) (fun T A t k => XS.iload A B.x rfl (B.d at_315) rfl k) ?_
            refine g_stC B V103 (x' := c2) (nar8 hc2) ⟨by decide, by decide⟩ (i := 2) rfl (Nat.le_of_ble_eq_true rfl) at_317 (Safe.arv Wt104.1.alike V103 (by decide)) (by omega) (q := 318) rfl ?_
            intro h105 W105 A105
            refine g_wt (fun Wt106 => ?_)
            have z105 := W105.size
            have V105 : Arv Z h105 b99 k99 .char (3 : Int32) [(.int c0), (.int c1), (.int c2)] (.int (0 : Int32)) := A105
            have hp107 : ∀ c ∈ ([c0, c1, c2] : List Int32), ¬ c < 0 ∧ ¬ (255 : Int32) < c := by intro c hc; simp only [List.mem_cons, List.not_mem_nil, or_false] at hc; rcases hc with rfl | rfl | rfl <;> first | assumption | exact lo255 _ | decide
            refine g_pay (Q' := fun v h' L => v = none ∧ Fr n0 L ∧ Keep h105 h' [b97] ∧ ∃ t : Addr, @Eq Nat t h105.size ∧ Str Z h' b97 t [c0, c1, c2]) (k := 1) (n := 3) (c_init B rfl (hw _ (List.mem_of_getElem? (i := 4) rfl)) (hw _ (List.mem_of_getElem? (i := 5) rfl)) (hw _ (List.mem_of_getElem? (i := 6) rfl)) (by decide) rfl (lenOf pd_285bC29V rfl) rfl (Nat.le_of_eq rfl) at_318 rfl (argsL := [(.ref b99)]) (rest := [(.ref b97)]) (W := 1) (q := 321)) (fun hZ => own_new [c0, c1, c2] 3 hZ (fun d hd => hw d (own_wnew d hd)) (hw _ (List.mem_of_getElem? (i := 2) rfl)) (n0 := n0) (by omega) (by omega) ((((A97.ext E99).wr W101).wr W103).wr W105) ((((F97_value.ext E99).other W101 (Or.inl (by omega : @Ne Nat b97 b99))).other W103 (Or.inl (by omega : @Ne Nat b97 b99))).other W105 (Or.inl (by omega : @Ne Nat b97 b99))) ((((F97_coder.ext E99).other W101 (Or.inl (by omega : @Ne Nat b97 b99))).other W103 (Or.inl (by omega : @Ne Nat b97 b99))).other W105 (Or.inl (by omega : @Ne Nat b97 b99))) V105 (SC.ext (((((((((((((((((((((((PO.ext E21).wr W23 (by omega)).wr W25 (by omega)).wr W27 (by omega)).wr W29 (by omega)).wr W31 (by omega)).wr W33 (by omega)).wr W35 (by omega)).wr W37 (by omega)).ext E39).wr W41 (by omega)).wr W43 (by omega)).wr W45 (by omega)).wr W47 (by omega)).wr W49 (by omega)).wr W51 (by omega)).wr W53 (by omega)).wr W55 (by omega)).ext E97).ext E99).wr W101 (by omega)).wr W103 (by omega)).wr W105 (by omega)).2) hzc rfl rfl (by decide) (by decide) hp107 (by decide) (by decide)) (by decide) (by decide) (fun v h' L q => ⟨q.2.1, [b97], q.2.2.1, fun z hz => by cases List.mem_singleton.mp hz; exact (Safe.wr W105 (Safe.wr W103 (Safe.wr W101 S99 Wt100.2.2.1.1 S99) Wt102.2.2.1.1 (Safe.wr W101 S99 Wt100.2.2.1.1 S99)) Wt104.2.2.1.1 (Safe.wr W103 (Safe.wr W101 S99 Wt100.2.2.1.1 S99) Wt102.2.2.1.1 (Safe.wr W101 S99 Wt100.2.2.1.1 (Safe.ext E99 Wt98.2.2.1.1 S97))))⟩) ?_
            rintro v108 h108 L108 ⟨rfl, -, K108, t108, e108, X108⟩
            refine g_wt (fun Wt109 => ?_)
            have z108 := K108.1; have y108 := X108.lt; have x108 := X108.lt'
            refine gs (mkF m 323 #[.val (.int p1), .val (.int p2), .val (.int p3), .val (.int p4), .val (.ref b21), .val (.ref b39), .val (.int (p1 &&& (7 : Int32))), .val (.int c0), .val (.int c1), .val (.int c2), .val (.int cd), .val (.int (p2 &&& (3 : Int32))), .val (.int ce), .val (.int (p4 &&& (7 : Int32))), .val (.ref b97), .unset] []) (fun T A t k => XS.astore A B.x rfl (B.d at_321) rfl rfl (l' := #[.val (.int p1), .val (.int p2), .val (.int p3), .val (.int p4), .val (.ref b21), .val (.ref b39), .val (.int (p1 &&& (7 : Int32))), .val (.int c0), .val (.int c1), .val (.int c2), .val (.int cd), .val (.int (p2 &&& (3 : Int32))), .val (.int ce), .val (.int (p4 &&& (7 : Int32))), .val (.ref b97), .unset]) rfl k) ?_
            refine gs (mkF m 325 _ [(.int c0)]) (fun T A t k => XS.iload A B.x rfl (B.d at_323) rfl k) ?_
            refine gs (mkF m 327 _ [(.int c1), (.int c0)]) (fun T A t k => XS.iload A B.x rfl (B.d at_325) rfl k) ?_
            refine gs (mkF m 329 _ [(.int c2), (.int c1), (.int c0)]) (fun T A t k => XS.iload A B.x rfl (B.d at_327) rfl k) ?_
            refine g_met hEL (c_static B (hw _ (List.mem_of_getElem? (i := 30) rfl)) (hw _ (List.mem_of_getElem? (i := 31) rfl)) (hw _ (List.mem_of_getElem? (i := 32) rfl)) (hw _ (List.mem_of_getElem? (i := 33) rfl)) (by decide) rfl (lenOf pd_28CCC29Lcom2fexample2fdutiful_container2fdutifulcontainer2fPersistenceSchema3b rfl) rfl (Nat.le_of_eq rfl) at_329 rfl (argsL := [(.int c0), (.int c1), (.int c2)]) (rest := []) (W := 0) (q := 332)) (own_ref l Z a0 hw hEL (c0) (c1) (c2) va kv ee ss tt h108 n0 PE ((((((((((((((((((((((((PO.ext E21).wr W23 (by omega)).wr W25 (by omega)).wr W27 (by omega)).wr W29 (by omega)).wr W31 (by omega)).wr W33 (by omega)).wr W35 (by omega)).wr W37 (by omega)).ext E39).wr W41 (by omega)).wr W43 (by omega)).wr W45 (by omega)).wr W47 (by omega)).wr W49 (by omega)).wr W51 (by omega)).wr W53 (by omega)).wr W55 (by omega)).ext E97).ext E99).wr W101 (by omega)).wr W103 (by omega)).wr W105 (by omega)).keep K108 (allS (by omega) all0))) (hw _ (List.mem_of_getElem? (i := 33) rfl)) (hw _ (List.mem_of_getElem? (i := 32) rfl)) (by decide) (by decide) (by decide) (by decide) (fun _ q => nomatch q) ?_
            intro v110 h110 vm110 hZ110 C110 hQ110
            obtain ⟨rfl, rfl⟩ := hQ110
            refine g_wt (fun Wt111 => ?_)
            refine gs (mkF m 334 #[.val (.int p1), .val (.int p2), .val (.int p3), .val (.int p4), .val (.ref b21), .val (.ref b39), .val (.int (p1 &&& (7 : Int32))), .val (.int c0), .val (.int c1), .val (.int c2), .val (.int cd), .val (.int (p2 &&& (3 : Int32))), .val (.int ce), .val (.int (p4 &&& (7 : Int32))), .val (.ref b97), .val (refV ee c0 c1 c2)] []) (fun T A t k => XS.astore A B.x rfl (B.d at_332) rfl (refV_ref _ _ _ _) (l' := #[.val (.int p1), .val (.int p2), .val (.int p3), .val (.int p4), .val (.ref b21), .val (.ref b39), .val (.int (p1 &&& (7 : Int32))), .val (.int c0), .val (.int c1), .val (.int c2), .val (.int cd), .val (.int (p2 &&& (3 : Int32))), .val (.int ce), .val (.int (p4 &&& (7 : Int32))), .val (.ref b97), .val (refV ee c0 c1 c2)]) (stV (refV_ref _ _ _ _) (by first | exact Or.inl rfl | exact Or.inr ⟨_, rfl, rfl⟩ | exact Or.inr ⟨_, rfl, catR rfl⟩)) k) ?_
            refine gs (mkF m 336 _ [(.ref b97)]) (fun T A t k => XS.aload A B.x rfl (B.d at_334) rfl rfl k) ?_
            refine g_met hEL (c_static B (hw _ (List.mem_of_getElem? (i := 34) rfl)) (hw _ (List.mem_of_getElem? (i := 35) rfl)) (hw _ (List.mem_of_getElem? (i := 36) rfl)) (hw _ (List.mem_of_getElem? (i := 37) rfl)) (by decide) rfl (lenOf pd_28Ljava2flang2fString3b29Lcom2fexample2fdutiful_container2fdutifulcontainer2fPersistenceSchema3b rfl) rfl (Nat.le_of_eq rfl) at_336 rfl (argsL := [(.ref b97)]) (rest := []) (W := 0) (q := 339)) (own_of l Z a0 hw hEL b97 va kv ee ss tt zc t108 [c0, c1, c2] h108 n0 PE X108 ((((((((((((((((((((((((PO.ext E21).wr W23 (by omega)).wr W25 (by omega)).wr W27 (by omega)).wr W29 (by omega)).wr W31 (by omega)).wr W33 (by omega)).wr W35 (by omega)).wr W37 (by omega)).ext E39).wr W41 (by omega)).wr W43 (by omega)).wr W45 (by omega)).wr W47 (by omega)).wr W49 (by omega)).wr W51 (by omega)).wr W53 (by omega)).wr W55 (by omega)).ext E97).ext E99).wr W101 (by omega)).wr W103 (by omega)).wr W105 (by omega)).keep K108 (allS (by omega) all0)) SC hzc) (hw _ (List.mem_of_getElem? (i := 37) rfl)) (hw _ (List.mem_of_getElem? (i := 36) rfl)) (by decide) (by decide) (by decide) (by decide) (fun _ q => nomatch q) ?_
            intro v112 h112 vm112 hZ112 C112 hQ112
            obtain ⟨e112, K112⟩ := hQ112
            rw [of_ref] at e112; subst e112
            refine g_wt (fun Wt113 => ?_)
            refine gs (mkF m 341 _ [(refV ee c0 c1 c2), (refV ee c0 c1 c2)]) (fun T A t k => XS.aload A B.x rfl (B.d at_339) rfl (refV_ref _ _ _ _) k) ?_
            refine g_acmp B (refV_ref _ _ _ _) (refV_ref _ _ _ _) at_341 (same := true) (decide_eq_true rfl) (by decide) (q := 344) (by decide) ?_
            refine gs (mkF m 345 _ [(.int (1 : Int32))]) (fun T A t k => XS.iconst A B.x rfl (B.d at_344) k) ?_
            refine gs (mkF m 349 _ [(.int (1 : Int32))]) (fun T A t k => XS.goto A B.x rfl (pc0 := 345) (pc' := 349) rfl (B.d at_345) (by decide) (by decide) k) ?_
            exact g_retN (t := .boolean) B (by simp) at_349 (by decide) (by decide) rfl
  · by_cases hc136_114 : (p2 &&& (3 : Int32)) = (1 : Int32)
    · refine gs (mkF m 139 _ []) (fun T A t k => XS.icmpNo A B.x rfl (B.d at_136) rfl (teq (hc136_114 : (p2 &&& (3 : Int32)) = (1 : Int32))).2 k) ?_
      refine gs (mkF m 141 _ [(.int cd)]) (fun T A t k => XS.iload A B.x rfl (B.d at_139) rfl k) ?_
      refine gs (mkF m 143 #[.val (.int p1), .val (.int p2), .val (.int p3), .val (.int p4), .val (.ref b21), .val (.ref b39), .val (.int (p1 &&& (7 : Int32))), .val (.int cd), .val (.int (46 : Int32)), .val (.int (lst8 (p1 &&& (7 : Int32)))), .val (.int cd), .val (.int (p2 &&& (3 : Int32))), .unset, .unset, .unset, .unset] []) (fun T A t k => XS.istore A B.x rfl (B.d at_141) rfl (l' := #[.val (.int p1), .val (.int p2), .val (.int p3), .val (.int p4), .val (.ref b21), .val (.ref b39), .val (.int (p1 &&& (7 : Int32))), .val (.int cd), .val (.int (46 : Int32)), .val (.int (lst8 (p1 &&& (7 : Int32)))), .val (.int cd), .val (.int (p2 &&& (3 : Int32))), .unset, .unset, .unset, .unset]) rfl k) ?_
      refine gs (mkF m 169 _ []) (fun T A t k => XS.goto A B.x rfl (pc0 := 143) (pc' := 169) rfl (B.d at_143) (by decide) (by decide) k) ?_
      exact J _ _ _ ⟨hcd, (by decide), (lst8_rng p1)⟩
    · refine gs (mkF m 146 _ []) (fun T A t k => XS.icmpYes A B.x rfl (pc0 := 136) (pc' := 146) rfl (B.d at_136) rfl (feq (hc136_114 : ¬ ((p2 &&& (3 : Int32)) = (1 : Int32)))).2 (by decide) (by decide) k) ?_
      refine gs (mkF m 148 _ [(.int (p2 &&& (3 : Int32)))]) (fun T A t k => XS.iload A B.x rfl (B.d at_146) rfl k) ?_
      refine gs (mkF m 149 _ [(.int (2 : Int32)), (.int (p2 &&& (3 : Int32)))]) (fun T A t k => XS.iconst A B.x rfl (B.d at_148) k) ?_
      by_cases hc149_115 : (p2 &&& (3 : Int32)) = (2 : Int32)
      · refine gs (mkF m 152 _ []) (fun T A t k => XS.icmpNo A B.x rfl (B.d at_149) rfl (teq (hc149_115 : (p2 &&& (3 : Int32)) = (2 : Int32))).2 k) ?_
        refine gs (mkF m 154 _ [(.int cd)]) (fun T A t k => XS.iload A B.x rfl (B.d at_152) rfl k) ?_
        refine gs (mkF m 156 #[.val (.int p1), .val (.int p2), .val (.int p3), .val (.int p4), .val (.ref b21), .val (.ref b39), .val (.int (p1 &&& (7 : Int32))), .val (.int (fst8 (p1 &&& (7 : Int32)))), .val (.int cd), .val (.int (lst8 (p1 &&& (7 : Int32)))), .val (.int cd), .val (.int (p2 &&& (3 : Int32))), .unset, .unset, .unset, .unset] []) (fun T A t k => XS.istore A B.x rfl (B.d at_154) rfl (l' := #[.val (.int p1), .val (.int p2), .val (.int p3), .val (.int p4), .val (.ref b21), .val (.ref b39), .val (.int (p1 &&& (7 : Int32))), .val (.int (fst8 (p1 &&& (7 : Int32)))), .val (.int cd), .val (.int (lst8 (p1 &&& (7 : Int32)))), .val (.int cd), .val (.int (p2 &&& (3 : Int32))), .unset, .unset, .unset, .unset]) rfl k) ?_
        refine gs (mkF m 169 _ []) (fun T A t k => XS.goto A B.x rfl (pc0 := 156) (pc' := 169) rfl (B.d at_156) (by decide) (by decide) k) ?_
        exact J _ _ _ ⟨(fst8_rng p1), hcd, (lst8_rng p1)⟩
      · refine gs (mkF m 159 _ []) (fun T A t k => XS.icmpYes A B.x rfl (pc0 := 149) (pc' := 159) rfl (B.d at_149) rfl (feq (hc149_115 : ¬ ((p2 &&& (3 : Int32)) = (2 : Int32)))).2 (by decide) (by decide) k) ?_
        refine gs (mkF m 161 _ [(.int (p2 &&& (3 : Int32)))]) (fun T A t k => XS.iload A B.x rfl (B.d at_159) rfl k) ?_
        refine gs (mkF m 162 _ [(.int (3 : Int32)), (.int (p2 &&& (3 : Int32)))]) (fun T A t k => XS.iconst A B.x rfl (B.d at_161) k) ?_
        by_cases hc162_116 : (p2 &&& (3 : Int32)) = (3 : Int32)
        · refine gs (mkF m 165 _ []) (fun T A t k => XS.icmpNo A B.x rfl (B.d at_162) rfl (teq (hc162_116 : (p2 &&& (3 : Int32)) = (3 : Int32))).2 k) ?_
          refine gs (mkF m 167 _ [(.int cd)]) (fun T A t k => XS.iload A B.x rfl (B.d at_165) rfl k) ?_
          refine gs (mkF m 169 #[.val (.int p1), .val (.int p2), .val (.int p3), .val (.int p4), .val (.ref b21), .val (.ref b39), .val (.int (p1 &&& (7 : Int32))), .val (.int (fst8 (p1 &&& (7 : Int32)))), .val (.int (46 : Int32)), .val (.int cd), .val (.int cd), .val (.int (p2 &&& (3 : Int32))), .unset, .unset, .unset, .unset] []) (fun T A t k => XS.istore A B.x rfl (B.d at_167) rfl (l' := #[.val (.int p1), .val (.int p2), .val (.int p3), .val (.int p4), .val (.ref b21), .val (.ref b39), .val (.int (p1 &&& (7 : Int32))), .val (.int (fst8 (p1 &&& (7 : Int32)))), .val (.int (46 : Int32)), .val (.int cd), .val (.int cd), .val (.int (p2 &&& (3 : Int32))), .unset, .unset, .unset, .unset]) rfl k) ?_
          exact J _ _ _ ⟨(fst8_rng p1), (by decide), hcd⟩
        · refine gs (mkF m 169 _ []) (fun T A t k => XS.icmpYes A B.x rfl (pc0 := 162) (pc' := 169) rfl (B.d at_162) rfl (feq (hc162_116 : ¬ ((p2 &&& (3 : Int32)) = (3 : Int32)))).2 (by decide) (by decide) k) ?_
          exact J _ _ _ ⟨(fst8_rng p1), (by decide), (lst8_rng p1)⟩
set_option maxRecDepth 65536 in
set_option maxHeartbeats 40000000 in
theorem comes_1 {Post : Tables → Env → Array Value → State → Outcome → State → Prop} (hpost : ∀ tb e args s v u, (limb_1_1.after args s (.returned v) u = true ∧ limb_1_2.after args s (.returned v) u = true ∧ True) → ReturnedEndW s (.returned v) u (Jvm.fieldLocs frame_1_writes args s ++ Jvm.arrayLocs frame_1_arrays args s ++ Jvm.staticLocs frame_1_statics s) 24 1216 → Post tb e args s (.returned v) u) :
    ArmFor flags0 classFile x code maxLocals ret World_1 tables_1 room_1 Calls_1 rest_1 Pre_1 Post := by
  intro l hfl _ _ p e ha hc hk s m args below hf hA hF happ hP
  obtain ⟨hcalls, hrest, hpre⟩ := hP
  obtain ⟨-, -, -, hnamed, -, -, -, hat⟩ := (Spec.applies_iff hf).mp happ
  obtain ⟨hg, hn⟩ := and_e (Cond.before_iff.mp (show (Jvm.Cond.and given_1 narrow_1).before args s = true from hpre))
  obtain ⟨gc, gr0⟩ := and_e hg
  obtain ⟨ga0, gr1⟩ := and_e gr0
  obtain ⟨ga1, gr2⟩ := and_e gr1
  obtain ⟨ga2, gr3⟩ := and_e gr2
  have ga3 := gr3
  obtain ⟨w0, w1, w2, w3, rfl⟩ : ∃ w0 w1 w2 w3 : Value, args = #[w0, w1, w2, w3] := by
    have hs : args.size = 4 := by simpa [Cond.value, given_1] using gc
    obtain ⟨L⟩ := args
    match L, hs with
    | [w0, w1, w2, w3], _ => exact ⟨w0, w1, w2, w3, rfl⟩
  have hw := fun d (hd : d ∈ tables_1) => atoms_spec (ws := Jvm.Cond.code x code maxLocals ret :: tables_1) hat d (List.mem_cons_of_mem _ hd)
  have hfit : Fit s := fun {y c} hc i hi => by
    obtain ⟨ha, rfl⟩ := Array.getElem?_eq_some_iff.mp hc
    have q := List.all_eq_true.mp ((Array.all_eq_true_iff_forall_mem.mp hF) _ (Array.getElem_mem ha)) i (List.mem_range.mpr hi)
    simpa [Array.getElem?_eq_getElem hi] using q
  obtain ⟨hsets, hown0⟩ := atoms_of _ (rest_1_c_eq ▸ (show rest_1_c.before _ s = true from hrest))
  obtain ⟨i0, ei0⟩ := is_v ga0
  obtain rfl : w0 = (.int i0) := Option.some.inj ei0
  obtain ⟨i1, ei1⟩ := is_v ga1
  obtain rfl : w1 = (.int i1) := Option.some.inj ei1
  obtain ⟨i2, ei2⟩ := is_v ga2
  obtain rfl : w2 = (.int i2) := Option.some.inj ei2
  obtain ⟨i3, ei3⟩ := is_v ga3
  obtain rfl : w3 = (.int i3) := Option.some.inj ei3
  have ncs := not_v (Cond.before_iff.mp (hsets _ (List.mem_of_getElem? (i := 2) rfl)))
  obtain ⟨zc, ezc⟩ := is_v (Cond.before_iff.mp (hsets _ (List.mem_of_getElem? (i := 1) rfl)))
  have SC : Sta s s.heap "java/lang/String" "COMPACT_STRINGS" "Z" (.int zc) := Sta.start ezc (Or.inl (hsets _ (List.mem_of_getElem? (i := 0) rfl)))
  have hzc : ¬ (zc = (0 : Int32)) := gotF (Cond.eq_ints ezc (Term.int_eval (0))) ncs
  obtain ⟨nw0, nr0⟩ := and_e hn
  obtain ⟨nw1, nr1⟩ := and_e nr0
  obtain ⟨nw2, nr2⟩ := and_e nr1
  obtain ⟨nw3, nr3⟩ := and_e nr2
  obtain ⟨nw4, nr4⟩ := and_e nr3
  obtain ⟨nw5, nr5⟩ := and_e nr4
  obtain ⟨nw6, nr6⟩ := and_e nr5
  obtain ⟨nw7, nr7⟩ := and_e nr6
  obtain ⟨nw8, nr8⟩ := and_e nr7
  obtain ⟨nw9, nr9⟩ := and_e nr8
  obtain ⟨nw10, nr10⟩ := and_e nr9
  obtain ⟨nw11, nr11⟩ := and_e nr10
  obtain ⟨nw12, nr12⟩ := and_e nr11
  obtain ⟨nw13, nr13⟩ := and_e nr12
  obtain ⟨nw14, nr14⟩ := and_e nr13
  obtain ⟨nw15, nr15⟩ := and_e nr14
  obtain ⟨nw16, nr16⟩ := and_e nr15
  obtain ⟨nw17, nr17⟩ := and_e nr16
  obtain ⟨nw18, nr18⟩ := and_e nr17
  obtain ⟨nw19, nr19⟩ := and_e nr18
  obtain ⟨nw20, nr20⟩ := and_e nr19
  obtain ⟨nw21, nr21⟩ := and_e nr20
  obtain ⟨nw22, nr22⟩ := and_e nr21
  obtain ⟨nw23, nr23⟩ := and_e nr22
  obtain ⟨nw24, nr24⟩ := and_e nr23
  obtain ⟨nw25, nr25⟩ := and_e nr24
  obtain ⟨nw26, nr26⟩ := and_e nr25
  obtain ⟨nw27, nr27⟩ := and_e nr26
  obtain ⟨nw28, nr28⟩ := and_e nr27
  obtain ⟨nw29, nr29⟩ := and_e nr28
  obtain ⟨nw30, nr30⟩ := and_e nr29
  obtain ⟨nw31, nr31⟩ := and_e nr30
  obtain ⟨nw32, nr32⟩ := and_e nr31
  obtain ⟨nw33, nr33⟩ := and_e nr32
  obtain ⟨nw34, nr34⟩ := and_e nr33
  obtain ⟨nw35, nr35⟩ := and_e nr34
  obtain ⟨nw36, nr36⟩ := and_e nr35
  obtain ⟨nw37, nr37⟩ := and_e nr36
  obtain ⟨nw38, nr38⟩ := and_e nr37
  obtain ⟨nw39, nr39⟩ := and_e nr38
  obtain ⟨nw40, nr40⟩ := and_e nr39
  obtain ⟨nw41, nr41⟩ := and_e nr40
  obtain ⟨nw42, nr42⟩ := and_e nr41
  obtain ⟨nw43, nr43⟩ := and_e nr42
  obtain ⟨nw44, nr44⟩ := and_e nr43
  obtain ⟨nw45, nr45⟩ := and_e nr44
  obtain ⟨nw46, nr46⟩ := and_e nr45
  obtain ⟨nw47, nr47⟩ := and_e nr46
  obtain ⟨nw48, nr48⟩ := and_e nr47
  obtain ⟨nw49, nr49⟩ := and_e nr48
  obtain ⟨nw50, nr50⟩ := and_e nr49
  obtain ⟨nw51, nr51⟩ := and_e nr50
  obtain ⟨nw52, nr52⟩ := and_e nr51
  obtain ⟨nw53, nr53⟩ := and_e nr52
  obtain ⟨nw54, nr54⟩ := and_e nr53
  obtain ⟨nw55, nr55⟩ := and_e nr54
  have nw56 := nr55
  obtain ⟨e0, ev0⟩ := exa_v nw3
  have St0 : Sta s s.heap "com/example/dutiful_container/dutifulcontainer/PersistenceSchema" "V1_0" "Lcom/example/dutiful_container/dutifulcontainer/PersistenceSchema;" (.ref e0) := Sta.start ev0 (Or.inr ⟨(hw _ (List.mem_of_getElem? (i := 36) rfl)), (hw _ (List.mem_of_getElem? (i := 50) rfl))⟩)
  obtain ⟨s0, es0⟩ := exa_v nw15
  have Fv0 : Fld s s.heap e0 "com/example/dutiful_container/dutifulcontainer/PersistenceSchema" "version" "Ljava/lang/String;" (.ref s0) := Fld.start ((fld_at ev0).symm.trans es0)
  obtain ⟨t0, Xs0⟩ := str_start hfit es0 nw15 nw16 nw17 nw18 nw19 nw20 nw21 (by decide) rfl
  obtain ⟨e1, ev1⟩ := exa_v nw5
  have St1 : Sta s s.heap "com/example/dutiful_container/dutifulcontainer/PersistenceSchema" "V2_0" "Lcom/example/dutiful_container/dutifulcontainer/PersistenceSchema;" (.ref e1) := Sta.start ev1 (Or.inr ⟨(hw _ (List.mem_of_getElem? (i := 36) rfl)), (hw _ (List.mem_of_getElem? (i := 51) rfl))⟩)
  obtain ⟨s1, es1⟩ := exa_v nw22
  have Fv1 : Fld s s.heap e1 "com/example/dutiful_container/dutifulcontainer/PersistenceSchema" "version" "Ljava/lang/String;" (.ref s1) := Fld.start ((fld_at ev1).symm.trans es1)
  obtain ⟨t1, Xs1⟩ := str_start hfit es1 nw22 nw23 nw24 nw25 nw26 nw51 nw54 (by decide) rfl
  obtain ⟨e2, ev2⟩ := exa_v nw7
  have St2 : Sta s s.heap "com/example/dutiful_container/dutifulcontainer/PersistenceSchema" "V2_1" "Lcom/example/dutiful_container/dutifulcontainer/PersistenceSchema;" (.ref e2) := Sta.start ev2 (Or.inr ⟨(hw _ (List.mem_of_getElem? (i := 36) rfl)), (hw _ (List.mem_of_getElem? (i := 52) rfl))⟩)
  obtain ⟨s2, es2⟩ := exa_v nw27
  have Fv2 : Fld s s.heap e2 "com/example/dutiful_container/dutifulcontainer/PersistenceSchema" "version" "Ljava/lang/String;" (.ref s2) := Fld.start ((fld_at ev2).symm.trans es2)
  obtain ⟨t2, Xs2⟩ := str_start hfit es2 nw27 nw28 nw29 nw30 nw31 nw52 nw55 (by decide) rfl
  obtain ⟨e3, ev3⟩ := exa_v nw9
  have St3 : Sta s s.heap "com/example/dutiful_container/dutifulcontainer/PersistenceSchema" "V2_2" "Lcom/example/dutiful_container/dutifulcontainer/PersistenceSchema;" (.ref e3) := Sta.start ev3 (Or.inr ⟨(hw _ (List.mem_of_getElem? (i := 36) rfl)), (hw _ (List.mem_of_getElem? (i := 53) rfl))⟩)
  obtain ⟨s3, es3⟩ := exa_v nw32
  have Fv3 : Fld s s.heap e3 "com/example/dutiful_container/dutifulcontainer/PersistenceSchema" "version" "Ljava/lang/String;" (.ref s3) := Fld.start ((fld_at ev3).symm.trans es3)
  obtain ⟨t3, Xs3⟩ := str_start hfit es3 nw32 nw33 nw34 nw35 nw36 nw53 nw56 (by decide) rfl
  obtain ⟨e4, ev4⟩ := exa_v nw11
  have St4 : Sta s s.heap "com/example/dutiful_container/dutifulcontainer/PersistenceSchema" "V3_0" "Lcom/example/dutiful_container/dutifulcontainer/PersistenceSchema;" (.ref e4) := Sta.start ev4 (Or.inr ⟨(hw _ (List.mem_of_getElem? (i := 36) rfl)), (hw _ (List.mem_of_getElem? (i := 54) rfl))⟩)
  obtain ⟨s4, es4⟩ := exa_v nw37
  have Fv4 : Fld s s.heap e4 "com/example/dutiful_container/dutifulcontainer/PersistenceSchema" "version" "Ljava/lang/String;" (.ref s4) := Fld.start ((fld_at ev4).symm.trans es4)
  obtain ⟨t4, Xs4⟩ := str_start hfit es4 nw37 nw38 nw39 nw40 nw41 nw47 nw48 (by decide) rfl
  obtain ⟨e5, ev5⟩ := exa_v nw13
  have St5 : Sta s s.heap "com/example/dutiful_container/dutifulcontainer/PersistenceSchema" "V3_2" "Lcom/example/dutiful_container/dutifulcontainer/PersistenceSchema;" (.ref e5) := Sta.start ev5 (Or.inr ⟨(hw _ (List.mem_of_getElem? (i := 36) rfl)), (hw _ (List.mem_of_getElem? (i := 55) rfl))⟩)
  obtain ⟨s5, es5⟩ := exa_v nw42
  have Fv5 : Fld s s.heap e5 "com/example/dutiful_container/dutifulcontainer/PersistenceSchema" "version" "Ljava/lang/String;" (.ref s5) := Fld.start ((fld_at ev5).symm.trans es5)
  obtain ⟨t5, Xs5⟩ := str_start hfit es5 nw42 nw43 nw44 nw45 nw46 nw49 nw50 (by decide) rfl
  obtain ⟨va, eva⟩ := arr_v nw0
  obtain ⟨cv, Av⟩ := Arr.start eva nw0
  obtain ⟨qv, zv⟩ := len_start eva Av nw2
  have Hv : HasL cv 0 [.ref e0, .ref e1, .ref e2, .ref e3, .ref e4, .ref e5] := ⟨elem_start eva Av (eq_ref nw4 ev0), elem_start eva Av (eq_ref nw6 ev1), elem_start eva Av (eq_ref nw8 ev2), elem_start eva Av (eq_ref nw10 ev3), elem_start eva Av (eq_ref nw12 ev4), elem_start eva Av (eq_ref nw14 ev5), trivial⟩
  have Vv : Arv s s.heap va cv.cls (.object "com/example/dutiful_container/dutifulcontainer/PersistenceSchema") 6 [.ref e0, .ref e1, .ref e2, .ref e3, .ref e4, .ref e5] .null := Arv.start hfit Av qv zv (by decide) rfl Hv
  have Ev : Exa s s.heap va "[Lcom/example/dutiful_container/dutifulcontainer/PersistenceSchema;" := Exa.start eva nw1
  have Sv : Sta s s.heap "com/example/dutiful_container/dutifulcontainer/PersistenceSchema" "$VALUES" "[Lcom/example/dutiful_container/dutifulcontainer/PersistenceSchema;" (.ref va) := Sta.start eva (Or.inr ⟨(hw _ (List.mem_of_getElem? (i := 36) rfl)), (hw _ (List.mem_of_getElem? (i := 42) rfl))⟩)
  have PE : Enums s va cv.cls (fun i => match i with | 0 => e0 | 1 => e1 | 2 => e2 | 3 => e3 | 4 => e4 | _ => e5) (fun i => match i with | 0 => s0 | 1 => s1 | 2 => s2 | 3 => s3 | 4 => s4 | _ => s5) (fun i => match i with | 0 => t0 | 1 => t1 | 2 => t2 | 3 => t3 | 4 => t4 | _ => t5) := ⟨⟨St0, Fv0, Xs0⟩, ⟨St1, Fv1, Xs1⟩, ⟨St2, Fv2, Xs2⟩, ⟨St3, Fv3, Xs3⟩, ⟨St4, Fv4, Xs4⟩, ⟨St5, Fv5, Xs5⟩, Sv, Ev, Vv⟩
  have hEL : EW s _ consts_1 := (EW.cons (hw _ (List.mem_of_getElem? (i := 76) rfl)) (by decide) EW.nil)
  have hCH : CHv s consts_1 s.vm s.heap := CHv.start hEL (fun p hp => hcalls.1 p hp) (hsets _ (List.mem_of_getElem? (i := 2) rfl)) (hw _ (List.mem_of_getElem? (i := 19) rfl)) (hw _ (List.mem_of_getElem? (i := 2) rfl))
  obtain ⟨n, o, h1, h2, h3, v, L, rfl, ⟨rfl, N⟩, -, hE, hq⟩ := own_law l s _ hw hEL i0 i1 i2 i3 va cv.cls (fun i => match i with | 0 => e0 | 1 => e1 | 2 => e2 | 3 => e3 | 4 => e4 | _ => e5) (fun i => match i with | 0 => s0 | 1 => s1 | 2 => s2 | 3 => s3 | 4 => s4 | _ => s5) (fun i => match i with | 0 => t0 | 1 => t1 | 2 => t2 | 3 => t3 | 4 => t4 | _ => t5) zc s.heap s.heap.size (Nat.le_refl _) PE (Old.start s) SC hzc tables_1 p e ha hc hk s m _ below hf ((Spec.applies_iff_loose hf).mp happ).1 ⟨rfl, State.Warmed39.refl s, rfl, hCH, (fun _ q => nomatch q)⟩ trivial
  refine ⟨n, _, h1, h2, h3, hpost _ _ _ _ _ _ ⟨Cond.after_iff.mpr rfl, Cond.after_iff.mpr (eq_i res_at (Term.int_eval (1)) rfl), trivial⟩ ⟨hE.1, hE.2.1, hE.2.2.1, (hE.2.2.2.sift fun y hy => Or.inr (N y hy)).mono (by decide) (by decide)⟩⟩
theorem main_1_1 : Claimed_1_1 := comes_1 fun _ _ _ _ _ _ h hF => ⟨h.1, hF⟩
theorem main_1_2 : Claimed_1_2 := comes_1 fun _ _ _ _ _ _ h hF => ⟨h.2.1, hF⟩
end Jvm.Pilot.@@N@@
namespace Jvm.Pilot.@@N@@
open Jvm Jvm.ClassFile Sem Op Lib Jvm.Free Jvm.Stand Jvm.Pilot.@@N@@.Jvm.D
/-! MADE BY PROGRAM (witnessworld.py) out of the Statement's table words and the real class files: 22 classes; the members and pool entries that the words name. The judged class is class 1, her method 1. -/
namespace start1
open Jvm.ClassFile
def u (s : String) : CpInfo := .utf8 (stringToUtf16 s)
/-- a pool by its gaps: so many unusable entries, then the entry; so many at the end -/
def gap : Nat → List CpInfo → List CpInfo
  | 0, r => r
  | n + 1, r => .unusable :: gap n r
def poolList (es : List (Nat × CpInfo)) (last : Nat) : List CpInfo := es.foldr (fun e r => gap e.1 (e.2 :: r)) (gap last [])
def pool (es : List (Nat × CpInfo)) (last : Nat) : Array CpInfo := ⟨poolList es last⟩
def fileOf (pool : Array CpInfo) (this : Nat) (attrs : Array Attribute := #[]) (ms : Array MethodInfo := #[]) (fl : Nat := 33) (sup : Nat := 0) (ifs : Array Nat := #[]) (fds : Array FieldInfo := #[]) : ClassFile where
  minorVersion := 0
  majorVersion := 65
  constantPool := pool
  accessFlags := fl
  thisClass := this
  superClass := sup
  interfaces := ifs
  fields := fds
  methods := ms
  attributes := attrs
def plain (name : String) (sup : Option ClassId) : Class where
  name := name
  kind := .ordinary
  loader := none
  accessFlags := 33
  super := sup
  interfaces := #[]
  cf := none
  fields := #[]
  methods := #[]
  instanceTypes := #[]
  staticTypes := #[]
  resolved := #[]
  callSites := []
  init := .initialized
  statics := none
  mirror := none

def pool0 : Array CpInfo := pool [(5, u "<init>"), (0, u "()V"), (1, .class_ 10), (1, u "java/lang/Object"), (85, u "clone"), (0, u "()Ljava/lang/Object;")] 26

def k0c0 : Code := { maxStack := 0, maxLocals := 1, code := object_method_1_code, exceptionTable := #[], attributes := #[] }
def k0m0 : Method := { name := "<init>", desc := "()V", sig := { parameters := [], returnType := none }, accessFlags := 1, code := some k0c0 }
def k0m1 : Method := { name := "clone", desc := "()Ljava/lang/Object;", sig := { parameters := [], returnType := some (.object "java/lang/Object") }, accessFlags := 260, code := none }
/-- java/lang/Object -/
def k0 : Class := { plain "java/lang/Object" none with
  accessFlags := 33
  interfaces := #[]
  cf := some (fileOf pool0 8 #[] #[{ accessFlags := 1, nameIndex := 5, descriptorIndex := 6, attributes := #[] }, { accessFlags := 260, nameIndex := 96, descriptorIndex := 97, attributes := #[] }] 33 0 #[] #[])
  fields := #[]
  methods := #[k0m0, k0m1]
  instanceTypes := #[]
  staticTypes := #[]
  resolved := Array.replicate 124 none
  statics := none }

def pool1 : Array CpInfo := pool [(2, .class_ 4), (1, u "java/lang/Object"), (0, u "<init>"), (0, u "()V"), (0, .class_ 8), (0, u "java/lang/String"), (0, .methodref 7 10), (0, .nameAndType 5 11), (0, u "([C)V"), (0, .string 13), (0, u ""), (0, .methodref 15 16), (0, .class_ 17), (0, .nameAndType 18 19), (0, u "com/example/dutiful_container/dutifulcontainer/PersistenceSchemaOfPinLaw"), (0, u "ref"), (0, u "(CCC)Lcom/example/dutiful_container/dutifulcontainer/PersistenceSchema;"), (0, .methodref 21 22), (0, .class_ 23), (0, .nameAndType 24 25), (0, u "com/example/dutiful_container/dutifulcontainer/PersistenceSchema"), (0, u "of"), (0, u "(Ljava/lang/String;)Lcom/example/dutiful_container/dutifulcontainer/PersistenceSchema;"), (0, .fieldref 21 27), (0, .nameAndType 28 29), (0, u "V1_0"), (0, u "Lcom/example/dutiful_container/dutifulcontainer/PersistenceSchema;"), (0, .fieldref 21 31), (0, .nameAndType 32 29), (0, u "V2_0"), (0, .fieldref 21 34), (0, .nameAndType 35 29), (0, u "V2_1"), (0, .fieldref 21 37), (0, .nameAndType 38 29), (0, u "V2_2"), (0, .fieldref 21 40), (0, .nameAndType 41 29), (0, u "V3_0"), (0, .fieldref 21 43), (0, .nameAndType 44 29), (0, u "V3_2"), (2, u "law"), (0, u "(IIII)Z")] 5

def k1m0 : Method := { name := "<init>", desc := "()V", sig := { parameters := [], returnType := none }, accessFlags := 1, code := none }
def k1c1 : Code := { maxStack := 6, maxLocals := 16, code := code, exceptionTable := #[], attributes := #[] }
def k1m1 : Method := { name := "law", desc := "(IIII)Z", sig := { parameters := [.int, .int, .int, .int], returnType := some .boolean }, accessFlags := 9, code := some k1c1 }
def k1c2 : Code := { maxStack := 2, maxLocals := 3, code := method_3_code, exceptionTable := #[], attributes := #[] }
def k1m2 : Method := { name := "ref", desc := "(CCC)Lcom/example/dutiful_container/dutifulcontainer/PersistenceSchema;", sig := { parameters := [.char, .char, .char], returnType := some (.object "com/example/dutiful_container/dutifulcontainer/PersistenceSchema") }, accessFlags := 10, code := some k1c2 }
/-- com/example/dutiful_container/dutifulcontainer/PersistenceSchemaOfPinLaw -/
def k1 : Class := { plain "com/example/dutiful_container/dutifulcontainer/PersistenceSchemaOfPinLaw" (some 0) with
  accessFlags := 49
  interfaces := #[]
  cf := some (fileOf pool1 15 #[] #[{ accessFlags := 1, nameIndex := 5, descriptorIndex := 6, attributes := #[] }, { accessFlags := 9, nameIndex := 47, descriptorIndex := 48, attributes := #[] }, { accessFlags := 10, nameIndex := 18, descriptorIndex := 19, attributes := #[] }] 49 2 #[] #[])
  fields := #[]
  methods := #[k1m0, k1m1, k1m2]
  instanceTypes := #[]
  staticTypes := #[]
  resolved := Array.replicate 54 none
  statics := none }

def pool2 : Array CpInfo := pool [(1, .class_ 2), (0, u "java/io/Serializable"), (0, .class_ 4), (0, u "java/lang/Object")] 2

/-- java/io/Serializable -/
def k2 : Class := { plain "java/io/Serializable" (some 0) with
  accessFlags := 1537
  interfaces := #[]
  cf := some (fileOf pool2 1 #[] #[] 1537 3 #[] #[])
  fields := #[]
  methods := #[]
  instanceTypes := #[]
  staticTypes := #[]
  resolved := Array.replicate 7 none
  statics := none }

def pool3 : Array CpInfo := pool [(1, .class_ 2), (0, u "java/lang/Comparable"), (0, .class_ 4), (0, u "java/lang/Object")] 7

/-- java/lang/Comparable -/
def k3 : Class := { plain "java/lang/Comparable" (some 0) with
  accessFlags := 1537
  interfaces := #[]
  cf := some (fileOf pool3 1 #[] #[] 1537 3 #[] #[])
  fields := #[]
  methods := #[]
  instanceTypes := #[]
  staticTypes := #[]
  resolved := Array.replicate 12 none
  statics := none }

def pool4 : Array CpInfo := pool [(2, .class_ 4), (1, u "java/lang/CharSequence"), (42, .class_ 48), (0, u "java/lang/CharSequence$1CodePointIterator"), (10, .class_ 60), (0, u "java/lang/CharSequence$1CharIterator"), (5, .class_ 67), (0, u "java/lang/Object")] 63

/-- java/lang/CharSequence -/
def k4 : Class := { plain "java/lang/CharSequence" (some 0) with
  accessFlags := 1537
  interfaces := #[]
  cf := some (fileOf pool4 2 #[.nestMembers #[47, 59]] #[] 1537 66 #[] #[])
  fields := #[]
  methods := #[]
  instanceTypes := #[]
  staticTypes := #[]
  resolved := Array.replicate 131 none
  statics := none }

def pool5 : Array CpInfo := pool [(1, .class_ 2), (0, u "java/lang/constant/Constable"), (0, .class_ 4), (0, u "java/lang/Object")] 6

/-- java/lang/constant/Constable -/
def k5 : Class := { plain "java/lang/constant/Constable" (some 0) with
  accessFlags := 1537
  interfaces := #[]
  cf := some (fileOf pool5 1 #[] #[] 1537 3 #[] #[])
  fields := #[]
  methods := #[]
  instanceTypes := #[]
  staticTypes := #[]
  resolved := Array.replicate 11 none
  statics := none }

def pool6 : Array CpInfo := pool [(1, .class_ 2), (0, u "java/lang/constant/ConstantDesc"), (0, .class_ 4), (0, u "java/lang/Object")] 32

/-- java/lang/constant/ConstantDesc -/
def k6 : Class := { plain "java/lang/constant/ConstantDesc" (some 0) with
  accessFlags := 1537
  interfaces := #[]
  cf := some (fileOf pool6 1 #[] #[] 1537 3 #[] #[])
  fields := #[]
  methods := #[]
  instanceTypes := #[]
  staticTypes := #[]
  resolved := Array.replicate 37 none
  statics := none }

def pool7 : Array CpInfo := pool [(1, .methodref 2 3), (0, .class_ 4), (0, .nameAndType 5 6), (0, u "java/lang/Object"), (0, u "<init>"), (0, u "()V"), (2, .fieldref 10 11), (0, .class_ 12), (0, .nameAndType 13 14), (0, u "java/lang/String"), (0, u "value"), (0, u "[B"), (0, .fieldref 10 16), (0, .nameAndType 17 18), (0, u "coder"), (0, u "B"), (2, u "hash"), (0, u "I"), (2, u "hashIsZero"), (0, u "Z"), (0, .methodref 10 28), (0, .nameAndType 5 29), (0, u "([CIILjava/lang/Void;)V"), (8, .fieldref 10 39), (0, .nameAndType 40 26), (0, u "COMPACT_STRINGS"), (1, .class_ 44), (1, u "java/lang/StringUTF16"), (0, u "compress"), (1, .methodref 42 48), (0, .nameAndType 49 50), (0, u "coderFromArrayLen"), (0, u "([BI)B"), (56, .class_ 109), (1, u "java/lang/StringLatin1"), (67, .methodref 42 178), (0, .nameAndType 45 179), (0, u "([CII)[B"), (361, .methodref 107 542), (0, .nameAndType 543 544), (0, u "equals"), (0, u "([B[B)Z"), (28, u "(Ljava/lang/Object;)Z"), (1, .class_ 576), (0, u "java/lang/CharSequence"), (22, u "CASE_INSENSITIVE_ORDER"), (0, u "Ljava/util/Comparator;"), (409, u "([C)V"), (90, u "serialPersistentFields"), (0, u "[Ljava/io/ObjectStreamField;"), (0, .class_ 1104), (0, u "java/lang/String$CaseInsensitiveComparator"), (1, .class_ 1107), (0, u "java/io/Serializable"), (0, .class_ 1109), (0, u "java/lang/Comparable"), (0, .class_ 1111), (0, u "java/lang/constant/Constable"), (0, .class_ 1113), (0, u "java/lang/constant/ConstantDesc"), (2, u "serialVersionUID"), (0, u "J"), (3, u "REPL"), (0, u "C"), (2, u "LATIN1"), (1, u "UTF16")] 323

def k7m0 : Method := { name := "<init>", desc := "()V", sig := { parameters := [], returnType := none }, accessFlags := 1, code := none }
def k7c1 : Code := { maxStack := 5, maxLocals := 2, code := jdk_42_method_3_code, exceptionTable := #[], attributes := #[] }
def k7m1 : Method := { name := "<init>", desc := "([C)V", sig := { parameters := [(.array .char)], returnType := none }, accessFlags := 1, code := some k7c1 }
def k7c2 : Code := { maxStack := 2, maxLocals := 3, code := jdk_42_method_66_code, exceptionTable := #[], attributes := #[] }
def k7m2 : Method := { name := "equals", desc := "(Ljava/lang/Object;)Z", sig := { parameters := [(.object "java/lang/Object")], returnType := some .boolean }, accessFlags := 1, code := some k7c2 }
def k7c3 : Code := { maxStack := 4, maxLocals := 6, code := jdk_42_method_149_code, exceptionTable := #[], attributes := #[] }
def k7m3 : Method := { name := "<init>", desc := "([CIILjava/lang/Void;)V", sig := { parameters := [(.array .char), .int, .int, (.object "java/lang/Void")], returnType := none }, accessFlags := 2, code := some k7c3 }
/-- java/lang/String -/
def k7 : Class := { plain "java/lang/String" (some 0) with
  accessFlags := 49
  interfaces := #[2, 3, 4, 5, 6]
  cf := some (fileOf pool7 10 #[.nestMembers #[1103]] #[{ accessFlags := 1, nameIndex := 5, descriptorIndex := 6, attributes := #[] }, { accessFlags := 1, nameIndex := 5, descriptorIndex := 1010, attributes := #[] }, { accessFlags := 1, nameIndex := 543, descriptorIndex := 573, attributes := #[] }, { accessFlags := 2, nameIndex := 5, descriptorIndex := 29, attributes := #[] }] 49 2 #[1106, 1108, 575, 1110, 1112] #[{ accessFlags := 18, nameIndex := 13, descriptorIndex := 14, attributes := #[] }, { accessFlags := 18, nameIndex := 17, descriptorIndex := 18, attributes := #[] }, { accessFlags := 2, nameIndex := 21, descriptorIndex := 22, attributes := #[] }, { accessFlags := 2, nameIndex := 25, descriptorIndex := 26, attributes := #[] }, { accessFlags := 26, nameIndex := 1116, descriptorIndex := 1117, attributes := #[] }, { accessFlags := 24, nameIndex := 40, descriptorIndex := 26, attributes := #[] }, { accessFlags := 26, nameIndex := 1101, descriptorIndex := 1102, attributes := #[] }, { accessFlags := 26, nameIndex := 1121, descriptorIndex := 1122, attributes := #[] }, { accessFlags := 25, nameIndex := 599, descriptorIndex := 600, attributes := #[] }, { accessFlags := 24, nameIndex := 1125, descriptorIndex := 18, attributes := #[] }, { accessFlags := 24, nameIndex := 1127, descriptorIndex := 18, attributes := #[] }])
  fields := #[{ name := "value", type := (.array .byte), accessFlags := 18, slot := 0, constantValue := 0 }, { name := "coder", type := .byte, accessFlags := 18, slot := 1, constantValue := 0 }, { name := "hash", type := .int, accessFlags := 2, slot := 2, constantValue := 0 }, { name := "hashIsZero", type := .boolean, accessFlags := 2, slot := 3, constantValue := 0 }, { name := "serialVersionUID", type := .long, accessFlags := 26, slot := 0, constantValue := 0 }, { name := "COMPACT_STRINGS", type := .boolean, accessFlags := 24, slot := 1, constantValue := 0 }, { name := "serialPersistentFields", type := (.array (.object "java/io/ObjectStreamField")), accessFlags := 26, slot := 2, constantValue := 0 }, { name := "REPL", type := .char, accessFlags := 26, slot := 3, constantValue := 0 }, { name := "CASE_INSENSITIVE_ORDER", type := (.object "java/util/Comparator"), accessFlags := 25, slot := 4, constantValue := 0 }, { name := "LATIN1", type := .byte, accessFlags := 24, slot := 5, constantValue := 0 }, { name := "UTF16", type := .byte, accessFlags := 24, slot := 6, constantValue := 0 }]
  methods := #[k7m0, k7m1, k7m2, k7m3]
  instanceTypes := #[(.array .byte), .byte, .int, .boolean]
  staticTypes := #[.long, .boolean, (.array (.object "java/io/ObjectStreamField")), .char, (.object "java/util/Comparator"), .byte, .byte]
  resolved := Array.replicate 1451 none
  statics := some 0 }

def pool8 : Array CpInfo := pool [(6, .class_ 8), (1, u "java/lang/Object"), (0, u "<init>"), (0, u "()V"), (1, .class_ 14), (1, u "java/lang/StringUTF16"), (31, u "$assertionsDisabled"), (0, u "Z"), (13, u "HI_BYTE_SHIFT"), (0, u "I"), (2, u "LO_BYTE_SHIFT"), (49, .methodref 12 116), (0, .nameAndType 117 118), (0, u "compress"), (0, u "([CI[BII)I"), (3, u "([CII)[B"), (138, u "coderFromArrayLen"), (0, u "([BI)B"), (106, .class_ 371), (1, u "java/lang/StringUTF16$LinesSpliterator"), (58, u "MAX_LENGTH"), (196, .class_ 628), (0, u "java/lang/StringUTF16$CodePointsSpliterator"), (0, .class_ 630), (0, u "java/lang/StringUTF16$CharsSpliterator")] 4

def k8m0 : Method := { name := "<init>", desc := "()V", sig := { parameters := [], returnType := none }, accessFlags := 0, code := none }
def k8c1 : Code := { maxStack := 2, maxLocals := 2, code := jdk_52_method_15_code, exceptionTable := #[], attributes := #[] }
def k8m1 : Method := { name := "coderFromArrayLen", desc := "([BI)B", sig := { parameters := [(.array .byte), .int], returnType := some .byte }, accessFlags := 8, code := some k8c1 }
def k8c2 : Code := { maxStack := 5, maxLocals := 6, code := jdk_52_method_16_code, exceptionTable := #[], attributes := #[] }
def k8m2 : Method := { name := "compress", desc := "([CII)[B", sig := { parameters := [(.array .char), .int, .int], returnType := some (.array .byte) }, accessFlags := 9, code := some k8c2 }
def k8c3 : Code := { maxStack := 3, maxLocals := 7, code := jdk_52_method_21_code, exceptionTable := #[], attributes := #[] }
def k8m3 : Method := { name := "compress", desc := "([CI[BII)I", sig := { parameters := [(.array .char), .int, (.array .byte), .int, .int], returnType := some .int }, accessFlags := 9, code := some k8c3 }
/-- java/lang/StringUTF16 -/
def k8 : Class := { plain "java/lang/StringUTF16" (some 0) with
  accessFlags := 48
  interfaces := #[]
  cf := some (fileOf pool8 12 #[.nestMembers #[627, 629, 369]] #[{ accessFlags := 0, nameIndex := 9, descriptorIndex := 10, attributes := #[] }, { accessFlags := 8, nameIndex := 261, descriptorIndex := 262, attributes := #[] }, { accessFlags := 9, nameIndex := 117, descriptorIndex := 122, attributes := #[] }, { accessFlags := 9, nameIndex := 117, descriptorIndex := 118, attributes := #[] }] 48 6 #[] #[{ accessFlags := 26, nameIndex := 61, descriptorIndex := 62, attributes := #[] }, { accessFlags := 26, nameIndex := 65, descriptorIndex := 62, attributes := #[] }, { accessFlags := 24, nameIndex := 430, descriptorIndex := 62, attributes := #[] }, { accessFlags := 4120, nameIndex := 46, descriptorIndex := 47, attributes := #[] }])
  fields := #[{ name := "HI_BYTE_SHIFT", type := .int, accessFlags := 26, slot := 0, constantValue := 0 }, { name := "LO_BYTE_SHIFT", type := .int, accessFlags := 26, slot := 1, constantValue := 0 }, { name := "MAX_LENGTH", type := .int, accessFlags := 24, slot := 2, constantValue := 0 }, { name := "$assertionsDisabled", type := .boolean, accessFlags := 4120, slot := 3, constantValue := 0 }]
  methods := #[k8m0, k8m1, k8m2, k8m3]
  instanceTypes := #[]
  staticTypes := #[.int, .int, .int, .boolean]
  resolved := Array.replicate 635 none
  statics := none }

def pool9 : Array CpInfo := pool [(2, .class_ 4), (1, u "java/lang/Enum"), (0, u "name"), (0, u "Ljava/lang/String;"), (2, u "ordinal"), (0, u "I"), (1, .class_ 14), (1, u "java/lang/Object"), (4, u "hash"), (86, .class_ 108), (1, u "java/lang/Enum$EnumDesc"), (2, .class_ 112), (0, u "java/lang/constant/Constable"), (0, .class_ 114), (0, u "java/lang/Comparable"), (0, .class_ 116), (0, u "java/io/Serializable")] 87

/-- java/lang/Enum -/
def k9 : Class := { plain "java/lang/Enum" (some 0) with
  accessFlags := 1057
  interfaces := #[5, 3, 2]
  cf := some (fileOf pool9 2 #[.nestMembers #[106]] #[] 1057 12 #[111, 113, 115] #[{ accessFlags := 18, nameIndex := 5, descriptorIndex := 6, attributes := #[] }, { accessFlags := 18, nameIndex := 9, descriptorIndex := 10, attributes := #[] }, { accessFlags := 2, nameIndex := 19, descriptorIndex := 10, attributes := #[] }])
  fields := #[{ name := "name", type := (.object "java/lang/String"), accessFlags := 18, slot := 0, constantValue := 0 }, { name := "ordinal", type := .int, accessFlags := 18, slot := 1, constantValue := 0 }, { name := "hash", type := .int, accessFlags := 2, slot := 2, constantValue := 0 }]
  methods := #[]
  instanceTypes := #[(.object "java/lang/String"), .int, .int]
  staticTypes := #[]
  resolved := Array.replicate 204 none
  statics := none }

def pool10 : Array CpInfo := pool [(1, .class_ 2), (0, u "com/example/dutiful_container/dutifulcontainer/PersistenceSchema"), (2, u "V1_0"), (0, u "Lcom/example/dutiful_container/dutifulcontainer/PersistenceSchema;"), (2, u "V2_0"), (2, u "V2_1"), (2, u "V2_2"), (2, u "V3_0"), (2, u "V3_2"), (0, .fieldref 1 23), (0, .nameAndType 24 25), (0, u "$VALUES"), (0, u "[Lcom/example/dutiful_container/dutifulcontainer/PersistenceSchema;"), (0, .methodref 27 28), (0, .class_ 25), (0, .nameAndType 29 30), (0, u "clone"), (0, u "()Ljava/lang/Object;"), (1, .class_ 34), (1, u "java/lang/Enum"), (6, .fieldref 1 42), (0, .nameAndType 43 44), (0, u "version"), (0, u "Ljava/lang/String;"), (2, u "namespace"), (2, u "resource"), (0, .methodref 1 52), (0, .nameAndType 53 54), (0, u "values"), (0, u "()[Lcom/example/dutiful_container/dutifulcontainer/PersistenceSchema;"), (0, .methodref 56 57), (0, .class_ 58), (0, .nameAndType 59 60), (0, u "java/lang/String"), (0, u "equals"), (0, u "(Ljava/lang/Object;)Z"), (30, u "compiled"), (0, u "Ljavax/xml/validation/Schema;"), (114, u "ROOT"), (5, u "(Ljava/lang/String;)Lcom/example/dutiful_container/dutifulcontainer/PersistenceSchema;"), (3, u "of")] 44

def k10c0 : Code := { maxStack := 1, maxLocals := 0, code := prog_4_method_1_code, exceptionTable := #[], attributes := #[] }
def k10m0 : Method := { name := "values", desc := "()[Lcom/example/dutiful_container/dutifulcontainer/PersistenceSchema;", sig := { parameters := [], returnType := some (.array (.object "com/example/dutiful_container/dutifulcontainer/PersistenceSchema")) }, accessFlags := 9, code := some k10c0 }
def k10c1 : Code := { maxStack := 2, maxLocals := 5, code := prog_4_method_4_code, exceptionTable := #[], attributes := #[] }
def k10m1 : Method := { name := "of", desc := "(Ljava/lang/String;)Lcom/example/dutiful_container/dutifulcontainer/PersistenceSchema;", sig := { parameters := [(.object "java/lang/String")], returnType := some (.object "com/example/dutiful_container/dutifulcontainer/PersistenceSchema") }, accessFlags := 8, code := some k10c1 }
/-- com/example/dutiful_container/dutifulcontainer/PersistenceSchema -/
def k10 : Class := { plain "com/example/dutiful_container/dutifulcontainer/PersistenceSchema" (some 9) with
  accessFlags := 16432
  interfaces := #[]
  cf := some (fileOf pool10 1 #[] #[{ accessFlags := 9, nameIndex := 53, descriptorIndex := 54, attributes := #[] }, { accessFlags := 8, nameIndex := 217, descriptorIndex := 213, attributes := #[] }] 16432 32 #[] #[{ accessFlags := 16409, nameIndex := 5, descriptorIndex := 6, attributes := #[] }, { accessFlags := 16409, nameIndex := 9, descriptorIndex := 6, attributes := #[] }, { accessFlags := 16409, nameIndex := 12, descriptorIndex := 6, attributes := #[] }, { accessFlags := 16409, nameIndex := 15, descriptorIndex := 6, attributes := #[] }, { accessFlags := 16409, nameIndex := 18, descriptorIndex := 6, attributes := #[] }, { accessFlags := 16409, nameIndex := 21, descriptorIndex := 6, attributes := #[] }, { accessFlags := 24, nameIndex := 207, descriptorIndex := 44, attributes := #[] }, { accessFlags := 18, nameIndex := 43, descriptorIndex := 44, attributes := #[] }, { accessFlags := 18, nameIndex := 47, descriptorIndex := 44, attributes := #[] }, { accessFlags := 18, nameIndex := 50, descriptorIndex := 44, attributes := #[] }, { accessFlags := 2, nameIndex := 91, descriptorIndex := 92, attributes := #[] }, { accessFlags := 4122, nameIndex := 24, descriptorIndex := 25, attributes := #[] }])
  fields := #[{ name := "V1_0", type := (.object "com/example/dutiful_container/dutifulcontainer/PersistenceSchema"), accessFlags := 16409, slot := 0, constantValue := 0 }, { name := "V2_0", type := (.object "com/example/dutiful_container/dutifulcontainer/PersistenceSchema"), accessFlags := 16409, slot := 1, constantValue := 0 }, { name := "V2_1", type := (.object "com/example/dutiful_container/dutifulcontainer/PersistenceSchema"), accessFlags := 16409, slot := 2, constantValue := 0 }, { name := "V2_2", type := (.object "com/example/dutiful_container/dutifulcontainer/PersistenceSchema"), accessFlags := 16409, slot := 3, constantValue := 0 }, { name := "V3_0", type := (.object "com/example/dutiful_container/dutifulcontainer/PersistenceSchema"), accessFlags := 16409, slot := 4, constantValue := 0 }, { name := "V3_2", type := (.object "com/example/dutiful_container/dutifulcontainer/PersistenceSchema"), accessFlags := 16409, slot := 5, constantValue := 0 }, { name := "ROOT", type := (.object "java/lang/String"), accessFlags := 24, slot := 6, constantValue := 0 }, { name := "version", type := (.object "java/lang/String"), accessFlags := 18, slot := 3, constantValue := 0 }, { name := "namespace", type := (.object "java/lang/String"), accessFlags := 18, slot := 4, constantValue := 0 }, { name := "resource", type := (.object "java/lang/String"), accessFlags := 18, slot := 5, constantValue := 0 }, { name := "compiled", type := (.object "javax/xml/validation/Schema"), accessFlags := 2, slot := 6, constantValue := 0 }, { name := "$VALUES", type := (.array (.object "com/example/dutiful_container/dutifulcontainer/PersistenceSchema")), accessFlags := 4122, slot := 7, constantValue := 0 }]
  methods := #[k10m0, k10m1]
  instanceTypes := #[(.object "java/lang/String"), .int, .int, (.object "java/lang/String"), (.object "java/lang/String"), (.object "java/lang/String"), (.object "javax/xml/validation/Schema")]
  staticTypes := #[(.object "com/example/dutiful_container/dutifulcontainer/PersistenceSchema"), (.object "com/example/dutiful_container/dutifulcontainer/PersistenceSchema"), (.object "com/example/dutiful_container/dutifulcontainer/PersistenceSchema"), (.object "com/example/dutiful_container/dutifulcontainer/PersistenceSchema"), (.object "com/example/dutiful_container/dutifulcontainer/PersistenceSchema"), (.object "com/example/dutiful_container/dutifulcontainer/PersistenceSchema"), (.object "java/lang/String"), (.array (.object "com/example/dutiful_container/dutifulcontainer/PersistenceSchema"))]
  resolved := Array.replicate 262 none
  statics := some 1 }

def pool11 : Array CpInfo := pool [(1, .class_ 2), (0, u "java/lang/Cloneable"), (0, .class_ 4), (0, u "java/lang/Object")] 2

/-- java/lang/Cloneable -/
def k11 : Class := { plain "java/lang/Cloneable" (some 0) with
  accessFlags := 1537
  interfaces := #[]
  cf := some (fileOf pool11 1 #[] #[] 1537 3 #[] #[])
  fields := #[]
  methods := #[]
  instanceTypes := #[]
  staticTypes := #[]
  resolved := Array.replicate 7 none
  statics := none }

def pool12 : Array CpInfo := pool [(4, .class_ 6), (1, u "java/lang/Object"), (0, u "<init>"), (0, u "()V"), (5, .class_ 16), (1, u "java/lang/StringLatin1"), (104, u "$assertionsDisabled"), (0, u "Z"), (98, .class_ 223), (1, u "java/lang/StringLatin1$LinesSpliterator"), (57, u "equals"), (0, u "([B[B)Z"), (107, .class_ 391), (0, u "java/lang/StringLatin1$CharsSpliterator")] 3

def k12m0 : Method := { name := "<init>", desc := "()V", sig := { parameters := [], returnType := none }, accessFlags := 0, code := none }
def k12c1 : Code := { maxStack := 3, maxLocals := 3, code := jdk_43_method_13_code, exceptionTable := #[], attributes := #[] }
def k12m1 : Method := { name := "equals", desc := "([B[B)Z", sig := { parameters := [(.array .byte), (.array .byte)], returnType := some .boolean }, accessFlags := 9, code := some k12c1 }
/-- java/lang/StringLatin1 -/
def k12 : Class := { plain "java/lang/StringLatin1" (some 0) with
  accessFlags := 48
  interfaces := #[]
  cf := some (fileOf pool12 14 #[.nestMembers #[390, 221]] #[{ accessFlags := 0, nameIndex := 7, descriptorIndex := 8, attributes := #[] }, { accessFlags := 9, nameIndex := 281, descriptorIndex := 282, attributes := #[] }] 48 4 #[] #[{ accessFlags := 4120, nameIndex := 121, descriptorIndex := 122, attributes := #[] }])
  fields := #[{ name := "$assertionsDisabled", type := .boolean, accessFlags := 4120, slot := 0, constantValue := 0 }]
  methods := #[k12m0, k12m1]
  instanceTypes := #[]
  staticTypes := #[.boolean]
  resolved := Array.replicate 395 none
  statics := none }

def pool13 : Array CpInfo := pool [(2, .class_ 4), (1, u "java/lang/Object"), (0, u "<init>"), (0, u "()V"), (17, .class_ 26), (1, u "jdk/internal/util/Preconditions"), (28, .class_ 56), (0, u "jdk/internal/util/Preconditions$4"), (57, .class_ 115), (0, u "jdk/internal/util/Preconditions$1"), (7, u "SIOOBE_FORMATTER"), (0, u "Ljava/util/function/BiFunction;"), (0, .class_ 126), (0, u "jdk/internal/util/Preconditions$2"), (3, u "AIOOBE_FORMATTER"), (0, .class_ 132), (0, u "jdk/internal/util/Preconditions$3"), (3, u "IOOBE_FORMATTER")] 57

def k13m0 : Method := { name := "<init>", desc := "()V", sig := { parameters := [], returnType := none }, accessFlags := 1, code := none }
/-- jdk/internal/util/Preconditions -/
def k13 : Class := { plain "jdk/internal/util/Preconditions" (some 0) with
  accessFlags := 33
  interfaces := #[]
  cf := some (fileOf pool13 24 #[.nestMembers #[55, 131, 125, 114]] #[{ accessFlags := 1, nameIndex := 5, descriptorIndex := 6, attributes := #[] }] 33 2 #[] #[{ accessFlags := 25, nameIndex := 123, descriptorIndex := 124, attributes := #[] }, { accessFlags := 25, nameIndex := 130, descriptorIndex := 124, attributes := #[] }, { accessFlags := 25, nameIndex := 136, descriptorIndex := 124, attributes := #[] }])
  fields := #[{ name := "SIOOBE_FORMATTER", type := (.object "java/util/function/BiFunction"), accessFlags := 25, slot := 0, constantValue := 0 }, { name := "AIOOBE_FORMATTER", type := (.object "java/util/function/BiFunction"), accessFlags := 25, slot := 1, constantValue := 0 }, { name := "IOOBE_FORMATTER", type := (.object "java/util/function/BiFunction"), accessFlags := 25, slot := 2, constantValue := 0 }]
  methods := #[k13m0]
  instanceTypes := #[]
  staticTypes := #[(.object "java/util/function/BiFunction"), (.object "java/util/function/BiFunction"), (.object "java/util/function/BiFunction")]
  resolved := Array.replicate 194 none
  statics := some 2 }

def pool14 : Array CpInfo := pool [(9, u "<init>"), (6, .class_ 18), (1, u "java/lang/Object"), (0, u "()V"), (1, .class_ 23), (1, u "jdk/internal/util/ArraysSupport"), (0, u "LOG2_ARRAY_LONG_INDEX_SCALE"), (0, u "I"), (2, u "U"), (0, u "Ljdk/internal/misc/Unsafe;"), (8, u "BIG_ENDIAN"), (0, u "Z"), (8, u "LOG2_BYTE_BIT_SIZE"), (4, u "LOG2_ARRAY_INT_INDEX_SCALE"), (54, u "JLA"), (0, u "Ljdk/internal/access/JavaLangAccess;"), (11, u "LOG2_ARRAY_BOOLEAN_INDEX_SCALE"), (9, u "LOG2_ARRAY_BYTE_INDEX_SCALE"), (5, u "LOG2_ARRAY_CHAR_INDEX_SCALE"), (5, u "LOG2_ARRAY_SHORT_INDEX_SCALE"), (18, u "LOG2_ARRAY_FLOAT_INDEX_SCALE"), (24, u "LOG2_ARRAY_DOUBLE_INDEX_SCALE"), (89, u "T_BOOLEAN"), (2, u "T_CHAR"), (1, u "T_FLOAT"), (1, u "T_DOUBLE"), (1, u "T_BYTE"), (1, u "T_SHORT"), (1, u "T_INT"), (1, u "T_LONG"), (1, u "SOFT_MAX_ARRAY_LENGTH")] 83

def k14m0 : Method := { name := "<init>", desc := "()V", sig := { parameters := [], returnType := none }, accessFlags := 2, code := none }
/-- jdk/internal/util/ArraysSupport -/
def k14 : Class := { plain "jdk/internal/util/ArraysSupport" (some 0) with
  accessFlags := 33
  interfaces := #[]
  cf := some (fileOf pool14 21 #[] #[{ accessFlags := 2, nameIndex := 9, descriptorIndex := 19, attributes := #[] }] 33 16 #[] #[{ accessFlags := 24, nameIndex := 28, descriptorIndex := 29, attributes := #[] }, { accessFlags := 26, nameIndex := 38, descriptorIndex := 39, attributes := #[] }, { accessFlags := 25, nameIndex := 121, descriptorIndex := 25, attributes := #[] }, { accessFlags := 25, nameIndex := 131, descriptorIndex := 25, attributes := #[] }, { accessFlags := 25, nameIndex := 137, descriptorIndex := 25, attributes := #[] }, { accessFlags := 25, nameIndex := 143, descriptorIndex := 25, attributes := #[] }, { accessFlags := 25, nameIndex := 53, descriptorIndex := 25, attributes := #[] }, { accessFlags := 25, nameIndex := 24, descriptorIndex := 25, attributes := #[] }, { accessFlags := 25, nameIndex := 162, descriptorIndex := 25, attributes := #[] }, { accessFlags := 25, nameIndex := 187, descriptorIndex := 25, attributes := #[] }, { accessFlags := 26, nameIndex := 48, descriptorIndex := 25, attributes := #[] }, { accessFlags := 25, nameIndex := 277, descriptorIndex := 25, attributes := #[] }, { accessFlags := 25, nameIndex := 280, descriptorIndex := 25, attributes := #[] }, { accessFlags := 25, nameIndex := 282, descriptorIndex := 25, attributes := #[] }, { accessFlags := 25, nameIndex := 284, descriptorIndex := 25, attributes := #[] }, { accessFlags := 25, nameIndex := 286, descriptorIndex := 25, attributes := #[] }, { accessFlags := 25, nameIndex := 288, descriptorIndex := 25, attributes := #[] }, { accessFlags := 25, nameIndex := 290, descriptorIndex := 25, attributes := #[] }, { accessFlags := 25, nameIndex := 292, descriptorIndex := 25, attributes := #[] }, { accessFlags := 26, nameIndex := 108, descriptorIndex := 109, attributes := #[] }, { accessFlags := 25, nameIndex := 294, descriptorIndex := 25, attributes := #[] }])
  fields := #[{ name := "U", type := (.object "jdk/internal/misc/Unsafe"), accessFlags := 24, slot := 0, constantValue := 0 }, { name := "BIG_ENDIAN", type := .boolean, accessFlags := 26, slot := 1, constantValue := 0 }, { name := "LOG2_ARRAY_BOOLEAN_INDEX_SCALE", type := .int, accessFlags := 25, slot := 2, constantValue := 0 }, { name := "LOG2_ARRAY_BYTE_INDEX_SCALE", type := .int, accessFlags := 25, slot := 3, constantValue := 0 }, { name := "LOG2_ARRAY_CHAR_INDEX_SCALE", type := .int, accessFlags := 25, slot := 4, constantValue := 0 }, { name := "LOG2_ARRAY_SHORT_INDEX_SCALE", type := .int, accessFlags := 25, slot := 5, constantValue := 0 }, { name := "LOG2_ARRAY_INT_INDEX_SCALE", type := .int, accessFlags := 25, slot := 6, constantValue := 0 }, { name := "LOG2_ARRAY_LONG_INDEX_SCALE", type := .int, accessFlags := 25, slot := 7, constantValue := 0 }, { name := "LOG2_ARRAY_FLOAT_INDEX_SCALE", type := .int, accessFlags := 25, slot := 8, constantValue := 0 }, { name := "LOG2_ARRAY_DOUBLE_INDEX_SCALE", type := .int, accessFlags := 25, slot := 9, constantValue := 0 }, { name := "LOG2_BYTE_BIT_SIZE", type := .int, accessFlags := 26, slot := 10, constantValue := 0 }, { name := "T_BOOLEAN", type := .int, accessFlags := 25, slot := 11, constantValue := 0 }, { name := "T_CHAR", type := .int, accessFlags := 25, slot := 12, constantValue := 0 }, { name := "T_FLOAT", type := .int, accessFlags := 25, slot := 13, constantValue := 0 }, { name := "T_DOUBLE", type := .int, accessFlags := 25, slot := 14, constantValue := 0 }, { name := "T_BYTE", type := .int, accessFlags := 25, slot := 15, constantValue := 0 }, { name := "T_SHORT", type := .int, accessFlags := 25, slot := 16, constantValue := 0 }, { name := "T_INT", type := .int, accessFlags := 25, slot := 17, constantValue := 0 }, { name := "T_LONG", type := .int, accessFlags := 25, slot := 18, constantValue := 0 }, { name := "JLA", type := (.object "jdk/internal/access/JavaLangAccess"), accessFlags := 26, slot := 19, constantValue := 0 }, { name := "SOFT_MAX_ARRAY_LENGTH", type := .int, accessFlags := 25, slot := 20, constantValue := 0 }]
  methods := #[k14m0]
  instanceTypes := #[]
  staticTypes := #[(.object "jdk/internal/misc/Unsafe"), .boolean, .int, .int, .int, .int, .int, .int, .int, .int, .int, .int, .int, .int, .int, .int, .int, .int, .int, (.object "jdk/internal/access/JavaLangAccess"), .int]
  resolved := Array.replicate 378 none
  statics := none }

/-- the primitive byte -/
def k15 : Class := { plain "byte" none with kind := .primitive 'B', accessFlags := 0x411 }
/-- [B -/
def k16 : Class := { plain "[B" (some 0) with kind := .array 15 .byte, interfaces := #[11, 2], accessFlags := 1041 }

/-- the primitive char -/
def k17 : Class := { plain "char" none with kind := .primitive 'C', accessFlags := 0x411 }
/-- [C -/
def k18 : Class := { plain "[C" (some 0) with kind := .array 17 .char, interfaces := #[11, 2], accessFlags := 1041 }

/-- the primitive int -/
def k19 : Class := { plain "int" none with kind := .primitive 'I', accessFlags := 0x411 }
/-- [I -/
def k20 : Class := { plain "[I" (some 0) with kind := .array 19 .int, interfaces := #[11, 2], accessFlags := 1041 }

/-- [Lcom/example/dutiful_container/dutifulcontainer/PersistenceSchema; -/
def k21 : Class := { plain "[Lcom/example/dutiful_container/dutifulcontainer/PersistenceSchema;" (some 0) with kind := .array 10 (.object "com/example/dutiful_container/dutifulcontainer/PersistenceSchema"), interfaces := #[11, 2], accessFlags := 1041 }

def heap : Heap := #[{ cls := 7, slots := #[.long 0, .int 1, .null, .int 0, .null, .int 0, .int 0], vm := .statics 7 },
  { cls := 10, slots := #[.ref 4, .ref 5, .ref 6, .ref 7, .ref 8, .ref 9, .null, .ref 3], vm := .statics 10 },
  { cls := 13, slots := #[.null, .null, .null], vm := .statics 13 },
  { cls := 21, slots := #[.ref 4, .ref 5, .ref 6, .ref 7, .ref 8, .ref 9], vm := .none },
  { cls := 10, slots := #[.null, .int 0, .int 0, .ref 10, .null, .null, .null], vm := .none },
  { cls := 10, slots := #[.null, .int 1, .int 0, .ref 11, .null, .null, .null], vm := .none },
  { cls := 10, slots := #[.null, .int 2, .int 0, .ref 12, .null, .null, .null], vm := .none },
  { cls := 10, slots := #[.null, .int 3, .int 0, .ref 13, .null, .null, .null], vm := .none },
  { cls := 10, slots := #[.null, .int 4, .int 0, .ref 14, .null, .null, .null], vm := .none },
  { cls := 10, slots := #[.null, .int 5, .int 0, .ref 15, .null, .null, .null], vm := .none },
  { cls := 7, slots := #[.ref 16, .int 0, .int 0, .int 0], vm := .none },
  { cls := 7, slots := #[.ref 17, .int 0, .int 0, .int 0], vm := .none },
  { cls := 7, slots := #[.ref 18, .int 0, .int 0, .int 0], vm := .none },
  { cls := 7, slots := #[.ref 19, .int 0, .int 0, .int 0], vm := .none },
  { cls := 7, slots := #[.ref 20, .int 0, .int 0, .int 0], vm := .none },
  { cls := 7, slots := #[.ref 21, .int 0, .int 0, .int 0], vm := .none },
  { cls := 16, slots := #[.int 49, .int 46, .int 48], vm := .none },
  { cls := 16, slots := #[.int 50, .int 46, .int 48], vm := .none },
  { cls := 16, slots := #[.int 50, .int 46, .int 49], vm := .none },
  { cls := 16, slots := #[.int 50, .int 46, .int 50], vm := .none },
  { cls := 16, slots := #[.int 51, .int 46, .int 48], vm := .none },
  { cls := 16, slots := #[.int 51, .int 46, .int 50], vm := .none }]
def classes : Array Class := #[k0, k1, k2, k3, k4, k5, k6, k7, k8, k9, k10, k11, k12, k13, k14, k15, k16, k17, k18, k19, k20, k21]
def interned : List (Array UInt16 × Addr) := []
def slotsUsed : Nat := 108
def theMethod : MethodId := ⟨1, 1⟩
def args0 : Array Value := #[.int 0, .int 0, .int 65, .int 0]
def aboutOver (below : List Frame) : State where
  vm := { classes := classes, interned := interned.toArray }
  heap := heap
  slotsUsed := slotsUsed
  threads := #[{ frames := .invoking theMethod args0 :: below }]
def below0 : List Frame := [.native { method := ⟨0, 0⟩, args := #[] }]
def about1 : State := aboutOver below0
def p0 : Program := .bare "" "" ""
def e0 : Env := launch0.env 0 0 0
theorem w_frames : about1.frames = Frame.invoking theMethod args0 :: below0 := rfl
set_option maxRecDepth 65536 in
theorem w_args : argsFit about1.vm theMethod args0 = true := by decide +kernel
set_option maxRecDepth 65536 in
theorem w_heap : heapFits about1 = true := by decide +kernel
set_option maxRecDepth 65536 in
theorem w_runnable : about1.curStatus? = some .runnable := by decide +kernel
set_option maxRecDepth 65536 in
theorem w_alone : about1.alone = true := by decide +kernel
set_option maxRecDepth 65536 in
theorem w_named : about1.methodNamed? x = some theMethod := by decide +kernel
set_option maxRecDepth 65536 in
theorem w_hears : about1.hears theMethod below0 = true := by decide +kernel
set_option maxRecDepth 65536 in
theorem w_ripe : about1.ripe theMethod args0 below0 = true := by decide +kernel
theorem w_running : about1.status = .running := rfl
set_option maxRecDepth 65536 in
theorem w_room : about1.hasRoom e0.platform room_1 = true :=
  launch0.hasRoom_least _ room_1 (by decide +kernel) (by decide +kernel) (by decide +kernel) (by decide +kernel) (by decide +kernel) (by decide +kernel)
theorem allAtoms_all (ts : List Jvm.Cond) (a : Array Jvm.Value) (st : Jvm.State) : (allAtoms ts).before a st = ts.all (fun c => c.before a st) := by
  induction ts with
  | nil => rfl
  | cons c t ih =>
    show (Jvm.Cond.and c (allAtoms t)).before a st = _
    rw [Jvm.Cond.before_and, ih, List.all_cons]
def words1 : List Jvm.Cond := Jvm.Cond.code x code maxLocals ret :: tables_1
/-- a 'code' word, met by the world's own term for the bytes: nothing is compared byte by byte -/
theorem code_word {y : MethodName} {bytes : ByteArray} {mx : Nat} {rt : Option FieldType} {a : Array Value} {s : State} {m : MethodId} {meth : Method} {c : Code} (h1 : s.methodNamed? y = some m) (h2 : s.vm.method? m = some meth) (h3 : meth.code = some c) (h4 : c.code = bytes)
    (h5 : (c.maxLocals == mx && c.exceptionTable.isEmpty && decide (c.maxStack ≤ mostOperands) && decide (meth.sig.returnType = rt) && !meth.locks && decide (parseMethodDescriptor y.desc = some meth.sig)) = true) : (Jvm.Cond.code y bytes mx rt).before a s = true := by
  simp only [Bool.and_eq_true, beq_iff_eq, Bool.not_eq_true', decide_eq_true_eq] at h5
  obtain ⟨⟨⟨⟨⟨g1, g2⟩, g3⟩, g4⟩, g5⟩, g6⟩ := h5
  simp [Cond.before, Cond.holds, Cond.value, h1, h2, h3, h4, g1, g2, g3, g4, g5, g6]
def isCode : Jvm.Cond → Bool
  | .code _ _ _ _ => true
  | _ => false
theorem all_split {L : List Jvm.Cond} {P : Jvm.Cond → Bool} (h1 : L.all (fun c => isCode c || P c) = true) (h2 : ∀ c ∈ L.filter isCode, P c = true) : L.all P = true := by
  refine List.all_eq_true.mpr fun c hc => ?_
  have h := List.all_eq_true.mp h1 c hc
  rcases Bool.eq_false_or_eq_true (isCode c) with hi | hi
  · exact h2 c (List.mem_filter.mpr ⟨hc, hi⟩)
  · simpa [hi] using h
set_option maxRecDepth 65536 in
theorem w_c0 : (Jvm.Cond.code x code maxLocals ret).before args0 about1 = true := code_word (m := ⟨1, 1⟩) (meth := k1m1) (c := k1c1) (by decide +kernel) rfl rfl rfl (by decide +kernel)
set_option maxRecDepth 65536 in
theorem w_c1 : (Jvm.Cond.code ({ cls := "java/lang/String", name := "<init>", desc := "([C)V" } : Jvm.MethodName) jdk_42_method_3_code (2 : Nat) (Option.none : Option Jvm.ClassFile.FieldType)).before args0 about1 = true := code_word (m := ⟨7, 1⟩) (meth := k7m1) (c := k7c1) (by decide +kernel) rfl rfl rfl (by decide +kernel)
set_option maxRecDepth 65536 in
theorem w_c2 : (Jvm.Cond.code ({ cls := "java/lang/String", name := "<init>", desc := "([CIILjava/lang/Void;)V" } : Jvm.MethodName) jdk_42_method_149_code (6 : Nat) (Option.none : Option Jvm.ClassFile.FieldType)).before args0 about1 = true := code_word (m := ⟨7, 3⟩) (meth := k7m3) (c := k7c3) (by decide +kernel) rfl rfl rfl (by decide +kernel)
set_option maxRecDepth 65536 in
theorem w_c3 : (Jvm.Cond.code ({ cls := "java/lang/Object", name := "<init>", desc := "()V" } : Jvm.MethodName) object_method_1_code (1 : Nat) (Option.none : Option Jvm.ClassFile.FieldType)).before args0 about1 = true := code_word (m := ⟨0, 0⟩) (meth := k0m0) (c := k0c0) (by decide +kernel) rfl rfl rfl (by decide +kernel)
set_option maxRecDepth 65536 in
theorem w_c4 : (Jvm.Cond.code ({ cls := "java/lang/StringUTF16", name := "compress", desc := "([CII)[B" } : Jvm.MethodName) jdk_52_method_16_code (6 : Nat) (Option.some (Jvm.ClassFile.FieldType.array Jvm.ClassFile.FieldType.byte))).before args0 about1 = true := code_word (m := ⟨8, 2⟩) (meth := k8m2) (c := k8c2) (by decide +kernel) rfl rfl rfl (by decide +kernel)
set_option maxRecDepth 65536 in
theorem w_c5 : (Jvm.Cond.code ({ cls := "java/lang/StringUTF16", name := "compress", desc := "([CI[BII)I" } : Jvm.MethodName) jdk_52_method_21_code (7 : Nat) (Option.some Jvm.ClassFile.FieldType.int)).before args0 about1 = true := code_word (m := ⟨8, 3⟩) (meth := k8m3) (c := k8c3) (by decide +kernel) rfl rfl rfl (by decide +kernel)
set_option maxRecDepth 65536 in
theorem w_c6 : (Jvm.Cond.code ({ cls := "java/lang/StringUTF16", name := "coderFromArrayLen", desc := "([BI)B" } : Jvm.MethodName) jdk_52_method_15_code (2 : Nat) (Option.some Jvm.ClassFile.FieldType.byte)).before args0 about1 = true := code_word (m := ⟨8, 1⟩) (meth := k8m1) (c := k8c1) (by decide +kernel) rfl rfl rfl (by decide +kernel)
set_option maxRecDepth 65536 in
theorem w_c7 : (Jvm.Cond.code ({ cls := "com/example/dutiful_container/dutifulcontainer/PersistenceSchemaOfPinLaw", name := "ref", desc := "(CCC)Lcom/example/dutiful_container/dutifulcontainer/PersistenceSchema;" } : Jvm.MethodName) method_3_code (3 : Nat) (Option.some (Jvm.ClassFile.FieldType.object "com/example/dutiful_container/dutifulcontainer/PersistenceSchema"))).before args0 about1 = true := code_word (m := ⟨1, 2⟩) (meth := k1m2) (c := k1c2) (by decide +kernel) rfl rfl rfl (by decide +kernel)
set_option maxRecDepth 65536 in
theorem w_c8 : (Jvm.Cond.code ({ cls := "com/example/dutiful_container/dutifulcontainer/PersistenceSchema", name := "of", desc := "(Ljava/lang/String;)Lcom/example/dutiful_container/dutifulcontainer/PersistenceSchema;" } : Jvm.MethodName) prog_4_method_4_code (5 : Nat) (Option.some (Jvm.ClassFile.FieldType.object "com/example/dutiful_container/dutifulcontainer/PersistenceSchema"))).before args0 about1 = true := code_word (m := ⟨10, 1⟩) (meth := k10m1) (c := k10c1) (by decide +kernel) rfl rfl rfl (by decide +kernel)
set_option maxRecDepth 65536 in
theorem w_c9 : (Jvm.Cond.code ({ cls := "com/example/dutiful_container/dutifulcontainer/PersistenceSchema", name := "values", desc := "()[Lcom/example/dutiful_container/dutifulcontainer/PersistenceSchema;" } : Jvm.MethodName) prog_4_method_1_code (0 : Nat) (Option.some (Jvm.ClassFile.FieldType.array (Jvm.ClassFile.FieldType.object "com/example/dutiful_container/dutifulcontainer/PersistenceSchema")))).before args0 about1 = true := code_word (m := ⟨10, 0⟩) (meth := k10m0) (c := k10c0) (by decide +kernel) rfl rfl rfl (by decide +kernel)
set_option maxRecDepth 65536 in
theorem w_c10 : (Jvm.Cond.code ({ cls := "java/lang/String", name := "equals", desc := "(Ljava/lang/Object;)Z" } : Jvm.MethodName) jdk_42_method_66_code (3 : Nat) (Option.some Jvm.ClassFile.FieldType.boolean)).before args0 about1 = true := code_word (m := ⟨7, 2⟩) (meth := k7m2) (c := k7c2) (by decide +kernel) rfl rfl rfl (by decide +kernel)
set_option maxRecDepth 65536 in
theorem w_c11 : (Jvm.Cond.code ({ cls := "java/lang/StringLatin1", name := "equals", desc := "([B[B)Z" } : Jvm.MethodName) jdk_43_method_13_code (3 : Nat) (Option.some Jvm.ClassFile.FieldType.boolean)).before args0 about1 = true := code_word (m := ⟨12, 1⟩) (meth := k12m1) (c := k12c1) (by decide +kernel) rfl rfl rfl (by decide +kernel)
def codes1 : List Jvm.Cond := [Jvm.Cond.code x code maxLocals ret, Jvm.Cond.code ({ cls := "java/lang/String", name := "<init>", desc := "([C)V" } : Jvm.MethodName) jdk_42_method_3_code (2 : Nat) (Option.none : Option Jvm.ClassFile.FieldType), Jvm.Cond.code ({ cls := "java/lang/String", name := "<init>", desc := "([CIILjava/lang/Void;)V" } : Jvm.MethodName) jdk_42_method_149_code (6 : Nat) (Option.none : Option Jvm.ClassFile.FieldType), Jvm.Cond.code ({ cls := "java/lang/Object", name := "<init>", desc := "()V" } : Jvm.MethodName) object_method_1_code (1 : Nat) (Option.none : Option Jvm.ClassFile.FieldType), Jvm.Cond.code ({ cls := "java/lang/StringUTF16", name := "compress", desc := "([CII)[B" } : Jvm.MethodName) jdk_52_method_16_code (6 : Nat) (Option.some (Jvm.ClassFile.FieldType.array Jvm.ClassFile.FieldType.byte)), Jvm.Cond.code ({ cls := "java/lang/StringUTF16", name := "compress", desc := "([CI[BII)I" } : Jvm.MethodName) jdk_52_method_21_code (7 : Nat) (Option.some Jvm.ClassFile.FieldType.int), Jvm.Cond.code ({ cls := "java/lang/StringUTF16", name := "coderFromArrayLen", desc := "([BI)B" } : Jvm.MethodName) jdk_52_method_15_code (2 : Nat) (Option.some Jvm.ClassFile.FieldType.byte), Jvm.Cond.code ({ cls := "com/example/dutiful_container/dutifulcontainer/PersistenceSchemaOfPinLaw", name := "ref", desc := "(CCC)Lcom/example/dutiful_container/dutifulcontainer/PersistenceSchema;" } : Jvm.MethodName) method_3_code (3 : Nat) (Option.some (Jvm.ClassFile.FieldType.object "com/example/dutiful_container/dutifulcontainer/PersistenceSchema")), Jvm.Cond.code ({ cls := "com/example/dutiful_container/dutifulcontainer/PersistenceSchema", name := "of", desc := "(Ljava/lang/String;)Lcom/example/dutiful_container/dutifulcontainer/PersistenceSchema;" } : Jvm.MethodName) prog_4_method_4_code (5 : Nat) (Option.some (Jvm.ClassFile.FieldType.object "com/example/dutiful_container/dutifulcontainer/PersistenceSchema")), Jvm.Cond.code ({ cls := "com/example/dutiful_container/dutifulcontainer/PersistenceSchema", name := "values", desc := "()[Lcom/example/dutiful_container/dutifulcontainer/PersistenceSchema;" } : Jvm.MethodName) prog_4_method_1_code (0 : Nat) (Option.some (Jvm.ClassFile.FieldType.array (Jvm.ClassFile.FieldType.object "com/example/dutiful_container/dutifulcontainer/PersistenceSchema"))), Jvm.Cond.code ({ cls := "java/lang/String", name := "equals", desc := "(Ljava/lang/Object;)Z" } : Jvm.MethodName) jdk_42_method_66_code (3 : Nat) (Option.some Jvm.ClassFile.FieldType.boolean), Jvm.Cond.code ({ cls := "java/lang/StringLatin1", name := "equals", desc := "([B[B)Z" } : Jvm.MethodName) jdk_43_method_13_code (3 : Nat) (Option.some Jvm.ClassFile.FieldType.boolean)]
set_option maxRecDepth 65536 in
theorem codes_eq : words1.filter isCode = codes1 := rfl
theorem w_codes : ∀ c ∈ words1.filter isCode, c.before args0 about1 = true := by
  rw [codes_eq]
  intro c hc
  simp only [codes1, List.mem_cons, List.not_mem_nil, or_false] at hc
  rcases hc with rfl | rfl | rfl | rfl | rfl | rfl | rfl | rfl | rfl | rfl | rfl | rfl
  · exact w_c0
  · exact w_c1
  · exact w_c2
  · exact w_c3
  · exact w_c4
  · exact w_c5
  · exact w_c6
  · exact w_c7
  · exact w_c8
  · exact w_c9
  · exact w_c10
  · exact w_c11
set_option maxRecDepth 65536 in
theorem w_t1 : (words1.take 24).all (fun c => isCode c || c.before args0 about1) = true := by decide +kernel
set_option maxRecDepth 65536 in
theorem w_t2 : ((words1.drop 24).take 24).all (fun c => isCode c || c.before args0 about1) = true := by decide +kernel
set_option maxRecDepth 65536 in
theorem w_t3 : (((words1.drop 24).drop 24).take 24).all (fun c => isCode c || c.before args0 about1) = true := by decide +kernel
set_option maxRecDepth 65536 in
theorem w_t4 : (((words1.drop 24).drop 24).drop 24).all (fun c => isCode c || c.before args0 about1) = true := by decide +kernel
theorem w_tables : (allAtoms (Jvm.Cond.code x code maxLocals ret :: tables_1)).before args0 about1 = true := by
  rw [allAtoms_all]
  show words1.all (fun c => c.before args0 about1) = true
  refine all_split ?_ w_codes
  rw [← List.take_append_drop 24 words1, List.all_append, w_t1, ← List.take_append_drop 24 (words1.drop 24), List.all_append, w_t2, ← List.take_append_drop 24 ((words1.drop 24).drop 24), List.all_append, w_t3, w_t4]
  rfl
set_option maxRecDepth 65536 in
theorem w_rest : rest_1_c.before args0 about1 = true := by decide +kernel
set_option maxRecDepth 65536 in
theorem w_case : (Jvm.Cond.and given_1 narrow_1).before args0 about1 = true := by decide +kernel
set_option maxRecDepth 65536 in
theorem w_consts : constsHeld consts_1 about1 := Jvm.Lit.constsHeldB_iff.mp (by decide +kernel)
theorem w_applies : (headSpec (Jvm.Cond.code x code maxLocals ret :: tables_1) room_1).applies x e0.platform about1 = true :=
  (Spec.applies_iff w_frames).mpr ⟨w_running, w_runnable, w_alone, w_named, w_hears, w_ripe, w_room, w_tables⟩
theorem atStart : AtStart classFile x code maxLocals ret World_1 tables_1 room_1 Calls_1 rest_1 Pre_1 launch0 p0 e0 about1 theMethod args0 below0 :=
  ⟨lists_1, trivial, launch0.admits_env _ _ _, launch0.least_env, fairChoices_fair.cas, fairChoices_fair.clock, w_frames, w_args, w_heap, w_applies, ⟨w_consts, trivial⟩, w_rest, w_case⟩
end start1
theorem witness_1 : WitnessClaimed_1 := ⟨start1.p0, start1.e0, start1.about1, start1.theMethod, start1.args0, start1.below0, start1.atStart⟩
end Jvm.Pilot.@@N@@
