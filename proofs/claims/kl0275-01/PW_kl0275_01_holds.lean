import PyProof.Rows.All
import Wide.All
import OpenK.AllK
import Wide.FinOn
import PySem.Challenge.RW_kl0275_01
open PySem PySem.W PyProof.Rows
set_option Elab.async false
set_option maxRecDepth 100000
namespace Mine
section
set_option maxHeartbeats 8000000
noncomputable abbrev PG : Program := PySem.Challenge.pw_kl0275_01
noncomputable abbrev Stp := SharedT → Thread → Option (SharedT × Thread)
/-- the opening, over trees -/
noncomputable def impT (stp : Stp) (ex : Thread → Option (List Value)) : Nat → SharedT → Thread → Option SharedT
  | 0, _, _ => none
  | n + 1, s, t => match ex t with
    | some [] => some s
    | some (_ :: _) => none
    | none => match stp s t with
      | some (s', t') => impT stp ex n s' t'
      | none => none
theorem impT_of {tb : String → Option Builtin} {p : Program} {w : World} : ∀ {n : Nat} {s s' : SharedT} {t : Thread},
    impT (stepT (denote tb) p w) Thread.atExitBegin n s t = some s' → importEnds tb p w n s.abs t = some s'.abs
  | 0, _, _, _, h => by cases h
  | n + 1, s, s', t, h => by
    unfold impT at h
    unfold importEnds
    cases he : t.atExitBegin with
    | some l =>
      rw [he] at h
      cases l with
      | nil => cases h; rfl
      | cons a r => cases h
    | none =>
      rw [he] at h
      cases hs : stepT (denote tb) p w s t with
      | none => rw [hs] at h; cases h
      | some r => obtain ⟨s₂, t₂⟩ := r; rw [hs] at h; dsimp only; rw [stepT_spec hs]; exact impT_of h
/-- the top, over trees -/
noncomputable def topT (stp : Stp) (ok : Thread → Bool) : Nat → SharedT → Thread → Option SharedT
  | 0, _, _ => none
  | n + 1, s, t => match through t with
    | true => some s
    | false => match ok t with
      | false => none
      | true => match stp s t with
        | some (s', t') => topT stp ok n s' t'
        | none => none
theorem topT_of {tb : String → Option Builtin} {p : Program} {w : World} {n₀ : Nat} {ann : Option Value} : ∀ {n : Nat} {s s' : SharedT} {t : Thread},
    topT (stepT (denote tb) p w) (stepOk n₀ ann) n s t = some s' → topRun tb p w n₀ ann n s.abs t = some s'.abs
  | 0, _, _, _, h => by cases h
  | n + 1, s, s', t, h => by
    unfold topT at h
    unfold topRun
    cases he : through t with
    | true => rw [he] at h; cases h; rfl
    | false =>
      rw [he] at h
      cases hk : stepOk n₀ ann t with
      | false => rw [hk] at h; cases h
      | true =>
        rw [hk] at h
        cases hs : stepT (denote tb) p w s t with
        | none => rw [hs] at h; cases h
        | some r => obtain ⟨s₂, t₂⟩ := r; rw [hs] at h; rw [stepT_spec hs]; exact topT_of h
/-- a list heap as a tree -/
noncomputable def treeOf : List Obj → Nat → BT → Option BT
  | [], _, t => some t
  | o :: r, n, t => match ((t.ins n o).get n).isSome with
    | true => treeOf r (n + 1) (t.ins n o)
    | false => none
theorem absHeap_nil (life : Life) : absHeap .nil 0 life = ⟨#[], life⟩ := rfl
theorem treeOf_abs {life : Life} : ∀ {l : List Obj} {n : Nat} {t t' : BT}, treeOf l n t = some t' →
    absHeap t' (n + l.length) life = ⟨(absHeap t n life).objs ++ l.toArray, life⟩
  | [], n, t, t', h => by cases h; simp [absHeap]
  | o :: r, n, t, t', h => by
    unfold treeOf at h
    cases hs : ((t.ins n o).get n).isSome with
    | false => rw [hs] at h; cases h
    | true =>
      rw [hs] at h
      have e := treeOf_abs (life := life) h
      have e2 := absHeap_ins (life := life) hs
      rw [show n + (o :: r).length = n + 1 + r.length by simp; omega, e, e2]
      show Heap.mk (((absHeap t n life).objs.push o) ++ r.toArray) life = _
      congr 1
      apply Array.ext'
      simp
theorem treeOf_heap {h : Heap} {t : BT} (e : treeOf h.objs.toList 0 .nil = some t) : absHeap t h.objs.size h.life = h := by
  have := treeOf_abs (life := h.life) e
  obtain ⟨⟨l⟩, life⟩ := h
  simp only [Nat.zero_add] at this
  show absHeap t l.length life = _
  rw [this]
  simp [absHeap, BT.list]
end
section
set_option maxHeartbeats 8000000
noncomputable def headRun {β : Type} (stpI stpT : Stp) (okT : Nat → Option Value → Thread → Bool) (ex : Thread → Option (List Value)) (fence : Shared → Option Shared) (nsm : Heap → Addr → Str → Option Value)
    (S00 : SharedT) (t00 stub : Thread) (n m : Nat) (look : Heap → SharedT → β) : Option β :=
  match impT stpI ex n S00 t00 with
  | none => none
  | some Sa => match fence Sa.abs with
    | none => none
    | some s0 => match treeOf s0.heap.objs.toList 0 .nil with
      | none => none
      | some T0 => match s0.heap.isNs mainGlobals && s0.gens.size == 0 with
        | false => none
        | true => match topT stpT (okT s0.heap.objs.size (nsm s0.heap mainGlobals "__annotations__")) m ⟨T0, s0.heap.objs.size, s0.heap.life, s0.gens, s0.drawn, s0.toks, s0.os⟩ stub with
          | none => none
          | some S1 => some (look s0.heap S1)
/-- what an address holds, read off the tree -/
noncomputable def seeT (S : SharedT) (a : Addr) : Option Obj := match Nat.blt a S.n with
  | true => match S.tree.get a with
    | some o => alive o
    | none => none
  | false => none
theorem seeT_of (S : SharedT) (a : Addr) (o : Obj) (h : seeT S a = some o) : S.abs.heap.get? a = some o := by
  obtain ⟨T, n, life, gens, drawn, toks, os⟩ := S
  unfold seeT at h
  dsimp only at h
  cases e : Nat.blt a n with
  | false => rw [e] at h; cases h
  | true =>
    rw [e] at h
    cases g : T.get a with
    | none => rw [g] at h; cases h
    | some o' =>
      rw [g] at h
      show (absHeap T n life).get? a = _
      rw [abs_get (Nat.le_of_ble_eq_true e) g]
      exact h
noncomputable def startT (p : Program) : SharedT := ⟨.nil, 0, {}, #[], {}, 1, (start (opening p)).1.os⟩
theorem startT_abs (p : Program) : (startT p).abs = (start (opening p)).1 := rfl
noncomputable def okLook (p : Program) (h0 : Heap) (S : SharedT) : Bool :=
  staticsOk (importedModules p.main.body) h0 S.abs.heap && namesBound p S.abs.heap && gensDone S.abs && laidKept h0 S.abs.heap
theorem left_of {p q : Program} {loose : List Str} {Xt : Shared → Bool} {as : List Addr} {Ka : World → List Obj} {n m N : Nat} {g0 : Bool}
    (hn : n ≤ N) (hm : m ≤ N)
    (h : ∀ w : World, headRun (stepT (denote treeTable) (opening p) w) (stepT (denote treeTable) p w) stepOk Thread.atExitBegin (fenceModules? p) Heap.nsMap
      (startT p) (start (opening p)).2 (topStub p) n m
      (fun h0 S => (okLook p h0 S, openSeen q loose (importedModules p.main.body) Xt g0 S.abs, as.map (seeT S))) = some (true, openGood q loose, (Ka w).map some)) :
    LeftO p q loose Xt (fun s => as.map s.heap.get?) (fun w => (Ka w).map some) N g0 := fun w => by
  have h := h w
  unfold headRun at h
  cases e1 : impT (stepT (denote treeTable) (opening p) w) Thread.atExitBegin n (startT p) (start (opening p)).2 with
  | none => rw [e1] at h; cases h
  | some Sa =>
    rw [e1] at h
    dsimp only at h
    cases e2 : fenceModules? p Sa.abs with
    | none => rw [e2] at h; cases h
    | some s0 =>
      rw [e2] at h
      dsimp only at h
      cases e3 : treeOf s0.heap.objs.toList 0 .nil with
      | none => rw [e3] at h; cases h
      | some T0 =>
        rw [e3] at h
        dsimp only at h
        cases e4 : (s0.heap.isNs mainGlobals && s0.gens.size == 0) with
        | false => rw [e4] at h; cases h
        | true =>
          rw [e4] at h
          dsimp only at h
          cases e5 : topT (stepT (denote treeTable) p w) (stepOk s0.heap.objs.size (s0.heap.nsMap mainGlobals "__annotations__")) m ⟨T0, s0.heap.objs.size, s0.heap.life, s0.gens, s0.drawn, s0.toks, s0.os⟩ (topStub p) with
          | none => rw [e5] at h; cases h
          | some S1 =>
            rw [e5] at h
            dsimp only at h
            obtain ⟨h1, h2⟩ := Prod.mk.inj (Option.some.inj h)
            obtain ⟨h3, h4⟩ := Prod.mk.inj h2
            have r1 := impT_of e1
            rw [startT_abs] at r1
            have r2 := topT_of e5
            have ea : (SharedT.abs ⟨T0, s0.heap.objs.size, s0.heap.life, s0.gens, s0.drawn, s0.toks, s0.os⟩) = s0 := by
              obtain ⟨hh, g, d, t, os⟩ := s0
              show Shared.mk (absHeap T0 hh.objs.size hh.life) g d t os = _
              rw [treeOf_heap e3]
            rw [ea] at r2
            have r1 := importEnds_mono (N - n) _ _ _ _ r1
            rw [show n + (N - n) = N by omega] at r1
            have r2 := topRun_mono (N - m) _ _ _ _ r2
            rw [show m + (N - m) = N by omega] at r2
            have rf : topFrom treeTable p w N s0 = some S1.abs := by
              unfold topFrom
              rw [e4]
              dsimp only
              rw [r2]
              show (match staticsOk (importedModules p.main.body) s0.heap S1.abs.heap && namesBound p S1.abs.heap && gensDone S1.abs && laidKept s0.heap S1.abs.heap with | true => some S1.abs | false => none) = _
              rw [show (staticsOk (importedModules p.main.body) s0.heap S1.abs.heap && namesBound p S1.abs.heap && gensDone S1.abs && laidKept s0.heap S1.abs.heap) = true from h1]
            unfold openEnds fencedOpening
            rw [r1]
            show ((fenceModules? p Sa.abs).bind (topFrom treeTable p w N)).map _ = _
            rw [e2]
            show (topFrom treeTable p w N s0).map _ = _
            rw [rf]
            show some (openSeen q loose (importedModules p.main.body) Xt g0 S1.abs, as.map S1.abs.heap.get?) = _
            rw [h3]
            congr 2
            have key : ∀ (l : List Addr) (k : List Obj), l.map (seeT S1) = k.map some → l.map S1.abs.heap.get? = k.map some := by
              intro l
              induction l with
              | nil => intro k e; cases k with
                | nil => rfl
                | cons => cases e
              | cons a r ih => intro k e; cases k with
                | nil => cases e
                | cons o k =>
                  simp only [List.map_cons, List.cons.injEq] at e
                  simp only [List.map_cons, List.cons.injEq]
                  exact ⟨seeT_of S1 a o e.1, ih k e.2⟩
            exact key as (Ka w) h4
end
section
set_option maxHeartbeats 0
noncomputable abbrev PT : Program := PG
noncomputable def stm (i : Nat) : Stmt := PG.main.body.getD i (.Pass ⟨0,0,0,0⟩)
noncomputable def cst (i j : Nat) : Stmt := match stm i with
  | .ClassDef _ _ _ b _ _ _ _ _ _ _ => b.getD j (.Pass ⟨0,0,0,0⟩)
  | s => s
noncomputable def fdt (st : Stmt) (qual : Str) (dV kV pm cd : Value) : Data := match st with
  | .FunctionDef n a b _ _ _ sc _ _ _ => .func (fnOf n qual a b sc dV kV .none pm none cd .none)
  | _ => .plain
noncomputable def KH (P : Params) : Frag :=
  (nat_lit 2, (⟨Value.none, none, (Data.dict [⟨PyData.keyHash P (Str.ofString "\x69mport.loaded._sre"), Value.str (Str.ofString "\x69mport.loaded._sre") 183, (Value.bool true)⟩, ⟨PyData.keyHash P (Str.ofString "class._frozen_importlib.BuiltinImporter"), Value.str (Str.ofString "class._frozen_importlib.BuiltinImporter") 185, (Value.ref 14)⟩, ⟨PyData.keyHash P (Str.ofString "watched.\x69mport"), Value.str (Str.ofString "watched.\x69mport") 206, (Value.ref 18)⟩, ⟨PyData.keyHash P (Str.ofString "class._frozen_importlib.ModuleSpec"), Value.str (Str.ofString "class._frozen_importlib.ModuleSpec") 216, (Value.ref 22)⟩, ⟨PyData.keyHash P (Str.ofString "sys.modules.booked-epoch"), Value.str (Str.ofString "sys.modules.booked-epoch") 245, (Value.int (4) 0)⟩, ⟨PyData.keyHash P (Str.ofString "\x69mport.later-laid._sre"), Value.str (Str.ofString "\x69mport.later-laid._sre") 270, (Value.bool true)⟩, ⟨PyData.keyHash P (Str.ofString "watched.library"), Value.str (Str.ofString "watched.library") 272, (Value.ref 27)⟩, ⟨PyData.keyHash P (Str.ofString "watched.library-objects"), Value.str (Str.ofString "watched.library-objects") 0, (Value.str (Str.ofString "\x0c\x1e") 0)⟩, ⟨PyData.keyHash P (Str.ofString "watched.library-deep._sre"), Value.str (Str.ofString "watched.library-deep._sre") 273, (Value.str (Str.ofString "\x04\x00\x00\x0b\x04\x00\x00\x0b\x04\x00\x00\x03\x04\x00\x00\x0b\x08\x04dict\x02") 0)⟩, ⟨PyData.keyHash P (Str.ofString "\x69mport.loaded._datetime"), Value.str (Str.ofString "\x69mport.loaded._datetime") 281, (Value.bool true)⟩, ⟨PyData.keyHash P (Str.ofString "class._frozen_importlib_external._LoaderBasics"), Value.str (Str.ofString "class._frozen_importlib_external._LoaderBasics") 286, (Value.ref 33)⟩, ⟨PyData.keyHash P (Str.ofString "class._frozen_importlib_external.FileLoader"), Value.str (Str.ofString "class._frozen_importlib_external.FileLoader") 302, (Value.ref 38)⟩, ⟨PyData.keyHash P (Str.ofString "class._frozen_importlib_external.ExtensionFileLoader"), Value.str (Str.ofString "class._frozen_importlib_external.ExtensionFileLoader") 323, (Value.ref 43)⟩, ⟨PyData.keyHash P (Str.ofString "datetime.timedelta.zero"), Value.str (Str.ofString "datetime.timedelta.zero") 373, (Value.ref 49)⟩, ⟨PyData.keyHash P (Str.ofString "datetime.timezone.utc"), Value.str (Str.ofString "datetime.timezone.utc") 374, (Value.ref 50)⟩, ⟨PyData.keyHash P (Str.ofString "\x69mport.later-laid._datetime"), Value.str (Str.ofString "\x69mport.later-laid._datetime") 377, (Value.bool true)⟩, ⟨PyData.keyHash P (Str.ofString "type.__subclasses__.OSError.0"), Value.str (Str.ofString "type.__subclasses__.OSError.0") 745, (Value.int (282) 0)⟩, ⟨PyData.keyHash P (Str.ofString "type.__subclasses__.OSError.n"), Value.str (Str.ofString "type.__subclasses__.OSError.n") 746, (Value.int (1) 0)⟩].toArray 18), #[]⟩ : Obj)) ::
  (nat_lit 3, (⟨(Value.type "dict"), none, (Data.dict [⟨PyData.keyHash P (Str.ofString "__name__"), Value.str (Str.ofString "__name__") 165, (Value.str (Str.ofString "law_kl0275_01") 1366)⟩, ⟨PyData.keyHash P (Str.ofString "__doc__"), Value.str (Str.ofString "__doc__") 166, Value.none⟩, ⟨PyData.keyHash P (Str.ofString "__package__"), Value.str (Str.ofString "__package__") 167, Value.none⟩, ⟨PyData.keyHash P (Str.ofString "__loader__"), Value.str (Str.ofString "__loader__") 168, (Value.builtin "__main__.__loader__#opaque")⟩, ⟨PyData.keyHash P (Str.ofString "__spec__"), Value.str (Str.ofString "__spec__") 169, Value.none⟩, ⟨PyData.keyHash P (Str.ofString "__annotations__"), Value.str (Str.ofString "__annotations__") 170, (Value.ref 6)⟩, ⟨PyData.keyHash P (Str.ofString "__builtins__"), Value.str (Str.ofString "__builtins__") 171, (Value.ref 4)⟩, ⟨PyData.keyHash P (Str.ofString "__file__"), Value.str (Str.ofString "__file__") 173, (Value.str (Str.ofString "/claim/cut.py") 172)⟩, ⟨PyData.keyHash P (Str.ofString "__cached__"), Value.str (Str.ofString "__cached__") 174, Value.none⟩, ⟨PyData.keyHash P (Str.ofString "_sre"), Value.str (Str.ofString "_sre") 275, (Value.ref 12)⟩, ⟨PyData.keyHash P (Str.ofString "datetime"), Value.str (Str.ofString "datetime") 384, (Value.type "datetime.datetime")⟩, ⟨PyData.keyHash P (Str.ofString "timezone"), Value.str (Str.ofString "timezone") 387, (Value.type "datetime.timezone")⟩, ⟨PyData.keyHash P (Str.ofString "_wall"), Value.str (Str.ofString "_wall") 400, (Value.ref 61)⟩, ⟨PyData.keyHash P (Str.ofString "PLISTHEADER"), Value.str (Str.ofString "PLISTHEADER") 402, (Value.bytes #[60, 63, 120, 109, 108, 32, 118, 101, 114, 115, 105, 111, 110, 61, 34, 49, 46, 48, 34, 32, 101, 110, 99, 111, 100, 105, 110, 103, 61, 34, 85, 84, 70, 45, 56, 34, 63, 62, 10, 60, 33, 68, 79, 67, 84, 89, 80, 69, 32, 112, 108, 105, 115, 116, 32, 80, 85, 66, 76, 73, 67, 32, 34, 45, 47, 47, 65, 112, 112, 108, 101, 47, 47, 68, 84, 68, 32, 80, 76, 73, 83, 84, 32, 49, 46, 48, 47, 47, 69, 78, 34, 32, 34, 104, 116, 116, 112, 58, 47, 47, 119, 119, 119, 46, 97, 112, 112, 108, 101, 46, 99, 111, 109, 47, 68, 84, 68, 115, 47, 80, 114, 111, 112, 101, 114, 116, 121, 76, 105, 115, 116, 45, 49, 46, 48, 46, 100, 116, 100, 34, 62, 10] 401)⟩, ⟨PyData.keyHash P (Str.ofString "_controlCharPat"), Value.str (Str.ofString "_controlCharPat") 436, (Value.ref 66)⟩, ⟨PyData.keyHash P (Str.ofString "Error"), Value.str (Str.ofString "Error") 456, (Value.ref 76)⟩, ⟨PyData.keyHash P (Str.ofString "_ascii_buffer"), Value.str (Str.ofString "_ascii_buffer") 464, (Value.ref 86)⟩, ⟨PyData.keyHash P (Str.ofString "_buffer"), Value.str (Str.ofString "_buffer") 472, (Value.ref 93)⟩, ⟨PyData.keyHash P (Str.ofString "_truth"), Value.str (Str.ofString "_truth") 480, (Value.ref 100)⟩, ⟨PyData.keyHash P (Str.ofString "_B64"), Value.str (Str.ofString "_B64") 482, (Value.bytes #[65, 66, 67, 68, 69, 70, 71, 72, 73, 74, 75, 76, 77, 78, 79, 80, 81, 82, 83, 84, 85, 86, 87, 88, 89, 90, 97, 98, 99, 100, 101, 102, 103, 104, 105, 106, 107, 108, 109, 110, 111, 112, 113, 114, 115, 116, 117, 118, 119, 120, 121, 122, 48, 49, 50, 51, 52, 53, 54, 55, 56, 57, 43, 47] 481)⟩, ⟨PyData.keyHash P (Str.ofString "_b64_value"), Value.str (Str.ofString "_b64_value") 489, (Value.ref 107)⟩, ⟨PyData.keyHash P (Str.ofString "a2b_base64"), Value.str (Str.ofString "a2b_base64") 505, (Value.ref 115)⟩, ⟨PyData.keyHash P (Str.ofString "b2a_base64"), Value.str (Str.ofString "b2a_base64") 519, (Value.ref 123)⟩, ⟨PyData.keyHash P (Str.ofString "_encode_base64"), Value.str (Str.ofString "_encode_base64") 534, (Value.ref 131)⟩, ⟨PyData.keyHash P (Str.ofString "_decode_base64"), Value.str (Str.ofString "_decode_base64") 541, (Value.ref 138)⟩, ⟨PyData.keyHash P (Str.ofString "_date_to_string"), Value.str (Str.ofString "_date_to_string") 549, (Value.ref 145)⟩, ⟨PyData.keyHash P (Str.ofString "_escape"), Value.str (Str.ofString "_escape") 557, (Value.ref 152)⟩, ⟨PyData.keyHash P (Str.ofString "_DumbXMLWriter"), Value.str (Str.ofString "_DumbXMLWriter") 626, (Value.ref 199)⟩, ⟨PyData.keyHash P (Str.ofString "_PlistWriter"), Value.str (Str.ofString "_PlistWriter") 708, (Value.ref 256)⟩, ⟨PyData.keyHash P (Str.ofString "_whence"), Value.str (Str.ofString "_whence") 718, (Value.ref 265)⟩, ⟨PyData.keyHash P (Str.ofString "_index"), Value.str (Str.ofString "_index") 726, (Value.ref 272)⟩, ⟨PyData.keyHash P (Str.ofString "UnsupportedOperation"), Value.str (Str.ofString "UnsupportedOperation") 748, (Value.ref 282)⟩, ⟨PyData.keyHash P (Str.ofString "IOBase"), Value.str (Str.ofString "IOBase") 780, (Value.ref 302)⟩, ⟨PyData.keyHash P (Str.ofString "BufferedIOBase"), Value.str (Str.ofString "BufferedIOBase") 798, (Value.ref 317)⟩, ⟨PyData.keyHash P (Str.ofString "TextIOBase"), Value.str (Str.ofString "TextIOBase") 816, (Value.ref 329)⟩, ⟨PyData.keyHash P (Str.ofString "BytesIO"), Value.str (Str.ofString "BytesIO") 1078, (Value.ref 559)⟩, ⟨PyData.keyHash P (Str.ofString "StringIO"), Value.str (Str.ofString "StringIO") 1365, (Value.ref 806)⟩, ⟨PyData.keyHash P (Str.ofString "_law_rows"), Value.str (Str.ofString "_law_rows") 1384, (Value.ref 815)⟩, ⟨PyData.keyHash P (Str.ofString "_law_page"), Value.str (Str.ofString "_law_page") 1390, (Value.ref 820)⟩, ⟨PyData.keyHash P (Str.ofString "_law_strewn"), Value.str (Str.ofString "_law_strewn") 1401, (Value.ref 827)⟩, ⟨PyData.keyHash P (Str.ofString "_law_encode"), Value.str (Str.ofString "_law_encode") 1409, (Value.ref 834)⟩, ⟨PyData.keyHash P (Str.ofString "law"), Value.str (Str.ofString "law") 1433, (Value.ref 841)⟩].toArray 42), #[]⟩ : Obj)) ::
  (nat_lit 85, (⟨(Value.type "code"), none, (Data.fields #[(Value.str (Str.ofString "_ascii_buffer") 457), (Value.str (Str.ofString "_ascii_buffer") 458), (Value.str (Str.ofString "/claim/cut.py") 459), (Value.int (11) 0), (Value.int (1) 0), (Value.int (0) 0), (Value.int (0) 0), (Value.int (3) 0), (Value.ref 80), (Value.bool true), (Value.int (388) 0), (Value.ref 81), Value.none, (Value.ref 82), (Value.ref 83), (Value.ref 84), (Value.int (462) 0), (Value.int (11) 0), (Value.str (Str.ofString "/claim/cut.py") 463)]), #[]⟩ : Obj)) ::
  (nat_lit 86, (⟨(Value.type "function"), none, (fdt (stm 7) (Str.ofString "_ascii_buffer") Value.none Value.none (Value.str (Str.ofString "binascii") 437) (Value.ref 85)), #[]⟩ : Obj)) ::
  (nat_lit 92, (⟨(Value.type "code"), none, (Data.fields #[(Value.str (Str.ofString "_buffer") 465), (Value.str (Str.ofString "_buffer") 466), (Value.str (Str.ofString "/claim/cut.py") 467), (Value.int (22) 0), (Value.int (1) 0), (Value.int (0) 0), (Value.int (0) 0), (Value.int (3) 0), (Value.ref 87), (Value.bool true), (Value.int (388) 0), (Value.ref 88), Value.none, (Value.ref 89), (Value.ref 90), (Value.ref 91), (Value.int (470) 0), (Value.int (22) 0), (Value.str (Str.ofString "/claim/cut.py") 471)]), #[]⟩ : Obj)) ::
  (nat_lit 93, (⟨(Value.type "function"), none, (fdt (stm 8) (Str.ofString "_buffer") Value.none Value.none (Value.str (Str.ofString "binascii") 437) (Value.ref 92)), #[]⟩ : Obj)) ::
  (nat_lit 99, (⟨(Value.type "code"), none, (Data.fields #[(Value.str (Str.ofString "_truth") 473), (Value.str (Str.ofString "_truth") 474), (Value.str (Str.ofString "/claim/cut.py") 475), (Value.int (29) 0), (Value.int (1) 0), (Value.int (0) 0), (Value.int (0) 0), (Value.int (3) 0), (Value.ref 94), (Value.bool true), (Value.int (388) 0), (Value.ref 95), Value.none, (Value.ref 96), (Value.ref 97), (Value.ref 98), (Value.int (478) 0), (Value.int (29) 0), (Value.str (Str.ofString "/claim/cut.py") 479)]), #[]⟩ : Obj)) ::
  (nat_lit 100, (⟨(Value.type "function"), none, (fdt (stm 9) (Str.ofString "_truth") Value.none Value.none (Value.str (Str.ofString "binascii") 437) (Value.ref 99)), #[]⟩ : Obj)) ::
  (nat_lit 106, (⟨(Value.type "code"), none, (Data.fields #[(Value.str (Str.ofString "_b64_value") 483), (Value.str (Str.ofString "_b64_value") 484), (Value.str (Str.ofString "/claim/cut.py") 485), (Value.int (35) 0), (Value.int (1) 0), (Value.int (0) 0), (Value.int (0) 0), (Value.int (3) 0), (Value.ref 101), (Value.bool true), (Value.int (388) 0), (Value.ref 102), Value.none, (Value.ref 103), (Value.ref 104), (Value.ref 105), (Value.int (487) 0), (Value.int (35) 0), (Value.str (Str.ofString "/claim/cut.py") 488)]), #[]⟩ : Obj)) ::
  (nat_lit 107, (⟨(Value.type "function"), none, (fdt (stm 11) (Str.ofString "_b64_value") Value.none Value.none (Value.str (Str.ofString "binascii") 437) (Value.ref 106)), #[]⟩ : Obj)) ::
  (nat_lit 108, (⟨(Value.type "dict"), none, (Data.dict [⟨PyData.keyHash P (Str.ofString "strict_mode"), Value.str (Str.ofString "strict_mode") 490, (Value.bool false)⟩].toArray 1), #[]⟩ : Obj)) ::
  (nat_lit 114, (⟨(Value.type "code"), none, (Data.fields #[(Value.str (Str.ofString "a2b_base64") 491), (Value.str (Str.ofString "a2b_base64") 492), (Value.str (Str.ofString "/claim/cut.py") 493), (Value.int (47) 0), (Value.int (1) 0), (Value.int (1) 0), (Value.int (1) 0), (Value.int (3) 0), (Value.ref 109), (Value.bool true), (Value.int (388) 0), (Value.ref 110), Value.none, (Value.ref 111), (Value.ref 112), (Value.ref 113), (Value.int (503) 0), (Value.int (47) 0), (Value.str (Str.ofString "/claim/cut.py") 504)]), #[]⟩ : Obj)) ::
  (nat_lit 115, (⟨(Value.type "function"), none, (fdt (stm 12) (Str.ofString "a2b_base64") Value.none (Value.ref 108) (Value.str (Str.ofString "binascii") 437) (Value.ref 114)), #[]⟩ : Obj)) ::
  (nat_lit 116, (⟨(Value.type "dict"), none, (Data.dict [⟨PyData.keyHash P (Str.ofString "newline"), Value.str (Str.ofString "newline") 506, (Value.bool true)⟩].toArray 1), #[]⟩ : Obj)) ::
  (nat_lit 122, (⟨(Value.type "code"), none, (Data.fields #[(Value.str (Str.ofString "b2a_base64") 507), (Value.str (Str.ofString "b2a_base64") 508), (Value.str (Str.ofString "/claim/cut.py") 509), (Value.int (101) 0), (Value.int (1) 0), (Value.int (1) 0), (Value.int (1) 0), (Value.int (3) 0), (Value.ref 117), (Value.bool true), (Value.int (388) 0), (Value.ref 118), Value.none, (Value.ref 119), (Value.ref 120), (Value.ref 121), (Value.int (517) 0), (Value.int (101) 0), (Value.str (Str.ofString "/claim/cut.py") 518)]), #[]⟩ : Obj)) ::
  (nat_lit 123, (⟨(Value.type "function"), none, (fdt (stm 13) (Str.ofString "b2a_base64") Value.none (Value.ref 116) (Value.str (Str.ofString "binascii") 437) (Value.ref 122)), #[]⟩ : Obj)) ::
  (nat_lit 124, (⟨(Value.type "tuple"), none, (Data.seq #[(Value.int (76) 522)] 0), #[]⟩ : Obj)) ::
  (nat_lit 130, (⟨(Value.type "code"), none, (Data.fields #[(Value.str (Str.ofString "_encode_base64") 523), (Value.str (Str.ofString "_encode_base64") 524), (Value.str (Str.ofString "/claim/cut.py") 525), (Value.int (124) 0), (Value.int (2) 0), (Value.int (0) 0), (Value.int (0) 0), (Value.int (3) 0), (Value.ref 125), (Value.bool true), (Value.int (388) 0), (Value.ref 126), Value.none, (Value.ref 127), (Value.ref 128), (Value.ref 129), (Value.int (532) 0), (Value.int (124) 0), (Value.str (Str.ofString "/claim/cut.py") 533)]), #[]⟩ : Obj)) ::
  (nat_lit 131, (⟨(Value.type "function"), none, (fdt (stm 15) (Str.ofString "_encode_base64") (Value.ref 124) Value.none (Value.str (Str.ofString "cpy313.plistlib") 520) (Value.ref 130)), #[]⟩ : Obj)) ::
  (nat_lit 137, (⟨(Value.type "code"), none, (Data.fields #[(Value.str (Str.ofString "_decode_base64") 535), (Value.str (Str.ofString "_decode_base64") 536), (Value.str (Str.ofString "/claim/cut.py") 537), (Value.int (131) 0), (Value.int (1) 0), (Value.int (0) 0), (Value.int (0) 0), (Value.int (3) 0), (Value.ref 132), (Value.bool true), (Value.int (388) 0), (Value.ref 133), Value.none, (Value.ref 134), (Value.ref 135), (Value.ref 136), (Value.int (539) 0), (Value.int (131) 0), (Value.str (Str.ofString "/claim/cut.py") 540)]), #[]⟩ : Obj)) ::
  (nat_lit 138, (⟨(Value.type "function"), none, (fdt (stm 16) (Str.ofString "_decode_base64") Value.none Value.none (Value.str (Str.ofString "cpy313.plistlib") 520) (Value.ref 137)), #[]⟩ : Obj)) ::
  (nat_lit 160, (⟨(Value.type "tuple"), none, (Data.seq #[(Value.int (0) 570), (Value.str (Str.ofString "\t") 571)] 0), #[]⟩ : Obj)) ::
  (nat_lit 166, (⟨(Value.type "code"), none, (Data.fields #[(Value.str (Str.ofString "__init__") 572), (Value.str (Str.ofString "_DumbXMLWriter.__init__") 573), (Value.str (Str.ofString "/claim/cut.py") 574), (Value.int (152) 0), (Value.int (4) 0), (Value.int (0) 0), (Value.int (0) 0), (Value.int (3) 0), (Value.ref 161), (Value.bool true), (Value.int (388) 0), (Value.ref 162), Value.none, (Value.ref 163), (Value.ref 164), (Value.ref 165), (Value.int (579) 0), (Value.int (152) 0), (Value.str (Str.ofString "/claim/cut.py") 580)]), #[]⟩ : Obj)) ::
  (nat_lit 167, (⟨(Value.type "function"), none, (fdt (cst 19 0) (Str.ofString "_DumbXMLWriter.__init__") (Value.ref 160) Value.none (Value.str (Str.ofString "cpy313.plistlib") 520) (Value.ref 166)), #[]⟩ : Obj)) ::
  (nat_lit 173, (⟨(Value.type "code"), none, (Data.fields #[(Value.str (Str.ofString "begin_element") 582), (Value.str (Str.ofString "_DumbXMLWriter.begin_element") 583), (Value.str (Str.ofString "/claim/cut.py") 584), (Value.int (158) 0), (Value.int (2) 0), (Value.int (0) 0), (Value.int (0) 0), (Value.int (3) 0), (Value.ref 168), (Value.bool true), (Value.int (388) 0), (Value.ref 169), Value.none, (Value.ref 170), (Value.ref 171), (Value.ref 172), (Value.int (587) 0), (Value.int (158) 0), (Value.str (Str.ofString "/claim/cut.py") 588)]), #[]⟩ : Obj)) ::
  (nat_lit 174, (⟨(Value.type "function"), none, (fdt (cst 19 1) (Str.ofString "_DumbXMLWriter.begin_element") Value.none Value.none (Value.str (Str.ofString "cpy313.plistlib") 520) (Value.ref 173)), #[]⟩ : Obj)) ::
  (nat_lit 180, (⟨(Value.type "code"), none, (Data.fields #[(Value.str (Str.ofString "end_element") 590), (Value.str (Str.ofString "_DumbXMLWriter.end_element") 591), (Value.str (Str.ofString "/claim/cut.py") 592), (Value.int (163) 0), (Value.int (2) 0), (Value.int (0) 0), (Value.int (0) 0), (Value.int (3) 0), (Value.ref 175), (Value.bool true), (Value.int (388) 0), (Value.ref 176), Value.none, (Value.ref 177), (Value.ref 178), (Value.ref 179), (Value.int (595) 0), (Value.int (163) 0), (Value.str (Str.ofString "/claim/cut.py") 596)]), #[]⟩ : Obj)) ::
  (nat_lit 181, (⟨(Value.type "function"), none, (fdt (cst 19 2) (Str.ofString "_DumbXMLWriter.end_element") Value.none Value.none (Value.str (Str.ofString "cpy313.plistlib") 520) (Value.ref 180)), #[]⟩ : Obj)) ::
  (nat_lit 195, (⟨(Value.type "code"), none, (Data.fields #[(Value.str (Str.ofString "writeln") 607), (Value.str (Str.ofString "_DumbXMLWriter.writeln") 608), (Value.str (Str.ofString "/claim/cut.py") 609), (Value.int (176) 0), (Value.int (2) 0), (Value.int (0) 0), (Value.int (0) 0), (Value.int (3) 0), (Value.ref 190), (Value.bool true), (Value.int (388) 0), (Value.ref 191), Value.none, (Value.ref 192), (Value.ref 193), (Value.ref 194), (Value.int (612) 0), (Value.int (176) 0), (Value.str (Str.ofString "/claim/cut.py") 613)]), #[]⟩ : Obj)) ::
  (nat_lit 196, (⟨(Value.type "function"), none, (fdt (cst 19 4) (Str.ofString "_DumbXMLWriter.writeln") Value.none Value.none (Value.str (Str.ofString "cpy313.plistlib") 520) (Value.ref 195)), #[]⟩ : Obj)) ::
  (nat_lit 198, (⟨(Value.type "dict"), none, (Data.dict [⟨PyData.keyHash P (Str.ofString "__module__"), Value.str (Str.ofString "__module__") 565, (Value.str (Str.ofString "cpy313.plistlib") 520)⟩, ⟨PyData.keyHash P (Str.ofString "__firstlineno__"), Value.str (Str.ofString "__firstlineno__") 569, (Value.int (150) 568)⟩, ⟨PyData.keyHash P (Str.ofString "__init__"), Value.str (Str.ofString "__init__") 581, (Value.ref 167)⟩, ⟨PyData.keyHash P (Str.ofString "begin_element"), Value.str (Str.ofString "begin_element") 589, (Value.ref 174)⟩, ⟨PyData.keyHash P (Str.ofString "end_element"), Value.str (Str.ofString "end_element") 597, (Value.ref 181)⟩, ⟨PyData.keyHash P (Str.ofString "simple_element"), Value.str (Str.ofString "simple_element") 606, (Value.ref 189)⟩, ⟨PyData.keyHash P (Str.ofString "writeln"), Value.str (Str.ofString "writeln") 614, (Value.ref 196)⟩, ⟨PyData.keyHash P (Str.ofString "__static_attributes__"), Value.str (Str.ofString "__static_attributes__") 619, (Value.ref 197)⟩, ⟨PyData.keyHash P (Str.ofString "__dict__"), Value.str (Str.ofString "__dict__") 621, (Value.ref 200)⟩, ⟨PyData.keyHash P (Str.ofString "__weakref__"), Value.str (Str.ofString "__weakref__") 623, (Value.ref 201)⟩, ⟨PyData.keyHash P (Str.ofString "__doc__"), Value.str (Str.ofString "__doc__") 624, Value.none⟩].toArray 4), #[]⟩ : Obj)) ::
  (nat_lit 199, (⟨(Value.type "type"), none, (Data.cls ⟨(Str.ofString "_DumbXMLWriter"), [(Value.type "object")], [(Value.ref 199), (Value.type "object")], 198, (Str.ofString "_DumbXMLWriter"), true, [], [(Value.ref 256)], false, none, false⟩), #[none, none, (some (Value.str (Str.ofString "_DumbXMLWriter") 558)), (some (Value.str (Str.ofString "_DumbXMLWriter") 566)), (some (Value.builtin "object.__new__")), (some (Value.bool true))]⟩ : Obj)) ::
  (nat_lit 200, (⟨(Value.type "getset_descriptor"), none, (Data.fields #[(Value.str (Str.ofString "__dict__") 620), (Value.ref 199), (Value.builtin "function.__dict__"), (Value.builtin "function.__dict__#set")]), #[]⟩ : Obj)) ::
  (nat_lit 211, (⟨(Value.type "tuple"), none, (Data.seq #[(Value.int (0) 639), (Value.bytes #[9] 640), (Value.int (1) 641), (Value.bool true), (Value.bool false), (Value.bool false)] 0), #[]⟩ : Obj)) ::
  (nat_lit 217, (⟨(Value.type "code"), none, (Data.fields #[(Value.str (Str.ofString "__init__") 642), (Value.str (Str.ofString "_PlistWriter.__init__") 643), (Value.str (Str.ofString "/claim/cut.py") 644), (Value.int (185) 0), (Value.int (8) 0), (Value.int (0) 0), (Value.int (0) 0), (Value.int (3) 0), (Value.ref 212), (Value.bool true), (Value.int (388) 0), (Value.ref 213), Value.none, (Value.ref 214), (Value.ref 215), (Value.ref 216), (Value.int (653) 0), (Value.int (185) 0), (Value.str (Str.ofString "/claim/cut.py") 654)]), #[]⟩ : Obj)) ::
  (nat_lit 218, (⟨(Value.type "function"), none, (fdt (cst 20 0) (Str.ofString "_PlistWriter.__init__") (Value.ref 211) Value.none (Value.str (Str.ofString "cpy313.plistlib") 520) (Value.ref 217)), #[]⟩ : Obj)) ::
  (nat_lit 238, (⟨(Value.type "code"), none, (Data.fields #[(Value.str (Str.ofString "write_bytes") 672), (Value.str (Str.ofString "_PlistWriter.write_bytes") 673), (Value.str (Str.ofString "/claim/cut.py") 674), (Value.int (223) 0), (Value.int (2) 0), (Value.int (0) 0), (Value.int (0) 0), (Value.int (3) 0), (Value.ref 233), (Value.bool true), (Value.int (388) 0), (Value.ref 234), Value.none, (Value.ref 235), (Value.ref 236), (Value.ref 237), (Value.int (679) 0), (Value.int (223) 0), (Value.str (Str.ofString "/claim/cut.py") 680)]), #[]⟩ : Obj)) ::
  (nat_lit 239, (⟨(Value.type "function"), none, (fdt (cst 20 3) (Str.ofString "_PlistWriter.write_bytes") Value.none Value.none (Value.str (Str.ofString "cpy313.plistlib") 520) (Value.ref 238)), #[]⟩ : Obj)) ::
  (nat_lit 255, (⟨(Value.type "dict"), none, (Data.dict [⟨PyData.keyHash P (Str.ofString "__module__"), Value.str (Str.ofString "__module__") 634, (Value.str (Str.ofString "cpy313.plistlib") 520)⟩, ⟨PyData.keyHash P (Str.ofString "__firstlineno__"), Value.str (Str.ofString "__firstlineno__") 638, (Value.int (183) 637)⟩, ⟨PyData.keyHash P (Str.ofString "__init__"), Value.str (Str.ofString "__init__") 655, (Value.ref 218)⟩, ⟨PyData.keyHash P (Str.ofString "write"), Value.str (Str.ofString "write") 663, (Value.ref 225)⟩, ⟨PyData.keyHash P (Str.ofString "write_value"), Value.str (Str.ofString "write_value") 671, (Value.ref 232)⟩, ⟨PyData.keyHash P (Str.ofString "write_bytes"), Value.str (Str.ofString "write_bytes") 681, (Value.ref 239)⟩, ⟨PyData.keyHash P (Str.ofString "write_dict"), Value.str (Str.ofString "write_dict") 692, (Value.ref 246)⟩, ⟨PyData.keyHash P (Str.ofString "write_array"), Value.str (Str.ofString "write_array") 701, (Value.ref 253)⟩, ⟨PyData.keyHash P (Str.ofString "__static_attributes__"), Value.str (Str.ofString "__static_attributes__") 705, (Value.ref 254)⟩, ⟨PyData.keyHash P (Str.ofString "__doc__"), Value.str (Str.ofString "__doc__") 706, Value.none⟩].toArray 2), #[]⟩ : Obj)) ::
  (nat_lit 256, (⟨(Value.type "type"), none, (Data.cls ⟨(Str.ofString "_PlistWriter"), [(Value.ref 199)], [(Value.ref 256), (Value.ref 199), (Value.type "object")], 255, (Str.ofString "_PlistWriter"), true, [], [], false, none, false⟩), #[(some (Value.ref 204)), none, (some (Value.str (Str.ofString "_PlistWriter") 627)), (some (Value.str (Str.ofString "_PlistWriter") 635)), (some (Value.builtin "object.__new__")), (some (Value.bool true))]⟩ : Obj)) ::
  (nat_lit 298, (⟨(Value.type "code"), none, (Data.fields #[(Value.str (Str.ofString "__new__") 763), (Value.str (Str.ofString "IOBase.__new__") 764), (Value.str (Str.ofString "/claim/cut.py") 765), (Value.int (277) 0), (Value.int (1) 0), (Value.int (1) 0), (Value.int (0) 0), (Value.int (15) 0), (Value.ref 293), (Value.bool true), (Value.int (388) 0), (Value.ref 294), Value.none, (Value.ref 295), (Value.ref 296), (Value.ref 297), (Value.int (769) 0), (Value.int (277) 0), (Value.str (Str.ofString "/claim/cut.py") 770)]), #[]⟩ : Obj)) ::
  (nat_lit 299, (⟨(Value.type "function"), none, (fdt (cst 25 1) (Str.ofString "IOBase.__new__") Value.none Value.none (Value.str (Str.ofString "io") 709) (Value.ref 298)), #[]⟩ : Obj)) ::
  (nat_lit 301, (⟨(Value.type "dict"), none, (Data.dict [⟨PyData.keyHash P (Str.ofString "__module__"), Value.str (Str.ofString "__module__") 756, (Value.str (Str.ofString "io") 761)⟩, ⟨PyData.keyHash P (Str.ofString "__firstlineno__"), Value.str (Str.ofString "__firstlineno__") 760, (Value.int (274) 759)⟩, ⟨PyData.keyHash P (Str.ofString "__new__"), Value.str (Str.ofString "__new__") 771, (Value.ref 303)⟩, ⟨PyData.keyHash P (Str.ofString "__static_attributes__"), Value.str (Str.ofString "__static_attributes__") 772, (Value.ref 300)⟩, ⟨PyData.keyHash P (Str.ofString "__dict__"), Value.str (Str.ofString "__dict__") 775, (Value.ref 304)⟩, ⟨PyData.keyHash P (Str.ofString "__weakref__"), Value.str (Str.ofString "__weakref__") 777, (Value.ref 305)⟩, ⟨PyData.keyHash P (Str.ofString "__doc__"), Value.str (Str.ofString "__doc__") 778, Value.none⟩].toArray 4), #[]⟩ : Obj)) ::
  (nat_lit 302, (⟨(Value.type "type"), none, (Data.cls ⟨(Str.ofString "IOBase"), [(Value.type "object")], [(Value.ref 302), (Value.type "object")], 301, (Str.ofString "IOBase"), true, [], [(Value.ref 317), (Value.ref 329)], false, none, false⟩), #[none, none, (some (Value.str (Str.ofString "IOBase") 749)), (some (Value.str (Str.ofString "IOBase") 757)), (some Value.none), (some (Value.bool true))]⟩ : Obj)) ::
  (nat_lit 303, (⟨(Value.type "staticmethod"), none, (Data.fields #[(Value.ref 299)]), #[]⟩ : Obj)) ::
  (nat_lit 304, (⟨(Value.type "getset_descriptor"), none, (Data.fields #[(Value.str (Str.ofString "__dict__") 774), (Value.ref 302), (Value.builtin "function.__dict__"), (Value.builtin "function.__dict__#set")]), #[]⟩ : Obj)) ::
  (nat_lit 316, (⟨(Value.type "dict"), none, (Data.dict [⟨PyData.keyHash P (Str.ofString "__module__"), Value.str (Str.ofString "__module__") 788, (Value.str (Str.ofString "io") 793)⟩, ⟨PyData.keyHash P (Str.ofString "__firstlineno__"), Value.str (Str.ofString "__firstlineno__") 792, (Value.int (281) 791)⟩, ⟨PyData.keyHash P (Str.ofString "__static_attributes__"), Value.str (Str.ofString "__static_attributes__") 795, (Value.ref 315)⟩, ⟨PyData.keyHash P (Str.ofString "__doc__"), Value.str (Str.ofString "__doc__") 796, Value.none⟩].toArray 2), #[]⟩ : Obj)) ::
  (nat_lit 317, (⟨(Value.type "type"), none, (Data.cls ⟨(Str.ofString "BufferedIOBase"), [(Value.ref 302)], [(Value.ref 317), (Value.ref 302), (Value.type "object")], 316, (Str.ofString "BufferedIOBase"), true, [], [(Value.ref 559)], false, none, false⟩), #[(some (Value.ref 308)), none, (some (Value.str (Str.ofString "BufferedIOBase") 781)), (some (Value.str (Str.ofString "BufferedIOBase") 789)), (some Value.none), (some (Value.bool true))]⟩ : Obj)) ::
  (nat_lit 339, (⟨(Value.type "tuple"), none, (Data.seq #[Value.none] 0), #[]⟩ : Obj)) ::
  (nat_lit 345, (⟨(Value.type "code"), none, (Data.fields #[(Value.str (Str.ofString "__init__") 831), (Value.str (Str.ofString "BytesIO.__init__") 832), (Value.str (Str.ofString "/claim/cut.py") 833), (Value.int (288) 0), (Value.int (2) 0), (Value.int (0) 0), (Value.int (0) 0), (Value.int (3) 0), (Value.ref 340), (Value.bool true), (Value.int (388) 0), (Value.ref 341), Value.none, (Value.ref 342), (Value.ref 343), (Value.ref 344), (Value.int (836) 0), (Value.int (288) 0), (Value.str (Str.ofString "/claim/cut.py") 837)]), #[]⟩ : Obj)) ::
  (nat_lit 346, (⟨(Value.type "function"), none, (fdt (cst 28 1) (Str.ofString "BytesIO.__init__") (Value.ref 339) Value.none (Value.str (Str.ofString "io") 709) (Value.ref 345)), #[]⟩ : Obj)) ::
  (nat_lit 352, (⟨(Value.type "code"), none, (Data.fields #[(Value.str (Str.ofString "__check") 839), (Value.str (Str.ofString "BytesIO.__check") 840), (Value.str (Str.ofString "/claim/cut.py") 841), (Value.int (294) 0), (Value.int (1) 0), (Value.int (0) 0), (Value.int (0) 0), (Value.int (3) 0), (Value.ref 347), (Value.bool true), (Value.int (388) 0), (Value.ref 348), Value.none, (Value.ref 349), (Value.ref 350), (Value.ref 351), (Value.int (843) 0), (Value.int (294) 0), (Value.str (Str.ofString "/claim/cut.py") 844)]), #[]⟩ : Obj)) ::
  (nat_lit 353, (⟨(Value.type "function"), none, (fdt (cst 28 2) (Str.ofString "BytesIO.__check") Value.none Value.none (Value.str (Str.ofString "io") 709) (Value.ref 352)), #[]⟩ : Obj)) ::
  (nat_lit 444, (⟨(Value.type "code"), none, (Data.fields #[(Value.str (Str.ofString "getvalue") 936), (Value.str (Str.ofString "BytesIO.getvalue") 937), (Value.str (Str.ofString "/claim/cut.py") 938), (Value.int (350) 0), (Value.int (1) 0), (Value.int (0) 0), (Value.int (0) 0), (Value.int (3) 0), (Value.ref 439), (Value.bool true), (Value.int (388) 0), (Value.ref 440), Value.none, (Value.ref 441), (Value.ref 442), (Value.ref 443), (Value.int (940) 0), (Value.int (350) 0), (Value.str (Str.ofString "/claim/cut.py") 941)]), #[]⟩ : Obj)) ::
  (nat_lit 445, (⟨(Value.type "function"), none, (fdt (cst 28 15) (Str.ofString "BytesIO.getvalue") Value.none Value.none (Value.str (Str.ofString "io") 709) (Value.ref 444)), #[]⟩ : Obj)) ::
  (nat_lit 541, (⟨(Value.type "code"), none, (Data.fields #[(Value.str (Str.ofString "write") 1048), (Value.str (Str.ofString "BytesIO.write") 1049), (Value.str (Str.ofString "/claim/cut.py") 1050), (Value.int (435) 0), (Value.int (2) 0), (Value.int (2) 0), (Value.int (0) 0), (Value.int (3) 0), (Value.ref 536), (Value.bool true), (Value.int (388) 0), (Value.ref 537), Value.none, (Value.ref 538), (Value.ref 539), (Value.ref 540), (Value.int (1055) 0), (Value.int (435) 0), (Value.str (Str.ofString "/claim/cut.py") 1056)]), #[]⟩ : Obj)) ::
  (nat_lit 542, (⟨(Value.type "function"), none, (fdt (cst 28 28) (Str.ofString "BytesIO.write") Value.none Value.none (Value.str (Str.ofString "io") 709) (Value.ref 541)), #[]⟩ : Obj)) ::
  (nat_lit 558, (⟨(Value.type "dict"), none, (Data.dict [⟨PyData.keyHash P (Str.ofString "__module__"), Value.str (Str.ofString "__module__") 824, (Value.str (Str.ofString "_io") 829)⟩, ⟨PyData.keyHash P (Str.ofString "__firstlineno__"), Value.str (Str.ofString "__firstlineno__") 828, (Value.int (285) 827)⟩, ⟨PyData.keyHash P (Str.ofString "__init__"), Value.str (Str.ofString "__init__") 838, (Value.ref 346)⟩, ⟨PyData.keyHash P (Str.ofString "_BytesIO__check"), Value.str (Str.ofString "_BytesIO__check") 845, (Value.ref 353)⟩, ⟨PyData.keyHash P (Str.ofString "_BytesIO__line"), Value.str (Str.ofString "_BytesIO__line") 856, (Value.ref 360)⟩, ⟨PyData.keyHash P (Str.ofString "closed"), Value.str (Str.ofString "closed") 864, (Value.ref 368)⟩, ⟨PyData.keyHash P (Str.ofString "close"), Value.str (Str.ofString "close") 871, (Value.ref 375)⟩, ⟨PyData.keyHash P (Str.ofString "__enter__"), Value.str (Str.ofString "__enter__") 878, (Value.ref 382)⟩, ⟨PyData.keyHash P (Str.ofString "__exit__"), Value.str (Str.ofString "__exit__") 886, (Value.ref 389)⟩, ⟨PyData.keyHash P (Str.ofString "readable"), Value.str (Str.ofString "readable") 893, (Value.ref 396)⟩, ⟨PyData.keyHash P (Str.ofString "writable"), Value.str (Str.ofString "writable") 900, (Value.ref 403)⟩, ⟨PyData.keyHash P (Str.ofString "seekable"), Value.str (Str.ofString "seekable") 907, (Value.ref 410)⟩, ⟨PyData.keyHash P (Str.ofString "isatty"), Value.str (Str.ofString "isatty") 914, (Value.ref 417)⟩, ⟨PyData.keyHash P (Str.ofString "flush"), Value.str (Str.ofString "flush") 921, (Value.ref 424)⟩, ⟨PyData.keyHash P (Str.ofString "fileno"), Value.str (Str.ofString "fileno") 928, (Value.ref 431)⟩, ⟨PyData.keyHash P (Str.ofString "detach"), Value.str (Str.ofString "detach") 935, (Value.ref 438)⟩, ⟨PyData.keyHash P (Str.ofString "getvalue"), Value.str (Str.ofString "getvalue") 942, (Value.ref 445)⟩, ⟨PyData.keyHash P (Str.ofString "getbuffer"), Value.str (Str.ofString "getbuffer") 949, (Value.ref 452)⟩, ⟨PyData.keyHash P (Str.ofString "tell"), Value.str (Str.ofString "tell") 956, (Value.ref 459)⟩, ⟨PyData.keyHash P (Str.ofString "seek"), Value.str (Str.ofString "seek") 966, (Value.ref 467)⟩, ⟨PyData.keyHash P (Str.ofString "truncate"), Value.str (Str.ofString "truncate") 974, (Value.ref 475)⟩, ⟨PyData.keyHash P (Str.ofString "read"), Value.str (Str.ofString "read") 986, (Value.ref 483)⟩, ⟨PyData.keyHash P (Str.ofString "read1"), Value.str (Str.ofString "read1") 996, (Value.ref 491)⟩, ⟨PyData.keyHash P (Str.ofString "readinto"), Value.str (Str.ofString "readinto") 1006, (Value.ref 498)⟩, ⟨PyData.keyHash P (Str.ofString "readinto1"), Value.str (Str.ofString "readinto1") 1014, (Value.ref 505)⟩, ⟨PyData.keyHash P (Str.ofString "readline"), Value.str (Str.ofString "readline") 1024, (Value.ref 513)⟩, ⟨PyData.keyHash P (Str.ofString "readlines"), Value.str (Str.ofString "readlines") 1032, (Value.ref 521)⟩, ⟨PyData.keyHash P (Str.ofString "__iter__"), Value.str (Str.ofString "__iter__") 1039, (Value.ref 528)⟩, ⟨PyData.keyHash P (Str.ofString "__next__"), Value.str (Str.ofString "__next__") 1047, (Value.ref 535)⟩, ⟨PyData.keyHash P (Str.ofString "write"), Value.str (Str.ofString "write") 1057, (Value.ref 542)⟩, ⟨PyData.keyHash P (Str.ofString "writelines"), Value.str (Str.ofString "writelines") 1065, (Value.ref 549)⟩, ⟨PyData.keyHash P (Str.ofString "__repr__"), Value.str (Str.ofString "__repr__") 1072, (Value.ref 556)⟩, ⟨PyData.keyHash P (Str.ofString "__static_attributes__"), Value.str (Str.ofString "__static_attributes__") 1075, (Value.ref 557)⟩, ⟨PyData.keyHash P (Str.ofString "__doc__"), Value.str (Str.ofString "__doc__") 1076, Value.none⟩].toArray 2), #[]⟩ : Obj)) ::
  (nat_lit 559, (⟨(Value.type "type"), none, (Data.cls ⟨(Str.ofString "BytesIO"), [(Value.ref 317)], [(Value.ref 559), (Value.ref 317), (Value.ref 302), (Value.type "object")], 558, (Str.ofString "BytesIO"), true, [], [], false, none, false⟩), #[(some (Value.ref 332)), none, (some (Value.str (Str.ofString "BytesIO") 817)), (some (Value.str (Str.ofString "BytesIO") 825)), (some Value.none), (some (Value.bool true))]⟩ : Obj)) ::
  (nat_lit 814, (⟨(Value.type "code"), none, (Data.fields #[(Value.str (Str.ofString "_law_rows") 1368), (Value.str (Str.ofString "_law_rows") 1369), (Value.str (Str.ofString "/claim/cut.py") 1370), (Value.int (663) 0), (Value.int (2) 0), (Value.int (0) 0), (Value.int (0) 0), (Value.int (3) 0), (Value.ref 809), (Value.bool true), (Value.int (388) 0), (Value.ref 810), Value.none, (Value.ref 811), (Value.ref 812), (Value.ref 813), (Value.int (1382) 0), (Value.int (663) 0), (Value.str (Str.ofString "/claim/cut.py") 1383)]), #[]⟩ : Obj)) ::
  (nat_lit 815, (⟨(Value.type "function"), none, (fdt (stm 31) (Str.ofString "_law_rows") Value.none Value.none (Value.str (Str.ofString "law_kl0275_01") 1366) (Value.ref 814)), #[]⟩ : Obj)) ::
  (nat_lit 819, (⟨(Value.type "code"), none, (Data.fields #[(Value.str (Str.ofString "_law_page") 1385), (Value.str (Str.ofString "_law_page") 1386), (Value.str (Str.ofString "/claim/cut.py") 1387), (Value.int (679) 0), (Value.int (2) 0), (Value.int (0) 0), (Value.int (0) 0), (Value.int (3) 0), (Value.ref 816), (Value.bool true), (Value.int (388) 0), (Value.ref 817), Value.none, Value.none, Value.none, (Value.ref 818), (Value.int (1388) 0), (Value.int (679) 0), (Value.str (Str.ofString "/claim/cut.py") 1389)]), #[]⟩ : Obj)) ::
  (nat_lit 820, (⟨(Value.type "function"), none, (fdt (stm 32) (Str.ofString "_law_page") Value.none Value.none (Value.str (Str.ofString "law_kl0275_01") 1366) (Value.ref 819)), #[]⟩ : Obj)) ::
  (nat_lit 826, (⟨(Value.type "code"), none, (Data.fields #[(Value.str (Str.ofString "_law_strewn") 1391), (Value.str (Str.ofString "_law_strewn") 1392), (Value.str (Str.ofString "/claim/cut.py") 1393), (Value.int (681) 0), (Value.int (2) 0), (Value.int (0) 0), (Value.int (0) 0), (Value.int (3) 0), (Value.ref 821), (Value.bool true), (Value.int (388) 0), (Value.ref 822), Value.none, (Value.ref 823), (Value.ref 824), (Value.ref 825), (Value.int (1399) 0), (Value.int (681) 0), (Value.str (Str.ofString "/claim/cut.py") 1400)]), #[]⟩ : Obj)) ::
  (nat_lit 827, (⟨(Value.type "function"), none, (fdt (stm 33) (Str.ofString "_law_strewn") Value.none Value.none (Value.str (Str.ofString "law_kl0275_01") 1366) (Value.ref 826)), #[]⟩ : Obj)) ::
  (nat_lit 833, (⟨(Value.type "code"), none, (Data.fields #[(Value.str (Str.ofString "_law_encode") 1402), (Value.str (Str.ofString "_law_encode") 1403), (Value.str (Str.ofString "/claim/cut.py") 1404), (Value.int (688) 0), (Value.int (2) 0), (Value.int (0) 0), (Value.int (0) 0), (Value.int (3) 0), (Value.ref 828), (Value.bool true), (Value.int (388) 0), (Value.ref 829), Value.none, (Value.ref 830), (Value.ref 831), (Value.ref 832), (Value.int (1407) 0), (Value.int (688) 0), (Value.str (Str.ofString "/claim/cut.py") 1408)]), #[]⟩ : Obj)) ::
  (nat_lit 834, (⟨(Value.type "function"), none, (fdt (stm 34) (Str.ofString "_law_encode") Value.none Value.none (Value.str (Str.ofString "law_kl0275_01") 1366) (Value.ref 833)), #[]⟩ : Obj)) ::
  (nat_lit 840, (⟨(Value.type "code"), none, (Data.fields #[(Value.str (Str.ofString "law") 1410), (Value.str (Str.ofString "law") 1411), (Value.str (Str.ofString "/claim/cut.py") 1412), (Value.int (693) 0), (Value.int (1) 0), (Value.int (0) 0), (Value.int (0) 0), (Value.int (3) 0), (Value.ref 835), (Value.bool true), (Value.int (388) 0), (Value.ref 836), Value.none, (Value.ref 837), (Value.ref 838), (Value.ref 839), (Value.int (1431) 0), (Value.int (693) 0), (Value.str (Str.ofString "/claim/cut.py") 1432)]), #[]⟩ : Obj)) ::
  (nat_lit 841, (⟨(Value.type "function"), none, (fdt (stm 35) (Str.ofString "law") Value.none Value.none (Value.str (Str.ofString "law_kl0275_01") 1366) (Value.ref 840)), #[]⟩ : Obj)) ::
  []
noncomputable def KA : List Addr := nat_lit 2 :: nat_lit 3 :: nat_lit 85 :: nat_lit 86 :: nat_lit 92 :: nat_lit 93 :: nat_lit 99 :: nat_lit 100 :: nat_lit 106 :: nat_lit 107 :: nat_lit 108 :: nat_lit 114 :: nat_lit 115 :: nat_lit 116 :: nat_lit 122 :: nat_lit 123 :: nat_lit 124 :: nat_lit 130 :: nat_lit 131 :: nat_lit 137 :: nat_lit 138 :: nat_lit 160 :: nat_lit 166 :: nat_lit 167 :: nat_lit 173 :: nat_lit 174 :: nat_lit 180 :: nat_lit 181 :: nat_lit 195 :: nat_lit 196 :: nat_lit 198 :: nat_lit 199 :: nat_lit 200 :: nat_lit 211 :: nat_lit 217 :: nat_lit 218 :: nat_lit 238 :: nat_lit 239 :: nat_lit 255 :: nat_lit 256 :: nat_lit 298 :: nat_lit 299 :: nat_lit 301 :: nat_lit 302 :: nat_lit 303 :: nat_lit 304 :: nat_lit 316 :: nat_lit 317 :: nat_lit 339 :: nat_lit 345 :: nat_lit 346 :: nat_lit 352 :: nat_lit 353 :: nat_lit 444 :: nat_lit 445 :: nat_lit 541 :: nat_lit 542 :: nat_lit 558 :: nat_lit 559 :: nat_lit 814 :: nat_lit 815 :: nat_lit 819 :: nat_lit 820 :: nat_lit 826 :: nat_lit 827 :: nat_lit 833 :: nat_lit 834 :: nat_lit 840 :: nat_lit 841 :: []
noncomputable def qv : Program := { PG with main := { PG.main with body := [stm 0, stm 1, stm 35] } }
noncomputable def lo : List Str := ["_wall", "PLISTHEADER", "_controlCharPat", "Error", "_ascii_buffer", "_buffer", "_truth", "_B64", "_b64_value", "a2b_base64", "b2a_base64", "_encode_base64", "_decode_base64", "_date_to_string", "_escape", "_DumbXMLWriter", "_PlistWriter", "_whence", "_index", "UnsupportedOperation", "IOBase", "BufferedIOBase", "TextIOBase", "BytesIO", "StringIO", "_law_rows", "_law_page", "_law_strewn", "_law_encode"]
noncomputable def Xv (s : Shared) : Bool := xlAt qv [] s && recOk (RowW.records PySem.Challenge.rw_kl0275_01.row.toRowW) s
noncomputable abbrev lookT (as : List Addr) (h0 : Heap) (S : SharedT) := (okLook PT h0 S, PySem.W.Fast.tw4187177175401517315 qv lo (PySem.W.Fast.tw5923862056798008813 PT.main.body) Xv true S.abs, as.map (seeT S))
noncomputable def Ka (w : World) : List Obj := (KH w.params).map (·.2)
theorem head_eq (w : World) : headRun (PySem.W.Fast.tw10156331382660048174 (PySem.W.Fast.tw11892475500146522536 PySem.W.Fast.tw14364793385576792824) (opening PT) w)
   (PySem.W.Fast.tw10156331382660048174 (PySem.W.Fast.tw11892475500146522536 PySem.W.Fast.tw14364793385576792824) PT w)
   PySem.W.Fast.tw6613529449190102663 PySem.W.Fast.tw3805553451399329143 (PySem.W.Fast.tw14289696077712309145 PT) PySem.W.Fast.tw8920871248978507458
   (startT PT) (PySem.W.Fast.tw1435165496053646825 (opening PT)).2 (topStub PT) 2000 6000 (lookT KA) = some (true, openGood qv lo, (Ka w).map some) := by kernel_rfl
end
section
set_option maxHeartbeats 8000000
theorem left : LeftO PySem.Challenge.pw_kl0275_01 qv lo Xv (fun s => KA.map s.heap.get?) (fun w => (Ka w).map some) 6000 true := by
  have h : LeftO PT qv lo Xv (fun s => KA.map s.heap.get?) (fun w => (Ka w).map some) 6000 true := by
    refine left_of (n := 2000) (m := 6000) (by decide) (by decide) fun w => ?_
    have h := head_eq w
    unfold lookT at h
    rw [← PySem.W.Fast.te10156331382660048174, ← PySem.W.Fast.te11892475500146522536, ← PySem.W.Fast.te14364793385576792824, ← PySem.W.Fast.te6613529449190102663, ← PySem.W.Fast.te3805553451399329143,
      ← PySem.W.Fast.te14289696077712309145, ← PySem.W.Fast.te8920871248978507458, ← PySem.W.Fast.te1435165496053646825, ← PySem.W.Fast.te4187177175401517315, ← PySem.W.Fast.te5923862056798008813] at h
    exact h
  exact h
theorem ka_keys : ∀ P, KA = (KH P).map (·.1) := fun _ => rfl
theorem ka_eq (w : World) : (Ka w).map some = (KH w.params).map fun p => some p.2 := by unfold Ka; rw [List.map_map]; rfl
noncomputable abbrev HK : Hook := kHook KH KA ka_keys
theorem left2 : LeftO PySem.Challenge.rw_kl0275_01.row.toRowW.prog qv lo (fun s => xlAt qv [] s && recOk (RowW.records PySem.Challenge.rw_kl0275_01.row.toRowW) s) (Hook.obs HK) (Hook.val HK) 6000 true := by
  intro w
  have h := left w
  dsimp only at h
  rw [ka_eq] at h
  exact h
-- the looks at the law, one by one, over the library's own twins
theorem bare0 : List.filter (readsOut Challenge.rw_kl0275_01.row.prog Challenge.rw_kl0275_01.row.prog.main.body) [Str.ofString "vars", Str.ofString "dir", Str.ofString "locals"] = [] := by rw [PySem.W.Fast.te13343964577679436407]; decide +kernel
theorem strict0 : (!(importedModules Challenge.rw_kl0275_01.row.prog.main.body).all cThrough.contains) = false := by decide +kernel
set_option maxHeartbeats 0 in
theorem law_said : PySem.Challenge.rw_kl0275_01.wellSaid = true := by
  unfold OpenLaw.wellSaid
  repeat' (with_reducible refine look_both ?_ ?_)
  rotate_right
  all_goals first | (unfold OpenRow.wellSaid; repeat' (with_reducible refine look_both ?_ ?_)) | skip
  all_goals first | (unfold OpenRow.partSaid; repeat' (with_reducible refine look_both ?_ ?_)) | skip
  all_goals first | (unfold looksOpen; repeat' (with_reducible refine look_both ?_ ?_)) | skip
  all_goals ((try rw [bare0]); (try rw [strict0]); (try rw [PySem.W.Fast.te11788848310118352699]); (try rw [PySem.W.Fast.te8377067652309620493]); (try rw [PySem.W.Fast.te17119622794617984870]); (try rw [PySem.W.Fast.te8326940854005059898]); (try rw [PySem.W.Fast.te18344453789297297638]); (try rw [PySem.W.Fast.te13582783067957832011]); (try rw [PySem.W.Fast.te10501279942588096481]); (try rw [PySem.W.Fast.te8179353310426384613]); (try rw [PySem.W.Fast.te9558739934217749035]); (try rw [PySem.W.Fast.te16286561074155671207]); (try rw [PySem.W.Fast.te6984425678791042302]); decide +kernel)
end
section
/-- what a call hands back: a value, the frame and the ledger as they were -/
noncomputable abbrev RetV (h₀ : Heap) (L : Addr) (m : Str → Option Value) (news : List (Addr × Obj)) (s : Shared) (Q : Value → Shared → Prop) (R : Tok → Value) : Prop :=
  ∀ (t : Tok) (h' : Heap) (tk' : Nat), Fr h₀ L h' m → News h₀ L h' news → Q (R t) { s with heap := h', toks := tk' }
/-- a contract: the call of the def at f on vs hands back R -/
noncomputable abbrev Says (w : World) (d u : Nat) (f : Addr) (vs : List Value) (R : Tok → Value) : Prop :=
  ∀ (p : Program) (loose : List Str) (mean : ExcName → Option Value) (mg mb : Str → Option Value)
  (dp un : Nat) (gd : Option (List Code)) (cn : Str) (cs : Scope) (a : Addr) (ccd : Value) (cl : List (Str × Addr)) (outer : List Env) (A₀ : Around) (base h₀ : Heap) (L : Addr) (m : Str → Option Value) (news : List (Addr × Obj)) (s : Shared)
    (Q E : Value → Shared → Prop),
    Below A₀ base outer h₀ → Fr h₀ L s.heap m → (KH w.params).In h₀ → News h₀ L s.heap news → Top p loose mean mg mb h₀ → cs.kind = .function → dp + d < recursionLimit → un + u < cLine →
    RetV h₀ L m news s Q R →
    wpAny (model PySem.Challenge.rw_kl0275_01.prog w) (ktrTop dp un gd cn cs L a ccd cl outer) (call (.ref f) vs) Q E s
theorem Says.use {w : World} {d u : Nat} {f : Addr} {vs : List Value} {R : Tok → Value} (C : Says w d u f vs R) {p : Program} {loose : List Str} {mean : ExcName → Option Value} {mg mb : Str → Option Value}
  {dp un : Nat} {gd : Option (List Code)} {cn : Str} {cs : Scope} {a : Addr} {ccd : Value} {cl : List (Str × Addr)} {outer : List Env} {A₀ : Around} {base h₀ : Heap} {L : Addr} {m : Str → Option Value} {news : List (Addr × Obj)} {s : Shared}
    {Q E : Value → Shared → Prop}
    (B : Below A₀ base outer h₀) (F : Fr h₀ L s.heap m) (X : (KH w.params).In h₀) (N : News h₀ L s.heap news) (T : Top p loose mean mg mb h₀) (hk : cs.kind = .function) (hd : dp + d < recursionLimit) (hu : un + u < cLine)
    (hr : RetV h₀ L m news s Q R) :
    wpAny (model PySem.Challenge.rw_kl0275_01.prog w) (ktrTop dp un gd cn cs L a ccd cl outer) (call (.ref f) vs) Q E s := C _ _ _ _ _ _ _ _ _ _ _ _ _ _ _ _ _ _ _ _ _ _ _ B F X N T hk hd hu hr
end
section
set_option maxHeartbeats 8000000
local macro_rules | `(tactic| walk_at "call type:type") => `(tactic| ((with_reducible show wpAny _ _ (call _ [Value.bytes _ _]) _ _ _); refine call_type_of (Tx := "bytes") rfl (by decide +kernel) ?_))
theorem truth_ok (w : World) (b : Bool) : Says w 1 8 100 [.bool b] (fun _ => .bool b) := by
  unfold Says; cases b <;> (k_fill; intro p loose mean mg mb dp un gd cn cs a ccd cl outer A₀ base h₀ L m news s Q E B F X N T hk hd hu hret; refine wpAny_call ?_;  k_dflt cell_enter; k_steps)
  all_goals exact hret 0 _ _ (by assumption) (by assumption)
theorem buffer_ok (w : World) (b : Array UInt8) (tk : Tok) : Says w 1 8 93 [.bytes b tk] (fun _ => .bytes b tk) := by
  unfold Says; (k_fill; intro p loose mean mg mb dp un gd cn cs a ccd cl outer A₀ base h₀ L m news s Q E B F X N T hk hd hu hret; refine wpAny_call ?_;  k_dflt cell_enter; k_steps)
  all_goals exact hret 0 _ _ (by assumption) (by assumption)
theorem ascii_buffer_ok (w : World) (b : Array UInt8) (tk : Tok) : Says w 1 8 86 [.bytes b tk] (fun _ => .bytes b tk) := by
  unfold Says; (k_fill; intro p loose mean mg mb dp un gd cn cs a ccd cl outer A₀ base h₀ L m news s Q E B F X N T hk hd hu hret; refine wpAny_call ?_;  k_dflt cell_enter; k_steps)
  all_goals exact hret 0 _ _ (by assumption) (by assumption)
end
section
theorem and_shl (m b k : Nat) (h : b < 2 ^ k) : (m * 2 ^ k) &&& b = 0 := by
  apply Nat.eq_of_testBit_eq
  intro i
  rw [Nat.testBit_and, Nat.zero_testBit, Nat.testBit_mul_two_pow]
  by_cases hi : k ≤ i
  · have : b.testBit i = false := Nat.testBit_lt_two_pow (Nat.lt_of_lt_of_le h (Nat.pow_le_pow_right (by decide) hi))
    simp [this]
  · simp [hi]
theorem bitAnd_shl (m b : Int) (k : Nat) (hm : 0 ≤ m) (hb : 0 ≤ b) (h : b < 2 ^ k) : Builtin.bitAnd (m * 2 ^ k) b = 0 := by
  obtain ⟨m, rfl⟩ := Int.eq_ofNat_of_zero_le hm
  obtain ⟨b, rfl⟩ := Int.eq_ofNat_of_zero_le hb
  have h' : b < 2 ^ k := by
    have : ((2 : Int) ^ k) = ((2 ^ k : Nat) : Int) := by simp
    rw [this] at h
    exact_mod_cast h
  unfold Builtin.bitAnd
  have e : ((m : Int) * 2 ^ k) = ((m * 2 ^ k : Nat) : Int) := by simp
  rw [e]
  simp only [Int.natCast_nonneg, decide_true, Int.toNat_natCast]
  rw [and_shl m b k h']; rfl
theorem bitOr_shl (m b : Int) (k : Nat) (hm : 0 ≤ m) (hb : 0 ≤ b) (h : b < 2 ^ k) : Builtin.bitOr (m * 2 ^ k) b = m * 2 ^ k + b := by
  have h1 := bitXor_and (m * 2 ^ k) b
  unfold Builtin.bitXor at h1
  rw [bitAnd_shl m b k hm hb h] at h1
  omega
section
variable {prog : Program} {w : World} {A : Around} {E : Value → Shared → Prop} {s : Shared} {Q : Value → Shared → Prop} {a b : Int} {t u : Tok}
theorem r_or256 (ha : 0 ≤ a) (hb : 0 ≤ b) (h2 : b < 256) (h : Q (.int (a * 256 + b) s.toks) { s with toks := s.toks + 1 }) : wpAny (model prog w) A (binaryOp .BitOr (.int (a * 256) t) (.int b u)) Q E s :=
  or_int (by have := bitOr_shl a b 8 ha hb h2; rw [show a * 256 = a * 2 ^ 8 from rfl, this]; exact h)
theorem r_or4 (ha : 0 ≤ a) (hb : 0 ≤ b) (h2 : b < 4) (h : Q (.int (a * 4 + b) s.toks) { s with toks := s.toks + 1 }) : wpAny (model prog w) A (binaryOp .BitOr (.int (a * 4) t) (.int b u)) Q E s :=
  or_int (by have := bitOr_shl a b 2 ha hb h2; rw [show a * 4 = a * 2 ^ 2 from rfl, this]; exact h)
theorem r_or16 (ha : 0 ≤ a) (hb : 0 ≤ b) (h2 : b < 16) (h : Q (.int (a * 16 + b) s.toks) { s with toks := s.toks + 1 }) : wpAny (model prog w) A (binaryOp .BitOr (.int (a * 16) t) (.int b u)) Q E s :=
  or_int (by have := bitOr_shl a b 4 ha hb h2; rw [show a * 16 = a * 2 ^ 4 from rfl, this]; exact h)
theorem r_or64 (ha : 0 ≤ a) (hb : 0 ≤ b) (h2 : b < 64) (h : Q (.int (a * 64 + b) s.toks) { s with toks := s.toks + 1 }) : wpAny (model prog w) A (binaryOp .BitOr (.int (a * 64) t) (.int b u)) Q E s :=
  or_int (by have := bitOr_shl a b 6 ha hb h2; rw [show a * 64 = a * 2 ^ 6 from rfl, this]; exact h)
theorem r_shl8 (h0 : 0 ≤ a) (h1 : a < 1000000) (h : Q (.int (a * 256) s.toks) { s with toks := s.toks + 1 }) : wpAny (model prog w) A (binaryOp .LShift (.int a t) (.int 8 u)) Q E s :=
  lshift_int_small (by decide) (by decide) (by omega) h
theorem r_shl2 (h0 : 0 ≤ a) (h1 : a < 1000000) (h : Q (.int (a * 4) s.toks) { s with toks := s.toks + 1 }) : wpAny (model prog w) A (binaryOp .LShift (.int a t) (.int 2 u)) Q E s :=
  lshift_int_small (by decide) (by decide) (by omega) h
theorem r_shl4 (h0 : 0 ≤ a) (h1 : a < 1000000) (h : Q (.int (a * 16) s.toks) { s with toks := s.toks + 1 }) : wpAny (model prog w) A (binaryOp .LShift (.int a t) (.int 4 u)) Q E s :=
  lshift_int_small (by decide) (by decide) (by omega) h
theorem r_shl6 (h0 : 0 ≤ a) (h1 : a < 1000000) (h : Q (.int (a * 64) s.toks) { s with toks := s.toks + 1 }) : wpAny (model prog w) A (binaryOp .LShift (.int a t) (.int 6 u)) Q E s :=
  lshift_int_small (by decide) (by decide) (by omega) h
theorem fdiv_pos (a : Int) (n : Nat) (k : Int) (e : (2 : Int) ^ n = k) : a.fdiv (2 ^ n) = a / k := by
  subst e
  rw [Int.fdiv_eq_ediv_of_nonneg _ (Int.le_of_lt (Int.pow_pos (by decide)))]
theorem r_shr2 {n : Int} (e : n = 2) (h : Q (.int (a / 4) s.toks) { s with toks := s.toks + 1 }) : wpAny (model prog w) A (binaryOp .RShift (.int a t) (.int n u)) Q E s := by
  subst e; exact rshift_int (by decide) (by rw [show Int.toNat 2 = 2 from rfl, fdiv_pos a 2 4 rfl]; exact h)
theorem r_shr4 {n : Int} (e : n = 4) (h : Q (.int (a / 16) s.toks) { s with toks := s.toks + 1 }) : wpAny (model prog w) A (binaryOp .RShift (.int a t) (.int n u)) Q E s := by
  subst e; exact rshift_int (by decide) (by rw [show Int.toNat 4 = 4 from rfl, fdiv_pos a 4 16 rfl]; exact h)
theorem r_shr6 {n : Int} (e : n = 6) (h : Q (.int (a / 64) s.toks) { s with toks := s.toks + 1 }) : wpAny (model prog w) A (binaryOp .RShift (.int a t) (.int n u)) Q E s := by
  subst e; exact rshift_int (by decide) (by rw [show Int.toNat 6 = 6 from rfl, fdiv_pos a 6 64 rfl]; exact h)
theorem r_shr0 {n : Int} (e : n = 0) (h : Q (.int a s.toks) { s with toks := s.toks + 1 }) : wpAny (model prog w) A (binaryOp .RShift (.int a t) (.int n u)) Q E s := by
  subst e; exact rshift_int (by decide) (by rw [show Int.toNat 0 = 0 from rfl, fdiv_pos a 0 1 rfl, Int.ediv_one]; exact h)
theorem r_and65535 (h : Q (.int (a % 65536) s.toks) { s with toks := s.toks + 1 }) : wpAny (model prog w) A (binaryOp .BitAnd (.int a t) (.int 65535 u)) Q E s :=
  and_int (by rw [bitAnd_m16]; exact h)
theorem r_and63 (h : Q (.int (a % 64) s.toks) { s with toks := s.toks + 1 }) : wpAny (model prog w) A (binaryOp .BitAnd (.int a t) (.int 63 u)) Q E s :=
  and_int (by rw [bitAnd_m6]; exact h)
theorem r_and15 (h : Q (.int (a % 16) s.toks) { s with toks := s.toks + 1 }) : wpAny (model prog w) A (binaryOp .BitAnd (.int a t) (.int 15 u)) Q E s :=
  and_int (by rw [bitAnd_m4]; exact h)
theorem r_and3 (h : Q (.int (a % 4) s.toks) { s with toks := s.toks + 1 }) : wpAny (model prog w) A (binaryOp .BitAnd (.int a t) (.int 3 u)) Q E s :=
  and_int (by rw [bitAnd_m2]; exact h)
end
noncomputable def B64L : List UInt8 := [65, 66, 67, 68, 69, 70, 71, 72, 73, 74, 75, 76, 77, 78, 79, 80, 81, 82, 83, 84, 85, 86, 87, 88, 89, 90, 97, 98, 99, 100, 101, 102, 103, 104, 105, 106, 107, 108, 109, 110, 111, 112, 113, 114, 115, 116, 117, 118, 119, 120, 121, 122, 48, 49, 50, 51, 52, 53, 54, 55, 56, 57, 43, 47]
/-- the sign of a number below 64 -/
noncomputable def c64 (k : Int) : Int := ((B64L.getD k.toNat 0).toNat : Nat)
section
variable {prog : Program} {w : World} {A : Around} {E : Value → Shared → Prop} {s : Shared} {Q : Value → Shared → Prop} {i : Int} {t u : Tok} {value slice : Expr}
theorem r_b64 (h0 : 0 ≤ i) (h1 : i < 64) (h : Q (.int (c64 i) s.toks) { s with toks := s.toks + 1 })
    (hs : subscripted slice false (.bytes B64L.toArray t) (.int i u) = operate [.bytes B64L.toArray t, .int i u] (getItem (.bytes B64L.toArray t) (.int i u)) := by with_unfolding_all rfl)
    (ht : ∀ r, letTemporaryGo value (.bytes B64L.toArray t) r = pure () := by intro _; with_unfolding_all rfl) : wpAny (model prog w) A (subscriptTail value slice (.bytes B64L.toArray t) (.int i u)) Q E s :=
  bytes_item_K (by decide) h0 h1 rfl h hs ht
end
end
section
theorem c64_lo (k : Int) : 0 ≤ c64 k := by unfold c64; omega
theorem c64_hi (k : Int) : c64 k < 256 := by unfold c64; have := (B64L.getD k.toNat 0).toNat_lt; omega
theorem in_nil : KBa.In [] := fun _ h => nomatch h
theorem in_snoc {l : List Int} {a : Int} (h : KBa.In l) (h0 : 0 ≤ a) (h1 : a < 256) : KBa.In (l ++ [a]) := fun n hn => by
  rcases List.mem_append.mp hn with h' | h'
  · exact h n h'
  · rw [List.mem_singleton.mp h']; exact ⟨h0, h1⟩
theorem in_app {l k : List Int} (h : KBa.In l) (h' : KBa.In k) : KBa.In (l ++ k) := fun n hn => by
  rcases List.mem_append.mp hn with q | q
  · exact h n q
  · exact h' n q
theorem in_cons {l : List Int} {a : Int} (h0 : 0 ≤ a) (h1 : a < 256) (h : KBa.In l) : KBa.In (a :: l) := fun n hn => by
  rcases List.mem_cons.mp hn with rfl | q
  · exact ⟨h0, h1⟩
  · exact h n q
noncomputable def encStep (st : List Int × Int × Int) (n : Int) : List Int × Int × Int :=
  if st.2.1 = 0 then (st.1 ++ [c64 ((st.2.2 * 256 + n) % 65536 / 4 % 64)], 2, (st.2.2 * 256 + n) % 65536)
  else if st.2.1 = 2 then (st.1 ++ [c64 ((st.2.2 * 256 + n) % 65536 / 16 % 64)], 4, (st.2.2 * 256 + n) % 65536)
  else (st.1 ++ [c64 ((st.2.2 * 256 + n) % 65536 / 64 % 64)] ++ [c64 ((st.2.2 * 256 + n) % 65536 % 64)], 0, (st.2.2 * 256 + n) % 65536)
noncomputable def encSt (l : List Int) : List Int × Int × Int := l.foldl encStep ([], 0, 0)
theorem encSt_snoc (l : List Int) (n : Int) : encSt (l ++ [n]) = encStep (encSt l) n := by simp [encSt]
noncomputable def EncInv (pre out : List Int) (lb lc : Int) : Prop := encSt pre = (out, lb, lc) ∧ (lb = 0 ∨ lb = 2 ∨ lb = 4) ∧ 0 ≤ lc ∧ lc < 65536 ∧ out.length ≤ 4 * pre.length ∧ KBa.In out
theorem encInv0 : EncInv [] [] 0 0 := ⟨rfl, .inl rfl, by decide, by decide, by decide, in_nil⟩
theorem encInv_t0 {pre out : List Int} {lc n : Int} (h : encSt pre = (out, 0, lc)) (hl : out.length ≤ 4 * pre.length) (hr : KBa.In out) :
    EncInv (pre ++ [n]) (out ++ [c64 ((lc * 256 + n) % 65536 / 4 % 64)]) (0 + 8 - 6) ((lc * 256 + n) % 65536) :=
  ⟨by rw [encSt_snoc, h]; rfl, .inr (.inl rfl), by omega, by omega, by simp only [List.length_append, List.length_cons, List.length_nil]; omega, in_snoc hr (c64_lo _) (c64_hi _)⟩
theorem encInv_t2 {pre out : List Int} {lc n : Int} (h : encSt pre = (out, 2, lc)) (hl : out.length ≤ 4 * pre.length) (hr : KBa.In out) :
    EncInv (pre ++ [n]) (out ++ [c64 ((lc * 256 + n) % 65536 / 16 % 64)]) (2 + 8 - 6) ((lc * 256 + n) % 65536) :=
  ⟨by rw [encSt_snoc, h]; rfl, .inr (.inr rfl), by omega, by omega, by simp only [List.length_append, List.length_cons, List.length_nil]; omega, in_snoc hr (c64_lo _) (c64_hi _)⟩
theorem encInv_t4 {pre out : List Int} {lc n : Int} (h : encSt pre = (out, 4, lc)) (hl : out.length ≤ 4 * pre.length) (hr : KBa.In out) :
    EncInv (pre ++ [n]) (out ++ [c64 ((lc * 256 + n) % 65536 / 64 % 64)] ++ [c64 ((lc * 256 + n) % 65536 % 64)]) (4 + 8 - 6 - 6) ((lc * 256 + n) % 65536) :=
  ⟨by rw [encSt_snoc, h]; rfl, .inl rfl, by omega, by omega, by simp only [List.length_append, List.length_cons, List.length_nil]; omega, in_snoc (in_snoc hr (c64_lo _) (c64_hi _)) (c64_lo _) (c64_hi _)⟩
/-- what b2a_base64 hands back, newline and all -/
noncomputable def b2aL (ns : List Int) : List Int :=
  if (encSt ns).2.1 = 0 then (encSt ns).1 ++ [10]
  else if (encSt ns).2.1 = 2 then (encSt ns).1 ++ [c64 ((encSt ns).2.2 % 4 * 16)] ++ [61] ++ [61] ++ [10]
  else (encSt ns).1 ++ [c64 ((encSt ns).2.2 % 16 * 4)] ++ [61] ++ [10]
theorem b2a_e0 {ns out : List Int} {lc : Int} (h : encSt ns = (out, 0, lc)) : out ++ [10] = b2aL ns := by unfold b2aL; rw [h]; rfl
theorem b2a_e2 {ns out : List Int} {lc : Int} (h : encSt ns = (out, 2, lc)) : out ++ [c64 (lc % 4 * 16)] ++ [61] ++ [61] ++ [10] = b2aL ns := by unfold b2aL; rw [h]; rfl
theorem b2a_e4 {ns out : List Int} {lc : Int} (h : encSt ns = (out, 4, lc)) : out ++ [c64 (lc % 16 * 4)] ++ [61] ++ [10] = b2aL ns := by unfold b2aL; rw [h]; rfl
end
local macro_rules | `(tactic| size_fits) => `(tactic| ((have hLen9 := IntsAre.length (by assumption)); (try simp only [Array.size_push, List.size_toArray, List.length_append, List.length_cons, List.length_nil, PySem.sizeLine_eq]); omega))
section
set_option maxHeartbeats 8000000
theorem binds_peek {K : Frag} {s : Shared} {fd : FuncData} {args : Args} {binds : List (Str × Value)} (X : K.In s.heap) (e : ∀ S, peek K S (bindArgs fd args) = some binds) : BindsTo s fd args binds :=
  fun _ _ _ _ hq _ _ _ => wp_of_peek X hq _ (e _)
theorem b2a_ok (w : World) (ns : List Int) (tk : Tok) (hin : KBa.In ns) (hlen : ns.length ≤ 4000) : Says w 2 40 123 [.bytes (byteArr ns) tk] (fun t => .bytes (byteArr (b2aL ns)) t) := by
  unfold Says; k_fill; intro p loose mean mg mb dp un gd cn cs a ccd cl outer A₀ base h₀ L m news s Q E B F X N T hk hd hu hret; refine wpAny_call ?_;  k_dflt (refine' code_def (binds := [(Str.ofString "data", .bytes (byteArr ns) tk), (Str.ofString "newline", .bool true)]) ?k1 ?k2 ?k3 ?k4 ?k5 ?kA ?kF ?kK ?k6 ?k7 ?k8 ?k9 ?kB ?_ ?c2 ?c3 ?c4 ?c5; (case kA => exact rfl); (case kF => exact rfl); (case kK => assumption); (case k1 => k_asm); (case k2 => k_asm); (case k3 => k_asm); (case k4 => k_asm); (case k5 => k_asm); (case k6 => k_is); (case k7 => k_is); (case k8 => ktr_room); (case k9 => exact binds_peek (by k_in) (fun _ => by kernel_rfl)); (case c5 => decide); (case kB => exact locs rfl); (case c2 => exact rfl); (case c3 => exact rfl); (case c4 => exact rfl); k_whole; intro g' L' h' FG' F' N' B' X' T'; (try dsimp only); (try k_lift B'); (try k_fold))
  have hI0 : IntsAre ([] : List Value) [] := IntsAre.nil
  (k_with "state" => (first | ((with_reducible rename encSt _ = (_, 4, _) => hq); exact encInv_t4 hq (by assumption) (by assumption)) | ((with_reducible rename encSt _ = (_, 2, _) => hq); exact encInv_t2 hq (by assumption) (by assumption)) | ((with_reducible rename encSt _ = (_, 0, _) => hq); exact encInv_t0 hq (by assumption) (by assumption)) | exact encInv0))
  (k_with "pyIter bytes" => (k_dflt ((k_state EncInv "out" "leftbits" "leftchar"); all_goals ((rename EncInv _ _ _ _ => hI); obtain ⟨hI0, hI1, hI2, hI3, hI4, hI5⟩ := hI; rcases hI1 with rfl | rfl | rfl))))
  repeat' (first | (k_unfold; (try dsimp only)) | ((fail_if_success (with_reducible show Q _ _)); first | (k_end; kc_close) | ((with_reducible show wpAny _ _ (binaryOp Operator.BitAnd (Value.int _ _) (Value.int _ _)) _ _ _); first | with_reducible ((first | ((with_reducible show wpAny _ _ (binaryOp Operator.BitAnd (Value.int _ _) (Value.int 65535 _)) _ _ _); refine r_and65535 ?_) | ((with_reducible show wpAny _ _ (binaryOp Operator.BitAnd (Value.int _ _) (Value.int 63 _)) _ _ _); refine r_and63 ?_) | ((with_reducible show wpAny _ _ (binaryOp Operator.BitAnd (Value.int _ _) (Value.int 15 _)) _ _ _); refine r_and15 ?_) | ((with_reducible show wpAny _ _ (binaryOp Operator.BitAnd (Value.int _ _) (Value.int 3 _)) _ _ _); refine r_and3 ?_)))) | ((with_reducible show wpAny _ _ (binaryOp Operator.BitOr (Value.int _ _) (Value.int _ _)) _ _ _); first | with_reducible ((first | ((with_reducible show wpAny _ _ (binaryOp Operator.BitOr (Value.int (_ * 256) _) (Value.int _ _)) _ _ _); refine r_or256 (by omega) (by omega) (by omega) ?_) | ((with_reducible show wpAny _ _ (binaryOp Operator.BitOr (Value.int (_ * 4) _) (Value.int _ _)) _ _ _); refine r_or4 (by omega) (by omega) (by omega) ?_) | ((with_reducible show wpAny _ _ (binaryOp Operator.BitOr (Value.int (_ * 16) _) (Value.int _ _)) _ _ _); refine r_or16 (by omega) (by omega) (by omega) ?_) | ((with_reducible show wpAny _ _ (binaryOp Operator.BitOr (Value.int (_ * 64) _) (Value.int _ _)) _ _ _); refine r_or64 (by omega) (by omega) (by omega) ?_)))) | ((with_reducible show wpAny _ _ (binaryOp Operator.LShift (Value.int _ _) (Value.int _ _)) _ _ _); first | with_reducible ((first | ((with_reducible show wpAny _ _ (binaryOp Operator.LShift (Value.int _ _) (Value.int 8 _)) _ _ _); refine r_shl8 (by omega) (by omega) ?_) | ((with_reducible show wpAny _ _ (binaryOp Operator.LShift (Value.int _ _) (Value.int 2 _)) _ _ _); refine r_shl2 (by omega) (by omega) ?_) | ((with_reducible show wpAny _ _ (binaryOp Operator.LShift (Value.int _ _) (Value.int 4 _)) _ _ _); refine r_shl4 (by omega) (by omega) ?_) | ((with_reducible show wpAny _ _ (binaryOp Operator.LShift (Value.int _ _) (Value.int 6 _)) _ _ _); refine r_shl6 (by omega) (by omega) ?_)))) | ((with_reducible show wpAny _ _ (binaryOp Operator.RShift (Value.int _ _) (Value.int _ _)) _ _ _); first | with_reducible (((with_reducible show wpAny _ _ (binaryOp Operator.RShift (Value.int _ _) (Value.int _ _)) _ _ _); first | refine r_shr2 (by first | rfl | omega) ?_ | refine r_shr4 (by first | rfl | omega) ?_ | refine r_shr6 (by first | rfl | omega) ?_ | refine r_shr0 (by first | rfl | omega) ?_))) | ((with_reducible show wpAny _ _ (call (Value.ref _) _) _ _ _); first | with_reducible ((k_dflt (first | refine' Says.use (buffer_ok _ _ _) ?k1 ?k2 ?k3 ?k4 ?k5 ?k6 ?k7 ?k8 ?_ | refine' Says.use (truth_ok _ _) ?k1 ?k2 ?k3 ?k4 ?k5 ?k6 ?k7 ?k8 ?_); (((case k1 => k_asm); (case k2 => k_asm); (case k3 => k_asm); (case k4 => k_asm); (case k5 => k_asm); (case k6 => first | exact rfl | assumption); (case k7 => ktr_room); (case k8 => ktr_units); intro t9Zz h9Zz tk9Zz F9Zz N9Zz; (try dsimp only); (try k_fold)))))) | ((with_reducible show wpAny _ _ (call (Value.type "bytes") _) _ _ _); first | with_reducible (((with_reducible show wpAny _ _ (call (Value.type "bytes") [Value.ref _]) _ _ _); (rename News _ _ _ _ => nE'Zz); (try simp only [List.push_toArray] at nE'Zz); k_dflt (refine' KBa.make_K ?kbaF nE'Zz ?kbah ?kbal ?kbai ?kbar ?kban ?_; (case kbaF => k_asm); (case kbah => rfl); (case kbal => exact News.isList nE'Zz (by k_mem)); (case kbai => l_ints); (case kbar => (first | assumption | (((repeat (first | assumption | exact c64_lo _ | exact c64_hi _ | refine in_snoc ?_ ?_ ?_ | omega)))))); (case kban => (simp only [List.length_append, List.length_cons, List.length_nil]; omega))); intro h'Zz t'Zz k'Zz F'Zz N'Zz hIn'Zz))) | ((with_reducible show wpAny _ _ (pyIter (Value.bytes _ _)) _ _ _); first | with_reducible ((k_extra "pyIter bytes"))) | ((with_reducible show wpAny _ _ (subscriptTail _ _ _ _) _ _ _); first | with_reducible (((with_reducible show wpAny _ _ (subscriptTail _ _ (Value.bytes _ _) (Value.int _ _)) _ _ _); k_dflt (refine r_b64 (by omega) (by omega) ?_)))) | walk1 | (dsimp only; first | ((with_reducible show wpAny _ _ (binaryOp Operator.BitAnd (Value.int _ _) (Value.int _ _)) _ _ _); first | with_reducible ((first | ((with_reducible show wpAny _ _ (binaryOp Operator.BitAnd (Value.int _ _) (Value.int 65535 _)) _ _ _); refine r_and65535 ?_) | ((with_reducible show wpAny _ _ (binaryOp Operator.BitAnd (Value.int _ _) (Value.int 63 _)) _ _ _); refine r_and63 ?_) | ((with_reducible show wpAny _ _ (binaryOp Operator.BitAnd (Value.int _ _) (Value.int 15 _)) _ _ _); refine r_and15 ?_) | ((with_reducible show wpAny _ _ (binaryOp Operator.BitAnd (Value.int _ _) (Value.int 3 _)) _ _ _); refine r_and3 ?_)))) | ((with_reducible show wpAny _ _ (binaryOp Operator.BitOr (Value.int _ _) (Value.int _ _)) _ _ _); first | with_reducible ((first | ((with_reducible show wpAny _ _ (binaryOp Operator.BitOr (Value.int (_ * 256) _) (Value.int _ _)) _ _ _); refine r_or256 (by omega) (by omega) (by omega) ?_) | ((with_reducible show wpAny _ _ (binaryOp Operator.BitOr (Value.int (_ * 4) _) (Value.int _ _)) _ _ _); refine r_or4 (by omega) (by omega) (by omega) ?_) | ((with_reducible show wpAny _ _ (binaryOp Operator.BitOr (Value.int (_ * 16) _) (Value.int _ _)) _ _ _); refine r_or16 (by omega) (by omega) (by omega) ?_) | ((with_reducible show wpAny _ _ (binaryOp Operator.BitOr (Value.int (_ * 64) _) (Value.int _ _)) _ _ _); refine r_or64 (by omega) (by omega) (by omega) ?_)))) | ((with_reducible show wpAny _ _ (binaryOp Operator.LShift (Value.int _ _) (Value.int _ _)) _ _ _); first | with_reducible ((first | ((with_reducible show wpAny _ _ (binaryOp Operator.LShift (Value.int _ _) (Value.int 8 _)) _ _ _); refine r_shl8 (by omega) (by omega) ?_) | ((with_reducible show wpAny _ _ (binaryOp Operator.LShift (Value.int _ _) (Value.int 2 _)) _ _ _); refine r_shl2 (by omega) (by omega) ?_) | ((with_reducible show wpAny _ _ (binaryOp Operator.LShift (Value.int _ _) (Value.int 4 _)) _ _ _); refine r_shl4 (by omega) (by omega) ?_) | ((with_reducible show wpAny _ _ (binaryOp Operator.LShift (Value.int _ _) (Value.int 6 _)) _ _ _); refine r_shl6 (by omega) (by omega) ?_)))) | ((with_reducible show wpAny _ _ (binaryOp Operator.RShift (Value.int _ _) (Value.int _ _)) _ _ _); first | with_reducible (((with_reducible show wpAny _ _ (binaryOp Operator.RShift (Value.int _ _) (Value.int _ _)) _ _ _); first | refine r_shr2 (by first | rfl | omega) ?_ | refine r_shr4 (by first | rfl | omega) ?_ | refine r_shr6 (by first | rfl | omega) ?_ | refine r_shr0 (by first | rfl | omega) ?_))) | ((with_reducible show wpAny _ _ (call (Value.ref _) _) _ _ _); first | with_reducible ((k_dflt (first | refine' Says.use (buffer_ok _ _ _) ?k1 ?k2 ?k3 ?k4 ?k5 ?k6 ?k7 ?k8 ?_ | refine' Says.use (truth_ok _ _) ?k1 ?k2 ?k3 ?k4 ?k5 ?k6 ?k7 ?k8 ?_); (((case k1 => k_asm); (case k2 => k_asm); (case k3 => k_asm); (case k4 => k_asm); (case k5 => k_asm); (case k6 => first | exact rfl | assumption); (case k7 => ktr_room); (case k8 => ktr_units); intro t9Zz h9Zz tk9Zz F9Zz N9Zz; (try dsimp only); (try k_fold)))))) | ((with_reducible show wpAny _ _ (call (Value.type "bytes") _) _ _ _); first | with_reducible (((with_reducible show wpAny _ _ (call (Value.type "bytes") [Value.ref _]) _ _ _); (rename News _ _ _ _ => nE'Zz); (try simp only [List.push_toArray] at nE'Zz); k_dflt (refine' KBa.make_K ?kbaF nE'Zz ?kbah ?kbal ?kbai ?kbar ?kban ?_; (case kbaF => k_asm); (case kbah => rfl); (case kbal => exact News.isList nE'Zz (by k_mem)); (case kbai => l_ints); (case kbar => (first | assumption | (((repeat (first | assumption | exact c64_lo _ | exact c64_hi _ | refine in_snoc ?_ ?_ ?_ | omega)))))); (case kban => (simp only [List.length_append, List.length_cons, List.length_nil]; omega))); intro h'Zz t'Zz k'Zz F'Zz N'Zz hIn'Zz))) | ((with_reducible show wpAny _ _ (pyIter (Value.bytes _ _)) _ _ _); first | with_reducible ((k_extra "pyIter bytes"))) | ((with_reducible show wpAny _ _ (subscriptTail _ _ _ _) _ _ _); first | with_reducible (((with_reducible show wpAny _ _ (subscriptTail _ _ (Value.bytes _ _) (Value.int _ _)) _ _ _); k_dflt (refine r_b64 (by omega) (by omega) ?_)))) | walk1) | (leave1; (try dsimp only)) | fail "no step"))
  · rename encSt _ = (_, 0, _) => hq; rw [b2a_e0 hq]; exact hret _ _ _ (by k_asm) (by ((first | k_asm | (refine' cb_drop ?cbN ?cbS; (case cbN => assumption); (case cbS => kcj_all)))))
  · rename encSt _ = (_, 2, _) => hq; rw [b2a_e2 hq]; exact hret _ _ _ (by k_asm) (by ((first | k_asm | (refine' cb_drop ?cbN ?cbS; (case cbN => assumption); (case cbS => kcj_all)))))
  · rename encSt _ = (_, 4, _) => hq; rw [b2a_e4 hq]; exact hret _ _ _ (by k_asm) (by ((first | k_asm | (refine' cb_drop ?cbN ?cbS; (case cbN => assumption); (case cbS => kcj_all)))))
end
section
noncomputable def b64v (c : Int) : Int := if 65 ≤ c ∧ c ≤ 90 then c - 65 else if 97 ≤ c ∧ c ≤ 122 then c - 71 else if 48 ≤ c ∧ c ≤ 57 then c + 4 else if c = 43 then 62 else if c = 47 then 63 else 64
theorem b64v_lo (c : Int) : 0 ≤ b64v c := by unfold b64v; (repeat' split) <;> omega
theorem b64v_hi (c : Int) : b64v c ≤ 64 := by unfold b64v; (repeat' split) <;> omega
/-- the state of a2b_base64 behind a turn: octets, place in the four, what is left over, count of fillings -/
noncomputable def decStep (st : List Int × Int × Int × Int) (c : Int) : List Int × Int × Int × Int :=
  if c = 61 then (st.1, st.2.1, st.2.2.1, st.2.2.2 + 1)
  else if 64 ≤ b64v c then st
  else if st.2.1 = 0 then (st.1, 1, b64v c, 0)
  else if st.2.1 = 1 then (st.1 ++ [st.2.2.1 * 4 + b64v c / 16], 2, b64v c % 16, 0)
  else if st.2.1 = 2 then (st.1 ++ [st.2.2.1 * 16 + b64v c / 4], 3, b64v c % 4, 0)
  else (st.1 ++ [st.2.2.1 * 64 + b64v c], 0, 0, 0)
noncomputable def decSt (l : List Int) : List Int × Int × Int × Int := l.foldl decStep ([], 0, 0, 0)
theorem decSt_snoc (l : List Int) (n : Int) : decSt (l ++ [n]) = decStep (decSt l) n := by simp [decSt]
noncomputable def DecInv (pre out : List Int) (q l p i : Int) : Prop :=
  decSt pre = (out, q, l, p) ∧ i = (pre.length : Int) ∧ 0 ≤ q ∧ q ≤ 3 ∧ 0 ≤ l ∧ l < 64 ∧ (q = 2 → l < 16) ∧ (q = 3 → l < 4) ∧ 0 ≤ p ∧ p ≤ (pre.length : Int) ∧ out.length ≤ pre.length ∧ KBa.In out
theorem decInv0 : DecInv [] [] 0 0 0 0 := ⟨rfl, rfl, by decide, by decide, by decide, by decide, (fun h => by cases h), (fun h => by cases h), by decide, by decide, by decide, in_nil⟩
section
variable {pre out : List Int} {q l p i c : Int}
theorem decInv_pad (h : DecInv pre out q l p i) (hc : c = 61) : DecInv (pre ++ [c]) out q l (p + 1) (i + 1) := by
  obtain ⟨h1, h2, h3, h4, h5, h6, h7, h8, h9, h10, h11, h12⟩ := h
  refine ⟨by rw [decSt_snoc, h1]; unfold decStep; rw [if_pos hc], ?_, h3, h4, h5, h6, h7, h8, by omega, ?_, ?_, h12⟩ <;> simp only [List.length_append, List.length_cons, List.length_nil] <;> omega
theorem decInv_skip (h : DecInv pre out q l p i) (hc : c ≠ 61) (hv : 64 ≤ b64v c) : DecInv (pre ++ [c]) out q l p (i + 1) := by
  obtain ⟨h1, h2, h3, h4, h5, h6, h7, h8, h9, h10, h11, h12⟩ := h
  refine ⟨by rw [decSt_snoc, h1]; unfold decStep; rw [if_neg hc, if_pos hv], ?_, h3, h4, h5, h6, h7, h8, by omega, ?_, ?_, h12⟩ <;> simp only [List.length_append, List.length_cons, List.length_nil] <;> omega
theorem decInv_q0 (h : DecInv pre out q l p i) (hc : c ≠ 61) (hv : ¬ 64 ≤ b64v c) (hq : q = 0) : DecInv (pre ++ [c]) out 1 (b64v c) 0 (i + 1) := by
  obtain ⟨h1, h2, h3, h4, h5, h6, h7, h8, h9, h10, h11, h12⟩ := h
  have := b64v_lo c
  refine ⟨by rw [decSt_snoc, h1]; unfold decStep; rw [if_neg hc, if_neg hv, if_pos hq], ?_, by decide, by decide, this, by omega, (fun h => by omega), (fun h => by omega), by omega, ?_, ?_, h12⟩ <;> simp only [List.length_append, List.length_cons, List.length_nil] <;> omega
theorem decInv_q1 (h : DecInv pre out q l p i) (hc : c ≠ 61) (hv : ¬ 64 ≤ b64v c) (hq : q = 1) : DecInv (pre ++ [c]) (out ++ [l * 4 + b64v c / 16]) 2 (b64v c % 16) 0 (i + 1) := by
  obtain ⟨h1, h2, h3, h4, h5, h6, h7, h8, h9, h10, h11, h12⟩ := h
  have := b64v_lo c
  refine ⟨by rw [decSt_snoc, h1]; unfold decStep; rw [if_neg hc, if_neg hv, if_neg (by show ¬ q = 0; omega), if_pos hq], ?_, by decide, by decide, by omega, by omega, (fun h => by omega), (fun h => by omega), by omega, ?_, ?_, in_snoc h12 (by omega) (by omega)⟩ <;> simp only [List.length_append, List.length_cons, List.length_nil] <;> omega
theorem decInv_q2 (h : DecInv pre out q l p i) (hc : c ≠ 61) (hv : ¬ 64 ≤ b64v c) (hq : q = 2) : DecInv (pre ++ [c]) (out ++ [l * 16 + b64v c / 4]) 3 (b64v c % 4) 0 (i + 1) := by
  obtain ⟨h1, h2, h3, h4, h5, h6, h7, h8, h9, h10, h11, h12⟩ := h
  have := b64v_lo c
  have h7 := h7 hq
  refine ⟨by rw [decSt_snoc, h1]; unfold decStep; rw [if_neg hc, if_neg hv, if_neg (by show ¬ q = 0; omega), if_neg (by show ¬ q = 1; omega), if_pos hq], ?_, by decide, by decide, by omega, by omega, (fun h => by omega), (fun h => by omega), by omega, ?_, ?_, in_snoc h12 (by omega) (by omega)⟩ <;> simp only [List.length_append, List.length_cons, List.length_nil] <;> omega
theorem decInv_q3 (h : DecInv pre out q l p i) (hc : c ≠ 61) (hv : ¬ 64 ≤ b64v c) (h0 : q ≠ 0) (h1' : q ≠ 1) (h2' : q ≠ 2) : DecInv (pre ++ [c]) (out ++ [l * 64 + b64v c]) 0 0 0 (i + 1) := by
  obtain ⟨h1, h2, h3, h4, h5, h6, h7, h8, h9, h10, h11, h12⟩ := h
  have := b64v_lo c
  have h8 := h8 (by omega)
  refine ⟨by rw [decSt_snoc, h1]; unfold decStep; rw [if_neg hc, if_neg hv, if_neg h0, if_neg h1', if_neg h2'], ?_, by decide, by decide, by omega, by omega, (fun h => by omega), (fun h => by omega), by omega, ?_, ?_, in_snoc h12 (by omega) (by omega)⟩ <;> simp only [List.length_append, List.length_cons, List.length_nil] <;> omega
end
section
variable {pre out : List Int} {q l p i c : Int}
theorem decInv_padD (h : DecInv pre out q l p i) (hc : decide (c = 61) = true) : DecInv (pre ++ [c]) out q l (p + 1) (i + 1) := decInv_pad h (of_decide_eq_true hc)
theorem decInv_skipD (h : DecInv pre out q l p i) (hc : decide (c = 61) = false) (hv : decide (64 ≤ b64v c) = true) : DecInv (pre ++ [c]) out q l p (i + 1) := decInv_skip h (of_decide_eq_false hc) (of_decide_eq_true hv)
theorem decInv_q0D (h : DecInv pre out q l p i) (hc : decide (c = 61) = false) (hv : decide (64 ≤ b64v c) = false) (hq : decide (q = 0) = true) : DecInv (pre ++ [c]) out 1 (b64v c) 0 (i + 1) := decInv_q0 h (of_decide_eq_false hc) (of_decide_eq_false hv) (of_decide_eq_true hq)
theorem decInv_q1D (h : DecInv pre out q l p i) (hc : decide (c = 61) = false) (hv : decide (64 ≤ b64v c) = false) (hq : decide (q = 1) = true) : DecInv (pre ++ [c]) (out ++ [l * 4 + b64v c / 16]) 2 (b64v c % 16) 0 (i + 1) := decInv_q1 h (of_decide_eq_false hc) (of_decide_eq_false hv) (of_decide_eq_true hq)
theorem decInv_q2D (h : DecInv pre out q l p i) (hc : decide (c = 61) = false) (hv : decide (64 ≤ b64v c) = false) (hq : decide (q = 2) = true) : DecInv (pre ++ [c]) (out ++ [l * 16 + b64v c / 4]) 3 (b64v c % 4) 0 (i + 1) := decInv_q2 h (of_decide_eq_false hc) (of_decide_eq_false hv) (of_decide_eq_true hq)
theorem decInv_q3D (h : DecInv pre out q l p i) (hc : decide (c = 61) = false) (hv : decide (64 ≤ b64v c) = false) (h0 : decide (q = 0) = false) (h1 : decide (q = 1) = false) (h2 : decide (q = 2) = false) : DecInv (pre ++ [c]) (out ++ [l * 64 + b64v c]) 0 0 0 (i + 1) := decInv_q3 h (of_decide_eq_false hc) (of_decide_eq_false hv) (of_decide_eq_false h0) (of_decide_eq_false h1) (of_decide_eq_false h2)
end
/-- the signs end well -/
noncomputable def DecGood (ns : List Int) : Prop := (decSt ns).2.1 ≠ 1 ∧ ((decSt ns).2.1 = 0 ∨ 4 ≤ (decSt ns).2.1 + (decSt ns).2.2.2)
theorem DecGood.at {ns out : List Int} {q l p : Int} (h : DecGood ns) (e : decSt ns = (out, q, l, p)) : q ≠ 1 ∧ (q = 0 ∨ 4 ≤ q + p) := by unfold DecGood at h; rw [e] at h; exact h
end
section
set_option maxHeartbeats 8000000
theorem b64v_r1 {c : Int} (h1 : decide (65 ≤ c) = true) (h2 : decide (c ≤ 90) = true) : c - 65 = b64v c := by
  simp only [decide_eq_true_eq] at h1 h2; unfold b64v; rw [if_pos ⟨h1, h2⟩]
theorem b64v_r2 {c : Int} (h1 : decide (97 ≤ c) = true) (h2 : decide (c ≤ 122) = true) : c - 71 = b64v c := by
  simp only [decide_eq_true_eq] at h1 h2; unfold b64v; rw [if_neg (by omega), if_pos ⟨h1, h2⟩]
theorem b64v_r3 {c : Int} (h1 : decide (48 ≤ c) = true) (h2 : decide (c ≤ 57) = true) : c + 4 = b64v c := by
  simp only [decide_eq_true_eq] at h1 h2; unfold b64v; rw [if_neg (by omega), if_neg (by omega), if_pos ⟨h1, h2⟩]
theorem b64v_r4 {c : Int} (h : decide (c = 43) = true) : 62 = b64v c := by
  simp only [decide_eq_true_eq] at h; subst h; rfl
theorem b64v_r5 {c : Int} (h : decide (c = 47) = true) : 63 = b64v c := by
  simp only [decide_eq_true_eq] at h; subst h; rfl
theorem b64_value_ok (w : World) (c : Int) (tk : Tok) : Says w 1 8 107 [.int c tk] (fun t => .int (b64v c) t) := by
  unfold Says; k_fill; intro p loose mean mg mb dp un gd cn cs a ccd cl outer A₀ base h₀ L m news s Q E B F X N T hk hd hu hret; refine wpAny_call ?_; k_dflt cell_enter; k_steps
  all_goals ((refine cb_retI (Q := Q) hret ?_ (by assumption) (by assumption)); (clear hret B F N T X hk hd hu); first
    | exact b64v_r1 (by assumption) (by assumption) | exact b64v_r2 (by assumption) (by assumption) | exact b64v_r3 (by assumption) (by assumption) | exact b64v_r4 (by assumption) | exact b64v_r5 (by assumption)
    | ((simp only [decide_eq_true_eq, decide_eq_false_iff_not, Bool.not_eq_true] at *); (unfold b64v; (repeat' split) <;> omega)))
end
section
set_option maxHeartbeats 8000000
theorem b64_use {w : World} {c : Int} {tk : Tok} {p : Program} {loose : List Str} {mean : ExcName → Option Value} {mg mb : Str → Option Value}
  {dp un : Nat} {gd : Option (List Code)} {cn : Str} {cs : Scope} {a : Addr} {ccd : Value} {cl : List (Str × Addr)} {outer : List Env} {A₀ : Around} {base h₀ : Heap} {L : Addr} {m : Str → Option Value} {news : List (Addr × Obj)} {s : Shared}
    {Q E : Value → Shared → Prop}
    (B : Below A₀ base outer h₀) (F : Fr h₀ L s.heap m) (X : (KH w.params).In h₀) (N : News h₀ L s.heap news) (T : Top p loose mean mg mb h₀) (hk : cs.kind = .function) (hd : dp + 1 < recursionLimit) (hu : un + 8 < cLine)
    (hr : 0 ≤ b64v c → b64v c ≤ 64 → RetV h₀ L m news s Q (fun t => .int (b64v c) t)) :
    wpAny (model PySem.Challenge.rw_kl0275_01.prog w) (ktrTop dp un gd cn cs L a ccd cl outer) (call (.ref 107) [.int c tk]) Q E s := Says.use (b64_value_ok w c tk) B F X N T hk hd hu (hr (b64v_lo c) (b64v_hi c))
theorem a2b_ok (w : World) (ns : List Int) (tk : Tok) (hin : KBa.In ns) (hlen : ns.length ≤ 4000) (hgood : DecGood ns) : Says w 2 40 115 [.bytes (byteArr ns) tk] (fun t => .bytes (byteArr (decSt ns).1) t) := by
  unfold Says; k_fill; intro p loose mean mg mb dp un gd cn cs a ccd cl outer A₀ base h₀ L m news s Q E B F X N T hk hd hu hret; refine wpAny_call ?_;  k_dflt (refine' code_def (binds := [(Str.ofString "data", .bytes (byteArr ns) tk), (Str.ofString "strict_mode", .bool false)]) ?k1 ?k2 ?k3 ?k4 ?k5 ?kA ?kF ?kK ?k6 ?k7 ?k8 ?k9 ?kB ?_ ?c2 ?c3 ?c4 ?c5; (case kA => exact rfl); (case kF => exact rfl); (case kK => assumption); (case k1 => k_asm); (case k2 => k_asm); (case k3 => k_asm); (case k4 => k_asm); (case k5 => k_asm); (case k6 => k_is); (case k7 => k_is); (case k8 => ktr_room); (case k9 => exact binds_peek (by k_in) (fun _ => by kernel_rfl)); (case c5 => decide); (case kB => exact locs rfl); (case c2 => exact rfl); (case c3 => exact rfl); (case c4 => exact rfl); k_whole; intro g' L' h' FG' F' N' B' X' T'; (try dsimp only); (try k_lift B'); (try k_fold))
  have hI0 : IntsAre ([] : List Value) [] := IntsAre.nil
  (k_with "state" => (first | ((((rename DecInv _ _ _ _ _ _ => hIZz); first | exact decInv_pad hIZz (by assumption) | exact decInv_skip hIZz (by assumption) (by assumption) | exact decInv_q0 hIZz (by assumption) (by assumption) (by assumption) | exact decInv_q1 hIZz (by assumption) (by assumption) (by assumption) | exact decInv_q2 hIZz (by assumption) (by assumption) (by assumption) | exact decInv_q3 hIZz (by assumption) (by assumption) (by assumption) (by assumption) (by assumption)))) | exact decInv0))
  (k_with "pyIter bytes" => (k_dflt ((k_state DecInv "out" "quad_pos" "leftchar" "pads" "i"); all_goals ((rename DecInv _ _ _ _ _ _ => hI); (have hI' := hI); obtain ⟨hI0, hI1, hI2, hI3, hI4, hI5, hI6, hI7, hI8, hI9, hI10, hI11⟩ := hI'; (try (have hG := DecGood.at hgood hI0; obtain ⟨hG1, hG2⟩ := hG))))))
  repeat' (first | (k_unfold; (try dsimp only)) | ((fail_if_success (with_reducible show Q _ _)); first | (k_end; kc_close) | ((with_reducible show wpAny _ _ (binaryOp Operator.BitAnd (Value.int _ _) (Value.int _ _)) _ _ _); first | with_reducible ((first | ((with_reducible show wpAny _ _ (binaryOp Operator.BitAnd (Value.int _ _) (Value.int 65535 _)) _ _ _); refine r_and65535 ?_) | ((with_reducible show wpAny _ _ (binaryOp Operator.BitAnd (Value.int _ _) (Value.int 63 _)) _ _ _); refine r_and63 ?_) | ((with_reducible show wpAny _ _ (binaryOp Operator.BitAnd (Value.int _ _) (Value.int 15 _)) _ _ _); refine r_and15 ?_) | ((with_reducible show wpAny _ _ (binaryOp Operator.BitAnd (Value.int _ _) (Value.int 3 _)) _ _ _); refine r_and3 ?_)))) | ((with_reducible show wpAny _ _ (binaryOp Operator.BitOr (Value.int _ _) (Value.int _ _)) _ _ _); first | with_reducible ((first | ((with_reducible show wpAny _ _ (binaryOp Operator.BitOr (Value.int (_ * 256) _) (Value.int _ _)) _ _ _); refine r_or256 (by omega) (by omega) (by omega) ?_) | ((with_reducible show wpAny _ _ (binaryOp Operator.BitOr (Value.int (_ * 4) _) (Value.int _ _)) _ _ _); refine r_or4 (by omega) (by omega) (by omega) ?_) | ((with_reducible show wpAny _ _ (binaryOp Operator.BitOr (Value.int (_ * 16) _) (Value.int _ _)) _ _ _); refine r_or16 (by omega) (by omega) (by omega) ?_) | ((with_reducible show wpAny _ _ (binaryOp Operator.BitOr (Value.int (_ * 64) _) (Value.int _ _)) _ _ _); refine r_or64 (by omega) (by omega) (by omega) ?_)))) | ((with_reducible show wpAny _ _ (binaryOp Operator.LShift (Value.int _ _) (Value.int _ _)) _ _ _); first | with_reducible ((first | ((with_reducible show wpAny _ _ (binaryOp Operator.LShift (Value.int _ _) (Value.int 8 _)) _ _ _); refine r_shl8 (by omega) (by omega) ?_) | ((with_reducible show wpAny _ _ (binaryOp Operator.LShift (Value.int _ _) (Value.int 2 _)) _ _ _); refine r_shl2 (by omega) (by omega) ?_) | ((with_reducible show wpAny _ _ (binaryOp Operator.LShift (Value.int _ _) (Value.int 4 _)) _ _ _); refine r_shl4 (by omega) (by omega) ?_) | ((with_reducible show wpAny _ _ (binaryOp Operator.LShift (Value.int _ _) (Value.int 6 _)) _ _ _); refine r_shl6 (by omega) (by omega) ?_)))) | ((with_reducible show wpAny _ _ (binaryOp Operator.RShift (Value.int _ _) (Value.int _ _)) _ _ _); first | with_reducible (((with_reducible show wpAny _ _ (binaryOp Operator.RShift (Value.int _ _) (Value.int _ _)) _ _ _); first | refine r_shr2 (by first | rfl | omega) ?_ | refine r_shr4 (by first | rfl | omega) ?_ | refine r_shr6 (by first | rfl | omega) ?_ | refine r_shr0 (by first | rfl | omega) ?_))) | ((with_reducible show wpAny _ _ (call (Value.ref _) _) _ _ _); first | with_reducible ((k_dflt (first | (refine' b64_use ?k1 ?k2 ?k3 ?k4 ?k5 ?k6 ?k7 ?k8 ?_; (case k1 => k_asm); (case k2 => k_asm); (case k3 => k_asm); (case k4 => k_asm); (case k5 => k_asm); (case k6 => first | exact rfl | assumption); (case k7 => ktr_room); (case k8 => ktr_units); intro hV0Zz hV1Zz t9Zz h9Zz tk9Zz F9Zz N9Zz; (try dsimp only); (try k_fold)) | (refine' Says.use (ascii_buffer_ok _ _ _) ?k1 ?k2 ?k3 ?k4 ?k5 ?k6 ?k7 ?k8 ?_; (((case k1 => k_asm); (case k2 => k_asm); (case k3 => k_asm); (case k4 => k_asm); (case k5 => k_asm); (case k6 => first | exact rfl | assumption); (case k7 => ktr_room); (case k8 => ktr_units); intro t9Zz h9Zz tk9Zz F9Zz N9Zz; (try dsimp only); (try k_fold)))) | (refine' Says.use (truth_ok _ _) ?k1 ?k2 ?k3 ?k4 ?k5 ?k6 ?k7 ?k8 ?_; (((case k1 => k_asm); (case k2 => k_asm); (case k3 => k_asm); (case k4 => k_asm); (case k5 => k_asm); (case k6 => first | exact rfl | assumption); (case k7 => ktr_room); (case k8 => ktr_units); intro t9Zz h9Zz tk9Zz F9Zz N9Zz; (try dsimp only); (try k_fold)))))))) | ((with_reducible show wpAny _ _ (exec (Stmt.Raise (some _) none _) _) _ _ _); first | with_reducible ((exfalso; omega))) | ((with_reducible show wpAny _ _ (pyIter (Value.bytes _ _)) _ _ _); first | with_reducible ((k_extra "pyIter bytes"))) | walk1 | (dsimp only; first | ((with_reducible show wpAny _ _ (binaryOp Operator.BitAnd (Value.int _ _) (Value.int _ _)) _ _ _); first | with_reducible ((first | ((with_reducible show wpAny _ _ (binaryOp Operator.BitAnd (Value.int _ _) (Value.int 65535 _)) _ _ _); refine r_and65535 ?_) | ((with_reducible show wpAny _ _ (binaryOp Operator.BitAnd (Value.int _ _) (Value.int 63 _)) _ _ _); refine r_and63 ?_) | ((with_reducible show wpAny _ _ (binaryOp Operator.BitAnd (Value.int _ _) (Value.int 15 _)) _ _ _); refine r_and15 ?_) | ((with_reducible show wpAny _ _ (binaryOp Operator.BitAnd (Value.int _ _) (Value.int 3 _)) _ _ _); refine r_and3 ?_)))) | ((with_reducible show wpAny _ _ (binaryOp Operator.BitOr (Value.int _ _) (Value.int _ _)) _ _ _); first | with_reducible ((first | ((with_reducible show wpAny _ _ (binaryOp Operator.BitOr (Value.int (_ * 256) _) (Value.int _ _)) _ _ _); refine r_or256 (by omega) (by omega) (by omega) ?_) | ((with_reducible show wpAny _ _ (binaryOp Operator.BitOr (Value.int (_ * 4) _) (Value.int _ _)) _ _ _); refine r_or4 (by omega) (by omega) (by omega) ?_) | ((with_reducible show wpAny _ _ (binaryOp Operator.BitOr (Value.int (_ * 16) _) (Value.int _ _)) _ _ _); refine r_or16 (by omega) (by omega) (by omega) ?_) | ((with_reducible show wpAny _ _ (binaryOp Operator.BitOr (Value.int (_ * 64) _) (Value.int _ _)) _ _ _); refine r_or64 (by omega) (by omega) (by omega) ?_)))) | ((with_reducible show wpAny _ _ (binaryOp Operator.LShift (Value.int _ _) (Value.int _ _)) _ _ _); first | with_reducible ((first | ((with_reducible show wpAny _ _ (binaryOp Operator.LShift (Value.int _ _) (Value.int 8 _)) _ _ _); refine r_shl8 (by omega) (by omega) ?_) | ((with_reducible show wpAny _ _ (binaryOp Operator.LShift (Value.int _ _) (Value.int 2 _)) _ _ _); refine r_shl2 (by omega) (by omega) ?_) | ((with_reducible show wpAny _ _ (binaryOp Operator.LShift (Value.int _ _) (Value.int 4 _)) _ _ _); refine r_shl4 (by omega) (by omega) ?_) | ((with_reducible show wpAny _ _ (binaryOp Operator.LShift (Value.int _ _) (Value.int 6 _)) _ _ _); refine r_shl6 (by omega) (by omega) ?_)))) | ((with_reducible show wpAny _ _ (binaryOp Operator.RShift (Value.int _ _) (Value.int _ _)) _ _ _); first | with_reducible (((with_reducible show wpAny _ _ (binaryOp Operator.RShift (Value.int _ _) (Value.int _ _)) _ _ _); first | refine r_shr2 (by first | rfl | omega) ?_ | refine r_shr4 (by first | rfl | omega) ?_ | refine r_shr6 (by first | rfl | omega) ?_ | refine r_shr0 (by first | rfl | omega) ?_))) | ((with_reducible show wpAny _ _ (call (Value.ref _) _) _ _ _); first | with_reducible ((k_dflt (first | (refine' b64_use ?k1 ?k2 ?k3 ?k4 ?k5 ?k6 ?k7 ?k8 ?_; (case k1 => k_asm); (case k2 => k_asm); (case k3 => k_asm); (case k4 => k_asm); (case k5 => k_asm); (case k6 => first | exact rfl | assumption); (case k7 => ktr_room); (case k8 => ktr_units); intro hV0Zz hV1Zz t9Zz h9Zz tk9Zz F9Zz N9Zz; (try dsimp only); (try k_fold)) | (refine' Says.use (ascii_buffer_ok _ _ _) ?k1 ?k2 ?k3 ?k4 ?k5 ?k6 ?k7 ?k8 ?_; (((case k1 => k_asm); (case k2 => k_asm); (case k3 => k_asm); (case k4 => k_asm); (case k5 => k_asm); (case k6 => first | exact rfl | assumption); (case k7 => ktr_room); (case k8 => ktr_units); intro t9Zz h9Zz tk9Zz F9Zz N9Zz; (try dsimp only); (try k_fold)))) | (refine' Says.use (truth_ok _ _) ?k1 ?k2 ?k3 ?k4 ?k5 ?k6 ?k7 ?k8 ?_; (((case k1 => k_asm); (case k2 => k_asm); (case k3 => k_asm); (case k4 => k_asm); (case k5 => k_asm); (case k6 => first | exact rfl | assumption); (case k7 => ktr_room); (case k8 => ktr_units); intro t9Zz h9Zz tk9Zz F9Zz N9Zz; (try dsimp only); (try k_fold)))))))) | ((with_reducible show wpAny _ _ (exec (Stmt.Raise (some _) none _) _) _ _ _); first | with_reducible ((exfalso; omega))) | ((with_reducible show wpAny _ _ (pyIter (Value.bytes _ _)) _ _ _); first | with_reducible ((k_extra "pyIter bytes"))) | walk1) | (leave1; (try dsimp only)) | fail "no step"))
  all_goals (rename decSt ns = _ => hq)
  all_goals (have hq1 := congrArg Prod.fst hq; dsimp only at hq1; rw [← hq1]; exact hret _ _ _ (by k_asm) (by ((first | k_asm | (refine' cb_drop ?cbN ?cbS; (case cbN => assumption); (case cbS => kcj_all))))))
end
section
open PySem.Builtin PySem.Builtin._codecs
theorem sem_pb {α β : Type} (a : α) (f : α → Sem β) : (pure a >>= f : Sem β) = f a := rfl
theorem encN {id : String} {c : TextCodec} {errors : Option Str} {self : Value} {s : Str} (hg : ∀ x ∈ s.cps.toList, c.bad x = false)
    (hsz : (s.cps.foldl (fun acc y => acc ++ (c.bytesOf y).toArray) #[]).size ≤ sizeLine) :
    encodeNarrow id c errors self s = pure (s.cps.foldl (fun acc y => acc ++ (c.bytesOf y).toArray) #[]) := by
  have hx : ∀ (i : Nat) (h : i < s.cps.size), c.bad s.cps[i] = false := fun i h => hg _ (by simp)
  have hfind : s.cps.findIdx? c.bad = none := by
    rw [Array.findIdx?_eq_none_iff]
    intro x h
    exact hg x (Array.mem_toList_iff.mpr h)
  have hext : s.cps.extract 0 s.cps.size = s.cps := by simp
  have hz : ¬ (0 > sizeLine) := by rw [sizeLine_eq]; decide
  have hsz' : ¬ ((s.cps.foldl (fun acc y => acc ++ (c.bytesOf y).toArray) #[]).size > sizeLine) := Nat.not_lt.mpr hsz
  have hl : s.length = s.cps.size := rfl
  have hend : s.cps[s.cps.size]? = none := by simp
  unfold encodeNarrow
  simp only [Std.Legacy.Range.forIn_eq_forIn_range', Std.Legacy.Range.size, hl, Nat.sub_zero, Nat.div_one, Nat.add_sub_cancel]
  by_cases h0 : s.cps.size = 0
  · have : s.cps = #[] := Array.eq_empty_of_size_eq_zero h0
    rw [this]; rfl
  · have hb := hx 0 (by omega)
    have hg0 : s.cps[0]? = some (s.cps[0]'(by omega)) := by simp
    by_cases h1 : s.cps.size = 1
    · have hr : List.range' 0 s.cps.size = [0] := by rw [h1]; rfl
      simp only [hr, List.forIn_cons, List.forIn_nil, hg0, hb, Array.size_empty, Bool.not_false, if_true, hext, hfind, Option.getD_none, if_neg hz, Nat.zero_add]
      rfl
    · have hr : ∃ r, List.range' 0 s.cps.size = 0 :: 1 :: r := by
        obtain ⟨n, hn⟩ : ∃ n, s.cps.size = n + 2 := ⟨s.cps.size - 2, by omega⟩
        rw [hn]; exact ⟨List.range' 2 n, by simp [List.range'_succ]⟩
      obtain ⟨r, hr⟩ := hr
      simp only [hr, List.forIn_cons, hg0, hb, Array.size_empty, Bool.not_false, if_true, hext, hfind, Option.getD_none, if_neg hz, Nat.zero_add]
      simp only [sem_pb, if_neg hsz', hend]
/-- a text by its codes -/
noncomputable def strArr (ns : List Int) : Str := ⟨(ns.map Int.toNat).toArray⟩
/-- plain ASCII -/
noncomputable def Asc (ns : List Int) : Prop := ∀ n ∈ ns, 0 ≤ n ∧ n < 128
theorem foldl_one (f : Nat → List UInt8) (g : Nat → UInt8) : ∀ (l : List Nat), (∀ x ∈ l, f x = [g x]) → ∀ acc : Array UInt8, l.foldl (fun a y => a ++ (f y).toArray) acc = acc ++ (l.map g).toArray
  | [], _, acc => by simp
  | x :: r, h, acc => by
    rw [List.foldl_cons, foldl_one f g r (fun y hy => h y (.tail _ hy)), h x (.head _)]
    simp
theorem enc_fold (c : TextCodec) (ns : List Int) (h : ∀ n ∈ ns, c.bytesOf n.toNat = [n.toNat.toUInt8]) : (strArr ns).cps.foldl (fun acc y => acc ++ (c.bytesOf y).toArray) #[] = byteArr ns := by
  unfold strArr byteArr
  rw [← Array.foldl_toList, foldl_one c.bytesOf Nat.toUInt8 _ (fun x hx => by
    obtain ⟨n, hn, rfl⟩ := List.mem_map.mp hx
    exact h n hn)]
  simp [Function.comp_def]
theorem encN_utf8 {id : String} {errors : Option Str} {self : Value} {ns : List Int} (ha : Asc ns) (hl : ns.length ≤ 1000000) : encodeNarrow id utf8Codec errors self (strArr ns) = pure (byteArr ns) := by
  have e := enc_fold utf8Codec ns (fun n hn => by have := ha n hn; show Str.utf8Of n.toNat = _; unfold Str.utf8Of; rw [if_pos (by omega)])
  rw [encN (fun x hx => by
    obtain ⟨n, hn, rfl⟩ := List.mem_map.mp (show x ∈ ns.map Int.toNat from hx)
    have := ha n hn
    show (decide (0xD800 ≤ n.toNat) && _) = false
    rw [decide_eq_false (by omega)]; rfl) (by rw [e, byteArr_size, sizeLine_eq]; omega), e]
theorem encN_ascii {id : String} {errors : Option Str} {self : Value} {ns : List Int} (ha : Asc ns) (hl : ns.length ≤ 1000000) : encodeNarrow id asciiCodec errors self (strArr ns) = pure (byteArr ns) := by
  have e := enc_fold asciiCodec ns (fun n hn => rfl)
  rw [encN (fun x hx => by
    obtain ⟨n, hn, rfl⟩ := List.mem_map.mp (show x ∈ ns.map Int.toNat from hx)
    have := ha n hn
    show decide (n.toNat ≥ 128) = false
    rw [decide_eq_false (by omega)]) (by rw [e, byteArr_size, sizeLine_eq]; omega), e]
theorem enc_tree8 (x : Str) (t u : Tok) : «str.encode» ⟨[.str x t, .str (Str.ofString "utf-8") u], []⟩ = (do ret (← (do mkBytes (← encodeNarrow "str.encode" utf8Codec none (.str x t) x)))) := by kernel_rfl
theorem enc_treeA (x : Str) (t u : Tok) : «str.encode» ⟨[.str x t, .str (Str.ofString "ascii") u], []⟩ = (do ret (← (do mkBytes (← encodeNarrow "str.encode" asciiCodec none (.str x t) x)))) := by kernel_rfl
section
variable {prog : Program} {w : World} {A : Around} {E : Value → Shared → Prop} {s : Shared} {t u : Tok} {ns : List Int}
theorem noRefS {x : Str} : ∀ a, Value.str x t = .ref a → ∃ o, s.heap.get? a = some o ∧ o.dict = none := fun _ e => nomatch e
theorem gm_encode {M : Model} {x : Str} {pl : Sem Bool} {Q : Value × List Value → Shared → Prop} (h : Q (.builtin "str.encode", [.str x t]) s) : wpAny M A (getMethod (.str x t) "encode" pl) Q E s := by
  with_reducible exact getMethod_builtin (typeIs_str _ _ _) F.plainAttrs_str F.slot_str_encode F.type_str_encode noRefS h
theorem meets_enc8 (ha : Asc ns) (hl : ns.length ≤ 1000000) : Meets («str.encode» ⟨[.str (strArr ns) t, .str (Str.ofString "utf-8") u], []⟩) (fun _ R s => ∀ t' k, R (.ok (.ret (.bytes (byteArr ns) t'))) { s with toks := k }) := by
  refine .of_wp fun prog w A R s h => ?_
  rw [enc_tree8, encN_utf8 ha hl]
  exact wpAny_bind (wpAny_bind (wpAny_pure (wpAny_mkBytes (wpAny_pure ⟨_, rfl, h _ _⟩) (by rw [byteArr_size, sizeLine_eq]; omega))))
theorem meets_encA (ha : Asc ns) (hl : ns.length ≤ 1000000) : Meets («str.encode» ⟨[.str (strArr ns) t, .str (Str.ofString "ascii") u], []⟩) (fun _ R s => ∀ t' k, R (.ok (.ret (.bytes (byteArr ns) t'))) { s with toks := k }) := by
  refine .of_wp fun prog w A R s h => ?_
  rw [enc_treeA, encN_ascii ha hl]
  exact wpAny_bind (wpAny_bind (wpAny_pure (wpAny_mkBytes (wpAny_pure ⟨_, rfl, h _ _⟩) (by rw [byteArr_size, sizeLine_eq]; omega))))
theorem r_enc8 {Q : Value → Shared → Prop} (ha : Asc ns) (hl : ns.length ≤ 1000000) (h : ∀ t' k, Q (.bytes (byteArr ns) t') { s with toks := k }) : wpAny (model prog w) A (call (.builtin "str.encode") [.str (strArr ns) t, .str (Str.ofString "utf-8") u]) Q E s :=
  call_meets F.slot_str_encode (typeIs_str _ _ _) F.entry_str_encode (F.args_str_encode_2 _ _) (meets_enc8 ha hl) h
theorem r_encA {Q : Value → Shared → Prop} (ha : Asc ns) (hl : ns.length ≤ 1000000) (h : ∀ t' k, Q (.bytes (byteArr ns) t') { s with toks := k }) : wpAny (model prog w) A (call (.builtin "str.encode") [.str (strArr ns) t, .str (Str.ofString "ascii") u]) Q E s :=
  call_meets F.slot_str_encode (typeIs_str _ _ _) F.entry_str_encode (F.args_str_encode_2 _ _) (meets_encA ha hl) h
end
end
section
set_option maxHeartbeats 8000000
theorem in_of_asc {ns : List Int} (h : Asc ns) : KBa.In ns := fun n hn => ⟨(h n hn).1, by have := (h n hn).2; omega⟩
theorem decode_bytes_ok (w : World) (ns : List Int) (tk : Tok) (hin : KBa.In ns) (hlen : ns.length ≤ 4000) (hgood : DecGood ns) : Says w 3 60 138 [.bytes (byteArr ns) tk] (fun t => .bytes (byteArr (decSt ns).1) t) := by
  unfold Says; k_fill; intro p loose mean mg mb dp un gd cn cs a ccd cl outer A₀ base h₀ L m news s Q E B F X N T hk hd hu hret; refine wpAny_call ?_; k_dflt cell_enter
  repeat' (first | (k_unfold; (try dsimp only)) | ((fail_if_success (with_reducible show Q _ _)); first | (k_end; kc_close) | ((with_reducible show wpAny _ _ (call (Value.builtin "str.encode") _) _ _ _); first | with_reducible ((first | ((with_reducible show wpAny _ _ (call (Value.builtin "str.encode") [Value.str _ _, Value.str (PySem.Str.ofString "utf-8") _]) _ _ _); refine r_enc8 (by assumption) (by omega) ?_; intro _ _) | ((with_reducible show wpAny _ _ (call (Value.builtin "str.encode") [Value.str _ _, Value.str (PySem.Str.ofString "ascii") _]) _ _ _); refine r_encA (by assumption) (by omega) ?_; intro _ _)))) | ((with_reducible show wpAny _ _ (call (Value.ref _) _) _ _ _); first | with_reducible ((k_dflt (refine' Says.use (a2b_ok _ _ _ (by assumption) (by assumption) (by assumption)) ?k1 ?k2 ?k3 ?k4 ?k5 ?k6 ?k7 ?k8 ?_; (((case k1 => k_asm); (case k2 => k_asm); (case k3 => k_asm); (case k4 => k_asm); (case k5 => k_asm); (case k6 => first | exact rfl | assumption); (case k7 => ktr_room); (case k8 => ktr_units); intro t9Zz h9Zz tk9Zz F9Zz N9Zz; (try dsimp only); (try k_fold))))))) | with_reducible (((with_reducible refine gm_encode ?_))) | walk1 | (dsimp only; first | ((with_reducible show wpAny _ _ (call (Value.builtin "str.encode") _) _ _ _); first | with_reducible ((first | ((with_reducible show wpAny _ _ (call (Value.builtin "str.encode") [Value.str _ _, Value.str (PySem.Str.ofString "utf-8") _]) _ _ _); refine r_enc8 (by assumption) (by omega) ?_; intro _ _) | ((with_reducible show wpAny _ _ (call (Value.builtin "str.encode") [Value.str _ _, Value.str (PySem.Str.ofString "ascii") _]) _ _ _); refine r_encA (by assumption) (by omega) ?_; intro _ _)))) | ((with_reducible show wpAny _ _ (call (Value.ref _) _) _ _ _); first | with_reducible ((k_dflt (refine' Says.use (a2b_ok _ _ _ (by assumption) (by assumption) (by assumption)) ?k1 ?k2 ?k3 ?k4 ?k5 ?k6 ?k7 ?k8 ?_; (((case k1 => k_asm); (case k2 => k_asm); (case k3 => k_asm); (case k4 => k_asm); (case k5 => k_asm); (case k6 => first | exact rfl | assumption); (case k7 => ktr_room); (case k8 => ktr_units); intro t9Zz h9Zz tk9Zz F9Zz N9Zz; (try dsimp only); (try k_fold))))))) | with_reducible (((with_reducible refine gm_encode ?_))) | walk1) | (leave1; (try dsimp only)) | fail "no step"))
  all_goals exact hret _ _ _ (by k_asm) (by ((first | k_asm | (refine' cb_drop ?cbN ?cbS; (case cbN => assumption); (case cbS => kcj_all)))))
theorem decode_str_ok (w : World) (ns : List Int) (tk : Tok) (hasc : Asc ns) (hlen : ns.length ≤ 4000) (hgood : DecGood ns) : Says w 3 60 138 [.str (strArr ns) tk] (fun t => .bytes (byteArr (decSt ns).1) t) := by
  have hin := in_of_asc hasc
  unfold Says; k_fill; intro p loose mean mg mb dp un gd cn cs a ccd cl outer A₀ base h₀ L m news s Q E B F X N T hk hd hu hret; refine wpAny_call ?_; k_dflt cell_enter
  repeat' (first | (k_unfold; (try dsimp only)) | ((fail_if_success (with_reducible show Q _ _)); first | (k_end; kc_close) | ((with_reducible show wpAny _ _ (call (Value.builtin "str.encode") _) _ _ _); first | with_reducible ((first | ((with_reducible show wpAny _ _ (call (Value.builtin "str.encode") [Value.str _ _, Value.str (PySem.Str.ofString "utf-8") _]) _ _ _); refine r_enc8 (by assumption) (by omega) ?_; intro _ _) | ((with_reducible show wpAny _ _ (call (Value.builtin "str.encode") [Value.str _ _, Value.str (PySem.Str.ofString "ascii") _]) _ _ _); refine r_encA (by assumption) (by omega) ?_; intro _ _)))) | ((with_reducible show wpAny _ _ (call (Value.ref _) _) _ _ _); first | with_reducible ((k_dflt (refine' Says.use (a2b_ok _ _ _ (by assumption) (by assumption) (by assumption)) ?k1 ?k2 ?k3 ?k4 ?k5 ?k6 ?k7 ?k8 ?_; (((case k1 => k_asm); (case k2 => k_asm); (case k3 => k_asm); (case k4 => k_asm); (case k5 => k_asm); (case k6 => first | exact rfl | assumption); (case k7 => ktr_room); (case k8 => ktr_units); intro t9Zz h9Zz tk9Zz F9Zz N9Zz; (try dsimp only); (try k_fold))))))) | with_reducible (((with_reducible refine gm_encode ?_))) | walk1 | (dsimp only; first | ((with_reducible show wpAny _ _ (call (Value.builtin "str.encode") _) _ _ _); first | with_reducible ((first | ((with_reducible show wpAny _ _ (call (Value.builtin "str.encode") [Value.str _ _, Value.str (PySem.Str.ofString "utf-8") _]) _ _ _); refine r_enc8 (by assumption) (by omega) ?_; intro _ _) | ((with_reducible show wpAny _ _ (call (Value.builtin "str.encode") [Value.str _ _, Value.str (PySem.Str.ofString "ascii") _]) _ _ _); refine r_encA (by assumption) (by omega) ?_; intro _ _)))) | ((with_reducible show wpAny _ _ (call (Value.ref _) _) _ _ _); first | with_reducible ((k_dflt (refine' Says.use (a2b_ok _ _ _ (by assumption) (by assumption) (by assumption)) ?k1 ?k2 ?k3 ?k4 ?k5 ?k6 ?k7 ?k8 ?_; (((case k1 => k_asm); (case k2 => k_asm); (case k3 => k_asm); (case k4 => k_asm); (case k5 => k_asm); (case k6 => first | exact rfl | assumption); (case k7 => ktr_room); (case k8 => ktr_units); intro t9Zz h9Zz tk9Zz F9Zz N9Zz; (try dsimp only); (try k_fold))))))) | with_reducible (((with_reducible refine gm_encode ?_))) | walk1) | (leave1; (try dsimp only)) | fail "no step"))
  all_goals exact hret _ _ _ (by k_asm) (by ((first | k_asm | (refine' cb_drop ?cbN ?cbS; (case cbN => assumption); (case cbS => kcj_all)))))
end
section
open Builtin
/-- values that hold bytes -/
noncomputable def BsAre : List Value → List (List Int) → Prop
  | [], [] => True
  | v :: vs, x :: xs => (∃ t, v = .bytes (byteArr x) t) ∧ BsAre vs xs
  | _, _ => False
theorem BsAre.length : ∀ {vs : List Value} {xs : List (List Int)}, BsAre vs xs → vs.length = xs.length
  | [], [], _ => rfl
  | _ :: _, _ :: _, h => congrArg Nat.succ (BsAre.length h.2)
  | [], _ :: _, h => h.elim
  | _ :: _, [], h => h.elim
theorem BsAre.snoc : ∀ {vs : List Value} {xs : List (List Int)} {x : List Int} {t : Tok}, BsAre vs xs → BsAre (vs ++ [.bytes (byteArr x) t]) (xs ++ [x])
  | [], [], _, t, _ => ⟨⟨t, rfl⟩, trivial⟩
  | _ :: _, _ :: _, _, _, h => ⟨h.1, BsAre.snoc h.2⟩
  | [], _ :: _, _, _, h => h.elim
  | _ :: _, [], _, _, h => h.elim
theorem BsAre.at : ∀ {vs : List Value} {xs : List (List Int)} {i : Nat}, BsAre vs xs → i < vs.length → ∃ x t, xs[i]? = some x ∧ vs[i]? = some (.bytes (byteArr x) t)
  | _ :: _, x :: _, 0, h, _ => by obtain ⟨⟨t, rfl⟩, _⟩ := h; exact ⟨x, t, rfl, rfl⟩
  | _ :: vs, _ :: xs, i + 1, h, hi => by
    obtain ⟨x, t, h1, h2⟩ := BsAre.at (i := i) h.2 (by simpa using hi)
    exact ⟨x, t, by simpa using h1, by simpa using h2⟩
  | [], _, _, _, hi => by simp at hi
  | _ :: _, [], _, h, _ => h.elim
theorem slot_bytes_join : Slot "bytes" "join" "bytes.join" :=
  .of (owner := "bytes") (n := "join") (by rw [typeLookup_type, builtinLookup_eq_fast]; kernel_rfl) (by decide +kernel) (by decide +kernel) (by decide +kernel)
    (by first | exact .inl (by decide +kernel) | exact .inr (by decide +kernel)) (by rw [isSubtype_type]; kernel_rfl)
theorem type_bytes_join : typeOf (.builtin "bytes.join") = pure (.type "method_descriptor") := by show builtinType _ = _; rw [builtinType_eq_fast]; kernel_rfl
theorem entry_bytes_join : entryFor table "bytes.join" = some Builtin.«bytes.join» := entryFor_of_tree (by kernel_rfl)
theorem args_bytes_join_2 (a b : Value) : argsOk "bytes.join" ⟨[a, b], []⟩ := by
  unfold argsOk; rw [signature?_of (id := "bytes.join") (n := ['n', 'i', 'o', 'j']) (o := ['s', 'e', 't', 'y', 'b']) (by kernel_rfl) FB.owner_bytes]; kernel_rfl
theorem takeB_eq {id : String} {b : Array UInt8} {t : Tok} : Bytes.takeBuffer? id (.bytes b t) 0 = pure (some (b, none)) := by
  unfold Bytes.takeBuffer?
  rw [KBy.special_eq KBy.look_buffer, KBy.own_buffer]
  rw [show ((0 : Int) == Bytes.fullReadOnly) = false from by decide]
  simp only [KBy.buffer_eq]
  kernel_rfl
theorem takeQ_eq {id : String} {b : Array UInt8} {t : Tok} : Bytes.takeBufferQuiet? id (.bytes b t) 0 = pure (some (b, none)) := by
  unfold Bytes.takeBufferQuiet?
  rw [takeB_eq]
  rfl
section
variable {M : Model} {A : Around} {E : Value → Shared → Prop} {s : Shared}
theorem joinLetGo_ok {Q : Unit → Shared → Prop} : ∀ (taken : List (Value × Option Value)) (keep : List Value), (∀ p ∈ taken, p.2 = none) → Q () s → wpAny M A (Bytes.joinLetGo taken keep) Q E s
  | [], _, _, h => wpAny_pure h
  | (x, w) :: r, keep, hw, h => by
    obtain rfl : w = none := hw (x, w) (.head _)
    unfold Bytes.joinLetGo
    exact wpAny_bind (wpAny_letGo (joinLetGo_ok r keep (fun p hp => hw p (.tail _ hp)) h))
end
theorem joined_nil (ps : List (Array UInt8)) : Bytes.joined #[] ps = ps.foldl (· ++ ·) #[] := by
  unfold Bytes.joined
  have key : ∀ (ps : List (Array UInt8)) (k : Nat) (acc : Array UInt8), (ps.zipIdx k).foldl (fun out (x : Array UInt8 × Nat) => (if x.2 > 0 then out ++ #[] else out) ++ x.1) acc = ps.foldl (· ++ ·) acc := by
    intro ps
    induction ps with
    | nil => intro k acc; rfl
    | cons p r ih => intro k acc; rw [List.zipIdx_cons, List.foldl_cons, List.foldl_cons, ih]; simp
  exact key ps 0 #[]
theorem byteArr_app (a b : List Int) : byteArr (a ++ b) = byteArr a ++ byteArr b := by unfold byteArr; simp
theorem foldl_byteArr (xs : List (List Int)) : ∀ acc : List Int, (xs.map byteArr).foldl (· ++ ·) (byteArr acc) = byteArr (acc ++ xs.flatten) := by
  induction xs with
  | nil => intro acc; simp
  | cons x r ih => intro acc; rw [List.map_cons, List.foldl_cons, ← byteArr_app, ih, List.flatten_cons, List.append_assoc]
theorem joined_byteArr (xs : List (List Int)) : Bytes.joined #[] (xs.map byteArr) = byteArr xs.flatten := by
  rw [joined_nil]; exact foldl_byteArr xs []
theorem foldl_size (xs : List (List Int)) : ∀ n : Nat, (xs.map byteArr).toArray.foldl (· + ·.size) n = n + xs.flatten.length := by
  induction xs with
  | nil => intro n; simp
  | cons x r ih => intro n; have := ih (n + x.length); simp only [List.map_cons, List.size_toArray, List.foldl_toArray', List.foldl_cons, byteArr_size] at this ⊢; rw [this]; simp; omega
set_option maxHeartbeats 1000000 in
theorem meets_join {vs : List Value} {xs : List (List Int)} {t : Tok} {D : Addr} (hv : BsAre vs xs) (hl : xs.flatten.length ≤ 1000000) :
    Meets («bytes.join» ⟨[.bytes #[] t, .ref D], []⟩) (fun _ R s => s.heap.IsList D vs.toArray ∧ ∀ t' k, R (.ok (.ret (.bytes (byteArr xs.flatten) t'))) { s with toks := k }) := by
  refine .of_wp fun prog w A R s hS => ?_
  obtain ⟨⟨o, ho, hc, n, hd⟩, h⟩ := hS
  have hT : s.TypeIs (.ref D) "list" := ⟨o, ho, hc⟩
  show wpAny _ _ (Bytes.joinItems (.ref D) >>= fun seq => _) _ _ s
  refine wpAny_bind ?_
  unfold Bytes.joinItems
  refine wpAny_bind (wpAny_typeOf hT ?_)
  refine wpAny_ite ?_
  rw [if_pos (by decide)]
  refine wpAny_pure ?_
  show wpAny _ _ (seqItems? (.ref D) >>= fun r => _) _ _ s
  refine wpAny_bind (wpAny_seqItems ho hd ?_)
  dsimp only
  refine wpAny_ite ?_
  rw [if_pos (by decide)]
  rcases hcs : vs with _ | ⟨x, _ | ⟨x2, r2⟩⟩
  rotate_left
  · subst hcs
    match xs, hv, hl, h with
    | [y], hv, _, h =>
      obtain ⟨⟨t9, rfl⟩, _⟩ := hv
      refine wpAny_bind (wpAny_typeOf (typeIs_bytes _ _ _) ?_)
      refine wpAny_ite ?_
      rw [if_pos (by decide)]
      refine wpAny_bind (wpAny_rule ?_)
      refine wpAny_pure ⟨_, rfl, ?_⟩
      have h9 := h t9 s.toks
      rw [show [y].flatten = y by simp] at h9
      exact h9
    | [], hv, _, _ => exact hv.elim
    | _ :: _ :: _, hv, _, _ => exact hv.2.elim
  all_goals
    refine wpAny_bind (m := forIn _ _ _) ?_
    rw [← hcs]
    rw [Std.Legacy.Range.forIn_eq_forIn_range']
    simp only [Std.Legacy.Range.size, Nat.sub_zero, Nat.add_sub_cancel, Nat.div_one]
    refine wpAny_forIn_list _ (fun rest b s' => s' = s ∧ ∃ i, rest = List.range' i (vs.length - i) 1 ∧ i ≤ vs.length ∧ b = (((xs.take i).map byteArr).toArray, (vs.take i).map fun v => (v, none))) _ ?_ ?_ _ _ ⟨rfl, 0, by simp, Nat.zero_le _, by simp⟩
    · rintro x rest b s' ⟨rfl, i, hr, hi, rfl⟩
      have hlt : i < vs.length := by
        rcases Nat.lt_or_ge i vs.length with h | h
        · exact h
        · rw [Nat.sub_eq_zero_of_le h] at hr; simp at hr
      obtain ⟨m, hm⟩ : ∃ m, vs.length - i = m + 1 := ⟨vs.length - i - 1, by omega⟩
      rw [hm, List.range'_succ] at hr
      obtain ⟨rfl, rfl⟩ := List.cons.inj hr
      obtain ⟨y, t9, hy, hv9⟩ := hv.at hlt
      refine wpAny_bind (wpAny_seqItems ho hd ?_)
      have e1 : vs.toArray.getD x Value.none = .bytes (byteArr y) t9 := by
        obtain ⟨h1, h2⟩ := List.getElem?_eq_some_iff.mp hv9
        simp [Array.getD, h1, h2]
      dsimp only
      rw [e1]
      have e2 : ((Bytes.Kind.bytes == Bytes.Kind.bytearray) || ((vs.take x).map fun v => (v, (none : Option Value))).any fun x => x.1.onHeap) = false := by
        rw [show (Bytes.Kind.bytes == Bytes.Kind.bytearray) = false from by decide, Bool.false_or, List.any_eq_false]
        intro p hp
        obtain ⟨v, hv8, rfl⟩ := List.mem_map.mp hp
        obtain ⟨j, hj, rfl⟩ := List.getElem_of_mem hv8
        obtain ⟨y8, t8, _, h8⟩ := hv.at (i := j) (by rw [List.length_take] at hj; omega)
        obtain ⟨h6, h7⟩ := List.getElem?_eq_some_iff.mp h8
        rw [List.getElem_take, h7]
        exact Bool.false_ne_true
      rw [e2]
      refine wpAny_ite ?_
      rw [if_neg Bool.false_ne_true]
      refine wpAny_bind (wpAny_holding (wpAny_of_eq takeQ_eq ?_))
      refine wpAny_bind (wpAny_seqItems ho hd ?_)
      refine wpAny_ite ?_
      rw [if_neg (by simp)]
      refine wpAny_pure ?_
      refine ⟨rfl, x + 1, ?_, by omega, ?_⟩
      · congr 1; omega
      · rw [List.take_add_one, List.take_add_one, hy, hv9]
        simp
    · rintro b s' ⟨rfl, i, hr, hi, rfl⟩
      have hge : vs.length - i = 0 := by
        rcases Nat.eq_zero_or_pos (vs.length - i) with h | h
        · exact h
        · obtain ⟨m, hm⟩ : ∃ m, vs.length - i = m + 1 := ⟨vs.length - i - 1, by omega⟩
          rw [hm, List.range'_succ] at hr; cases hr
      rw [List.take_of_length_le (by have := hv.length; omega), List.take_of_length_le (by omega)]
      refine wpAny_bind (wpAny_pure ?_)
      refine wpAny_ite ?_
      rw [if_neg (by
        unfold Bytes.tooLong
        rw [sizeLine_eq]
        have e : (Array.foldl (fun x1 x2 => x1 + x2.size) ((#[] : Array UInt8).size * ((xs.map byteArr).toArray.size - 1)) (xs.map byteArr).toArray) = xs.flatten.length := by
          rw [foldl_size]; simp
        rw [e, decide_eq_false (by omega)]; exact Bool.false_ne_true)]
      dsimp only
      rw [joined_byteArr]
      refine wpAny_bind (wpAny_mkBytes ?_ (by rw [byteArr_size, sizeLine_eq]; omega))
      refine wpAny_bind (wpAny_holding (wpAny_point ?_))
      refine wpAny_bind (joinLetGo_ok _ _ (fun p hp => by obtain ⟨v, _, rfl⟩ := List.mem_map.mp hp; rfl) ?_)
      exact wpAny_pure ⟨_, rfl, h _ _⟩
section
variable {prog : Program} {w : World} {A : Around} {E : Value → Shared → Prop} {s : Shared} {t : Tok}
theorem r_bjoin {Q : Value → Shared → Prop} {vs : List Value} {xs : List (List Int)} {D : Addr} (hD : s.heap.IsList D vs.toArray) (hv : BsAre vs xs) (hl : xs.flatten.length ≤ 1000000) (h : ∀ t' k, Q (.bytes (byteArr xs.flatten) t') { s with toks := k }) :
    wpAny (model prog w) A (call (.builtin "bytes.join") [.bytes #[] t, .ref D]) Q E s :=
  call_meets slot_bytes_join (typeIs_bytes _ _ _) entry_bytes_join (args_bytes_join_2 _ _) (meets_join hv hl) ⟨hD, h⟩
theorem gm_bjoin {M : Model} {b : Array UInt8} {pl : Sem Bool} {Q : Value × List Value → Shared → Prop} (h : Q (.builtin "bytes.join", [.bytes b t]) s) : wpAny M A (getMethod (.bytes b t) "join" pl) Q E s := by
  with_reducible exact KBd.method_of (.bytes b t) (typeIs_bytes _ _ _) slot_bytes_join type_bytes_join KBd.noRef h
end
end
section
section
variable {prog : Program} {w : World} {A : Around} {E : Value → Shared → Prop} {s : Shared} {a b : Int} {t u : Tok} {Q : Value → Shared → Prop}
theorem r_fdiv (h0 : 0 < b) (h1 : b < 1000000) (h : Q (.int (a / b) s.toks) { s with toks := s.toks + 1 }) : wpAny (model prog w) A (binaryOp .FloorDiv (.int a t) (.int b u)) Q E s :=
  floordiv_int (by omega) (by rw [Int.fdiv_eq_ediv_of_nonneg _ (Int.le_of_lt h0)]; exact h) (Or.inl (PyProof.noPylong_small (by omega)))
theorem r_mod (h0 : 0 < b) (h1 : b < 1000000) (h : Q (.int (a % b) s.toks) { s with toks := s.toks + 1 }) : wpAny (model prog w) A (binaryOp .Mod (.int a t) (.int b u)) Q E s :=
  PyProof.Rows.mod_int' (by omega) (by rw [Int.fmod_eq_emod_of_nonneg _ (Int.le_of_lt h0)]; exact h)
theorem r_ifdiv (h0 : 0 < b) (h1 : b < 1000000) (h : Q (.int (a / b) s.toks) { s with toks := s.toks + 1 }) : wpAny (model prog w) A (inplaceOp .FloorDiv (.int a t) (.int b u)) Q E s :=
  ifloordiv_int (by omega) (by rw [Int.fdiv_eq_ediv_of_nonneg _ (Int.le_of_lt h0)]; exact h) (Or.inl (PyProof.noPylong_small (by omega)))
theorem r_cut {w1 sl : PySem.Expr} {h₀ : Heap} {L : Addr} {m : PySem.Str → Option Value} {news : List (Addr × Obj)} {ns : List Int} {i j : Int} {ti tj : Tok} (hF : Fr h₀ L s.heap m) (hN : News h₀ L s.heap news) (h0 : 0 ≤ i) (hj : i ≤ j) (hz : ns.length ≤ 1000000)
    (h : ∀ h' t' k, Fr h₀ L h' m → News h₀ L h' news → Q (.bytes (byteArr ((ns.drop i.toNat).take (j - i).toNat)) t') { s with heap := h', toks := k })
    (hs : subscripted sl false (.bytes (byteArr ns) t) (.ref s.heap.objs.size) = operate [.ref s.heap.objs.size, .bytes (byteArr ns) t] (getItem (.bytes (byteArr ns) t) (.ref s.heap.objs.size)) := by with_unfolding_all rfl)
    (ht : ∀ r, letTemporaryGo w1 (.bytes (byteArr ns) t) r = pure () := by intro _; with_unfolding_all rfl) :
    wpAny (model prog w) A (subscriptTail w1 sl (.bytes (byteArr ns) t) (.ref s.heap.objs.size)) Q E { s with heap := s.heap.push { cls := .type "slice", data := .fields #[.int i ti, .int j tj, .none] } } := by
  have e : KBy.picked (byteArr ns) (some i) (some j) = byteArr ((ns.drop i.toNat).take (j - i).toNat) := by
    rw [KBc.picked_eq]
    obtain ⟨i, rfl⟩ := Int.eq_ofNat_of_zero_le h0
    obtain ⟨j, rfl⟩ := Int.eq_ofNat_of_zero_le (Int.le_trans h0 hj)
    show ((((ns.map fun n => n.toNat.toUInt8).toArray).toList.drop (clipAt (byteArr ns).size i)).take (clipAt (byteArr ns).size j - clipAt (byteArr ns).size i)).toArray = _
    rw [clipAt_nat, clipAt_nat, byteArr_size]
    unfold byteArr
    congr 1
    rw [List.map_take, List.map_drop]
    rw [show ((i : Int)).toNat = i from rfl, show ((j : Int) - (i : Int)).toNat = j - i by omega]
    generalize hl : (ns.map fun n => n.toNat.toUInt8) = l
    have hlen : l.length = ns.length := by rw [← hl, List.length_map]
    rw [← hlen]
    show (l.drop (min i l.length)).take (min j l.length - min i l.length) = (l.drop i).take (j - i)
    rcases Nat.le_total i l.length with q | q
    · rw [Nat.min_eq_left q]
      rcases Nat.le_total j l.length with q2 | q2
      · rw [Nat.min_eq_left q2]
      · rw [Nat.min_eq_right q2, List.take_of_length_le (by rw [List.length_drop]; omega), List.take_of_length_le (by rw [List.length_drop]; omega)]
    · rw [Nat.min_eq_right q, List.drop_of_length_le (Nat.le_refl _), List.drop_of_length_le q]; simp
  refine KBc.slice_K (ks := KBw.bInts (byteArr ns)) (lo := some i) (hi := some j) hF hN rfl (by constructor) (by constructor) (by rw [KBw.ints_length, byteArr_size]; omega) ?_ hs ht
  intro h' t' k F' N' _
  rw [e]
  exact h h' t' k F' N'
end
theorem rsize_nonneg {b c : Int} (hc : 0 < c) : 0 ≤ Builtin.Range.rangeSize 0 b c := by
  unfold Builtin.Range.rangeSize
  rw [if_pos hc]
  split
  · have := Int.ediv_nonneg (a := b - 0 - 1) (b := c) (by omega) (by omega); omega
  · omega
noncomputable def stepN (b c : Int) : Nat := (Builtin.Range.rangeSize 0 b c).toNat
theorem stepN_eq {b c : Int} (hc : 0 < c) : Builtin.Range.rangeSize 0 b c = (stepN b c : Int) := by
  unfold stepN; have := rsize_nonneg (b := b) hc; omega
theorem stepN_lt {b c : Int} (hc : 0 < c) {i : Nat} (h : i < stepN b c) : (i : Int) * c < b := by
  have e := stepN_eq (b := b) hc
  unfold Builtin.Range.rangeSize at e
  rw [if_pos hc] at e
  split at e
  · have h1 : (i : Int) ≤ (b - 0 - 1) / c := by omega
    have h2 := Int.mul_le_of_le_ediv hc h1
    omega
  · omega
theorem step_small {b c : Int} (hb : 0 ≤ b) (hb2 : b < 1000000) (hc : 0 < c) (hc2 : c < 1000000) : Builtin.Range.small 0 b c = true := by
  have h0 := rsize_nonneg (b := b) hc
  have h1 : Builtin.Range.rangeSize 0 b c < 1000001 := by
    unfold Builtin.Range.rangeSize
    rw [if_pos hc]
    split
    · have : (b - 0 - 1) / c ≤ b - 0 - 1 := Int.ediv_le_self _ (by omega)
      omega
    · omega
  unfold Builtin.Range.small
  simp only [Builtin.Range.rangeFitsLong, Bool.and_eq_true, Bool.or_eq_true, decide_eq_true_eq, beq_iff_eq, show c > 0 from hc, if_true]
  omega
noncomputable def stepKs (n : Nat) (c : Int) : List Int := (List.range n).map fun (i : Nat) => (i : Int) * c
theorem stepKs_length (n : Nat) (c : Int) : (stepKs n c).length = n := by simp [stepKs]
section
variable {prog : Program} {w : World} {A : Around} {E : Value → Shared → Prop} {s : Shared} {env : Env} {h₀ : Heap} {x : PySem.Str} {body : List Stmt} {Q : Flow → Shared → Prop}
theorem kst_rangeS {σ : Type} {r : Addr} {b₀ c₁ : Int} {t₀ u₀ v₀ : Tok} {m₀ : PySem.Str → Option Value} (Led : σ → List (Addr × Obj)) (ps : σ → List (PySem.Str × Value)) (Facts : σ → Prop) (stored : List PySem.Str) (P : List Int → σ → Prop) (c₀ : σ)
    (hh : A.handled = none) (hr : IsRange s.heap r 0 b₀ c₁ t₀ u₀ v₀) (hb : 0 ≤ b₀) (hb2 : b₀ < 1000000) (hc : 0 < c₁) (hc2 : c₁ < 1000000) (F : Fr h₀ env.locals s.heap m₀) (N : News h₀ env.locals s.heap (Led c₀)) (hf : Facts c₀) (hk : ∀ p ∈ ps c₀, m₀ p.1 = some p.2) (hp : P [] c₀)
    (turn : ∀ (c : σ) (pre : List Int) (k : Int) t (u : PySem.Str → Option Value) h tk own, k = (pre.length : Int) * c₁ → pre = stepKs pre.length c₁ → 0 ≤ k → k < b₀ → OwnOff own ((Led c₀).map (·.1)) → Facts c → P pre c →
      Fr h₀ env.locals h (fun y => if y = x then some (.int k t) else kstB (fun z => if stored.contains z then u z else m₀ z) (ps c) y) → News h₀ env.locals h (Led c ++ own) →
      wpAny (model prog w) A (execs body env) (InvPostN h₀ env.locals (KstS Led ps Facts x stored m₀ P (pre ++ [k])) own ((Led c₀).map (·.1)) { s with heap := h, toks := tk } Q) E { s with heap := h, toks := tk })
    (done : ∀ (c : σ) (u : PySem.Str → Option Value) h tk, Facts c → P (stepKs (stepN b₀ c₁) c₁) c → Fr h₀ env.locals h (fun y => if y = x then u y else kstB (fun z => if stored.contains z then u z else m₀ z) (ps c) y) → News h₀ env.locals h (Led c) → Q .next { s with heap := h, toks := tk }) :
    wpAny (model prog w) A (pyIter (.ref r)) (fun it s₂ => LoopAtV prog w A h₀ env x body Q E it s₂) E s := by
  have hn := stepN_eq (b := b₀) hc
  generalize hN : stepN b₀ c₁ = n at hn
  refine wpAny_pyIter_range hr (step_small hb hb2 hc hc2) ?_
  have W : Walks prog w A s.heap.objs.size [s.heap.objs.size] [s.heap.objs.size] n (fun i v => i < n ∧ ∃ t, v = .int (0 + i * c₁) t)
      (fun i h => IsRangeIter h s.heap.objs.size (0 + (i : Nat) * c₁) ((n : Int) - (i : Nat)) c₁) := (Walks.range hh _ 0 c₁ n).bound
  refine loop_invN (fun i m nx => KstS Led ps Facts x stored m₀ P ((stepKs n c₁).take i) m nx) W ?_ ?_ ?_ ?_ (by show IsRangeIter _ _ _ _ _; rw [hn]; simpa using Heap.get?_push_size _ rfl) (F.push _) (fun p hp => ⟨Heap.get?_push_of_some _ (N p hp).1, (N p hp).2⟩) ⟨c₀, rfl, hf, hk, fun _ _ _ _ => rfl, by simpa using hp⟩ ?_ ?_
  · intro hm
    exact absurd F.ns.lt ((List.mem_singleton.mp hm) ▸ Nat.lt_irrefl _)
  · intro b hb
    rw [List.mem_singleton.mp hb]
    exact next_is_new F
  · intro p hp hI
    exact absurd (Heap.lt_size (N p hp).1) ((List.mem_singleton.mp hI) ▸ Nat.lt_irrefl _)
  · intro p hp hI
    exact absurd (Heap.lt_size (N p hp).1) ((List.mem_singleton.mp hI) ▸ Nat.lt_irrefl _)
  · rintro i v m₁ nx h tk own hi ⟨_, t, rfl⟩ _ hoff ⟨c, rfl, hf', h1, h2, hp'⟩ F₁ N₁
    have e1 : 0 + (i : Int) * c₁ = (i : Int) * c₁ := by omega
    rw [e1] at F₁
    have hk' : (stepKs n c₁)[i]? = some ((i : Int) * c₁) := by simp [stepKs, hi]
    have hs : (stepKs n c₁).take (i + 1) = (stepKs n c₁).take i ++ [(i : Int) * c₁] := by simp [List.take_add_one, hk']
    have hlen : ((stepKs n c₁).take i).length = i := by rw [List.length_take, stepKs_length]; omega
    have hpre : (stepKs n c₁).take i = stepKs i c₁ := by
      unfold stepKs; rw [← List.map_take, List.take_range, Nat.min_eq_left (by omega)]
    rw [hs]
    exact turn c _ _ t m₁ h tk own (by rw [hlen]) (by rw [hlen]; exact hpre) (Int.mul_nonneg (by omega) (by omega)) (stepN_lt hc (by omega)) hoff hf' hp' (kst_fr h1 h2 F₁) N₁
  · rintro m₁ nx h tk ⟨c, rfl, hf', h1, h2, hp'⟩ F₁ N₁
    have hl : (stepKs n c₁).take n = stepKs n c₁ := List.take_of_length_le (Nat.le_of_eq (stepKs_length _ _))
    rw [hl] at hp'
    exact done c m₁ h tk hf' (hN ▸ hp') (kst_frOut h1 h2 F₁) N₁
end
end
section
theorem encSt_len (l : List Int) : (encSt l).1.length ≤ 4 * l.length := by
  have key : ∀ (l : List Int) (st : List Int × Int × Int), (l.foldl encStep st).1.length ≤ st.1.length + 4 * l.length := by
    intro l
    induction l with
    | nil => intro st; simp
    | cons a r ih =>
      intro st
      rw [List.foldl_cons]
      refine Nat.le_trans (ih _) ?_
      have : (encStep st a).1.length ≤ st.1.length + 4 := by
        unfold encStep
        split
        · simp
        · split
          · simp
          · simp
      simp only [List.length_cons]; omega
  have := key l ([], 0, 0)
  simpa [encSt] using this
theorem b2aL_len (l : List Int) : (b2aL l).length ≤ 4 * l.length + 4 := by
  have := encSt_len l
  unfold b2aL
  split
  · simp only [List.length_append, List.length_cons, List.length_nil]; omega
  · split
    · simp only [List.length_append, List.length_cons, List.length_nil]; omega
    · simp only [List.length_append, List.length_cons, List.length_nil]; omega
noncomputable def cutL (ns : List Int) (m k : Int) : List Int := (ns.drop k.toNat).take m.toNat
theorem cutL_in {ns : List Int} {m k : Int} (h : KBa.In ns) : KBa.In (cutL ns m k) := fun n hn => h n (List.mem_of_mem_drop (List.mem_of_mem_take hn))
theorem cutL_len {ns : List Int} {m k : Int} {j : Nat} (h : ns.length ≤ j) : (cutL ns m k).length ≤ j := by
  unfold cutL; rw [List.length_take, List.length_drop]; omega
/-- the pieces of _encode_base64 -/
noncomputable def encPs (ns : List Int) (m : Int) (ks : List Int) : List (List Int) := ks.map fun k => b2aL (cutL ns m k)
/-- what _encode_base64 hands back -/
noncomputable def encL (ns : List Int) (m : Int) : List Int := (encPs ns m (stepKs (stepN ns.length m) m)).flatten
theorem flat_len {n : Nat} : ∀ (ls : List (List Int)), (∀ l ∈ ls, l.length ≤ n) → ls.flatten.length ≤ ls.length * n
  | [], _ => by simp
  | a :: r, h => by
    have h1 := h a (.head _)
    have h2 := flat_len r fun l hl => h l (.tail _ hl)
    rw [List.flatten_cons, List.length_append, List.length_cons, Nat.add_mul]; omega
theorem stepN_le {b c : Int} (hb : 0 ≤ b) (hc : 0 < c) : (stepN b c : Int) ≤ b := by
  rcases Nat.eq_zero_or_pos (stepN b c) with h | h
  · omega
  · have h1 := stepN_lt (b := b) hc (i := stepN b c - 1) (by omega)
    have h2 : ((stepN b c - 1 : Nat) : Int) * 1 ≤ ((stepN b c - 1 : Nat) : Int) * c := Int.mul_le_mul_of_nonneg_left (by omega) (by omega)
    omega
theorem encL_len {ns : List Int} {m : Int} (hm : 0 < m) (hl : ns.length ≤ 64) : (encL ns m).length ≤ 20000 := by
  unfold encL encPs
  refine Nat.le_trans (flat_len (n := 260) _ ?_) ?_
  · intro l hl'
    obtain ⟨k, _, rfl⟩ := List.mem_map.mp hl'
    refine Nat.le_trans (b2aL_len _) ?_
    have := cutL_len (ns := ns) (m := m) (k := k) hl
    omega
  · rw [List.length_map, stepKs_length]
    have := stepN_le (b := ns.length) (c := m) (by omega) hm
    omega
theorem encPs_snoc {ns pre : List Int} {m k : Int} {vs : List Value} {t : Tok} (h : BsAre vs (encPs ns m pre)) : BsAre (vs ++ [.bytes (byteArr (b2aL (cutL ns m k))) t]) (encPs ns m (pre ++ [k])) := by
  unfold encPs at h ⊢
  rw [List.map_append]
  exact h.snoc
section
variable {prog : Program} {w : World} {A : Around} {E : Value → Shared → Prop} {s : Shared} {t : Tok}
theorem r_cutP {Q : Value → Shared → Prop} {w1 sl : PySem.Expr} {h₀ : Heap} {L : Addr} {m : PySem.Str → Option Value} {news : List (Addr × Obj)} {ns : List Int} {i k : Int} {ti tj : Tok} (hF : Fr h₀ L s.heap m) (hN : News h₀ L s.heap news) (h0 : 0 ≤ i) (hj : 0 ≤ k) (hz : ns.length ≤ 1000000)
    (h : ∀ h' t' j, Fr h₀ L h' m → News h₀ L h' news → Q (.bytes (byteArr (cutL ns k i)) t') { s with heap := h', toks := j })
    (hs : subscripted sl false (.bytes (byteArr ns) t) (.ref s.heap.objs.size) = operate [.ref s.heap.objs.size, .bytes (byteArr ns) t] (getItem (.bytes (byteArr ns) t) (.ref s.heap.objs.size)) := by with_unfolding_all rfl)
    (ht : ∀ r, letTemporaryGo w1 (.bytes (byteArr ns) t) r = pure () := by intro _; with_unfolding_all rfl) :
    wpAny (model prog w) A (subscriptTail w1 sl (.bytes (byteArr ns) t) (.ref s.heap.objs.size)) Q E { s with heap := s.heap.push { cls := .type "slice", data := .fields #[.int i ti, .int (i + k) tj, .none] } } :=
  r_cut hF hN h0 (by omega) hz (by rw [show i + k - i = k by omega]; exact h) hs ht
end
theorem len_lt {n : Nat} {k b c : Int} (hc : 0 < c) (h1 : k = (n : Int) * c) (h2 : k < b) : (n : Int) < b := by
  have : (n : Int) * 1 ≤ (n : Int) * c := Int.mul_le_mul_of_nonneg_left (by omega) (by omega)
  omega
section
variable {prog : Program} {w : World} {A : Around} {E : Value → Shared → Prop} {s : Shared} {env : Env} {h₀ : Heap} {x : PySem.Str} {body : List Stmt} {Q : Flow → Shared → Prop}
/-- a loop over a range with a step whose body appends to one list -/
theorem loop_one {r D : Addr} {nn : Nat} {tl : List (Addr × Obj)} {b₀ c₁ : Int} {t₀ u₀ v₀ : Tok} {m₀ : PySem.Str → Option Value} (stored : List PySem.Str) (P : List Int → List Value → Prop)
    (hh : A.handled = none) (hr : IsRange s.heap r 0 b₀ c₁ t₀ u₀ v₀) (hb : 0 ≤ b₀) (hb2 : b₀ < 1000000) (hc : 0 < c₁) (hc2 : c₁ < 1000000) (F : Fr h₀ env.locals s.heap m₀) (N : News h₀ env.locals s.heap ((D, listOf #[] nn) :: tl)) (hp : P [] [])
    (turn : ∀ (vs : List Value) (n₁ : Nat) (pre : List Int) (k : Int) t (u : PySem.Str → Option Value) h tk own, k = (pre.length : Int) * c₁ → (pre.length : Int) < b₀ → 0 ≤ k → k < b₀ → OwnOff own (D :: tl.map (·.1)) → P pre vs → KstMark →
      Fr h₀ env.locals h (fun y => if y = x then some (.int k t) else if stored.contains y then u y else m₀ y) → News h₀ env.locals h ((D, listOf vs.toArray n₁) :: tl ++ own) →
      wpAny (model prog w) A (execs body env) (InvPostN h₀ env.locals (KstS (fun c : List Value × Nat => (D, listOf c.1.toArray c.2) :: tl) (fun _ => []) (fun _ => True) x stored m₀ (fun pre c => P pre c.1) (pre ++ [k])) own (D :: tl.map (·.1)) { s with heap := h, toks := tk } Q) E { s with heap := h, toks := tk })
    (done : ∀ (vs : List Value) (n₁ : Nat) (u : PySem.Str → Option Value) h tk, P (stepKs (stepN b₀ c₁) c₁) vs → KstMark → Fr h₀ env.locals h (fun y => if y = x then u y else if stored.contains y then u y else m₀ y) → News h₀ env.locals h ((D, listOf vs.toArray n₁) :: tl) → Q .next { s with heap := h, toks := tk }) :
    wpAny (model prog w) A (pyIter (.ref r)) (fun it s₂ => LoopAtV prog w A h₀ env x body Q E it s₂) E s :=
  kst_rangeS (fun c : List Value × Nat => (D, listOf c.1.toArray c.2) :: tl) (fun _ => []) (fun _ => True) stored (fun pre c => P pre c.1) ([], nn) hh hr hb hb2 hc hc2 F N trivial (fun _ h => nomatch h) hp
    (fun c pre k t u h tk own h1 h2 h3 h4 h5 _ h6 h7 h8 => turn c.1 c.2 pre k t u h tk own h1 (len_lt hc h1 h4) h3 h4 h5 h6 kstMark h7 h8)
    (fun c u h tk _ h1 h2 h3 => done c.1 c.2 u h tk h1 kstMark h2 h3)
end
end
section
set_option maxHeartbeats 8000000
theorem encode_ok (w : World) (ns : List Int) (tk tk' : Tok) (k : Int) (hin : KBa.In ns) (hlen : ns.length ≤ 64) (hk1 : 4 ≤ k) (hk2 : k ≤ 100) : Says w 3 80 131 [.bytes (byteArr ns) tk, .int k tk'] (fun t => .bytes (byteArr (encL ns (k / 4 * 3))) t) := by
  unfold Says; k_fill; intro p loose mean mg mb dp un gd cn cs a ccd cl outer A₀ base h₀ L m news s Q E B F X N T hk hd hu hret; refine wpAny_call ?_; k_dflt (refine' code_def (binds := [(Str.ofString "s", .bytes (byteArr ns) tk), (Str.ofString "maxlinelength", .int k tk')]) ?k1 ?k2 ?k3 ?k4 ?k5 ?kA ?kF ?kK ?k6 ?k7 ?k8 ?k9 ?kB ?_ ?c2 ?c3 ?c4 ?c5; (case kA => exact rfl); (case kF => exact rfl); (case kK => assumption); (case k1 => k_asm); (case k2 => k_asm); (case k3 => k_asm); (case k4 => k_asm); (case k5 => k_asm); (case k6 => k_is); (case k7 => k_is); (case k8 => ktr_room); (case k9 => exact binds_peek (by k_in) (fun _ => by kernel_rfl)); (case c5 => decide); (case kB => exact locs rfl); (case c2 => exact rfl); (case c3 => exact rfl); (case c4 => exact rfl); k_whole; intro g' L' h' FG' F' N' B' X' T'; (try dsimp only); (try k_lift B'); (try k_fold))
  have hI0 : IntsAre ([] : List Value) [] := IntsAre.nil
  have hk3 : 0 < k / 4 * 3 := by omega
  have hk4 : k / 4 * 3 < 1000 := by omega
  (k_with "state" => exact encPs_snoc (by assumption))
  (k_with "pyIter ref" => (k_dflt ((rename Fr _ _ _ _ => lF'); (rename News _ _ _ _ => lN'); (rename IsRange _ _ _ _ _ _ _ _ => rgX); (refine loop_one [Str.ofString "chunk"] (fun pre vs => BsAre vs (encPs ns (k / 4 * 3) pre)) (by rfl) rgX (by omega) (by omega) (by omega) (by omega) lF' lN' (by exact trivial) ?_ ?_); (intro vs n₁ pre k1 t1 u1 h1 tk1 own hk9 hpre h0k hkb hoff hP hmark hF hN); (have hvl := hP.length); (simp only [encPs, List.length_map] at hvl); (try simp only [List.nil_append, List.cons_append, List.append_nil] at hN); rotate_left; (intro vs n₁ u1 h1 tk1 hP hmark hF hN); all_goals (clear lF' lN'))))
  repeat' (first | (k_unfold; (try dsimp only)) | ((fail_if_success (with_reducible show Q _ _)); first | (k_end; kc_close) | ((with_reducible show wpAny _ _ (binaryOp Operator.FloorDiv (Value.int _ _) (Value.int _ _)) _ _ _); first | with_reducible (((with_reducible show wpAny _ _ (binaryOp Operator.FloorDiv (Value.int _ _) (Value.int _ _)) _ _ _); refine r_fdiv (by omega) (by omega) ?_))) | ((with_reducible show wpAny _ _ (call (Value.builtin "bytes.join") _) _ _ _); first | with_reducible (((rename News _ _ _ _ => nE'Zz); (try simp only [List.push_toArray] at nE'Zz); k_dflt (refine r_bjoin (News.isList nE'Zz (by k_mem)) (by assumption) (Nat.le_trans (encL_len (by omega) (by omega)) (by decide)) ?_); intro _ _))) | ((with_reducible show wpAny _ _ (call (Value.ref _) _) _ _ _); first | with_reducible ((k_dflt (refine' Says.use (b2a_ok _ _ _ (cutL_in (by assumption)) (cutL_len (by omega))) ?k1 ?k2 ?k3 ?k4 ?k5 ?k6 ?k7 ?k8 ?_; (((case k1 => k_asm); (case k2 => k_asm); (case k3 => k_asm); (case k4 => k_asm); (case k5 => k_asm); (case k6 => first | exact rfl | assumption); (case k7 => ktr_room); (case k8 => ktr_units); intro t9Zz h9Zz tk9Zz F9Zz N9Zz; (try dsimp only); (try k_fold))))))) | ((with_reducible show wpAny _ _ (call (Value.type "range") _) _ _ _); first | with_reducible (((with_reducible show wpAny _ _ (call (Value.type "range") [Value.int _ _, Value.int _ _, Value.int _ _]) _ _ _); (rename Fr _ _ _ _ => F'Zz); (rename News _ _ _ _ => N'Zz); (refine range3_rows F'Zz N'Zz (by omega) ?_ (Or.inl (PyProof.noPylong_small (by omega)))); intro _ _ _ _ _ rgXZz _ _ _))) | with_reducible (((with_reducible refine gm_bjoin ?_))) | ((with_reducible show wpAny _ _ (pyIter (Value.ref _)) _ _ _); first | with_reducible ((k_extra "pyIter ref"))) | ((with_reducible show wpAny _ _ (subscriptTail _ _ _ _) _ _ _); first | with_reducible (((with_reducible show wpAny _ _ (subscriptTail _ (Expr.Slice _ _ none _) (Value.bytes (byteArr _) _) (Value.ref _)) _ _ _); (rename Fr _ _ _ _ => F'Zz); (rename News _ _ _ _ => N'Zz); (refine r_cutP (s := ⟨_, _, _, _, _⟩) F'Zz N'Zz (by omega) (by omega) (by omega) ?_); intro _ _ _ _ _)) | with_reducible (((with_reducible show wpAny _ _ (subscriptTail _ _ (Value.bytes _ _) (Value.int _ _)) _ _ _); k_dflt (refine r_b64 (by omega) (by omega) ?_)))) | walk1 | (dsimp only; first | ((with_reducible show wpAny _ _ (binaryOp Operator.FloorDiv (Value.int _ _) (Value.int _ _)) _ _ _); first | with_reducible (((with_reducible show wpAny _ _ (binaryOp Operator.FloorDiv (Value.int _ _) (Value.int _ _)) _ _ _); refine r_fdiv (by omega) (by omega) ?_))) | ((with_reducible show wpAny _ _ (call (Value.builtin "bytes.join") _) _ _ _); first | with_reducible (((rename News _ _ _ _ => nE'Zz); (try simp only [List.push_toArray] at nE'Zz); k_dflt (refine r_bjoin (News.isList nE'Zz (by k_mem)) (by assumption) (Nat.le_trans (encL_len (by omega) (by omega)) (by decide)) ?_); intro _ _))) | ((with_reducible show wpAny _ _ (call (Value.ref _) _) _ _ _); first | with_reducible ((k_dflt (refine' Says.use (b2a_ok _ _ _ (cutL_in (by assumption)) (cutL_len (by omega))) ?k1 ?k2 ?k3 ?k4 ?k5 ?k6 ?k7 ?k8 ?_; (((case k1 => k_asm); (case k2 => k_asm); (case k3 => k_asm); (case k4 => k_asm); (case k5 => k_asm); (case k6 => first | exact rfl | assumption); (case k7 => ktr_room); (case k8 => ktr_units); intro t9Zz h9Zz tk9Zz F9Zz N9Zz; (try dsimp only); (try k_fold))))))) | ((with_reducible show wpAny _ _ (call (Value.type "range") _) _ _ _); first | with_reducible (((with_reducible show wpAny _ _ (call (Value.type "range") [Value.int _ _, Value.int _ _, Value.int _ _]) _ _ _); (rename Fr _ _ _ _ => F'Zz); (rename News _ _ _ _ => N'Zz); (refine range3_rows F'Zz N'Zz (by omega) ?_ (Or.inl (PyProof.noPylong_small (by omega)))); intro _ _ _ _ _ rgXZz _ _ _))) | with_reducible (((with_reducible refine gm_bjoin ?_))) | ((with_reducible show wpAny _ _ (pyIter (Value.ref _)) _ _ _); first | with_reducible ((k_extra "pyIter ref"))) | ((with_reducible show wpAny _ _ (subscriptTail _ _ _ _) _ _ _); first | with_reducible (((with_reducible show wpAny _ _ (subscriptTail _ (Expr.Slice _ _ none _) (Value.bytes (byteArr _) _) (Value.ref _)) _ _ _); (rename Fr _ _ _ _ => F'Zz); (rename News _ _ _ _ => N'Zz); (refine r_cutP (s := ⟨_, _, _, _, _⟩) F'Zz N'Zz (by omega) (by omega) (by omega) ?_); intro _ _ _ _ _)) | with_reducible (((with_reducible show wpAny _ _ (subscriptTail _ _ (Value.bytes _ _) (Value.int _ _)) _ _ _); k_dflt (refine r_b64 (by omega) (by omega) ?_)))) | walk1) | (leave1; (try dsimp only)) | fail "no step"))
  exact hret _ _ _ (by k_asm) (by ((first | k_asm | (refine' cb_drop ?cbN ?cbS; (case cbN => assumption); (case cbS => kcj_all)))))
end
section
set_option maxHeartbeats 8000000
theorem lawenc_ok (w : World) (ns : List Int) (tk tk' : Tok) (k : Int) (hin : KBa.In ns) (hlen : ns.length ≤ 64) (hk1 : 4 ≤ k) (hk2 : k ≤ 100) : Says w 4 120 834 [.bytes (byteArr ns) tk, .int k tk'] (fun t => .bytes (byteArr (encL ns (k / 4 * 3))) t) := by
  unfold Says; k_fill; intro p loose mean mg mb dp un gd cn cs a ccd cl outer A₀ base h₀ L m news s Q E B F X N T hk hd hu hret; refine wpAny_call ?_; k_dflt cell_enter
  have hI0 : IntsAre ([] : List Value) [] := IntsAre.nil
  repeat' (first | (k_unfold; (try dsimp only)) | ((fail_if_success (with_reducible show Q _ _)); first | (k_end; kc_close) | ((with_reducible show wpAny _ _ (call (Value.ref _) _) _ _ _); first | with_reducible ((k_dflt (refine' Says.use (encode_ok _ _ _ _ _ (by assumption) (by assumption) (by assumption) (by assumption)) ?k1 ?k2 ?k3 ?k4 ?k5 ?k6 ?k7 ?k8 ?_; (((case k1 => k_asm); (case k2 => k_asm); (case k3 => k_asm); (case k4 => k_asm); (case k5 => k_asm); (case k6 => first | exact rfl | assumption); (case k7 => ktr_room); (case k8 => ktr_units); intro t9Zz h9Zz tk9Zz F9Zz N9Zz; (try dsimp only); (try k_fold))))))) | walk1 | (dsimp only; first | ((with_reducible show wpAny _ _ (call (Value.ref _) _) _ _ _); first | with_reducible ((k_dflt (refine' Says.use (encode_ok _ _ _ _ _ (by assumption) (by assumption) (by assumption) (by assumption)) ?k1 ?k2 ?k3 ?k4 ?k5 ?k6 ?k7 ?k8 ?_; (((case k1 => k_asm); (case k2 => k_asm); (case k3 => k_asm); (case k4 => k_asm); (case k5 => k_asm); (case k6 => first | exact rfl | assumption); (case k7 => ktr_room); (case k8 => ktr_units); intro t9Zz h9Zz tk9Zz F9Zz N9Zz; (try dsimp only); (try k_fold))))))) | walk1) | (leave1; (try dsimp only)) | fail "no step"))
  exact hret _ _ _ (by k_asm) (by ((first | k_asm | (refine' cb_drop ?cbN ?cbS; (case cbN => assumption); (case cbS => kcj_all)))))
end
section
open Builtin
section
variable {prog : Program} {w : World}
theorem range_new_0 (a b : Int) (t u v : Tok) :
    MeetsIn prog w (Builtin.«range.__new__» ⟨[.type "range", .int a t, .int b u, .int 0 v], []⟩) (raisesNew "ValueError") :=
  .of_wp fun A R s h => by
    have hsub := F.called_range.sub
    obtain ⟨hp, g, d, tk, os⟩ := s
    wp_walk
    exact wpAny_raiseErrorWords plainExc_ValueError h.1 h.2
theorem call_range_0 {A : Around} {E : Value → Shared → Prop} {s : Shared} {a b : Int} {t u v : Tok} {Q : Value → Shared → Prop} (hh : A.handled = none) (h : ∀ h' tk e, Heap.NewExc s.heap h' e "ValueError" → E (.ref e) { s with heap := h', toks := tk }) :
    wpAny (model prog w) A (call (.type "range") [.int a t, .int b u, .int 0 v]) Q E s :=
  callType_newIn F.called_range (by decide) (F.typeCall_range_3 _ _ _) (F.newCall_range_3 _ _ _) (fun obj => F.initArgs_range_3 obj _ _ _) F.entry_range_new
    (range_new_0 a b t u v) ⟨hh, h⟩
theorem call_range_z {A : Around} {E : Value → Shared → Prop} {s : Shared} {a b c : Int} {t u v : Tok} {Q : Value → Shared → Prop} (hc : c = 0) (hh : A.handled = none) (h : ∀ h' tk e, Heap.NewExc s.heap h' e "ValueError" → E (.ref e) { s with heap := h', toks := tk }) :
    wpAny (model prog w) A (call (.type "range") [.int a t, .int b u, .int c v]) Q E s := by subst hc; exact call_range_0 hh h
end
section
variable {prog : Program} {w : World} {A : Around} {E : Value → Shared → Prop} {s : Shared} {env : Env} {h₀ : Heap} {x : PySem.Str} {body : List Stmt} {Q : Flow → Shared → Prop}
/-- a loop over a range with a negative step and nothing in it -/
theorem loop_none {r : Addr} {news : List (Addr × Obj)} {b₀ c₁ : Int} {t₀ u₀ v₀ : Tok} {m₀ : PySem.Str → Option Value}
    (hh : A.handled = none) (hr : IsRange s.heap r 0 b₀ c₁ t₀ u₀ v₀) (hb : 0 ≤ b₀) (hb2 : b₀ < 1000000) (hc : c₁ < 0) (hc2 : -1000000 < c₁) (F : Fr h₀ env.locals s.heap m₀) (N : News h₀ env.locals s.heap news)
    (done : ∀ (u : PySem.Str → Option Value) h tk, KstMark → Fr h₀ env.locals h (fun y => if y = x then u y else m₀ y) → News h₀ env.locals h news → Q .next { s with heap := h, toks := tk }) :
    wpAny (model prog w) A (pyIter (.ref r)) (fun it s₂ => LoopAtV prog w A h₀ env x body Q E it s₂) E s := by
  have hn : Builtin.Range.rangeSize 0 b₀ c₁ = ((0 : Nat) : Int) := by
    unfold Builtin.Range.rangeSize
    rw [if_neg (by omega), if_neg (by omega)]; rfl
  have hsm : Builtin.Range.small 0 b₀ c₁ = true := by
    unfold Builtin.Range.small
    rw [hn]
    simp only [Builtin.Range.rangeFitsLong, Bool.and_eq_true, Bool.or_eq_true, decide_eq_true_eq, beq_iff_eq]
    omega
  refine wpAny_pyIter_range hr hsm ?_
  have W : Walks prog w A s.heap.objs.size [s.heap.objs.size] [s.heap.objs.size] 0 (fun i v => i < 0 ∧ ∃ t, v = .int (0 + i * c₁) t)
      (fun i h => IsRangeIter h s.heap.objs.size (0 + (i : Nat) * c₁) (((0 : Nat) : Int) - (i : Nat)) c₁) := (Walks.range hh _ 0 c₁ 0).bound
  refine loop_invN (fun i m nx => m = m₀ ∧ nx = news) W ?_ ?_ ?_ ?_ (by show IsRangeIter _ _ _ _ _; rw [hn]; simpa using Heap.get?_push_size _ rfl) (F.push _) (fun p hp => ⟨Heap.get?_push_of_some _ (N p hp).1, (N p hp).2⟩) ⟨rfl, rfl⟩ ?_ ?_
  · intro hm
    exact absurd F.ns.lt ((List.mem_singleton.mp hm) ▸ Nat.lt_irrefl _)
  · intro b hb
    rw [List.mem_singleton.mp hb]
    exact next_is_new F
  · intro p hp hI
    exact absurd (Heap.lt_size (N p hp).1) ((List.mem_singleton.mp hI) ▸ Nat.lt_irrefl _)
  · intro p hp hI
    exact absurd (Heap.lt_size (N p hp).1) ((List.mem_singleton.mp hI) ▸ Nat.lt_irrefl _)
  · rintro i v m₁ nx h tk own hi ⟨h0, _⟩
    exact absurd h0 (Nat.not_lt_zero _)
  · rintro m₁ nx h tk ⟨rfl, rfl⟩ F₁ N₁
    refine done m₁ h tk kstMark ?_ N₁
    have e : (fun y => if y = x then m₁ y else m₁ y) = m₁ := by funext y; split <;> rfl
    rw [e]; exact F₁
end
end
section
set_option maxHeartbeats 8000000
noncomputable abbrev SaysO (w : World) (d u : Nat) (f : Addr) (vs : List Value) (R : Tok → Value) : Prop :=
  ∀ (p : Program) (loose : List PySem.Str) (mean : ExcName → Option Value) (mg mb : PySem.Str → Option Value)
  (dp un : Nat) (gd : Option (List Code)) (cn : PySem.Str) (cs : Scope) (a : Addr) (ccd : Value) (A₀ : Around) (base h₀ : Heap) (L : Addr) (m : PySem.Str → Option Value) (news : List (Addr × Obj)) (s : Shared)
    (Q E : Value → Shared → Prop),
    Below A₀ base [] h₀ → Fr h₀ L s.heap m → (KH w.params).In h₀ → News h₀ L s.heap news → Top p loose mean mg mb h₀ → (KH w.params).In base → Top p loose mean mg mb base → cs.kind = .function → dp + d < recursionLimit → un + u < cLine →
    RetV h₀ L m news s Q R →
    wpAny (model PySem.Challenge.rw_kl0275_01.prog w) (ktrTop dp un gd cn cs L a ccd [] []) (call (.ref f) vs) Q E s
theorem lawenc0_ok (w : World) (ns : List Int) (tkA tkB : Tok) (hin : KBa.In ns) (hlen : ns.length ≤ 64) (k : Int) (hk1 : 0 ≤ k) (hk2 : k ≤ 3) : SaysO w 4 120 834 [.bytes (byteArr ns) tkA, .int k tkB] (fun t => .none) := by
  unfold SaysO; k_fill; intro p loose mean mg mb dp un gd cn cs a ccd A₀ base h₀ L m news s Q E B F X N T XB TB hk hd hu hret; refine wpAny_call ?_
  k_dflt (refine' code_defS0 ?k1 ?k2 ?k3 ?k4 ?k5 ?kA ?k6 ?k7 ?k8 ?k9 ?kB ?_ ?cK ?c2 ?c3 ?c4 ?c5; (case kA => exact rfl); (case k2 => k_asm); (case k1 => k_asm); (case k3 => k_asm); (case k4 => k_asm); (case k5 => k_asm); (case k6 => k_is); (case k7 => k_is); (case k8 => ktr_room); (case k9 => first | exact binds_K (by k_in) rfl (by k_is) rfl rfl rfl | exact BindsTo.of_eq rfl | fail "kts_go: no rule for these arguments"); (case kB => exact locs rfl); (case cK => exact hk); (case c2 => exact rfl); (case c3 => exact rfl); (case c4 => exact rfl); (case c5 => decide); k_whole; intro g' L' h' FG' F' N' B' X' T' D'; (try dsimp only); (try k_lift B'); (try k_fold))
  have hI0 : IntsAre ([] : List Value) [] := IntsAre.nil
  repeat' (first | (k_unfold; (try dsimp only)) | ((fail_if_success (with_reducible show Q _ _)); (fail_if_success (with_reducible show wpAny _ _ (call (Value.ref 131) _) _ _ _)); first | (k_end; kc_close) | ((with_reducible show wpAny _ _ (binaryOp Operator.FloorDiv (Value.int _ _) (Value.int _ _)) _ _ _); first | with_reducible (((with_reducible show wpAny _ _ (binaryOp Operator.FloorDiv (Value.int _ _) (Value.int _ _)) _ _ _); refine r_fdiv (by omega) (by omega) ?_))) | ((with_reducible show wpAny _ _ (call (Value.type "range") _) _ _ _); first | with_reducible (((with_reducible show wpAny _ _ (call (Value.type "range") [Value.int _ _, Value.int _ _, Value.int _ _]) _ _ _); (refine call_range_z (by omega) rfl ?_); intro _ _ _ _)) | with_reducible (((with_reducible show wpAny _ _ (call (Value.type "range") [Value.int _ _, Value.int _ _, Value.int _ _]) _ _ _); (rename Fr _ _ _ _ => F'Zz); (rename News _ _ _ _ => N'Zz); (refine range3_rows F'Zz N'Zz (by omega) ?_ (Or.inl (PyProof.noPylong_small (by omega)))); intro _ _ _ _ _ rgXZz _ _ _))) | walk1 | (dsimp only; first | ((with_reducible show wpAny _ _ (binaryOp Operator.FloorDiv (Value.int _ _) (Value.int _ _)) _ _ _); first | with_reducible (((with_reducible show wpAny _ _ (binaryOp Operator.FloorDiv (Value.int _ _) (Value.int _ _)) _ _ _); refine r_fdiv (by omega) (by omega) ?_))) | ((with_reducible show wpAny _ _ (call (Value.type "range") _) _ _ _); first | with_reducible (((with_reducible show wpAny _ _ (call (Value.type "range") [Value.int _ _, Value.int _ _, Value.int _ _]) _ _ _); (refine call_range_z (by omega) rfl ?_); intro _ _ _ _)) | with_reducible (((with_reducible show wpAny _ _ (call (Value.type "range") [Value.int _ _, Value.int _ _, Value.int _ _]) _ _ _); (rename Fr _ _ _ _ => F'Zz); (rename News _ _ _ _ => N'Zz); (refine range3_rows F'Zz N'Zz (by omega) ?_ (Or.inl (PyProof.noPylong_small (by omega)))); intro _ _ _ _ _ rgXZz _ _ _))) | walk1) | (leave1; (try dsimp only)) | fail "no step"))
  k_dflt (refine wpAny_call ?_; (refine' code_defS (binds := [(Str.ofString "s", .bytes (byteArr ns) tkA), (Str.ofString "maxlinelength", .int k tkB)]) ?k1 ?k2 ?k3 ?k4 ?k5 ?XB ?TB ?D ?T0 ?kA ?k6 ?k7 ?k8 ?k9 ?kB ?_ ?cK ?c2 ?c3 ?c4 ?c5; (case kA => exact rfl); (case k2 => k_asm); (case k1 => k_asm); (case XB => assumption); (case TB => assumption); (case D => assumption); (case T0 => first | assumption | exact KtsTurn.refl); (case k3 => k_asm); (case k4 => k_asm); (case k5 => k_asm); (case k6 => k_is); (case k7 => k_is); (case k8 => ktr_room); (case k9 => exact binds_peek (by k_in) (fun _ => by kernel_rfl)); (case kB => exact locs rfl); (case cK => exact rfl); (case c2 => exact rfl); (case c3 => exact rfl); (case c4 => exact rfl); (case c5 => decide); k_whole; intro g' L' h' FG' F' N' B' X' T' D'; (try dsimp only); (try k_lift B'); (try k_fold)))
  repeat' (first | (k_unfold; (try dsimp only)) | ((fail_if_success (with_reducible show Q _ _)); first | (k_end; kc_close) | ((with_reducible show wpAny _ _ (binaryOp Operator.FloorDiv (Value.int _ _) (Value.int _ _)) _ _ _); first | with_reducible (((with_reducible show wpAny _ _ (binaryOp Operator.FloorDiv (Value.int _ _) (Value.int _ _)) _ _ _); refine r_fdiv (by omega) (by omega) ?_))) | ((with_reducible show wpAny _ _ (call (Value.type "range") _) _ _ _); first | with_reducible (((with_reducible show wpAny _ _ (call (Value.type "range") [Value.int _ _, Value.int _ _, Value.int _ _]) _ _ _); (refine call_range_z (by omega) rfl ?_); intro _ _ _ _)) | with_reducible (((with_reducible show wpAny _ _ (call (Value.type "range") [Value.int _ _, Value.int _ _, Value.int _ _]) _ _ _); (rename Fr _ _ _ _ => F'Zz); (rename News _ _ _ _ => N'Zz); (refine range3_rows F'Zz N'Zz (by omega) ?_ (Or.inl (PyProof.noPylong_small (by omega)))); intro _ _ _ _ _ rgXZz _ _ _))) | walk1 | (dsimp only; first | ((with_reducible show wpAny _ _ (binaryOp Operator.FloorDiv (Value.int _ _) (Value.int _ _)) _ _ _); first | with_reducible (((with_reducible show wpAny _ _ (binaryOp Operator.FloorDiv (Value.int _ _) (Value.int _ _)) _ _ _); refine r_fdiv (by omega) (by omega) ?_))) | ((with_reducible show wpAny _ _ (call (Value.type "range") _) _ _ _); first | with_reducible (((with_reducible show wpAny _ _ (call (Value.type "range") [Value.int _ _, Value.int _ _, Value.int _ _]) _ _ _); (refine call_range_z (by omega) rfl ?_); intro _ _ _ _)) | with_reducible (((with_reducible show wpAny _ _ (call (Value.type "range") [Value.int _ _, Value.int _ _, Value.int _ _]) _ _ _); (rename Fr _ _ _ _ => F'Zz); (rename News _ _ _ _ => N'Zz); (refine range3_rows F'Zz N'Zz (by omega) ?_ (Or.inl (PyProof.noPylong_small (by omega)))); intro _ _ _ _ _ rgXZz _ _ _))) | walk1) | (leave1; (try dsimp only)) | fail "no step"))
  exact hret tkA _ _ (by k_asm) (by ((first | k_asm | (refine' cb_drop ?cbN ?cbS; (case cbN => assumption); (case cbS => kcj_all)))))
end
section
set_option maxHeartbeats 8000000
theorem encneg_ok (w : World) (ns : List Int) (tk tk' : Tok) (k : Int) (hin : KBa.In ns) (hlen : ns.length ≤ 64) (hk1 : k < 0) (hk2 : -100 < k) : Says w 3 80 131 [.bytes (byteArr ns) tk, .int k tk'] (fun t => .bytes (byteArr []) t) := by
  unfold Says; k_fill; intro p loose mean mg mb dp un gd cn cs a ccd cl outer A₀ base h₀ L m news s Q E B F X N T hk hd hu hret; refine wpAny_call ?_; k_dflt (refine' code_def (binds := [(Str.ofString "s", .bytes (byteArr ns) tk), (Str.ofString "maxlinelength", .int k tk')]) ?k1 ?k2 ?k3 ?k4 ?k5 ?kA ?kF ?kK ?k6 ?k7 ?k8 ?k9 ?kB ?_ ?c2 ?c3 ?c4 ?c5; (case kA => exact rfl); (case kF => exact rfl); (case kK => assumption); (case k1 => k_asm); (case k2 => k_asm); (case k3 => k_asm); (case k4 => k_asm); (case k5 => k_asm); (case k6 => k_is); (case k7 => k_is); (case k8 => ktr_room); (case k9 => exact binds_peek (by k_in) (fun _ => by kernel_rfl)); (case c5 => decide); (case kB => exact locs rfl); (case c2 => exact rfl); (case c3 => exact rfl); (case c4 => exact rfl); k_whole; intro g' L' h' FG' F' N' B' X' T'; (try dsimp only); (try k_lift B'); (try k_fold))
  have hI0 : IntsAre ([] : List Value) [] := IntsAre.nil
  (k_with "pyIter ref" => (k_dflt ((rename Fr _ _ _ _ => lF'); (rename News _ _ _ _ => lN'); (rename IsRange _ _ _ _ _ _ _ _ => rgX); (refine loop_none (by rfl) rgX (by omega) (by omega) (by omega) (by omega) lF' lN' ?_); (intro u1 h1 tk1 hmark hF hN); all_goals (clear lF' lN'))))
  repeat' (first | (k_unfold; (try dsimp only)) | ((fail_if_success (with_reducible show Q _ _)); first | (k_end; kc_close) | ((with_reducible show wpAny _ _ (binaryOp Operator.FloorDiv (Value.int _ _) (Value.int _ _)) _ _ _); first | with_reducible (((with_reducible show wpAny _ _ (binaryOp Operator.FloorDiv (Value.int _ _) (Value.int _ _)) _ _ _); refine r_fdiv (by omega) (by omega) ?_))) | ((with_reducible show wpAny _ _ (call (Value.builtin "bytes.join") _) _ _ _); first | with_reducible (((rename News _ _ _ _ => nE'Zz); (try simp only [List.push_toArray] at nE'Zz); k_dflt (refine r_bjoin (vs := []) (xs := []) (News.isList nE'Zz (by k_mem)) trivial (by decide) ?_); intro _ _))) | ((with_reducible show wpAny _ _ (call (Value.type "range") _) _ _ _); first | with_reducible (((with_reducible show wpAny _ _ (call (Value.type "range") [Value.int _ _, Value.int _ _, Value.int _ _]) _ _ _); (rename Fr _ _ _ _ => F'Zz); (rename News _ _ _ _ => N'Zz); (refine range3_rows F'Zz N'Zz (by omega) ?_ (Or.inl (PyProof.noPylong_small (by omega)))); intro _ _ _ _ _ rgXZz _ _ _))) | with_reducible (((with_reducible refine gm_bjoin ?_))) | ((with_reducible show wpAny _ _ (pyIter (Value.ref _)) _ _ _); first | with_reducible ((k_extra "pyIter ref"))) | walk1 | (dsimp only; first | ((with_reducible show wpAny _ _ (binaryOp Operator.FloorDiv (Value.int _ _) (Value.int _ _)) _ _ _); first | with_reducible (((with_reducible show wpAny _ _ (binaryOp Operator.FloorDiv (Value.int _ _) (Value.int _ _)) _ _ _); refine r_fdiv (by omega) (by omega) ?_))) | ((with_reducible show wpAny _ _ (call (Value.builtin "bytes.join") _) _ _ _); first | with_reducible (((rename News _ _ _ _ => nE'Zz); (try simp only [List.push_toArray] at nE'Zz); k_dflt (refine r_bjoin (vs := []) (xs := []) (News.isList nE'Zz (by k_mem)) trivial (by decide) ?_); intro _ _))) | ((with_reducible show wpAny _ _ (call (Value.type "range") _) _ _ _); first | with_reducible (((with_reducible show wpAny _ _ (call (Value.type "range") [Value.int _ _, Value.int _ _, Value.int _ _]) _ _ _); (rename Fr _ _ _ _ => F'Zz); (rename News _ _ _ _ => N'Zz); (refine range3_rows F'Zz N'Zz (by omega) ?_ (Or.inl (PyProof.noPylong_small (by omega)))); intro _ _ _ _ _ rgXZz _ _ _))) | with_reducible (((with_reducible refine gm_bjoin ?_))) | ((with_reducible show wpAny _ _ (pyIter (Value.ref _)) _ _ _); first | with_reducible ((k_extra "pyIter ref"))) | walk1) | (leave1; (try dsimp only)) | fail "no step"))
  exact hret _ _ _ (by k_asm) (by ((first | k_asm | (refine' cb_drop ?cbN ?cbS; (case cbN => assumption); (case cbS => kcj_all)))))
theorem lawencN_ok (w : World) (ns : List Int) (tk tk' : Tok) (k : Int) (hin : KBa.In ns) (hlen : ns.length ≤ 64) (hk1 : k < 0) (hk2 : -100 < k) : Says w 4 120 834 [.bytes (byteArr ns) tk, .int k tk'] (fun t => .bytes (byteArr []) t) := by
  unfold Says; k_fill; intro p loose mean mg mb dp un gd cn cs a ccd cl outer A₀ base h₀ L m news s Q E B F X N T hk hd hu hret; refine wpAny_call ?_; k_dflt cell_enter
  have hI0 : IntsAre ([] : List Value) [] := IntsAre.nil
  repeat' (first | (k_unfold; (try dsimp only)) | ((fail_if_success (with_reducible show Q _ _)); first | (k_end; kc_close) | ((with_reducible show wpAny _ _ (binaryOp Operator.FloorDiv (Value.int _ _) (Value.int _ _)) _ _ _); first | with_reducible (((with_reducible show wpAny _ _ (binaryOp Operator.FloorDiv (Value.int _ _) (Value.int _ _)) _ _ _); refine r_fdiv (by omega) (by omega) ?_))) | ((with_reducible show wpAny _ _ (call (Value.builtin "bytes.join") _) _ _ _); first | with_reducible (((rename News _ _ _ _ => nE'Zz); (try simp only [List.push_toArray] at nE'Zz); k_dflt (refine r_bjoin (vs := []) (xs := []) (News.isList nE'Zz (by k_mem)) trivial (by decide) ?_); intro _ _))) | ((with_reducible show wpAny _ _ (call (Value.ref _) _) _ _ _); first | with_reducible ((k_dflt (refine' Says.use (encneg_ok _ _ _ _ _ (by assumption) (by assumption) (by assumption) (by assumption)) ?k1 ?k2 ?k3 ?k4 ?k5 ?k6 ?k7 ?k8 ?_; (((case k1 => k_asm); (case k2 => k_asm); (case k3 => k_asm); (case k4 => k_asm); (case k5 => k_asm); (case k6 => first | exact rfl | assumption); (case k7 => ktr_room); (case k8 => ktr_units); intro t9Zz h9Zz tk9Zz F9Zz N9Zz; (try dsimp only); (try k_fold))))))) | ((with_reducible show wpAny _ _ (call (Value.type "range") _) _ _ _); first | with_reducible (((with_reducible show wpAny _ _ (call (Value.type "range") [Value.int _ _, Value.int _ _, Value.int _ _]) _ _ _); (rename Fr _ _ _ _ => F'Zz); (rename News _ _ _ _ => N'Zz); (refine range3_rows F'Zz N'Zz (by omega) ?_ (Or.inl (PyProof.noPylong_small (by omega)))); intro _ _ _ _ _ rgXZz _ _ _))) | with_reducible (((with_reducible refine gm_bjoin ?_))) | ((with_reducible show wpAny _ _ (pyIter (Value.ref _)) _ _ _); first | with_reducible ((k_extra "pyIter ref"))) | walk1 | (dsimp only; first | ((with_reducible show wpAny _ _ (binaryOp Operator.FloorDiv (Value.int _ _) (Value.int _ _)) _ _ _); first | with_reducible (((with_reducible show wpAny _ _ (binaryOp Operator.FloorDiv (Value.int _ _) (Value.int _ _)) _ _ _); refine r_fdiv (by omega) (by omega) ?_))) | ((with_reducible show wpAny _ _ (call (Value.builtin "bytes.join") _) _ _ _); first | with_reducible (((rename News _ _ _ _ => nE'Zz); (try simp only [List.push_toArray] at nE'Zz); k_dflt (refine r_bjoin (vs := []) (xs := []) (News.isList nE'Zz (by k_mem)) trivial (by decide) ?_); intro _ _))) | ((with_reducible show wpAny _ _ (call (Value.ref _) _) _ _ _); first | with_reducible ((k_dflt (refine' Says.use (encneg_ok _ _ _ _ _ (by assumption) (by assumption) (by assumption) (by assumption)) ?k1 ?k2 ?k3 ?k4 ?k5 ?k6 ?k7 ?k8 ?_; (((case k1 => k_asm); (case k2 => k_asm); (case k3 => k_asm); (case k4 => k_asm); (case k5 => k_asm); (case k6 => first | exact rfl | assumption); (case k7 => ktr_room); (case k8 => ktr_units); intro t9Zz h9Zz tk9Zz F9Zz N9Zz; (try dsimp only); (try k_fold))))))) | ((with_reducible show wpAny _ _ (call (Value.type "range") _) _ _ _); first | with_reducible (((with_reducible show wpAny _ _ (call (Value.type "range") [Value.int _ _, Value.int _ _, Value.int _ _]) _ _ _); (rename Fr _ _ _ _ => F'Zz); (rename News _ _ _ _ => N'Zz); (refine range3_rows F'Zz N'Zz (by omega) ?_ (Or.inl (PyProof.noPylong_small (by omega)))); intro _ _ _ _ _ rgXZz _ _ _))) | with_reducible (((with_reducible refine gm_bjoin ?_))) | ((with_reducible show wpAny _ _ (pyIter (Value.ref _)) _ _ _); first | with_reducible ((k_extra "pyIter ref"))) | walk1) | (leave1; (try dsimp only)) | fail "no step"))
  exact hret _ _ _ (by k_asm) (by ((first | k_asm | (refine' cb_drop ?cbN ?cbS; (case cbN => assumption); (case cbS => kcj_all)))))
end
section
/-- values that hold texts -/
noncomputable abbrev TsAre (vs : List Value) (xs : List (List Int)) : Prop := StrsAre vs (xs.map strArr)
theorem strsAre_length : ∀ {vs : List Value} {ys : List PySem.Str}, StrsAre vs ys → vs.length = ys.length
  | _, _, .nil => rfl
  | _, _, .cons _ _ r => congrArg Nat.succ (strsAre_length r)
theorem TsAre.length {vs : List Value} {xs : List (List Int)} (h : TsAre vs xs) : vs.length = xs.length := by have := strsAre_length h; simpa using this
theorem strsAre_at : ∀ {vs : List Value} {ys : List PySem.Str} {i : Nat} {v : Value}, StrsAre vs ys → vs[i]? = some v → ∃ y t, ys[i]? = some y ∧ v = .str y t
  | _, _, 0, _, .cons y t _, h => by simp at h; exact ⟨y, t, rfl, h.symm⟩
  | _, _, i + 1, _, .cons _ _ r, h => by
    obtain ⟨y, t, h1, h2⟩ := strsAre_at (i := i) r (by simpa using h)
    exact ⟨y, t, by simpa using h1, h2⟩
  | _, _, _, _, .nil, h => by simp at h
theorem TsAre.at {vs : List Value} {xs : List (List Int)} {i : Nat} {v : Value} (h : TsAre vs xs) (hv : vs[i]? = some v) : ∃ x t, xs[i]? = some x ∧ v = .str (strArr x) t := by
  obtain ⟨y, t, h1, h2⟩ := strsAre_at h hv
  rw [List.getElem?_map] at h1
  cases hx : xs[i]? with
  | none => rw [hx] at h1; cases h1
  | some x => rw [hx] at h1; cases h1; exact ⟨x, t, rfl, h2⟩
theorem TsAre.snoc {vs : List Value} {xs : List (List Int)} {x : List Int} {t : Tok} (h : TsAre vs xs) : TsAre (vs ++ [.str (strArr x) t]) (xs ++ [x]) := by
  unfold TsAre; rw [List.map_append]; exact kct_snoc h
theorem TsAre.vals {vs : List Value} {ys : List PySem.Str} (h : StrsAre vs ys) : ∃ l : List (PySem.Str × Tok), strValues l = vs ∧ l.map (·.1) = ys := by
  induction h with
  | nil => exact ⟨[], rfl, rfl⟩
  | cons y t _ ih => obtain ⟨l, h1, h2⟩ := ih; exact ⟨(y, t) :: l, by rw [← h1]; rfl, by rw [← h2]; rfl⟩
theorem strArr_app (a b : List Int) : strArr (a ++ b) = strArr a ++ strArr b := by
  show (⟨_⟩ : PySem.Str) = ⟨(strArr a).cps ++ (strArr b).cps⟩
  unfold strArr; simp
theorem strArr_len (a : List Int) : (strArr a).length = a.length := by show (strArr a).cps.size = _; unfold strArr; simp
section
variable {prog : Program} {w : World} {A : Around} {h₀ : Heap} {L : Addr} {m : PySem.Str → Option Value} {env : Env} {elt : PySem.Expr} {x : PySem.Str} {scope : Scope} {cl : List (PySem.Str × Addr)} {s : Shared} {S : List (Addr × Obj) → Prop} {Fin : List Value → List (Addr × Obj) → Prop} {news : List (Addr × Obj)}
theorem text_rest {vs : List Value} {xs : List (List Int)} (g : List Int → List Int) (hv : TsAre vs xs) (hS : S news)
    (turn : ∀ k t I oI C oC D m₂ ys h tk (E' : Value → Shared → Prop), k ∈ xs → LCg.NsObj oC m₂ → m₂ x = some (.str (strArr k) t) → Fr h₀ L h m → News h₀ L h ((I, oI) :: (C, oC) :: (D, LCg.lst ys) :: news) → KPfMark →
      wpAny (model prog w) A (eval elt (compEnvC scope cl C env)) (fun y s₂ => ∃ h' tk' t', y = .str (strArr (g k)) t' ∧ s₂ = { s with heap := h', toks := tk' } ∧ Fr h₀ L h' m ∧ News h₀ L h' ((I, oI) :: (C, oC) :: (D, LCg.lst ys) :: news)) E' { s with heap := h, toks := tk })
    (fin : ∀ ys, TsAre ys (xs.map g) → Fin ys news) : LCg.CompRest prog w A h₀ L m env elt x scope cl s S (fun i v => vs.toArray[i]? = some v) Fin vs.toArray.size 0 [] news := by
  have key : ∀ (j i : Nat) (ys : List Value), i + j = vs.length → TsAre ys ((xs.take i).map g) → LCg.CompRest prog w A h₀ L m env elt x scope cl s S (fun i v => vs.toArray[i]? = some v) Fin j i ys news := by
    intro j
    induction j with
    | zero =>
      intro i ys hi hy
      have e : i = xs.length := by have := hv.length; omega
      subst e
      rw [List.take_length] at hy
      exact LCg.CompRest.zero (fin ys hy)
    | succ j ih =>
      intro i ys hi hy
      refine LCg.CompRest.succ ?_
      intro v I oI C oC D m₂ h tk E' hv' hC hx F N off ne
      obtain ⟨k, t, hk, rfl⟩ := hv.at (i := i) (by simpa using hv')
      refine wpAny_mono (turn k t I oI C oC D m₂ ys h tk E' (List.mem_of_getElem? hk) hC hx F N True.intro) (fun y s₂ hq => ?_) fun _ _ e => e
      obtain ⟨h', tk', t', rfl, rfl, F', N'⟩ := hq
      refine ⟨h', tk', news, rfl, F', N', off, hS, ?_⟩
      refine ih (i + 1) _ (by omega) ?_
      rw [List.take_add_one, hk]
      simpa using hy.snoc
  have := key vs.length 0 [] (by omega) (by simp only [List.take_zero, List.map_nil]; exact .nil)
  rw [List.size_toArray]
  exact this
end
section
variable {prog : Program} {w : World} {A : Around} {E : Value → Shared → Prop} {s : Shared} {t u : Tok} {Q : Value → Shared → Prop}
theorem r_addS {a b : List Int} (ha : a.length ≤ 100000) (hb : b.length ≤ 100000) (h : ∀ t' k, Q (.str (strArr (a ++ b)) t') { s with toks := k }) : wpAny (model prog w) A (binaryOp .Add (.str (strArr a) t) (.str (strArr b) u)) Q E s :=
  PyProof.Rows.add_str (fun t' k => by rw [← strArr_app]; exact h t' k) (by rw [strArr_len, strArr_len, sizeLine_eq]; omega)
end
theorem glued_fold (xs : List (List Int)) : ∀ acc : List Int, ((xs.map strArr).foldl (fun (acc : Array Nat) (p : PySem.Str) => acc ++ (PySem.Str.ofString "").cps ++ p.cps) (strArr acc).cps) = (strArr (acc ++ xs.flatten)).cps := by
  induction xs with
  | nil => intro acc; simp
  | cons x r ih =>
    intro acc
    rw [List.map_cons, List.foldl_cons]
    have e : (strArr acc).cps ++ (PySem.Str.ofString "").cps ++ (strArr x).cps = (strArr (acc ++ x)).cps := by
      rw [strArr_app]
      show (strArr acc).cps ++ (PySem.Str.ofString "").cps ++ (strArr x).cps = (strArr acc).cps ++ (strArr x).cps
      rw [show (PySem.Str.ofString "").cps = #[] from rfl]; simp
    rw [e, ih, List.flatten_cons, List.append_assoc]
theorem join_strArr (xs : List (List Int)) : Txt.join (PySem.Str.ofString "") (xs.map strArr) = strArr xs.flatten := by
  show (⟨((xs.map strArr).drop 1).foldl (fun acc p => acc ++ (PySem.Str.ofString "").cps ++ p.cps) ((xs.map strArr).headD PySem.Str.empty).cps⟩ : PySem.Str) = _
  cases xs with
  | nil => rfl
  | cons x r =>
    have := glued_fold r x
    rw [List.map_cons, List.drop_succ_cons, List.drop_zero, List.headD_cons, this, List.flatten_cons]
theorem joinOk_strArr (xs : List (List Int)) (h : xs.flatten.length ≤ 1000000) : JoinOk (PySem.Str.ofString "") (xs.map strArr) = true := by
  have key : ∀ (xs : List (List Int)) (n : Nat), (xs.map strArr).foldl (fun (a : Nat) (p : PySem.Str) => a + p.length + (PySem.Str.ofString "").length) n = n + xs.flatten.length := by
    intro xs
    induction xs with
    | nil => intro n; simp
    | cons x r ih => intro n; rw [List.map_cons, List.foldl_cons, ih, strArr_len, List.flatten_cons, List.length_append, show (PySem.Str.ofString "").length = 0 from rfl]; omega
  unfold JoinOk
  rw [List.foldl_toArray', key]
  · show (!decide (0 + xs.flatten.length > sizeLine)) = true
    rw [sizeLine_eq, decide_eq_false (by omega)]; rfl
  · rfl
section
variable {prog : Program} {w : World} {A : Around} {E : Value → Shared → Prop} {s : Shared} {t : Tok}
theorem r_sjoin {Q : Value → Shared → Prop} {vs : List Value} {xs : List (List Int)} {D : Addr} (hD : s.heap.IsList D vs.toArray) (hv : TsAre vs xs) (hl : xs.flatten.length ≤ 1000000) (h : ∀ t' k, Q (.str (strArr xs.flatten) t') { s with toks := k }) :
    wpAny (model prog w) A (call (.builtin "str.join") [.str (PySem.Str.ofString "") t, .ref D]) Q E s := by
  obtain ⟨l, rfl, h2⟩ := TsAre.vals hv
  exact SC.join hD h2 (joinOk_strArr xs hl) (by rw [join_strArr]; exact h)
end
end
section
set_option maxHeartbeats 8000000
theorem nlS : PySem.Str.ofString "\n" = strArr [10] := by decide +kernel
/-- a contract with a fact about the ledger -/
noncomputable abbrev SaysP (w : World) (d u : Nat) (f : Addr) (vs : List Value) (P : List (Addr × Obj) → Prop) (R : Tok → Value) : Prop :=
  ∀ (p : Program) (loose : List PySem.Str) (mean : ExcName → Option Value) (mg mb : PySem.Str → Option Value)
  (dp un : Nat) (gd : Option (List Code)) (cn : PySem.Str) (cs : Scope) (a : Addr) (ccd : Value) (cl : List (PySem.Str × Addr)) (outer : List Env) (A₀ : Around) (base h₀ : Heap) (L : Addr) (m : PySem.Str → Option Value) (news : List (Addr × Obj)) (s : Shared)
    (Q E : Value → Shared → Prop),
    Below A₀ base outer h₀ → Fr h₀ L s.heap m → (KH w.params).In h₀ → News h₀ L s.heap news → Top p loose mean mg mb h₀ → cs.kind = .function → dp + d < recursionLimit → un + u < cLine → P news →
    RetV h₀ L m news s Q R →
    wpAny (model PySem.Challenge.rw_kl0275_01.prog w) (ktrTop dp un gd cn cs L a ccd cl outer) (call (.ref f) vs) Q E s
/-- a page: each row behind bs and ended -/
noncomputable def pageL (xs : List (List Int)) (bs : List Int) : List Int := (xs.map fun x => bs ++ x ++ [10]).flatten
theorem pageL_len {xs : List (List Int)} {bs : List Int} (hb : bs.length ≤ 100) (hx : ∀ x ∈ xs, x.length ≤ 1000) (hn : xs.length ≤ 100) : (pageL xs bs).length ≤ 1000000 := by
  unfold pageL
  refine Nat.le_trans (flat_len (n := 1101) _ ?_) ?_
  · intro l hl
    obtain ⟨x, h, rfl⟩ := List.mem_map.mp hl
    have := hx x h
    simp only [List.length_append, List.length_cons, List.length_nil]; omega
  · rw [List.length_map]; omega
theorem page_ok (w : World) (D : Addr) (xs : List (List Int)) (vs : List Value) (nn : Nat) (bs : List Int) (tk : Tok) (hv : TsAre vs xs) (hb : bs.length ≤ 100) (hx : ∀ x ∈ xs, x.length ≤ 1000) (hn : xs.length ≤ 100) :
    SaysP w 3 80 820 [.ref D, .str (strArr bs) tk] (fun news => (D, listOf vs.toArray nn) ∈ news) (fun t => .str (strArr (pageL xs bs)) t) := by
  unfold SaysP; k_fill; intro p loose mean mg mb dp un gd cn cs a ccd cl outer A₀ base h₀ L m news s Q E B F X N T hk hd hu hP hret; refine wpAny_call ?_; k_dflt (refine' code_defC ?k1 ?k2 ?k3 ?k4 ?k5 ?kA ?kF ?kK ?k6 ?k7 ?k8 ?k9 ?kB ?kD ?_ ?c2 ?c3 ?c4; (case kA => exact rfl); (case kF => exact rfl); (case kK => assumption); (case k1 => k_asm); (case k2 => k_asm); (case k3 => k_asm); (case k4 => k_asm); (case k5 => k_asm); (case k6 => k_is); (case k7 => k_is); (case k8 => ktr_room); (case k9 => exact BindsTo.of_eq rfl); (case kB => exact rfl); (case kD => decide +kernel); (case c2 => exact rfl); (case c3 => exact rfl); (case c4 => exact rfl); k_whole; intro g' L' h' tk' cells' FG' F' N' Y' B' X' T' l1; (try k_lt l1); k_cells Y'; (try simp only [List.cons_append, List.nil_append] at N'); (try dsimp only); (try k_lift B'); (try k_fold))
  have hI0 : IntsAre ([] : List Value) [] := IntsAre.nil
  repeat' (first | (k_unfold; (try dsimp only)) | ((fail_if_success (with_reducible show Q _ _)); (fail_if_success (with_reducible show LCg.CompSrc _ _ _ _ _ _ _ _ _ _ _ _ _ _)); first | (k_end; kc_close) | ((with_reducible show wpAny _ _ (binaryOp Operator.Add (Value.str _ _) (Value.str _ _)) _ _ _); first | with_reducible (((with_reducible show wpAny _ _ (binaryOp Operator.Add (Value.str _ _) (Value.str _ _)) _ _ _); (try rw [nlS]); refine r_addS (by (try simp only [List.length_append, List.length_cons, List.length_nil]); omega) (by (try simp only [List.length_append, List.length_cons, List.length_nil]); omega) ?_; intro _ _))) | ((with_reducible show wpAny _ _ (call (Value.builtin "str.join") _) _ _ _); first | with_reducible (((rename News _ _ _ _ => nE'Zz); k_dflt (refine r_sjoin (News.isList nE'Zz (by k_mem)) (by assumption) (by assumption) ?_); intro _ _))) | with_reducible ((k_dflt (refine LCg.ListComp_U (F₀ := by k_asm) (by with_unfolding_all rfl) (by decide) (by rfl) (by decide) (by rfl) ?_))) | walk1 | (dsimp only; first | ((with_reducible show wpAny _ _ (binaryOp Operator.Add (Value.str _ _) (Value.str _ _)) _ _ _); first | with_reducible (((with_reducible show wpAny _ _ (binaryOp Operator.Add (Value.str _ _) (Value.str _ _)) _ _ _); (try rw [nlS]); refine r_addS (by (try simp only [List.length_append, List.length_cons, List.length_nil]); omega) (by (try simp only [List.length_append, List.length_cons, List.length_nil]); omega) ?_; intro _ _))) | ((with_reducible show wpAny _ _ (call (Value.builtin "str.join") _) _ _ _); first | with_reducible (((rename News _ _ _ _ => nE'Zz); k_dflt (refine r_sjoin (News.isList nE'Zz (by k_mem)) (by assumption) (by assumption) ?_); intro _ _))) | with_reducible ((k_dflt (refine LCg.ListComp_U (F₀ := by k_asm) (by with_unfolding_all rfl) (by decide) (by rfl) (by decide) (by rfl) ?_))) | walk1) | (leave1; (try dsimp only)) | fail "no step"))
  refine LCg.CompSrc.ledger (by rfl) (by k_asm) (by k_asm) (List.mem_cons_of_mem _ hP) (by rw [List.size_toArray, hv.length, sizeLine_eq]; omega) ?_
  intro g9
  refine text_rest (fun x => bs ++ x ++ [10]) hv (Or.inr ⟨_, List.mem_cons_of_mem _ hP, rfl, _, rfl⟩) ?_ ?_
  · intro k t I oI C oC D9 m₂ ys h tk E9 hk9 hC hx9 F9 N9 hm
    have hkl := hx k hk9
    repeat' (first | (k_unfold; (try dsimp only)) | ((fail_if_success (with_reducible show Q _ _)); (fail_if_success (with_reducible show ∃ _, _)); first | (k_end; kc_close) | ((with_reducible show wpAny _ _ (binaryOp Operator.Add (Value.str _ _) (Value.str _ _)) _ _ _); first | with_reducible (((with_reducible show wpAny _ _ (binaryOp Operator.Add (Value.str _ _) (Value.str _ _)) _ _ _); (try rw [nlS]); refine r_addS (by (try simp only [List.length_append, List.length_cons, List.length_nil]); omega) (by (try simp only [List.length_append, List.length_cons, List.length_nil]); omega) ?_; intro _ _))) | ((with_reducible show wpAny _ _ (call (Value.builtin "str.join") _) _ _ _); first | with_reducible (((rename News _ _ _ _ => nE'Zz); k_dflt (refine r_sjoin (News.isList nE'Zz (by k_mem)) (by assumption) (by assumption) ?_); intro _ _))) | with_reducible ((k_dflt (refine LCg.ListComp_U (F₀ := by k_asm) (by with_unfolding_all rfl) (by decide) (by rfl) (by decide) (by rfl) ?_))) | walk1 | (dsimp only; first | ((with_reducible show wpAny _ _ (binaryOp Operator.Add (Value.str _ _) (Value.str _ _)) _ _ _); first | with_reducible (((with_reducible show wpAny _ _ (binaryOp Operator.Add (Value.str _ _) (Value.str _ _)) _ _ _); (try rw [nlS]); refine r_addS (by (try simp only [List.length_append, List.length_cons, List.length_nil]); omega) (by (try simp only [List.length_append, List.length_cons, List.length_nil]); omega) ?_; intro _ _))) | ((with_reducible show wpAny _ _ (call (Value.builtin "str.join") _) _ _ _); first | with_reducible (((rename News _ _ _ _ => nE'Zz); k_dflt (refine r_sjoin (News.isList nE'Zz (by k_mem)) (by assumption) (by assumption) ?_); intro _ _))) | with_reducible ((k_dflt (refine LCg.ListComp_U (F₀ := by k_asm) (by with_unfolding_all rfl) (by decide) (by rfl) (by decide) (by rfl) ?_))) | walk1) | (leave1; (try dsimp only)) | fail "no step"))
    exact ⟨_, _, _, rfl, rfl, by assumption, by assumption⟩
  · intro ys hys
    have hpl := pageL_len hb hx hn
    repeat' (first | (k_unfold; (try dsimp only)) | ((fail_if_success (with_reducible show Q _ _)); first | (k_end; kc_close) | ((with_reducible show wpAny _ _ (binaryOp Operator.Add (Value.str _ _) (Value.str _ _)) _ _ _); first | with_reducible (((with_reducible show wpAny _ _ (binaryOp Operator.Add (Value.str _ _) (Value.str _ _)) _ _ _); (try rw [nlS]); refine r_addS (by (try simp only [List.length_append, List.length_cons, List.length_nil]); omega) (by (try simp only [List.length_append, List.length_cons, List.length_nil]); omega) ?_; intro _ _))) | ((with_reducible show wpAny _ _ (call (Value.builtin "str.join") _) _ _ _); first | with_reducible (((rename News _ _ _ _ => nE'Zz); k_dflt (refine r_sjoin (News.isList nE'Zz (by k_mem)) (by assumption) (by assumption) ?_); intro _ _))) | with_reducible ((k_dflt (refine LCg.ListComp_U (F₀ := by k_asm) (by with_unfolding_all rfl) (by decide) (by rfl) (by decide) (by rfl) ?_))) | walk1 | (dsimp only; first | ((with_reducible show wpAny _ _ (binaryOp Operator.Add (Value.str _ _) (Value.str _ _)) _ _ _); first | with_reducible (((with_reducible show wpAny _ _ (binaryOp Operator.Add (Value.str _ _) (Value.str _ _)) _ _ _); (try rw [nlS]); refine r_addS (by (try simp only [List.length_append, List.length_cons, List.length_nil]); omega) (by (try simp only [List.length_append, List.length_cons, List.length_nil]); omega) ?_; intro _ _))) | ((with_reducible show wpAny _ _ (call (Value.builtin "str.join") _) _ _ _); first | with_reducible (((rename News _ _ _ _ => nE'Zz); k_dflt (refine r_sjoin (News.isList nE'Zz (by k_mem)) (by assumption) (by assumption) ?_); intro _ _))) | with_reducible ((k_dflt (refine LCg.ListComp_U (F₀ := by k_asm) (by with_unfolding_all rfl) (by decide) (by rfl) (by decide) (by rfl) ?_))) | walk1) | (leave1; (try dsimp only)) | fail "no step"))
    exact hret _ _ _ (by k_asm) (by ((first | k_asm | (refine' cb_drop ?cbN ?cbS; (case cbN => assumption); (case cbS => kcj_all)))))
end
section
/-- octets as one whole number -/
noncomputable def num (l : List Int) : Int := l.foldl (fun a b => a * 256 + b) 0
theorem num_nil : num [] = 0 := rfl
theorem num_snoc (l : List Int) (n : Int) : num (l ++ [n]) = num l * 256 + n := by simp [num]
/-- the last j signs of a whole number -/
noncomputable def digs (W : Int) : Nat → List Int
  | 0 => []
  | j + 1 => c64 (W / 64 ^ j % 64) :: digs W j
theorem digs_len (W : Int) : ∀ j, (digs W j).length = j
  | 0 => rfl
  | j + 1 => congrArg Nat.succ (digs_len W j)
noncomputable def lackL (p : List Int) : Int := -(p.length : Int) % 3
noncomputable def rowN (p : List Int) : Int := ((p.length : Int) + lackL p) / 3 * 4
/-- one row of signs -/
noncomputable def rowL (p : List Int) : List Int := (digs (num p * 256 ^ (lackL p).toNat) (rowN p).toNat).take (rowN p - lackL p).toNat ++ List.replicate (lackL p).toNat 61
noncomputable def rowPs (ns : List Int) (m : Int) (ks : List Int) : List (List Int) := ks.map fun k => rowL (cutL ns m k)
noncomputable def rowsL (ns : List Int) (m : Int) : List (List Int) := rowPs ns m (stepKs (stepN ns.length m) m)
theorem rowPs_snoc {ns pre : List Int} {m k : Int} {vs : List Value} {t : Tok} (h : TsAre vs (rowPs ns m pre)) : TsAre (vs ++ [.str (strArr (rowL (cutL ns m k))) t]) (rowPs ns m (pre ++ [k])) := by
  unfold rowPs at h ⊢
  rw [List.map_append]
  exact h.snoc
theorem strArr_toList (a : List Int) : (strArr a).cps.toList = a.map Int.toNat := by unfold strArr; simp
theorem slice_to {ns : List Int} {j : Int} (h0 : 0 ≤ j) (h1 : j ≤ ns.length) : Txt.slice (strArr ns) none (some j) = strArr (ns.take j.toNat) := by
  have := beq_iff_eq.mp (slice_closes_toL (x := strArr ns) h0 (by rw [strArr_len]; exact h1))
  rw [this, strArr_toList]
  unfold strArr
  rw [show ((0 : Int)).toNat = 0 from rfl, List.drop_zero, Int.sub_zero, List.map_take]
theorem slice_mid {ns : List Int} {i j : Int} (h0 : 0 ≤ i) (h1 : i ≤ j) (h2 : j ≤ ns.length) : Txt.slice (strArr ns) (some i) (some j) = strArr ((ns.drop i.toNat).take (j - i).toNat) := by
  have := beq_iff_eq.mp (slice_closesL (x := strArr ns) h0 h1 (by rw [strArr_len]; exact h2))
  rw [this, strArr_toList]
  unfold strArr
  rw [List.map_take, List.map_drop]
theorem eqS : PySem.Str.ofString "=" = strArr [61] := by decide +kernel
theorem foldl_rep (x : List Int) : ∀ (n : Nat) (acc : List Int), (List.replicate n (strArr x).cps).foldl (· ++ ·) (strArr acc).cps = (strArr (acc ++ (List.replicate n x).flatten)).cps := by
  intro n
  induction n with
  | zero => intro acc; simp
  | succ n ih =>
    intro acc
    rw [List.replicate_succ, List.foldl_cons]
    have e : (strArr acc).cps ++ (strArr x).cps = (strArr (acc ++ x)).cps := by rw [strArr_app]; rfl
    rw [e, ih, List.replicate_succ, List.flatten_cons, List.append_assoc]
theorem mul_strArr (x : List Int) (n : Int) : Txt.mul (strArr x) n = strArr (List.replicate n.toNat x).flatten := by
  unfold Txt.mul
  split
  · rw [show n.toNat = 0 by omega]; rfl
  · split
    · rename_i h1 h2
      rcases Bool.or_eq_true_iff.mp h2 with h | h
      · have e : n = 1 := by simpa using h
        subst e
        simp
      · have e : x = [] := by
          have h' : (strArr x).length = 0 := by simpa using h
          rw [strArr_len] at h'
          exact List.length_eq_zero_iff.mp h'
        subst e
        simp
    · have := foldl_rep x n.toNat []
      rw [List.nil_append] at this
      rw [← show (⟨(strArr (List.replicate n.toNat x).flatten).cps⟩ : PySem.Str) = strArr (List.replicate n.toNat x).flatten from rfl, ← this]
      rfl
theorem rep_one (n : Nat) (a : Int) : (List.replicate n [a]).flatten = List.replicate n a := by
  induction n with
  | zero => rfl
  | succ n ih => rw [List.replicate_succ, List.flatten_cons, ih, List.replicate_succ]; rfl
section
variable {prog : Program} {w : World} {A : Around} {E : Value → Shared → Prop} {s : Shared} {t u : Tok} {Q : Value → Shared → Prop}
theorem r_mulS {x : List Int} {n : Int} (hx : x.length ≤ 100) (hn : n ≤ 100) (h0 : 0 ≤ n) (h : ∀ t' k, Q (.str (strArr (List.replicate n.toNat x).flatten) t') { s with toks := k }) : wpAny (model prog w) A (binaryOp .Mult (.str (strArr x) t) (.int n u)) Q E s :=
  SB.mul (mulOk_of 100 100 (by rw [strArr_len]; exact hx) hn (by omega) (by decide) (by decide)) fun t' k => by rw [mul_strArr]; exact h t' k
theorem r_mulEq {n : Int} (hn : n ≤ 100) (h0 : 0 ≤ n) (h : ∀ t' k, Q (.str (strArr (List.replicate n.toNat 61)) t') { s with toks := k }) : wpAny (model prog w) A (binaryOp .Mult (.str (PySem.Str.ofString "=") t) (.int n u)) Q E s := by
  rw [eqS]; exact r_mulS (by decide) hn h0 (by rw [rep_one]; exact h)
theorem r_cutTo {w1 sl : PySem.Expr} {h₀ : Heap} {L : Addr} {m : PySem.Str → Option Value} {news : List (Addr × Obj)} {ns : List Int} {j : Int} {tj : Tok} (hF : Fr h₀ L s.heap m) (hN : News h₀ L s.heap news) (h0 : 0 ≤ j) (hj : j ≤ ns.length) (hz : ns.length ≤ 1000000)
    (h : ∀ h' t' k, Fr h₀ L h' m → News h₀ L h' news → Q (.str (strArr (ns.take j.toNat)) t') { s with heap := h', toks := k })
    (hs : subscripted sl false (.str (strArr ns) t) (.ref s.heap.objs.size) = operate [.ref s.heap.objs.size, .str (strArr ns) t] (getItem (.str (strArr ns) t) (.ref s.heap.objs.size)) := by with_unfolding_all rfl)
    (ht : ∀ r, letTemporaryGo w1 (.str (strArr ns) t) r = pure () := by intro _; with_unfolding_all rfl) :
    wpAny (model prog w) A (subscriptTail w1 sl (.str (strArr ns) t) (.ref s.heap.objs.size)) Q E { s with heap := s.heap.push { cls := .type "slice", data := .fields #[.none, .int j tj, .none] } } :=
  slice_strN_ns hF hN (by rw [slice_to h0 hj]; exact h) hs ht (by rw [strArr_len, sizeLine_eq]; omega)
noncomputable def SIGNS : PySem.Str := PySem.Str.ofString "ABCDEFGHIJKLMNOPQRSTUVWXYZabcdefghijklmnopqrstuvwxyz0123456789+/"
theorem signs_eq : PySem.Str.ofString "ABCDEFGHIJKLMNOPQRSTUVWXYZabcdefghijklmnopqrstuvwxyz0123456789+/" = strArr (B64L.map fun b => (b.toNat : Int)) := by decide +kernel
theorem item_signs {i : Int} (h0 : 0 ≤ i) (h1 : i < 64) : Txt.item (strArr (B64L.map fun b => (b.toNat : Int))) i = strArr [c64 i] := by
  obtain ⟨i, rfl⟩ := Int.eq_ofNat_of_zero_le h0
  have h1' : i < 64 := by omega
  have key : ∀ i : Nat, i < 64 → Txt.item (strArr (B64L.map fun b => (b.toNat : Int))) (i : Int) = strArr [c64 (i : Int)] := by decide +kernel
  exact key i h1'
theorem r_sign {w1 sl : PySem.Expr} {i : Int} (h0 : 0 ≤ i) (h1 : i < 64) (h : ∀ t' k, Q (.str (strArr [c64 i]) t') { s with toks := k })
    (hs : subscripted sl false (.str (PySem.Str.ofString "ABCDEFGHIJKLMNOPQRSTUVWXYZabcdefghijklmnopqrstuvwxyz0123456789+/") t) (.int i u) = operate [.str (PySem.Str.ofString "ABCDEFGHIJKLMNOPQRSTUVWXYZabcdefghijklmnopqrstuvwxyz0123456789+/") t, .int i u] (getItem (.str (PySem.Str.ofString "ABCDEFGHIJKLMNOPQRSTUVWXYZabcdefghijklmnopqrstuvwxyz0123456789+/") t) (.int i u)) := by with_unfolding_all rfl)
    (ht : ∀ r, letTemporaryGo w1 (.str (PySem.Str.ofString "ABCDEFGHIJKLMNOPQRSTUVWXYZabcdefghijklmnopqrstuvwxyz0123456789+/") t) r = pure () := by intro _; with_unfolding_all rfl) :
    wpAny (model prog w) A (subscriptTail w1 sl (.str (PySem.Str.ofString "ABCDEFGHIJKLMNOPQRSTUVWXYZabcdefghijklmnopqrstuvwxyz0123456789+/") t) (.int i u)) Q E s := by
  have e : (strArr (B64L.map fun b => (b.toNat : Int))).length = 64 := by rw [strArr_len, List.length_map]; rfl
  exact item_str (fitsSsize_of (N := 9223372036854775808) (by omega) (by omega) (Int.le_refl _)) (by rw [signs_eq, e]; omega) (by rw [signs_eq, e]; omega) (fun _ => by rw [signs_eq, item_signs h0 h1]; exact h _ _) hs ht
theorem r_pow256 {k : Int} (h0 : 0 ≤ k) (h1 : k ≤ 100) (h : Q (.int (256 ^ k.toNat) s.toks) { s with toks := s.toks + 1 }) : wpAny (model prog w) A (binaryOp .Pow (.int 256 t) (.int k u)) Q E s :=
  pow_int_small h0 (by omega) (by decide) h
theorem pow256_small {k : Int} (h1 : k ≤ 2) : (256 : Int) ^ k.toNat ≤ 65536 ∧ 0 < (256 : Int) ^ k.toNat := by
  have : k.toNat = 0 ∨ k.toNat = 1 ∨ k.toNat = 2 := by omega
  rcases this with h | h | h <;> rw [h] <;> decide
theorem r_mulW {a : Int} (h : Q (.int (a * 256) s.toks) { s with toks := s.toks + 1 }) : wpAny (model prog w) A (binaryOp .Mult (.int a t) (.int 256 u)) Q E s :=
  PyProof.Rows.mul_int h (IntMulOk.of_right (intBits_le_64 (by decide) (by decide)))
theorem r_imulP {a k : Int} (hk : k ≤ 2) (h : Q (.int (a * 256 ^ k.toNat) s.toks) { s with toks := s.toks + 1 }) : wpAny (model prog w) A (inplaceOp .Mult (.int a t) (.int (256 ^ k.toNat) u)) Q E s :=
  PyProof.Rows.imul_int h (IntMulOk.of_right (intBits_le_64 (by have := pow256_small hk; omega) (by have := pow256_small hk; omega)))
end
end
section
section
variable {prog : Program} {w : World} {A : Around} {E : Value → Shared → Prop} {s : Shared} {env : Env} {h₀ : Heap} {x : PySem.Str} {body : List Stmt} {Q : Flow → Shared → Prop}
/-- a loop over range(b) whose body turns a text under y₁ and an int under y₂ -/
theorem loop_ti {r : Addr} {news : List (Addr × Obj)} {b₀ : Int} {t₀ u₀ v₀ : Tok} {m₀ : PySem.Str → Option Value} (y₁ y₂ : PySem.Str) (P : List Int → List Int → Int → Prop) {x0 : List Int} {w0 : Int} {tx tw : Tok}
    (hh : A.handled = none) (hr : IsRange s.heap r 0 b₀ 1 t₀ u₀ v₀) (hb : 0 ≤ b₀) (hb2 : b₀ < 1000000) (F : Fr h₀ env.locals s.heap m₀) (N : News h₀ env.locals s.heap news)
    (hk1 : m₀ y₁ = some (.str (strArr x0) tx)) (hk2 : m₀ y₂ = some (.int w0 tw)) (hp : P [] x0 w0)
    (turn : ∀ (tx : List Int) (t1 : Tok) (wh : Int) (t2 : Tok) (pre : List Int) (k : Int) t (u : PySem.Str → Option Value) h tk own, k = (pre.length : Int) → 0 ≤ k → k < b₀ → OwnOff own (news.map (·.1)) → P pre tx wh → KstMark →
      Fr h₀ env.locals h (fun y => if y = x then some (.int k t) else if y = y₁ then some (.str (strArr tx) t1) else if y = y₂ then some (.int wh t2) else m₀ y) → News h₀ env.locals h (news ++ own) →
      wpAny (model prog w) A (execs body env) (InvPostN h₀ env.locals (KstS (fun _ : List Int × Tok × Int × Tok => news) (fun c => [(y₁, .str (strArr c.1) c.2.1), (y₂, .int c.2.2.1 c.2.2.2)]) (fun _ => True) x [] m₀ (fun pre c => P pre c.1 c.2.2.1) (pre ++ [k])) own (news.map (·.1)) { s with heap := h, toks := tk } Q) E { s with heap := h, toks := tk })
    (done : ∀ (tx : List Int) (t1 : Tok) (wh : Int) (t2 : Tok) (pre : List Int) (u : PySem.Str → Option Value) h tk, (pre.length : Int) = b₀ → P pre tx wh → KstMark →
      Fr h₀ env.locals h (fun y => if y = x then u y else if y = y₁ then some (.str (strArr tx) t1) else if y = y₂ then some (.int wh t2) else m₀ y) → News h₀ env.locals h news → Q .next { s with heap := h, toks := tk }) :
    wpAny (model prog w) A (pyIter (.ref r)) (fun it s₂ => LoopAtV prog w A h₀ env x body Q E it s₂) E s := by
  refine kst_rangeS (fun _ : List Int × Tok × Int × Tok => news) (fun c => [(y₁, .str (strArr c.1) c.2.1), (y₂, .int c.2.2.1 c.2.2.2)]) (fun _ => True) [] (fun pre c => P pre c.1 c.2.2.1) (x0, tx, w0, tw) hh hr hb hb2 (by decide) (by decide) F N trivial
    (fun p hp => ?_) hp
    (fun c pre k t u h tk own h1 h2 h3 h4 h5 _ h6 h7 h8 => turn c.1 c.2.1 c.2.2.1 c.2.2.2 pre k t u h tk own (by omega) h3 h4 h5 h6 kstMark h7 h8)
    (fun c u h tk _ h1 h2 h3 => done c.1 c.2.1 c.2.2.1 c.2.2.2 _ u h tk ?_ h1 kstMark h2 h3)
  · rcases List.mem_cons.mp hp with rfl | hp
    · exact hk1
    · rcases List.mem_cons.mp hp with rfl | hp
      · exact hk2
      · exact nomatch hp
  · rw [stepKs_length, ← stepN_eq (by decide)]
    unfold Builtin.Range.rangeSize
    rw [if_pos (by decide)]
    split
    · rw [Int.ediv_one]; omega
    · omega
end
end
section
/-- base64 by threes -/
noncomputable def b64B : List Int → List Int
  | a :: b :: c :: r => c64 (a / 4) :: c64 (a % 4 * 16 + b / 16) :: c64 (b % 16 * 4 + c / 64) :: c64 (c % 64) :: b64B r
  | [a, b] => [c64 (a / 4), c64 (a % 4 * 16 + b / 16), c64 (b % 16 * 4), 61]
  | [a] => [c64 (a / 4), c64 (a % 4 * 16), 61, 61]
  | [] => []
noncomputable def encFin (st : List Int × Int × Int) : List Int :=
  if st.2.1 = 0 then st.1 ++ [10]
  else if st.2.1 = 2 then st.1 ++ [c64 (st.2.2 % 4 * 16)] ++ [61] ++ [61] ++ [10]
  else st.1 ++ [c64 (st.2.2 % 16 * 4)] ++ [61] ++ [10]
theorem b2aL_fin (p : List Int) : b2aL p = encFin (p.foldl encStep ([], 0, 0)) := rfl
theorem in_head {a : Int} {r : List Int} (h : KBa.In (a :: r)) : 0 ≤ a ∧ a < 256 := h a (.head _)
theorem in_tail {a : Int} {r : List Int} (h : KBa.In (a :: r)) : KBa.In r := fun n hn => h n (.tail _ hn)
-- small sums, each proved once
theorem dvA (x c m : Int) (h0 : 0 ≤ c) (h1 : c < m) : (x * m + c) / m = x := by
  rw [Int.add_comm, Int.add_mul_ediv_right _ _ (Int.ne_of_gt (Int.lt_of_le_of_lt h0 h1)), Int.ediv_eq_zero_of_lt h0 h1, Int.zero_add]
theorem q1 {a : Int} (ha : 0 ≤ a ∧ a < 256) : 0 ≤ a / 4 ∧ a / 4 < 64 := by omega
theorem q2 {a b : Int} (hb : 0 ≤ b ∧ b < 256) : 0 ≤ a % 4 * 16 + b / 16 ∧ a % 4 * 16 + b / 16 < 64 := by omega
theorem q3 {b c : Int} (hc : 0 ≤ c ∧ c < 256) : 0 ≤ b % 16 * 4 + c / 64 ∧ b % 16 * 4 + c / 64 < 64 := by omega
theorem q4 {c : Int} : 0 ≤ c % 64 ∧ c % 64 < 64 := by omega
theorem q5 {a : Int} : 0 ≤ a % 4 * 16 ∧ a % 4 * 16 < 64 := by omega
theorem q6 {a : Int} : 0 ≤ a % 16 * 4 ∧ a % 16 * 4 < 64 := by omega
theorem z0 : (0 : Int) ≤ 0 ∧ (0 : Int) < 256 := by decide
theorem s3A (a b c : Int) : a * 65536 + b * 256 + c = (a * 256 + b) * 256 + c := by rw [Int.add_mul, Int.mul_assoc]; rfl
theorem bc2 {b c : Int} (hb : 0 ≤ b ∧ b < 256) (hc : 0 ≤ c ∧ c < 256) : 0 ≤ b * 256 + c ∧ b * 256 + c < 65536 := by omega
theorem sh2 {a b : Int} (hb : 0 ≤ b ∧ b < 256) : (a * 256 + b) / 16 % 64 = a % 4 * 16 + b / 16 := by omega
theorem sh3 {b c : Int} (hc : 0 ≤ c ∧ c < 256) : (b * 256 + c) / 64 % 64 = b % 16 * 4 + c / 64 := by
  rw [show b * 256 = b * 4 * 64 by rw [Int.mul_assoc]; rfl, Int.add_comm, Int.add_mul_ediv_right _ _ (by decide), show c / 64 + b * 4 = (b % 16 * 4 + c / 64) + b / 16 * 64 by omega, Int.add_mul_emod_self_right, Int.emod_eq_of_lt (q3 hc).1 (q3 hc).2]
theorem w1 {a b c : Int} (ha : 0 ≤ a ∧ a < 256) (hb : 0 ≤ b ∧ b < 256) (hc : 0 ≤ c ∧ c < 256) : (a * 65536 + b * 256 + c) / 262144 % 64 = a / 4 := by
  rw [Int.add_assoc, show (262144 : Int) = 65536 * 4 from rfl, ← Int.ediv_ediv_of_nonneg (by decide), dvA a _ 65536 (bc2 hb hc).1 (bc2 hb hc).2, Int.emod_eq_of_lt (q1 ha).1 (q1 ha).2]
theorem w2 {a b c : Int} (hb : 0 ≤ b ∧ b < 256) (hc : 0 ≤ c ∧ c < 256) : (a * 65536 + b * 256 + c) / 4096 % 64 = a % 4 * 16 + b / 16 := by
  rw [s3A, show (4096 : Int) = 256 * 16 from rfl, ← Int.ediv_ediv_of_nonneg (by decide), dvA _ _ 256 hc.1 hc.2, sh2 hb]
theorem w3 {a b c : Int} (hc : 0 ≤ c ∧ c < 256) : (a * 65536 + b * 256 + c) / 64 % 64 = b % 16 * 4 + c / 64 := by
  rw [Int.add_assoc, show a * 65536 = a * 16 * 64 * 64 by rw [Int.mul_assoc, Int.mul_assoc]; rfl, Int.add_comm, Int.add_mul_ediv_right _ _ (by decide), Int.add_mul_emod_self_right, sh3 hc]
theorem w4 {a b c : Int} : (a * 65536 + b * 256 + c) / 1 % 64 = c % 64 := by
  rw [Int.ediv_one, s3A, show ((a * 256 + b) * 256) = ((a * 256 + b) * 4) * 64 by rw [Int.mul_assoc]; rfl, Int.add_comm, Int.add_mul_emod_self_right]
theorem y1 {y b : Int} (hb : 0 ≤ b ∧ b < 256) : (y * 256 + b) % 65536 / 4 % 64 = b / 4 := by omega
theorem y2 {y b : Int} (hb : 0 ≤ b ∧ b < 256) : (y * 256 + b) % 65536 / 16 % 64 = y % 4 * 16 + b / 16 := by omega
theorem y3 {y b : Int} (hb : 0 ≤ b ∧ b < 256) : (y * 256 + b) % 65536 / 64 % 64 = y % 16 * 4 + b / 64 := by omega
theorem ym (y b m k : Int) (h : m ∣ 65536) (hk : 256 = k * m) : (y * 256 + b) % 65536 % m = b % m := by
  rw [Int.emod_emod_of_dvd _ h, hk, ← Int.mul_assoc, Int.add_comm, Int.add_mul_emod_self_right]
theorem y4 (y b : Int) : (y * 256 + b) % 65536 % 64 = b % 64 := ym y b 64 4 (by decide) rfl
theorem y5 (y b : Int) : (y * 256 + b) % 65536 % 4 = b % 4 := ym y b 4 64 (by decide) rfl
theorem y6 (y b : Int) : (y * 256 + b) % 65536 % 16 = b % 16 := ym y b 16 16 (by decide) rfl
theorem d1 {a b : Int} (hb : 0 ≤ b ∧ b < 256) : a / 4 * 4 + (a % 4 * 16 + b / 16) / 16 = a := by omega
theorem d2 {a b c : Int} (hb : 0 ≤ b ∧ b < 256) (hc : 0 ≤ c ∧ c < 256) : (a % 4 * 16 + b / 16) % 16 * 16 + (b % 16 * 4 + c / 64) / 4 = b := by
  have x1 : (a % 4 * 16 + b / 16) % 16 = b / 16 := by rw [Int.add_comm, Int.add_mul_emod_self_right, Int.emod_eq_of_lt (by omega) (by omega)]
  have x2 : (b % 16 * 4 + c / 64) / 4 = b % 16 := dvA _ _ 4 (by omega) (by omega)
  rw [x1, x2]; omega
theorem d3 {b c : Int} (hc : 0 ≤ c ∧ c < 256) : (b % 16 * 4 + c / 64) % 4 * 64 + c % 64 = c := by
  rw [Int.add_comm (b % 16 * 4), Int.add_mul_emod_self_right, Int.emod_eq_of_lt (a := c / 64) (by omega) (by omega)]; omega
theorem encStep0 {out : List Int} {lc n : Int} : encStep (out, 0, lc) n = (out ++ [c64 ((lc * 256 + n) % 65536 / 4 % 64)], 2, (lc * 256 + n) % 65536) := rfl
theorem encStep2 {out : List Int} {lc n : Int} : encStep (out, 2, lc) n = (out ++ [c64 ((lc * 256 + n) % 65536 / 16 % 64)], 4, (lc * 256 + n) % 65536) := rfl
theorem encStep4 {out : List Int} {lc n : Int} : encStep (out, 4, lc) n = (out ++ [c64 ((lc * 256 + n) % 65536 / 64 % 64)] ++ [c64 ((lc * 256 + n) % 65536 % 64)], 0, (lc * 256 + n) % 65536) := rfl
theorem enc_fin : ∀ (p : List Int), KBa.In p → ∀ (out : List Int) (lc : Int), 0 ≤ lc → encFin (p.foldl encStep (out, 0, lc)) = out ++ b64B p ++ [10]
  | a :: b :: c :: r, h, out, lc, hl => by
    have ha := in_head h
    have hb := in_head (in_tail h)
    have hc := in_head (in_tail (in_tail h))
    rw [List.foldl_cons, List.foldl_cons, List.foldl_cons, encStep0, encStep2, encStep4, enc_fin r (in_tail (in_tail (in_tail h))) _ _ (by omega)]
    have e1 : (lc * 256 + a) % 65536 / 4 % 64 = a / 4 := y1 ha
    have e2 : ((lc * 256 + a) % 65536 * 256 + b) % 65536 / 16 % 64 = a % 4 * 16 + b / 16 := by rw [y2 hb, y5]
    have e3 : (((lc * 256 + a) % 65536 * 256 + b) % 65536 * 256 + c) % 65536 / 64 % 64 = b % 16 * 4 + c / 64 := by rw [y3 hc, y6]
    have e4 : (((lc * 256 + a) % 65536 * 256 + b) % 65536 * 256 + c) % 65536 % 64 = c % 64 := y4 _ _
    rw [e1, e2, e3, e4]
    simp [b64B]
  | [a, b], h, out, lc, hl => by
    have ha := in_head h
    have hb := in_head (in_tail h)
    rw [List.foldl_cons, List.foldl_cons, List.foldl_nil, encStep0, encStep2]
    have e1 : (lc * 256 + a) % 65536 / 4 % 64 = a / 4 := y1 ha
    have e2 : ((lc * 256 + a) % 65536 * 256 + b) % 65536 / 16 % 64 = a % 4 * 16 + b / 16 := by rw [y2 hb, y5]
    have e3 : ((lc * 256 + a) % 65536 * 256 + b) % 65536 % 16 * 4 = b % 16 * 4 := by rw [y6]
    simp only [encFin, e1, e2, e3]
    simp [b64B]
  | [a], h, out, lc, hl => by
    have ha := in_head h
    rw [List.foldl_cons, List.foldl_nil, encStep0]
    have e1 : (lc * 256 + a) % 65536 / 4 % 64 = a / 4 := y1 ha
    have e3 : (lc * 256 + a) % 65536 % 4 * 16 = a % 4 * 16 := by rw [y5]
    simp only [encFin, e1, e3]
    simp [b64B]
  | [], _, out, lc, _ => by simp [encFin, b64B]
theorem b2aL_eq {p : List Int} (h : KBa.In p) : b2aL p = b64B p ++ [10] := by
  rw [b2aL_fin, enc_fin p h [] 0 (by decide), List.nil_append]
-- the number's way
theorem num_fold : ∀ (r : List Int) (a : Int), r.foldl (fun x y => x * 256 + y) a = a * 256 ^ r.length + num r
  | [], a => by simp [num]
  | b :: r, a => by
    rw [List.foldl_cons, num_fold r, List.length_cons, Int.pow_succ]
    have : num (b :: r) = b * 256 ^ r.length + num r := by
      unfold num; rw [List.foldl_cons]; have := num_fold r (0 * 256 + b); rw [this]; simp [num]
    rw [this, Int.add_mul, Int.mul_assoc, Int.mul_comm 256, Int.add_assoc]
theorem num_cons (b : Int) (r : List Int) : num (b :: r) = b * 256 ^ r.length + num r := by
  unfold num; rw [List.foldl_cons]; have := num_fold r (0 * 256 + b); rw [this]; simp [num]
theorem num_lo : ∀ {r : List Int}, KBa.In r → 0 ≤ num r
  | [], _ => by decide
  | b :: r, h => by
    rw [num_cons]
    exact Int.add_nonneg (Int.mul_nonneg (in_head h).1 (Int.pow_nonneg (by decide))) (num_lo (in_tail h))
theorem num_hi : ∀ {r : List Int}, KBa.In r → num r < 256 ^ r.length
  | [], _ => by decide
  | b :: r, h => by
    rw [num_cons, List.length_cons, Int.pow_succ]
    have h1 := num_hi (in_tail h)
    have h2 : b * 256 ^ r.length ≤ 255 * 256 ^ r.length := Int.mul_le_mul_of_nonneg_right (by have := in_head h; omega) (Int.pow_nonneg (by decide))
    have h3 : (256 : Int) ^ r.length * 256 = 255 * 256 ^ r.length + 256 ^ r.length := by omega
    omega
theorem digs_add (X V : Int) (n : Nat) : ∀ j, j ≤ n → digs (X * 64 ^ n + V) j = digs V j
  | 0, _ => rfl
  | j + 1, h => by
    unfold digs
    rw [digs_add X V n j (by omega)]
    have hp : (0 : Int) < 64 ^ j := Int.pow_pos (by decide)
    have e : X * 64 ^ n = X * 64 ^ (n - j - 1) * 64 * 64 ^ j := by
      rw [Int.mul_assoc, Int.mul_assoc, ← Int.pow_succ', ← Int.pow_add, show n - j - 1 + (j + 1) = n by omega]
    rw [e, Int.add_comm, Int.add_mul_ediv_right _ _ (by omega), Int.add_mul_emod_self_right]
theorem digs_high {X V : Int} {n i : Nat} (h0 : 0 ≤ V) (h1 : V < 64 ^ n) : (X * 64 ^ n + V) / 64 ^ (n + i) % 64 = X / 64 ^ i % 64 := by
  have hp : (0 : Int) < 64 ^ n := Int.pow_pos (by decide)
  rw [Int.pow_add, ← Int.ediv_ediv_of_nonneg (by omega), Int.add_comm, Int.add_mul_ediv_right _ _ (by omega), Int.ediv_eq_zero_of_lt h0 h1, Int.zero_add]
theorem lack3 {a b c : Int} {r : List Int} : lackL (a :: b :: c :: r) = lackL r := by unfold lackL; simp only [List.length_cons]; omega
theorem rowN3 {a b c : Int} {r : List Int} : rowN (a :: b :: c :: r) = rowN r + 4 := by unfold rowN; rw [lack3]; simp only [List.length_cons]; omega
theorem lack_lo (r : List Int) : 0 ≤ lackL r ∧ lackL r ≤ 2 := by unfold lackL; omega
theorem row_lo (r : List Int) : lackL r ≤ rowN r := by unfold rowN lackL; omega
theorem pow_256_64 (q : Nat) : (256 : Int) ^ (3 * q) = 64 ^ (4 * q) := by
  rw [Int.pow_mul, Int.pow_mul]; rfl
theorem row_pow (r : List Int) : (256 : Int) ^ (r.length + (lackL r).toNat) = 64 ^ (rowN r).toNat := by
  have h : ∃ q : Nat, r.length + (lackL r).toNat = 3 * q ∧ (rowN r).toNat = 4 * q := by
    refine ⟨(r.length + (lackL r).toNat) / 3, ?_, ?_⟩
    · unfold lackL; omega
    · unfold rowN lackL; omega
  obtain ⟨q, h1, h2⟩ := h
  rw [h1, h2, pow_256_64]
theorem digs4 (W : Int) (n : Nat) : digs W (n + 4) = c64 (W / 64 ^ (n + 3) % 64) :: c64 (W / 64 ^ (n + 2) % 64) :: c64 (W / 64 ^ (n + 1) % 64) :: c64 (W / 64 ^ n % 64) :: digs W n := rfl
theorem rowL3 {a b c : Int} {r : List Int} (h : KBa.In (a :: b :: c :: r)) : rowL (a :: b :: c :: r) = c64 (a / 4) :: c64 (a % 4 * 16 + b / 16) :: c64 (b % 16 * 4 + c / 64) :: c64 (c % 64) :: rowL r := by
  have ha := in_head h
  have hb := in_head (in_tail h)
  have hc := in_head (in_tail (in_tail h))
  have hr := in_tail (in_tail (in_tail h))
  have hl := lack_lo r
  have hn := row_lo r
  have hW : num (a :: b :: c :: r) * 256 ^ (lackL r).toNat = (a * 65536 + b * 256 + c) * 64 ^ (rowN r).toNat + num r * 256 ^ (lackL r).toNat := by
    rw [← row_pow r, num_cons, num_cons, num_cons]
    simp only [List.length_cons, Int.pow_succ, Int.pow_add]
    have e1 : a * (256 ^ r.length * 256 * 256) + (b * (256 ^ r.length * 256) + (c * 256 ^ r.length + num r)) = (a * 65536 + b * 256 + c) * 256 ^ r.length + num r := by
      rw [Int.add_mul, Int.add_mul]
      have x1 : a * (256 ^ r.length * 256 * 256) = a * 65536 * 256 ^ r.length := by rw [show (256 : Int) ^ r.length * 256 * 256 = 65536 * 256 ^ r.length by omega, Int.mul_assoc]
      have x2 : b * (256 ^ r.length * 256) = b * 256 * 256 ^ r.length := by rw [Int.mul_assoc b 256, Int.mul_comm (256 ^ r.length)]
      rw [x1, x2]; omega
    rw [e1, Int.add_mul, Int.mul_assoc]
  have hV0 : 0 ≤ num r * 256 ^ (lackL r).toNat := Int.mul_nonneg (num_lo hr) (Int.pow_nonneg (by decide))
  have hV1 : num r * 256 ^ (lackL r).toNat < 64 ^ (rowN r).toNat := by
    rw [← row_pow r, Int.pow_add]
    exact Int.mul_lt_mul_of_pos_right (num_hi hr) (Int.pow_pos (by decide))
  have hN : (rowN r + 4).toNat = (rowN r).toNat + 4 := by omega
  have hT : (rowN r + 4 - lackL r).toNat = (rowN r - lackL r).toNat + 4 := by omega
  have h0 := digs_high (X := a * 65536 + b * 256 + c) (i := 0) hV0 hV1
  have h1 := digs_high (X := a * 65536 + b * 256 + c) (i := 1) hV0 hV1
  have h2 := digs_high (X := a * 65536 + b * 256 + c) (i := 2) hV0 hV1
  have h3 := digs_high (X := a * 65536 + b * 256 + c) (i := 3) hV0 hV1
  rw [Nat.add_zero] at h0
  unfold rowL
  rw [lack3, rowN3, hW, hN, hT, digs4, h0, h1, h2, h3, digs_add _ _ _ _ (Nat.le_refl _)]
  rw [show (64 : Int) ^ 0 = 1 from rfl, show (64 : Int) ^ 1 = 64 from rfl, show (64 : Int) ^ 2 = 4096 from rfl, show (64 : Int) ^ 3 = 262144 from rfl]
  rw [w1 ha hb hc, w2 hb hc, w3 hc, w4]
  rfl
theorem rowL_eq : ∀ {p : List Int}, KBa.In p → rowL p = b64B p
  | a :: b :: c :: r, h => by rw [rowL3 h, rowL_eq (in_tail (in_tail (in_tail h)))]; rfl
  | [a, b], h => by
    have ha := in_head h
    have hb := in_head (in_tail h)
    have e1 : lackL [a, b] = 1 := by unfold lackL; simp only [List.length_cons, List.length_nil]; omega
    have e2 : rowN [a, b] = 4 := by unfold rowN; rw [e1]; simp only [List.length_cons, List.length_nil]; omega
    have eW : num [a, b] * 256 ^ (1 : Int).toNat = (a * 256 + b) * 256 := by unfold num; simp only [List.foldl_cons, List.foldl_nil]; rw [show (256 : Int) ^ (1 : Int).toNat = 256 from rfl]; omega
    unfold rowL
    rw [e1, e2, eW]
    show [c64 ((a * 256 + b) * 256 / 64 ^ 3 % 64), c64 ((a * 256 + b) * 256 / 64 ^ 2 % 64), c64 ((a * 256 + b) * 256 / 64 ^ 1 % 64), 61] = [c64 (a / 4), c64 (a % 4 * 16 + b / 16), c64 (b % 16 * 4), 61]
    rw [show (64 : Int) ^ 1 = 64 from rfl, show (64 : Int) ^ 2 = 4096 from rfl, show (64 : Int) ^ 3 = 262144 from rfl]
    have r3 := w3 (a := a) (b := b) z0
    rw [s3A, Int.add_zero, show (0 : Int) / 64 = 0 from rfl, Int.add_zero] at r3
    have r1 := w1 ha hb z0
    have r2 := w2 (a := a) hb z0
    rw [s3A, Int.add_zero] at r1 r2
    rw [r1, r2, r3]
  | [a], h => by
    have ha := in_head h
    have e1 : lackL [a] = 2 := by unfold lackL; simp only [List.length_cons, List.length_nil]; omega
    have e2 : rowN [a] = 4 := by unfold rowN; rw [e1]; simp only [List.length_cons, List.length_nil]; omega
    have eW : num [a] * 256 ^ (2 : Int).toNat = a * 65536 := by unfold num; simp only [List.foldl_cons, List.foldl_nil]; rw [show (256 : Int) ^ (2 : Int).toNat = 65536 from rfl]; omega
    unfold rowL
    rw [e1, e2, eW]
    show [c64 (a * 65536 / 64 ^ 3 % 64), c64 (a * 65536 / 64 ^ 2 % 64), 61, 61] = [c64 (a / 4), c64 (a % 4 * 16), 61, 61]
    rw [show (64 : Int) ^ 2 = 4096 from rfl, show (64 : Int) ^ 3 = 262144 from rfl]
    have r1 := w1 ha z0 z0
    have r2 := w2 (a := a) z0 z0
    rw [Int.zero_mul, Int.add_zero, Int.add_zero] at r1 r2
    rw [show (0 : Int) / 16 = 0 from rfl, Int.add_zero] at r2
    rw [r1, r2]
  | [], _ => by rfl
theorem encL_page {ns : List Int} (hin : KBa.In ns) (k : Int) : encL ns (k / 4 * 3) = pageL (rowsL ns (3 * (k / 4))) [] := by
  unfold encL encPs pageL rowsL rowPs
  rw [List.map_map, Int.mul_comm (k / 4) 3]
  congr 1
  refine List.map_congr_left fun i _ => ?_
  have h := cutL_in (m := 3 * (k / 4)) (k := i) hin
  show b2aL _ = [] ++ rowL _ ++ [10]
  rw [b2aL_eq h, rowL_eq h, List.nil_append]
-- reading back
/-- a sign that is read -/
noncomputable def seen (c : Int) : Bool := decide (c = 61) || decide (b64v c < 64)
theorem decStep_skip {st : List Int × Int × Int × Int} {c : Int} (h : seen c = false) : decStep st c = st := by
  unfold seen at h
  rw [Bool.or_eq_false_iff, decide_eq_false_iff_not, decide_eq_false_iff_not] at h
  unfold decStep
  rw [if_neg h.1, if_pos (by omega)]
theorem dec_filter : ∀ (l : List Int) (st : List Int × Int × Int × Int), l.foldl decStep st = (l.filter seen).foldl decStep st
  | [], _ => rfl
  | c :: l, st => by
    rw [List.foldl_cons]
    cases h : seen c with
    | false => rw [List.filter_cons_of_neg (by rw [h]; decide), decStep_skip h, dec_filter l st]
    | true => rw [List.filter_cons_of_pos h, List.foldl_cons, dec_filter l]
theorem c64_key : ∀ k : Nat, k < 64 → b64v (c64 (k : Int)) = (k : Int) ∧ c64 (k : Int) ≠ 61 ∧ 0 ≤ c64 (k : Int) ∧ c64 (k : Int) < 128 := by decide +kernel
theorem b64v_c64 {k : Int} (h0 : 0 ≤ k) (h1 : k < 64) : b64v (c64 k) = k ∧ c64 k ≠ 61 ∧ 0 ≤ c64 k ∧ c64 k < 128 := by
  obtain ⟨n, rfl⟩ := Int.eq_ofNat_of_zero_le h0
  exact c64_key n (by omega)
theorem seen_c64 {k : Int} (h0 : 0 ≤ k) (h1 : k < 64) : seen (c64 k) = true := by
  unfold seen
  have h := b64v_c64 h0 h1
  rw [Bool.or_eq_true, decide_eq_true_iff, decide_eq_true_iff]
  exact .inr (by rw [h.1]; exact h1)
theorem st0 {out : List Int} {l p k : Int} (h0 : 0 ≤ k) (h1 : k < 64) : decStep (out, 0, l, p) (c64 k) = (out, 1, k, 0) := by
  have h := b64v_c64 h0 h1
  unfold decStep
  rw [if_neg h.2.1, if_neg (by omega), if_pos rfl, h.1]
theorem st1 {out : List Int} {l p k : Int} (h0 : 0 ≤ k) (h1 : k < 64) : decStep (out, 1, l, p) (c64 k) = (out ++ [l * 4 + k / 16], 2, k % 16, 0) := by
  have h := b64v_c64 h0 h1
  unfold decStep
  rw [if_neg h.2.1, if_neg (by omega), if_neg (by show ¬ (1 : Int) = 0; decide), if_pos rfl, h.1]
theorem st2 {out : List Int} {l p k : Int} (h0 : 0 ≤ k) (h1 : k < 64) : decStep (out, 2, l, p) (c64 k) = (out ++ [l * 16 + k / 4], 3, k % 4, 0) := by
  have h := b64v_c64 h0 h1
  unfold decStep
  rw [if_neg h.2.1, if_neg (by omega), if_neg (by show ¬ (2 : Int) = 0; decide), if_neg (by show ¬ (2 : Int) = 1; decide), if_pos rfl, h.1]
theorem st3 {out : List Int} {l p k : Int} (h0 : 0 ≤ k) (h1 : k < 64) : decStep (out, 3, l, p) (c64 k) = (out ++ [l * 64 + k], 0, 0, 0) := by
  have h := b64v_c64 h0 h1
  unfold decStep
  rw [if_neg h.2.1, if_neg (by omega), if_neg (by show ¬ (3 : Int) = 0; decide), if_neg (by show ¬ (3 : Int) = 1; decide), if_neg (by show ¬ (3 : Int) = 2; decide), h.1]
theorem stp {out : List Int} {q l p : Int} : decStep (out, q, l, p) 61 = (out, q, l, p + 1) := rfl
theorem dec_body : ∀ (ns : List Int), KBa.In ns → ∀ (out : List Int) (l p : Int), ∃ q l' p', (b64B ns).foldl decStep (out, 0, l, p) = (out ++ ns, q, l', p') ∧ q ≠ 1 ∧ (q = 0 ∨ 4 ≤ q + p')
  | a :: b :: c :: r, h, out, l, p => by
    have ha := in_head h
    have hb := in_head (in_tail h)
    have hc := in_head (in_tail (in_tail h))
    obtain ⟨q, l', p', h1, h2⟩ := dec_body r (in_tail (in_tail (in_tail h))) (out ++ [a / 4 * 4 + (a % 4 * 16 + b / 16) / 16] ++ [(a % 4 * 16 + b / 16) % 16 * 16 + (b % 16 * 4 + c / 64) / 4] ++ [(b % 16 * 4 + c / 64) % 4 * 64 + c % 64]) 0 0
    refine ⟨q, l', p', ?_, h2⟩
    show ((((b64B r).foldl decStep (decStep (decStep (decStep (decStep (out, 0, l, p) (c64 (a / 4))) (c64 (a % 4 * 16 + b / 16))) (c64 (b % 16 * 4 + c / 64))) (c64 (c % 64)))))) = _
    rw [st0 (q1 ha).1 (q1 ha).2, st1 (q2 hb).1 (q2 hb).2, st2 (q3 hc).1 (q3 hc).2, st3 q4.1 q4.2, h1]
    rw [d1 hb, d2 hb hc, d3 hc]
    simp
  | [a, b], h, out, l, p => by
    have ha := in_head h
    have hb := in_head (in_tail h)
    refine ⟨3, b % 16 * 4 % 4, 0 + 1, ?_, by decide, .inr (by decide)⟩
    show decStep (decStep (decStep (decStep (out, 0, l, p) (c64 (a / 4))) (c64 (a % 4 * 16 + b / 16))) (c64 (b % 16 * 4))) 61 = _
    rw [st0 (q1 ha).1 (q1 ha).2, st1 (q2 hb).1 (q2 hb).2, st2 q6.1 q6.2, stp]
    have r2 := d2 (a := a) hb z0
    rw [show (0 : Int) / 64 = 0 from rfl, Int.add_zero] at r2
    rw [d1 hb, r2]
    simp
  | [a], h, out, l, p => by
    have ha := in_head h
    refine ⟨2, a % 4 * 16 % 16, 0 + 1 + 1, ?_, by decide, .inr (by decide)⟩
    show decStep (decStep (decStep (decStep (out, 0, l, p) (c64 (a / 4))) (c64 (a % 4 * 16))) 61) 61 = _
    rw [st0 (q1 ha).1 (q1 ha).2, st1 q5.1 q5.2, stp, stp]
    have r2 := d1 (a := a) z0
    rw [show (0 : Int) / 16 = 0 from rfl, Int.add_zero] at r2
    rw [r2]
  | [], _, out, l, p => ⟨0, l, p, by simp [b64B], by decide, .inl rfl⟩
/-- a text whose read signs are the base64 of ns -/
noncomputable def Reads (T ns : List Int) : Prop := T.filter seen = b64B ns
theorem Reads.dec {T ns : List Int} (h : Reads T ns) (hin : KBa.In ns) : (decSt T).1 = ns ∧ DecGood T := by
  obtain ⟨q, l', p', h1, h2⟩ := dec_body ns hin [] 0 0
  have e : decSt T = (ns, q, l', p') := by
    unfold decSt; rw [dec_filter, h, h1, List.nil_append]
  unfold DecGood
  rw [e]
  exact ⟨rfl, h2⟩
theorem b64B_app : ∀ (p r : List Int), p.length % 3 = 0 → b64B (p ++ r) = b64B p ++ b64B r
  | a :: b :: c :: p, r, h => by
    show _ :: _ :: _ :: _ :: b64B (p ++ r) = _ :: _ :: _ :: _ :: (b64B p ++ b64B r)
    rw [b64B_app p r (by simp only [List.length_cons] at h; omega)]
  | [_, _], _, h => by simp at h
  | [_], _, h => by simp at h
  | [], _, _ => rfl
theorem b64B_seen : ∀ {p : List Int}, KBa.In p → ∀ c ∈ b64B p, seen c = true
  | a :: b :: c :: r, h => by
    have ha := in_head h
    have hb := in_head (in_tail h)
    have hc := in_head (in_tail (in_tail h))
    intro x hx
    rcases List.mem_cons.mp hx with rfl | hx
    · exact seen_c64 (q1 ha).1 (q1 ha).2
    rcases List.mem_cons.mp hx with rfl | hx
    · exact seen_c64 (q2 hb).1 (q2 hb).2
    rcases List.mem_cons.mp hx with rfl | hx
    · exact seen_c64 (q3 (in_head (in_tail (in_tail h)))).1 (q3 (in_head (in_tail (in_tail h)))).2
    rcases List.mem_cons.mp hx with rfl | hx
    · exact seen_c64 q4.1 q4.2
    exact b64B_seen (in_tail (in_tail (in_tail h))) x hx
  | [a, b], h => by
    have ha := in_head h
    have hb := in_head (in_tail h)
    intro x hx
    simp only [b64B, List.mem_cons, List.not_mem_nil, or_false] at hx
    rcases hx with rfl | rfl | rfl | rfl
    · exact seen_c64 (q1 ha).1 (q1 ha).2
    · exact seen_c64 (q2 hb).1 (q2 hb).2
    · exact seen_c64 q6.1 q6.2
    · rfl
  | [a], h => by
    have ha := in_head h
    intro x hx
    simp only [b64B, List.mem_cons, List.not_mem_nil, or_false] at hx
    rcases hx with rfl | rfl | rfl | rfl
    · exact seen_c64 (q1 ha).1 (q1 ha).2
    · exact seen_c64 q5.1 q5.2
    · rfl
    · rfl
  | [], _ => fun _ h => nomatch h
theorem rows_flat {ns : List Int} (hin : KBa.In ns) (fo : Nat) : ∀ n : Nat, (rowPs ns (3 * (fo : Int)) (stepKs n (3 * (fo : Int)))).flatten = b64B (ns.take (n * (3 * fo)))
  | 0 => by simp [rowPs, stepKs, b64B]
  | n + 1 => by
    have hs : stepKs (n + 1) (3 * (fo : Int)) = stepKs n (3 * (fo : Int)) ++ [(n : Int) * (3 * (fo : Int))] := by
      unfold stepKs; rw [List.range_succ, List.map_append]; rfl
    have hc : cutL ns (3 * (fo : Int)) ((n : Int) * (3 * (fo : Int))) = (ns.drop (n * (3 * fo))).take (3 * fo) := by
      unfold cutL
      rw [show ((n : Int) * (3 * (fo : Int))).toNat = n * (3 * fo) by rw [show (n : Int) * (3 * (fo : Int)) = ((n * (3 * fo) : Nat) : Int) by rw [Int.natCast_mul, Int.natCast_mul]; rfl]; rfl, show (3 * (fo : Int)).toNat = 3 * fo by omega]
    have hr : rowPs ns (3 * (fo : Int)) (stepKs n (3 * (fo : Int)) ++ [(n : Int) * (3 * (fo : Int))]) = rowPs ns (3 * (fo : Int)) (stepKs n (3 * (fo : Int))) ++ [rowL (cutL ns (3 * (fo : Int)) ((n : Int) * (3 * (fo : Int))))] := by
      unfold rowPs; rw [List.map_append]; rfl
    rw [hs, hr, List.flatten_append, rows_flat hin fo n, rowL_eq (cutL_in hin), hc]
    have ht : ns.take ((n + 1) * (3 * fo)) = ns.take (n * (3 * fo)) ++ (ns.drop (n * (3 * fo))).take (3 * fo) := by
      rw [Nat.add_mul, Nat.one_mul, List.take_add]
    rw [ht]
    by_cases hq : n * (3 * fo) ≤ ns.length
    · rw [b64B_app _ _ (by rw [List.length_take, Nat.min_eq_left hq, Nat.mul_left_comm]; omega)]
      simp
    · rw [List.drop_of_length_le (by omega)]
      simp [b64B]
end
section
set_option maxHeartbeats 8000000
/-- what a call hands back that makes a list of texts -/
noncomputable abbrev RetL (h₀ : Heap) (L : Addr) (m : PySem.Str → Option Value) (news : List (Addr × Obj)) (s : Shared) (Q : Value → Shared → Prop) (xs : List (List Int)) : Prop :=
  ∀ (D : Addr) (vs : List Value) (n : Nat) (h' : Heap) (tk' : Nat), TsAre vs xs → AllLt D news → Fr h₀ L h' m → News h₀ L h' ((D, listOf vs.toArray n) :: news) → Q (.ref D) { s with heap := h', toks := tk' }
/-- a contract: a call that makes a list of texts -/
noncomputable abbrev SaysL (w : World) (d u : Nat) (f : Addr) (vs : List Value) (xs : List (List Int)) : Prop :=
  ∀ (p : Program) (loose : List PySem.Str) (mean : ExcName → Option Value) (mg mb : PySem.Str → Option Value)
  (dp un : Nat) (gd : Option (List Code)) (cn : PySem.Str) (cs : Scope) (a : Addr) (ccd : Value) (cl : List (PySem.Str × Addr)) (outer : List Env) (A₀ : Around) (base h₀ : Heap) (L : Addr) (m : PySem.Str → Option Value) (news : List (Addr × Obj)) (s : Shared)
    (Q E : Value → Shared → Prop),
    Below A₀ base outer h₀ → Fr h₀ L s.heap m → (KH w.params).In h₀ → News h₀ L s.heap news → Top p loose mean mg mb h₀ → cs.kind = .function → dp + d < recursionLimit → un + u < cLine →
    RetL h₀ L m news s Q xs →
    wpAny (model PySem.Challenge.rw_kl0275_01.prog w) (ktrTop dp un gd cn cs L a ccd cl outer) (call (.ref f) vs) Q E s
theorem emptyS : PySem.Str.ofString "" = strArr [] := by decide +kernel
/-- the octets taken so far as one number -/
noncomputable def OctInv (pre : List Int) (wh : Int) : Prop := wh = num pre
theorem oct_turn {pre : List Int} {n : Int} : OctInv (pre ++ [n]) (num pre * 256 + n) := (num_snoc pre n).symm
/-- the signs read off so far -/
noncomputable def PlInv (W : Int) (pre r : List Int) (wh : Int) : Prop := wh = W / 64 ^ pre.length ∧ r = digs W pre.length
theorem pl0 {W : Int} : PlInv W [] [] W := ⟨by show W = W / 64 ^ 0; rw [Int.pow_zero, Int.ediv_one], rfl⟩
theorem pl_turn {W : Int} {pre : List Int} {wh k : Int} (h : wh = W / 64 ^ pre.length) : PlInv W (pre ++ [k]) ([c64 (wh % 64)] ++ digs W pre.length) (wh / 64) := by
  subst h
  refine ⟨?_, ?_⟩
  · rw [List.length_append, List.length_singleton, Int.pow_succ, Int.ediv_ediv_of_nonneg (Int.pow_nonneg (by decide))]
  · rw [List.length_append, List.length_singleton]; rfl
theorem rows_turn {ns pre : List Int} {m k l j : Int} {n : Nat} {vs : List Value} {t : Tok} (h : TsAre vs (rowPs ns m pre)) (hn : (n : Int) = rowN (cutL ns m k)) (hl : l = lackL (cutL ns m k)) (hj : j = n - l) :
    TsAre (vs ++ [.str (strArr ((digs (num (cutL ns m k) * 256 ^ l.toNat) n).take j.toNat ++ List.replicate l.toNat 61)) t]) (rowPs ns m (pre ++ [k])) := by
  subst hl hj
  have e : n = (rowN (cutL ns m k)).toNat := by omega
  have := rowPs_snoc (k := k) (t := t) h
  unfold rowL at this
  rw [← e, ← hn] at this
  exact this
theorem r_lenB {prog : Program} {w : World} {A : Around} {E : Value → Shared → Prop} {s : Shared} {t : Tok} {ns : List Int} {Q : Value → Shared → Prop} (hz : ns.length ≤ 1000000) (h : Q (.int (ns.length : Nat) (s.toks + 1)) { s with toks := s.toks + 1 + 1 }) : wpAny (model prog w) A (call (.builtin "len") [.bytes (byteArr ns) t]) Q E s := by
  refine len_bytes (by rw [byteArr_size]; omega) ?_
  rw [byteArr_size]; exact h
theorem r_lenS {prog : Program} {w : World} {A : Around} {E : Value → Shared → Prop} {s : Shared} {t : Tok} {ns : List Int} {Q : Value → Shared → Prop} (hz : ns.length ≤ 1000000) (h : ∀ t' k, Q (.int (ns.length : Nat) t') { s with toks := k }) : wpAny (model prog w) A (call (.builtin "len") [.str (strArr ns) t]) Q E s := by
  refine P.len_str (by rw [strArr_len]; omega) ?_
  rw [strArr_len]; exact h _ _
theorem rows_ok (w : World) (ns : List Int) (tk tk' : Tok) (fo : Int) (hin : KBa.In ns) (hlen : ns.length ≤ 64) (hf1 : 1 ≤ fo) (hf2 : fo ≤ 100) : SaysL w 3 80 815 [.bytes (byteArr ns) tk, .int fo tk'] (rowsL ns (3 * fo)) := by
  unfold SaysL; k_fill; intro p loose mean mg mb dp un gd cn cs a ccd cl outer A₀ base h₀ L m news s Q E B F X N T hk hd hu hret; refine wpAny_call ?_; k_dflt cell_enter
  have hI0 : IntsAre ([] : List Value) [] := IntsAre.nil
  (k_with "state" => (first | ((with_reducible show OctInv _ _); first | exact rfl | exact oct_turn) | ((with_reducible show PlInv _ _ _ _); exact pl_turn (by assumption)) | exact rows_turn (by assumption) (by unfold rowN lackL; assumption) rfl (by simp only [strArr_len, digs_len])))
  (k_with "pyIter bytes" => (k_dflt ((k_state OctInv "whole"); all_goals ((rename OctInv _ _ => hO); (unfold OctInv at hO); subst hO))))
  (k_with "pyIter ref" => (k_dflt (first
   | ((rename Fr _ _ _ _ => lF'); (rename News _ _ _ _ => lN'); (rename IsRange _ _ _ _ 1 _ _ _ => rgX); (refine' loop_ti (Str.ofString "row") (Str.ofString "whole") (PlInv ?plW) (by rfl) rgX (by omega) (by omega) lF' lN' ?plk1 ?plk2 ?plp ?plt ?pld); (case plk1 => rw [← emptyS]; with_unfolding_all rfl); (case plk2 => with_unfolding_all rfl); (case plp => exact pl0); (intro row9 t9 wh9 t8 pre9 k9 t7 u9 h9 tk9 own9 hk9 h0k9 hkb9 hoff9 hP9 hmark9 hF9 hN9); (obtain ⟨hP1, rfl⟩ := hP9); rotate_left; (intro row9 t9 wh9 t8 pre9 u9 h9 tk9 hl9 hP9 hmark9 hF9 hN9); (obtain ⟨hP1, rfl⟩ := hP9); all_goals (clear lF' lN'))
   | ((rename Fr _ _ _ _ => lF'); (rename News _ _ _ _ => lN'); (rename IsRange _ _ _ _ _ _ _ _ => rgX); (refine loop_one [Str.ofString "piece", Str.ofString "lack", Str.ofString "whole", Str.ofString "octet", Str.ofString "row", Str.ofString "place"] (fun pre vs => TsAre vs (rowPs ns (3 * fo) pre)) (by rfl) rgX (by omega) (by omega) (by omega) (by omega) lF' lN' (by exact StrsAre.nil) ?_ ?_); (intro vs n₁ pre k1 t1 u1 h1 tk1 own hk9 hpre h0k hkb hoff hP hmark hF hN); (have hvl := hP.length); (have hcl := cutL_len (m := 3 * fo) (k := k1) hlen); (have hci := cutL_in (m := 3 * fo) (k := k1) hin); (simp only [rowPs, List.length_map] at hvl); (try simp only [List.nil_append, List.cons_append, List.append_nil] at hN); rotate_left; (intro vs n₁ u1 h1 tk1 hP hmark hF hN); all_goals (clear lF' lN')))))
  repeat' (first | (k_unfold; (try dsimp only)) | ((fail_if_success (with_reducible show Q _ _)); first | (k_end; kc_close) | ((with_reducible show wpAny _ _ (binaryOp Operator.Add (Value.str _ _) (Value.str _ _)) _ _ _); first | with_reducible (((with_reducible show wpAny _ _ (binaryOp Operator.Add (Value.str _ _) (Value.str _ _)) _ _ _); refine r_addS (by (try simp only [List.length_append, List.length_cons, List.length_nil, List.length_take, List.length_replicate, digs_len]); omega) (by (try simp only [List.length_append, List.length_cons, List.length_nil, List.length_take, List.length_replicate, digs_len]); omega) ?_; intro _ _))) | ((with_reducible show wpAny _ _ (binaryOp Operator.FloorDiv (Value.int _ _) (Value.int _ _)) _ _ _); first | with_reducible (((with_reducible show wpAny _ _ (binaryOp Operator.FloorDiv (Value.int _ _) (Value.int _ _)) _ _ _); refine r_fdiv (by omega) (by omega) ?_))) | ((with_reducible show wpAny _ _ (binaryOp Operator.Mod (Value.int _ _) (Value.int _ _)) _ _ _); first | with_reducible (((with_reducible show wpAny _ _ (binaryOp Operator.Mod (Value.int _ _) (Value.int _ _)) _ _ _); refine r_mod (by omega) (by omega) ?_))) | ((with_reducible show wpAny _ _ (binaryOp Operator.Mult (Value.int _ _) (Value.int _ _)) _ _ _); first | with_reducible (((with_reducible show wpAny _ _ (binaryOp Operator.Mult (Value.int _ _) (Value.int 256 _)) _ _ _); refine r_mulW ?_))) | ((with_reducible show wpAny _ _ (binaryOp Operator.Mult (Value.str _ _) (Value.int _ _)) _ _ _); first | with_reducible (((with_reducible show wpAny _ _ (binaryOp Operator.Mult (Value.str _ _) (Value.int _ _)) _ _ _); refine r_mulEq (by omega) (by omega) ?_; intro _ _))) | ((with_reducible show wpAny _ _ (binaryOp Operator.Pow (Value.int _ _) (Value.int _ _)) _ _ _); first | with_reducible (((with_reducible show wpAny _ _ (binaryOp Operator.Pow (Value.int 256 _) (Value.int _ _)) _ _ _); refine r_pow256 (by omega) (by omega) ?_))) | ((with_reducible show wpAny _ _ (call (Value.builtin "len") _) _ _ _); first | with_reducible (((with_reducible show wpAny _ _ (call (Value.builtin "len") [Value.bytes (byteArr _) _]) _ _ _); (refine r_lenB (by omega) ?_))) | with_reducible (((with_reducible show wpAny _ _ (call (Value.builtin "len") [Value.str (strArr _) _]) _ _ _); (refine r_lenS (by (try simp only [List.length_append, List.length_cons, List.length_nil, List.length_take, List.length_replicate, digs_len]); omega) ?_); intro _ _))) | ((with_reducible show wpAny _ _ (call (Value.type "range") _) _ _ _); first | with_reducible (((with_reducible show wpAny _ _ (call (Value.type "range") [Value.int _ _, Value.int _ _, Value.int _ _]) _ _ _); (rename Fr _ _ _ _ => F'Zz); (rename News _ _ _ _ => N'Zz); (refine range3_rows F'Zz N'Zz (by omega) ?_ (Or.inl (PyProof.noPylong_small (by omega)))); intro _ _ _ _ _ rgXZz _ _ _))) | ((with_reducible show wpAny _ _ (inplaceOp Operator.FloorDiv (Value.int _ _) (Value.int _ _)) _ _ _); first | with_reducible (((with_reducible show wpAny _ _ (inplaceOp Operator.FloorDiv (Value.int _ _) (Value.int _ _)) _ _ _); refine r_ifdiv (by omega) (by omega) ?_))) | ((with_reducible show wpAny _ _ (inplaceOp Operator.Mult (Value.int _ _) (Value.int _ _)) _ _ _); first | with_reducible (((with_reducible show wpAny _ _ (inplaceOp Operator.Mult (Value.int _ _) (Value.int (256 ^ _) _)) _ _ _); refine r_imulP (by omega) ?_))) | ((with_reducible show wpAny _ _ (pyIter (Value.bytes _ _)) _ _ _); first | with_reducible ((k_extra "pyIter bytes"))) | ((with_reducible show wpAny _ _ (pyIter (Value.ref _)) _ _ _); first | with_reducible ((k_extra "pyIter ref"))) | ((with_reducible show wpAny _ _ (subscriptTail _ _ _ _) _ _ _); first | with_reducible (first | ((with_reducible show wpAny _ _ (subscriptTail _ (Expr.Slice _ _ none _) (Value.bytes (byteArr _) _) (Value.ref _)) _ _ _); (rename Fr _ _ _ _ => F'Zz); (rename News _ _ _ _ => N'Zz); (refine r_cutP (s := ⟨_, _, _, _, _⟩) F'Zz N'Zz (by omega) (by omega) (by omega) ?_); intro _ _ _ _ _) | ((with_reducible show wpAny _ _ (subscriptTail _ _ (Value.str _ _) (Value.int _ _)) _ _ _); k_dflt (refine r_sign (by omega) (by omega) ?_); intro _ _) | ((with_reducible show wpAny _ _ (subscriptTail _ (Expr.Slice _ _ none _) (Value.str (strArr _) _) (Value.ref _)) _ _ _); (rename Fr _ _ _ _ => F'Zz); (rename News _ _ _ _ => N'Zz); (refine r_cutTo (s := ⟨_, _, _, _, _⟩) F'Zz N'Zz (by (try simp only [strArr_len, digs_len]); omega) (by (try simp only [strArr_len, digs_len]); omega) (by (try simp only [strArr_len, digs_len]); omega) ?_); intro _ _ _ _ _)) | with_reducible (((with_reducible show wpAny _ _ (subscriptTail _ _ (Value.bytes _ _) (Value.int _ _)) _ _ _); k_dflt (refine r_b64 (by omega) (by omega) ?_)))) | walk1 | (dsimp only; first | ((with_reducible show wpAny _ _ (binaryOp Operator.Add (Value.str _ _) (Value.str _ _)) _ _ _); first | with_reducible (((with_reducible show wpAny _ _ (binaryOp Operator.Add (Value.str _ _) (Value.str _ _)) _ _ _); refine r_addS (by (try simp only [List.length_append, List.length_cons, List.length_nil, List.length_take, List.length_replicate, digs_len]); omega) (by (try simp only [List.length_append, List.length_cons, List.length_nil, List.length_take, List.length_replicate, digs_len]); omega) ?_; intro _ _))) | ((with_reducible show wpAny _ _ (binaryOp Operator.FloorDiv (Value.int _ _) (Value.int _ _)) _ _ _); first | with_reducible (((with_reducible show wpAny _ _ (binaryOp Operator.FloorDiv (Value.int _ _) (Value.int _ _)) _ _ _); refine r_fdiv (by omega) (by omega) ?_))) | ((with_reducible show wpAny _ _ (binaryOp Operator.Mod (Value.int _ _) (Value.int _ _)) _ _ _); first | with_reducible (((with_reducible show wpAny _ _ (binaryOp Operator.Mod (Value.int _ _) (Value.int _ _)) _ _ _); refine r_mod (by omega) (by omega) ?_))) | ((with_reducible show wpAny _ _ (binaryOp Operator.Mult (Value.int _ _) (Value.int _ _)) _ _ _); first | with_reducible (((with_reducible show wpAny _ _ (binaryOp Operator.Mult (Value.int _ _) (Value.int 256 _)) _ _ _); refine r_mulW ?_))) | ((with_reducible show wpAny _ _ (binaryOp Operator.Mult (Value.str _ _) (Value.int _ _)) _ _ _); first | with_reducible (((with_reducible show wpAny _ _ (binaryOp Operator.Mult (Value.str _ _) (Value.int _ _)) _ _ _); refine r_mulEq (by omega) (by omega) ?_; intro _ _))) | ((with_reducible show wpAny _ _ (binaryOp Operator.Pow (Value.int _ _) (Value.int _ _)) _ _ _); first | with_reducible (((with_reducible show wpAny _ _ (binaryOp Operator.Pow (Value.int 256 _) (Value.int _ _)) _ _ _); refine r_pow256 (by omega) (by omega) ?_))) | ((with_reducible show wpAny _ _ (call (Value.builtin "len") _) _ _ _); first | with_reducible (((with_reducible show wpAny _ _ (call (Value.builtin "len") [Value.bytes (byteArr _) _]) _ _ _); (refine r_lenB (by omega) ?_))) | with_reducible (((with_reducible show wpAny _ _ (call (Value.builtin "len") [Value.str (strArr _) _]) _ _ _); (refine r_lenS (by (try simp only [List.length_append, List.length_cons, List.length_nil, List.length_take, List.length_replicate, digs_len]); omega) ?_); intro _ _))) | ((with_reducible show wpAny _ _ (call (Value.type "range") _) _ _ _); first | with_reducible (((with_reducible show wpAny _ _ (call (Value.type "range") [Value.int _ _, Value.int _ _, Value.int _ _]) _ _ _); (rename Fr _ _ _ _ => F'Zz); (rename News _ _ _ _ => N'Zz); (refine range3_rows F'Zz N'Zz (by omega) ?_ (Or.inl (PyProof.noPylong_small (by omega)))); intro _ _ _ _ _ rgXZz _ _ _))) | ((with_reducible show wpAny _ _ (inplaceOp Operator.FloorDiv (Value.int _ _) (Value.int _ _)) _ _ _); first | with_reducible (((with_reducible show wpAny _ _ (inplaceOp Operator.FloorDiv (Value.int _ _) (Value.int _ _)) _ _ _); refine r_ifdiv (by omega) (by omega) ?_))) | ((with_reducible show wpAny _ _ (inplaceOp Operator.Mult (Value.int _ _) (Value.int _ _)) _ _ _); first | with_reducible (((with_reducible show wpAny _ _ (inplaceOp Operator.Mult (Value.int _ _) (Value.int (256 ^ _) _)) _ _ _); refine r_imulP (by omega) ?_))) | ((with_reducible show wpAny _ _ (pyIter (Value.bytes _ _)) _ _ _); first | with_reducible ((k_extra "pyIter bytes"))) | ((with_reducible show wpAny _ _ (pyIter (Value.ref _)) _ _ _); first | with_reducible ((k_extra "pyIter ref"))) | ((with_reducible show wpAny _ _ (subscriptTail _ _ _ _) _ _ _); first | with_reducible (first | ((with_reducible show wpAny _ _ (subscriptTail _ (Expr.Slice _ _ none _) (Value.bytes (byteArr _) _) (Value.ref _)) _ _ _); (rename Fr _ _ _ _ => F'Zz); (rename News _ _ _ _ => N'Zz); (refine r_cutP (s := ⟨_, _, _, _, _⟩) F'Zz N'Zz (by omega) (by omega) (by omega) ?_); intro _ _ _ _ _) | ((with_reducible show wpAny _ _ (subscriptTail _ _ (Value.str _ _) (Value.int _ _)) _ _ _); k_dflt (refine r_sign (by omega) (by omega) ?_); intro _ _) | ((with_reducible show wpAny _ _ (subscriptTail _ (Expr.Slice _ _ none _) (Value.str (strArr _) _) (Value.ref _)) _ _ _); (rename Fr _ _ _ _ => F'Zz); (rename News _ _ _ _ => N'Zz); (refine r_cutTo (s := ⟨_, _, _, _, _⟩) F'Zz N'Zz (by (try simp only [strArr_len, digs_len]); omega) (by (try simp only [strArr_len, digs_len]); omega) (by (try simp only [strArr_len, digs_len]); omega) ?_); intro _ _ _ _ _)) | with_reducible (((with_reducible show wpAny _ _ (subscriptTail _ _ (Value.bytes _ _) (Value.int _ _)) _ _ _); k_dflt (refine r_b64 (by omega) (by omega) ?_)))) | walk1) | (leave1; (try dsimp only)) | fail "no step"))
  exact hret _ _ _ _ _ (by unfold rowsL; assumption) (by exact allLt_of (by assumption)) (by k_asm) (by ((first | k_asm | (refine' cb_drop ?cbN ?cbS; (case cbN => assumption); (case cbS => kcj_all)))))
end
section
noncomputable def wsL (j : Int) : List Int := if j = 1 then [32] else if j = 2 then [10, 9] else if j = 4 then [13, 10] else []
noncomputable def strewSt (step : Int) (st : Int × List Int) (c : Int) : Int × List Int := (st.1 + 1, if c = 61 then st.2 ++ [c] else st.2 ++ [c] ++ wsL (st.1 * (step % 4 + 1) % 5))
noncomputable def strewL (T : List Int) (step : Int) : List Int := (T.foldl (strewSt step) (0, [])).2
noncomputable def StrewInv (step : Int) (pre tx : List Int) : Prop := pre.foldl (strewSt step) (0, []) = ((pre.length : Int), tx) ∧ tx.length ≤ 3 * pre.length
theorem strew0 {step : Int} : StrewInv step [] [] := ⟨rfl, by decide⟩
theorem wsL_len (j : Int) : (wsL j).length ≤ 2 := by unfold wsL; (repeat' split) <;> decide
theorem strew_eq {step : Int} {pre tx : List Int} (h : StrewInv step pre tx) : StrewInv step (pre ++ [61]) (tx ++ [61]) := by
  refine ⟨?_, by have := h.2; simp only [List.length_append, List.length_singleton]; omega⟩
  rw [List.foldl_append, h.1]
  simp [strewSt]
theorem strew_ws {step c k : Int} {pre tx : List Int} (h : StrewInv step pre tx) (hc : c ≠ 61) (hk : k = (pre.length : Int)) : StrewInv step (pre ++ [c]) (tx ++ [c] ++ wsL (k * (step % 4 + 1) % 5)) := by
  subst hk
  refine ⟨?_, by have := h.2; have := wsL_len ((pre.length : Int) * (step % 4 + 1) % 5); simp only [List.length_append, List.length_singleton]; omega⟩
  rw [List.foldl_append, h.1]
  simp [strewSt, hc]
theorem strew_eqD {step c : Int} {pre tx : List Int} (h : StrewInv step pre tx) (hc : ¬ c ≠ 61) : StrewInv step (pre ++ [c]) (tx ++ [c]) := by
  have : c = 61 := by omega
  subst this
  exact strew_eq h
theorem strew_wsD {step c k : Int} {pre tx : List Int} (h : StrewInv step pre tx) (hc : decide (c ≠ 61) = true) (hk : k = (pre.length : Int)) : StrewInv step (pre ++ [c]) (tx ++ [c] ++ wsL (k * (step % 4 + 1) % 5)) := strew_ws h (of_decide_eq_true hc) hk
theorem strew_done {step : Int} {T tx : List Int} (h : StrewInv step T tx) : tx = strewL T step := by unfold strewL; rw [h.1]
theorem ws_seen (j : Int) : (wsL j).filter seen = [] := by unfold wsL; (repeat' split) <;> decide
theorem strew_filter (step : Int) : ∀ (T : List Int) (st : Int × List Int), (T.foldl (strewSt step) st).2.filter seen = st.2.filter seen ++ T.filter seen
  | [], st => by simp
  | c :: T, st => by
    rw [List.foldl_cons, strew_filter step T]
    by_cases h : c = 61
    · subst h
      have h1 : seen 61 = true := by decide
      simp [strewSt, h1]
    · cases hs : seen c <;> simp [strewSt, h, hs, ws_seen]
theorem Reads.strew {T ns : List Int} (h : Reads T ns) (step : Int) : Reads (strewL T step) ns := by
  unfold Reads strewL
  rw [strew_filter]
  exact h
theorem strew_asc (step : Int) : ∀ (T : List Int) (st : Int × List Int), Asc T → Asc st.2 → Asc (T.foldl (strewSt step) st).2
  | [], _, _, h => h
  | c :: T, st, hT, h => by
    rw [List.foldl_cons]
    refine strew_asc step T _ (fun n hn => hT n (.tail _ hn)) ?_
    have hc := hT c (.head _)
    have hw : ∀ j, Asc (wsL j) := by
      intro j; unfold wsL
      repeat' split
      all_goals (intro n hn; simp at hn; try omega)
    show Asc (if c = 61 then st.2 ++ [c] else st.2 ++ [c] ++ wsL (st.1 * (step % 4 + 1) % 5))
    split <;> intro n hn
    · rcases List.mem_append.mp hn with h' | h'
      · exact h n h'
      · rw [List.mem_singleton.mp h']; exact hc
    · rcases List.mem_append.mp hn with h' | h'
      · rcases List.mem_append.mp h' with h' | h'
        · exact h n h'
        · rw [List.mem_singleton.mp h']; exact hc
      · exact hw _ n h'
theorem strew_len (step : Int) : ∀ (T : List Int) (st : Int × List Int), (T.foldl (strewSt step) st).2.length ≤ st.2.length + 3 * T.length
  | [], _ => by simp
  | c :: T, st => by
    rw [List.foldl_cons]
    refine Nat.le_trans (strew_len step T _) ?_
    have := wsL_len (st.1 * (step % 4 + 1) % 5)
    have : (strewSt step st c).2.length ≤ st.2.length + 3 := by
      unfold strewSt
      split <;> simp only [List.length_append, List.length_singleton] <;> omega
    simp only [List.length_cons]; omega
theorem strArr_sign {T : List Int} {i : Nat} {a : PySem.Str} (h : (PyProof.Rows.signs (strArr T))[i]? = some a) : ∃ c, T[i]? = some c ∧ a = strArr [c] := by
  unfold PyProof.Rows.signs at h
  rw [strArr_toList, List.map_map, List.getElem?_map] at h
  cases hT : T[i]? with
  | none => rw [hT] at h; cases h
  | some c => rw [hT] at h; cases h; exact ⟨c, rfl, rfl⟩
section
variable {prog : Program} {w : World} {A : Around} {E : Value → Shared → Prop} {s : Shared} {t u : Tok}
theorem r_iaddS {Q : Value → Shared → Prop} {a b : List Int} (ha : a.length ≤ 100000) (hb : b.length ≤ 100000) (h : ∀ t' k, Q (.str (strArr (a ++ b)) t') { s with toks := k }) : wpAny (model prog w) A (inplaceOp .Add (.str (strArr a) t) (.str (strArr b) u)) Q E s :=
  PyProof.Rows.iadd_str (fun t' k => by rw [← strArr_app]; exact h t' k) (by rw [strArr_len, strArr_len, sizeLine_eq]; omega)
theorem bne_chr {c d : Int} (hc : 0 ≤ c) (hd : 0 ≤ d) : ((strArr [c]).cps.toList != (strArr [d]).cps.toList) = decide (c ≠ d) := by
  rw [strArr_toList, strArr_toList]
  by_cases h : c = d
  · subst h; simp
  · have : c.toNat ≠ d.toNat := by omega
    simp [h, this]
theorem r_neS {Q : Value → Shared → Prop} {c d : Int} (hc : 0 ≤ c) (hd : 0 ≤ d) (h : Q (.bool (decide (c ≠ d))) s) : wpAny (model prog w) A (compareOp .NotEq (.str (strArr [c]) t) (.str (strArr [d]) u)) Q E s :=
  P.ne_str (by rw [bne_chr hc hd]; exact h)
theorem r_eqS {Q : Value → Shared → Prop} {c d : Int} (hc : 0 ≤ c) (hd : 0 ≤ d) (h : Q (.bool (decide (c = d))) s) : wpAny (model prog w) A (compareOp .Eq (.str (strArr [c]) t) (.str (strArr [d]) u)) Q E s :=
  P.eq_str (by
    rw [show ((strArr [c]).cps.toList == (strArr [d]).cps.toList) = decide (c = d) by
      rw [strArr_toList, strArr_toList]
      by_cases e : c = d
      · subst e; simp
      · have : c.toNat ≠ d.toNat := by omega
        simp [e, this]]
    exact h)
theorem ws_texts : PySem.Str.ofString "" = strArr [] ∧ PySem.Str.ofString " " = strArr [32] ∧ PySem.Str.ofString "\n\t" = strArr [10, 9] ∧ PySem.Str.ofString "\r\n" = strArr [13, 10] := by decide +kernel
theorem r_tab5 {value slice : PySem.Expr} {D : Addr} {k : Int} {t0 t1 t2 t3 t4 u : Tok} {Q : Value → Shared → Prop}
    (hl : s.heap.IsList D #[.str (PySem.Str.ofString "") t0, .str (PySem.Str.ofString " ") t1, .str (PySem.Str.ofString "\n\t") t2, .str (PySem.Str.ofString "") t3, .str (PySem.Str.ofString "\r\n") t4]) (h0 : 0 ≤ k) (h1 : k < 5)
    (h : ∀ t', Q (.str (strArr (wsL k)) t') s)
    (hs : subscripted slice false (.ref D) (.int k u) = operate [.ref D, .int k u] (getItem (.ref D) (.int k u)) := by with_unfolding_all rfl) :
    wpAny (model prog w) A (subscriptTail value slice (.ref D) (.int k u)) Q E s := by
  have e : k = 0 ∨ k = 1 ∨ k = 2 ∨ k = 3 ∨ k = 4 := by omega
  rcases e with rfl | rfl | rfl | rfl | rfl
  · exact item_listR hl (by decide) (by decide) rfl (by rw [ws_texts.1]; exact h _) hs
  · exact item_listR hl (by decide) (by decide) rfl (by rw [ws_texts.2.1]; exact h _) hs
  · exact item_listR hl (by decide) (by decide) rfl (by rw [ws_texts.2.2.1]; exact h _) hs
  · exact item_listR hl (by decide) (by decide) rfl (by rw [ws_texts.1]; exact h _) hs
  · exact item_listR hl (by decide) (by decide) rfl (by rw [ws_texts.2.2.2]; exact h _) hs
end
section
variable {prog : Program} {w : World} {A : Around} {E : Value → Shared → Prop} {s : Shared} {env : Env} {h₀ : Heap} {xi xc : PySem.Str} {body : List Stmt} {Q : Flow → Shared → Prop}
/-- a loop over enumerate(text) whose body turns one text -/
theorem loop_enum {e : Addr} {news : List (Addr × Obj)} {m₀ : PySem.Str → Option Value} {T x0 : List Int} {tx : Tok} (y₁ : PySem.Str) (P : List Int → List Int → Prop)
    (S : PairSrc prog w A E h₀ env ItemKind.str (PyProof.Rows.signs (strArr T)) (.ref e) s m₀ news) (hk : m₀ y₁ = some (.str (strArr x0) tx)) (hp : P [] x0)
    (turn : ∀ (tx : List Int) (t1 : Tok) (pre post : List Int) (k c : Int) t u h tk own, k = (pre.length : Int) → T = pre ++ c :: post → OwnOff own (news.map (·.1)) → P pre tx → KstMark →
      Fr h₀ env.locals h (fun y => if y = xc then some (.str (strArr [c]) t) else if y = xi then some (.int k u) else if y = y₁ then some (.str (strArr tx) t1) else m₀ y) → News h₀ env.locals h (news ++ own) →
      wpAny (model prog w) A (execs body env) (InvPostN h₀ env.locals (KstS (fun _ : List Int × Tok => news) (fun c => [(y₁, .str (strArr c.1) c.2)]) (fun _ => True) xi [xc] m₀ (fun pre c => P pre c.1) (pre ++ [c])) own (news.map (·.1)) { s with heap := h, toks := tk } Q) E { s with heap := h, toks := tk })
    (done : ∀ (tx : List Int) (t1 : Tok) (u : PySem.Str → Option Value) h tk, P T tx → KstMark →
      Fr h₀ env.locals h (fun y => if y = xc then u y else if y = xi then u y else if y = y₁ then some (.str (strArr tx) t1) else m₀ y) → News h₀ env.locals h news → Q .next { s with heap := h, toks := tk }) :
    wpAny (model prog w) A (pyIter (.ref e)) (fun it s₂ => PairAt3 prog w A h₀ env xi xc body Q E it s₂) E s := by
  have hT : T.take (PyProof.Rows.signs (strArr T)).length = T := by
    rw [PyProof.Rows.signs_length, strArr_len, List.take_of_length_le (Nat.le_refl _)]
  refine S xi xc body Q (fun i m nx => KstS (fun _ : List Int × Tok => news) (fun c => [(y₁, .str (strArr c.1) c.2)]) (fun _ => True) xi [xc] m₀ (fun pre c => P pre c.1) (T.take i) m nx)
    ⟨(x0, tx), rfl, trivial, fun p hp => ?_, fun _ _ _ _ => rfl, by simpa using hp⟩ ?_ ?_
  · rw [List.mem_singleton.mp hp]; exact hk
  · rintro i a t v m₁ news₁ s₁ own ⟨h, tk, rfl⟩ ha hv ⟨c, hnx, _, h1, h2, hP⟩ _ hown F₁ N₁
    subst news₁
    obtain ⟨n, hn, rfl⟩ := strArr_sign ha
    obtain ⟨tv, rfl⟩ := ItemKind.str_is hv
    have hi : i < T.length := (List.getElem?_eq_some_iff.mp hn).1
    have hk1 : m₁ y₁ = some (.str (strArr c.1) c.2) := h1 _ (.head _)
    have em : (fun y => if y = xc then some (.str (strArr [n]) tv) else if y = xi then some (.int (i : Int) t) else m₁ y)
        = fun y => if y = xc then some (.str (strArr [n]) tv) else if y = xi then some (.int (i : Int) t) else if y = y₁ then some (.str (strArr c.1) c.2) else m₀ y := by
      funext y
      by_cases e1 : y = xc
      · rw [if_pos e1, if_pos e1]
      · rw [if_neg e1, if_neg e1]
        by_cases e2 : y = xi
        · rw [if_pos e2, if_pos e2]
        · rw [if_neg e2, if_neg e2]
          by_cases e3 : y = y₁
          · rw [if_pos e3, e3, hk1]
          · rw [if_neg e3]
            exact h2 y e2 (fun p hp => by rw [List.mem_singleton.mp hp]; exact e3) (by simpa using e1)
    rw [em] at F₁
    have hpre : (T.take i).length = i := by rw [List.length_take]; omega
    have hsplit : T = T.take i ++ n :: T.drop (i + 1) := by
      have : T.drop i = n :: T.drop (i + 1) := by
        obtain ⟨_, rfl⟩ := List.getElem?_eq_some_iff.mp hn
        exact List.drop_eq_getElem_cons hi
      rw [← this, List.take_append_drop]
    have hnext : T.take (i + 1) = T.take i ++ [n] := by rw [List.take_add_one, hn]; rfl
    rw [hnext]
    refine wpAny_mono (turn c.1 c.2 (T.take i) (T.drop (i + 1)) i n tv t h tk own (by rw [hpre]) hsplit (fun p hp b hb => ?_) hP kstMark F₁ (fun p hp => N₁ p ((List.mem_append.mp hp).elim (fun h => List.mem_append.mpr (.inr h)) fun h => List.mem_append.mpr (.inl h)))) (fun f s₂ p => ?_) fun _ _ e => e
    · obtain ⟨q, hq, rfl⟩ := List.mem_map.mp hb
      exact hown p hp q hq
    · have fin : InvEndN h₀ env.locals (KstS (fun _ : List Int × Tok => news) (fun c => [(y₁, .str (strArr c.1) c.2)]) (fun _ => True) xi [xc] m₀ (fun pre c => P pre c.1) (T.take i ++ [n])) own (news.map (·.1)) { s with heap := h, toks := tk } s₂ →
          LoopStep2 h₀ env.locals own news (KstS (fun _ : List Int × Tok => news) (fun c => [(y₁, .str (strArr c.1) c.2)]) (fun _ => True) xi [xc] m₀ (fun pre c => P pre c.1) (T.take i ++ [n])) { s with heap := h, toks := tk } .next s₂ := by
        rintro ⟨h', tk', m', news', nx, e1, F', N', hn', ho, hadr, hm⟩
        exact ⟨rfl, h', tk', m', nx, e1, F', fun p hp => N' p ((List.mem_append.mp hp).elim (ho p) (hn' p)), hadr, hm⟩
      cases f with
      | ret v => exact p
      | brk => exact p
      | next => exact fin p
      | cont => exact fin p
  · rintro h' tk m' news' F' N' _ ⟨c, hnx, _, h1, h2, hP⟩
    subst news'
    rw [hT] at hP
    have hk1 : m' y₁ = some (.str (strArr c.1) c.2) := h1 _ (.head _)
    refine done c.1 c.2 m' h' tk hP kstMark ?_ N'
    have em : (fun y => if y = xc then m' y else if y = xi then m' y else if y = y₁ then some (.str (strArr c.1) c.2) else m₀ y) = m' := by
      funext y
      by_cases e1 : y = xc
      · rw [if_pos e1]
      · rw [if_neg e1]
        by_cases e2 : y = xi
        · rw [if_pos e2]
        · rw [if_neg e2]
          by_cases e3 : y = y₁
          · rw [if_pos e3, e3, hk1]
          · rw [if_neg e3]
            exact (h2 y e2 (fun p hp => by rw [List.mem_singleton.mp hp]; exact e3) (by simpa using e1)).symm
    rw [em]
    exact F'
end
end
section
set_option maxHeartbeats 8000000
theorem r_mulS4 {prog : Program} {w : World} {A : Around} {E : Value → Shared → Prop} {s : Shared} {t u : Tok} {Q : Value → Shared → Prop} {a b : Int} (h0 : 0 ≤ b) (h1 : b ≤ 4) (h : Q (.int (a * b) s.toks) { s with toks := s.toks + 1 }) : wpAny (model prog w) A (binaryOp .Mult (.int a t) (.int b u)) Q E s :=
  PyProof.Rows.mul_int h (IntMulOk.of_right (intBits_le_64 (by omega) (by omega)))
theorem strewn_ok (w : World) (T : List Int) (tk tk' : Tok) (step : Int) (hasc : Asc T) (hlen : T.length ≤ 10000) : Says w 3 80 827 [.str (strArr T) tk, .int step tk'] (fun t => .str (strArr (strewL T step)) t) := by
  unfold Says; k_fill; intro p loose mean mg mb dp un gd cn cs a ccd cl outer A₀ base h₀ L m news s Q E B F X N T hk hd hu hret; refine wpAny_call ?_; k_dflt cell_enter
  have hI0 : IntsAre ([] : List Value) [] := IntsAre.nil
  (k_with "state" => (first | exact strew_ws (by assumption) (by assumption) (by assumption) | exact strew_eqD (by assumption) (by assumption)))
  (k_with "pyIter ref" => (k_dflt ((refine' loop_enum (Str.ofString "told") (StrewInv step) (PairSrcL.at (by assumption) _ rfl) ?plk1 strew0 ?plt ?pld); (case plk1 => rw [← emptyS]; with_unfolding_all rfl); (intro tx9 t9 pre9 post9 k9 c9 t8 u9 h9 tk9 own9 hk9 hT9 hoff9 hP9 hmark9 hF9 hN9); (have hc9 : 0 ≤ c9 ∧ c9 < 128 := hasc _ (by rw [hT9]; simp)); (have hl9 : pre9.length ≤ 10000 := by (have hl8 := congrArg List.length hT9; rw [List.length_append] at hl8; omega)); (have hl7 := hP9.2); rotate_left; (intro tx9 t9 u9 h9 tk9 hP9 hmark9 hF9 hN9); (have hl7 := strew_done hP9; subst hl7))))
  repeat' (first | (k_unfold; (try dsimp only)) | ((fail_if_success (with_reducible show Q _ _)); first | (k_end; kc_close) | ((with_reducible show wpAny _ _ (binaryOp Operator.Mod (Value.int _ _) (Value.int _ _)) _ _ _); first | with_reducible (((with_reducible show wpAny _ _ (binaryOp Operator.Mod (Value.int _ _) (Value.int _ _)) _ _ _); refine r_mod (by omega) (by omega) ?_))) | ((with_reducible show wpAny _ _ (binaryOp Operator.Mult (Value.int _ _) (Value.int _ _)) _ _ _); first | with_reducible (((with_reducible show wpAny _ _ (binaryOp Operator.Mult (Value.int _ _) (Value.int _ _)) _ _ _); refine r_mulS4 (by omega) (by omega) ?_))) | ((with_reducible show wpAny _ _ (call (Value.type "enumerate") _) _ _ _); first | with_reducible (((with_reducible show wpAny _ _ (call (Value.type _) [Value.str _ _]) _ _ _); (with_unfolding_all refine call_enum_str rfl (by assumption) (by assumption) ?_); intro _ _ _ _ _))) | ((with_reducible show wpAny _ _ (compareOp CmpOp.NotEq (Value.str _ _) (Value.str _ _)) _ _ _); first | with_reducible (((with_reducible show wpAny _ _ (compareOp CmpOp.NotEq (Value.str (strArr [_]) _) (Value.str (PySem.Str.ofString "=") _)) _ _ _); (rw [eqS]); refine r_neS (by omega) (by decide) ?_))) | ((with_reducible show wpAny _ _ (exec (Stmt.For (Expr.Tuple _ _) (Expr.Call _ _ _ _) _ _ _) _) _ _ _); first | with_reducible (((rename Fr _ _ _ _ => F'Zz); (with_reducible apply For_pair3F); (case _F => with_unfolding_all exact F'Zz); (case hh => with_unfolding_all rfl); (case hxi => with_unfolding_all rfl); (case hxc => with_unfolding_all rfl); (case hp => with_unfolding_all rfl); (case hs => (intro _; with_unfolding_all rfl)); (case hE => first | passes_own | with_unfolding_all passes_own)))) | ((with_reducible show wpAny _ _ (execs (_ :: _) _) _ _ _); first | with_reducible ((dsimp only; k_gentoks))) | ((with_reducible show wpAny _ _ (execs [] _) _ _ _); first | with_reducible (((with_reducible show wpAny _ _ (execs [] _) _ _ _); dsimp only; (try k_gentoks); refine wpAny_execs_nil ?_))) | ((with_reducible show wpAny _ _ (inplaceOp Operator.Add (Value.str _ _) (Value.str _ _)) _ _ _); first | with_reducible (((with_reducible show wpAny _ _ (inplaceOp Operator.Add (Value.str (strArr _) _) (Value.str (strArr _) _)) _ _ _); refine r_iaddS (by (try simp only [List.length_append, List.length_cons, List.length_nil]); omega) (by (try simp only [List.length_append, List.length_cons, List.length_nil]); first | exact Nat.le_trans (wsL_len _) (by decide) | omega) ?_; intro _ _))) | ((with_reducible show wpAny _ _ (pyIter (Value.ref _)) _ _ _); first | with_reducible ((k_extra "pyIter ref"))) | ((with_reducible show wpAny _ _ (subscriptTail _ _ _ _) _ _ _); first | with_reducible (((with_reducible show wpAny _ _ (subscriptTail _ _ (Value.ref _) (Value.int _ _)) _ _ _); (rename News _ _ _ _ => nE'Zz); k_dflt (refine r_tab5 (News.isList nE'Zz (by k_mem)) (by omega) (by omega) ?_); intro _)) | with_reducible (((with_reducible show wpAny _ _ (subscriptTail _ _ (Value.bytes _ _) (Value.int _ _)) _ _ _); k_dflt (refine r_b64 (by omega) (by omega) ?_)))) | walk1 | (dsimp only; first | ((with_reducible show wpAny _ _ (binaryOp Operator.Mod (Value.int _ _) (Value.int _ _)) _ _ _); first | with_reducible (((with_reducible show wpAny _ _ (binaryOp Operator.Mod (Value.int _ _) (Value.int _ _)) _ _ _); refine r_mod (by omega) (by omega) ?_))) | ((with_reducible show wpAny _ _ (binaryOp Operator.Mult (Value.int _ _) (Value.int _ _)) _ _ _); first | with_reducible (((with_reducible show wpAny _ _ (binaryOp Operator.Mult (Value.int _ _) (Value.int _ _)) _ _ _); refine r_mulS4 (by omega) (by omega) ?_))) | ((with_reducible show wpAny _ _ (call (Value.type "enumerate") _) _ _ _); first | with_reducible (((with_reducible show wpAny _ _ (call (Value.type _) [Value.str _ _]) _ _ _); (with_unfolding_all refine call_enum_str rfl (by assumption) (by assumption) ?_); intro _ _ _ _ _))) | ((with_reducible show wpAny _ _ (compareOp CmpOp.NotEq (Value.str _ _) (Value.str _ _)) _ _ _); first | with_reducible (((with_reducible show wpAny _ _ (compareOp CmpOp.NotEq (Value.str (strArr [_]) _) (Value.str (PySem.Str.ofString "=") _)) _ _ _); (rw [eqS]); refine r_neS (by omega) (by decide) ?_))) | ((with_reducible show wpAny _ _ (exec (Stmt.For (Expr.Tuple _ _) (Expr.Call _ _ _ _) _ _ _) _) _ _ _); first | with_reducible (((rename Fr _ _ _ _ => F'Zz); (with_reducible apply For_pair3F); (case _F => with_unfolding_all exact F'Zz); (case hh => with_unfolding_all rfl); (case hxi => with_unfolding_all rfl); (case hxc => with_unfolding_all rfl); (case hp => with_unfolding_all rfl); (case hs => (intro _; with_unfolding_all rfl)); (case hE => first | passes_own | with_unfolding_all passes_own)))) | ((with_reducible show wpAny _ _ (execs (_ :: _) _) _ _ _); first | with_reducible ((dsimp only; k_gentoks))) | ((with_reducible show wpAny _ _ (execs [] _) _ _ _); first | with_reducible (((with_reducible show wpAny _ _ (execs [] _) _ _ _); dsimp only; (try k_gentoks); refine wpAny_execs_nil ?_))) | ((with_reducible show wpAny _ _ (inplaceOp Operator.Add (Value.str _ _) (Value.str _ _)) _ _ _); first | with_reducible (((with_reducible show wpAny _ _ (inplaceOp Operator.Add (Value.str (strArr _) _) (Value.str (strArr _) _)) _ _ _); refine r_iaddS (by (try simp only [List.length_append, List.length_cons, List.length_nil]); omega) (by (try simp only [List.length_append, List.length_cons, List.length_nil]); first | exact Nat.le_trans (wsL_len _) (by decide) | omega) ?_; intro _ _))) | ((with_reducible show wpAny _ _ (pyIter (Value.ref _)) _ _ _); first | with_reducible ((k_extra "pyIter ref"))) | ((with_reducible show wpAny _ _ (subscriptTail _ _ _ _) _ _ _); first | with_reducible (((with_reducible show wpAny _ _ (subscriptTail _ _ (Value.ref _) (Value.int _ _)) _ _ _); (rename News _ _ _ _ => nE'Zz); k_dflt (refine r_tab5 (News.isList nE'Zz (by k_mem)) (by omega) (by omega) ?_); intro _)) | with_reducible (((with_reducible show wpAny _ _ (subscriptTail _ _ (Value.bytes _ _) (Value.int _ _)) _ _ _); k_dflt (refine r_b64 (by omega) (by omega) ?_)))) | walk1) | (leave1; (try dsimp only)) | fail "no step"))
  exact hret _ _ _ (by k_asm) (by ((first | k_asm | (refine' cb_drop ?cbN ?cbS; (case cbN => assumption); (case cbS => kcj_all)))))
end
section
open PySem.Calls
/-- built-ins that hold a buffer while they run -/
noncomputable def holders : List String := ["bytearray.__contains__", "bytearray.__mod__", "bytearray.__rmod__", "_struct.pack_into.held", "bytearray.find.held"] ++ Builtin.Bytes.decodersThatHold
noncomputable def okC : Code → Bool
  | .builtin id _ => !holders.contains id
  | _ => true
theorem notok {id : String} {args : Args} (h : holders.contains id = true) : okC (.builtin id args) = false := by unfold okC; dsimp only; rw [h]; rfl
noncomputable def CleanB (Γ : Ctx) : Prop := ∀ x ∈ Γ.below, okC x.1 = true
noncomputable def Clean (Γ : Ctx) : Prop := okC Γ.code = true ∧ CleanB Γ
/-- as wpAny, for contexts whose stack holds no such built-in -/
noncomputable def wpC {α : Type} (M : Model) (A : Around) (t : Sem α) (Q : α → Shared → Prop) (E : Value → Shared → Prop) (s : Shared) : Prop :=
  ∀ Γ p, Γ.In A → Clean Γ → Sem.wp M Γ t (fun a _ s' => Q a s') (fun e _ s' => E e s') p s
noncomputable def codeC (M : Model) (A : Around) (c : Code) (R : Result → Shared → Prop) (s : Shared) : Prop :=
  ∀ Γ p, Γ.code = c → Γ.Below A → CleanB Γ → wpCode M Γ R p s
section
variable {α β : Type} {M : Model} {A : Around} {E : Value → Shared → Prop} {s : Shared}
theorem wpC_any {t : Sem α} {Q : α → Shared → Prop} (h : wpAny M A t Q E s) : wpC M A t Q E s := fun Γ p hΓ _ => h Γ p hΓ
theorem codeC_any {c : Code} {R : Result → Shared → Prop} (h : codeAny M A c R s) : codeC M A c R s := fun Γ p hc hΓ _ => h Γ p hc hΓ
theorem wpC_pure {a : α} {Q : α → Shared → Prop} (h : Q a s) : wpC M A (pure a) Q E s := fun _ _ _ _ => h
theorem wpC_mono {t : Sem α} {Q Q' : α → Shared → Prop} {E' : Value → Shared → Prop} (h : wpC M A t Q E s) (hQ : ∀ a s, Q a s → Q' a s) (hE : ∀ e s, E e s → E' e s) : wpC M A t Q' E' s :=
  fun Γ p hΓ hc => Sem.wp_mono M Γ t (fun a _ s => hQ a s) (fun e _ s => hE e s) p s (h Γ p hΓ hc)
theorem wpC_bind {m : Sem α} {f : α → Sem β} {Q : β → Shared → Prop} (h : wpC M A m (fun a s' => wpC M A (f a) Q E s') E s) : wpC M A (m >>= f) Q E s := fun Γ p hΓ hc => by
  rw [Sem.wp_bind']
  exact Sem.wp_mono M Γ m (fun a p' s' h' => h' Γ p' hΓ hc) (fun _ _ _ h' => h') p s (h Γ p hΓ hc)
/-- a leaf first -/
theorem wpC_leaf {m : Sem α} {f : α → Sem β} {Q : β → Shared → Prop} (h : wpAny M A m (fun a s' => wpC M A (f a) Q E s') E s) : wpC M A (m >>= f) Q E s := wpC_bind (wpC_any h)
theorem wpC_holding {vs : List Value} {m : Sem α} {Q : α → Shared → Prop} (h : wpC M A m Q E s) : wpC M A (holding vs m) Q E s :=
  fun Γ p hΓ hc => by rw [Sem.wp_holding]; exact h Γ p hΓ hc
theorem wpC_keep {vs : List Value} {m : Sem α} {Q : α → Shared → Prop} (h : wpC M A m Q E s) : wpC M A (m.keep vs) Q E s :=
  fun Γ p hΓ hc => by rw [Sem.wp_keep]; exact h Γ p hΓ hc
theorem wpC_operate {vs : List Value} {m : Sem Value} {Q : Value → Shared → Prop} (h : wpC M A m Q E s) : wpC M A (operate vs m) Q E s :=
  fun Γ p hΓ hc => by rw [Sem.wp_operate]; exact h Γ p hΓ hc
theorem wpC_onRaise {m : Sem α} {k : Value → Sem Unit} {Q : α → Shared → Prop} (h : wpC M A m Q (fun e s' => wpC M A (k e) (fun _ s'' => E e s'') E s') s) : wpC M A (m.onRaise k) Q E s := fun Γ p hΓ hc => by
  rw [Sem.wp_onRaise]
  exact Sem.wp_mono M Γ m (fun _ _ _ h' => h') (fun e p' s' h' => h' Γ p' hΓ hc) p s (h Γ p hΓ hc)
theorem wpC_standAt {pos : Pos} {Q : Unit → Shared → Prop} (h : Q () s) : wpC M A (standAt pos) Q E s := fun _ _ _ _ => h
theorem clean_enter {Γ : Ctx} (h : Clean Γ) (c : Code) (hd : Option Value) (p : Pos) : CleanB (Γ.enter c hd p) := fun x hx => by
  rcases List.mem_cons.mp (show x ∈ (Γ.code, p) :: Γ.below from hx) with rfl | hx
  · exact h.1
  · exact h.2 x hx
theorem wpC_run {c : Code} {hd : Option Value} {Q : Flow → Shared → Prop} (hc : codeC M (A.mark hd) c (fun r s' => match r with | .ok f => Q f s' | .error e => E e s') s) (hnb : hd ≠ some byPass := by intro x; cases x) : wpC M A (run c hd) Q E s :=
  fun Γ p hΓ hcl => by rw [Sem.wp_run]; exact hc _ p rfl (hΓ.enter c hd p hnb) (clean_enter hcl c hd p)
theorem wpC_runValue {c : Code} {Q : Value → Shared → Prop} (hc : codeC M A c (fun r s' => match r with | .ok (.ret v) => Q v s' | .ok _ => False | .error e => E e s') s) : wpC M A (runValue c) Q E s :=
  fun Γ p hΓ hcl => by rw [Sem.wp_runValue]; exact hc _ p rfl (hΓ.enter c none p (by intro x; cases x)) (clean_enter hcl c none p)
theorem wpC_call {f : Value} {pos : List Value} {kw : List (Str × Value)} {Q : Value → Shared → Prop}
    (hc : codeC M A (.call f ⟨pos, kw⟩) (fun r s' => match r with | .ok (.ret v) => Q v s' | .ok _ => False | .error e => E e s') s) : wpC M A (call f pos kw) Q E s := wpC_runValue hc
theorem codeC_mono {c : Code} {R R' : Result → Shared → Prop} (h : codeC M A c R s) (hR : ∀ r s, R r s → R' r s) : codeC M A c R' s := fun Γ p hc hΓ hcl => wpCode_mono hR (h Γ p hc hΓ hcl)
theorem codeC_tree {c : Code} {R : Result → Shared → Prop} (hok : okC c = true)
    (h : wpC M (A.under c) (M.den c) (fun fin s' => match fin with | .done f => R (.ok f) s' | .again c' => c'.quiet = true ∧ codeC M A c' R s') (fun e s' => R (.error e) s') s) : codeC M A c R s := fun Γ p hc hΓ hcl => by
  rw [wpCode_iff_wp, hc]
  refine Sem.wp_mono M Γ _ (fun fin p' s' h' => ?_) (fun _ _ _ h' => h') p s (h Γ p (hc ▸ hΓ.in) ⟨hc ▸ hok, hcl⟩)
  cases fin with
  | done f => exact h'
  | again c' => exact ⟨h'.1, h'.2 (Γ.goto c') p' rfl (hΓ.goto c') hcl⟩
/-- in a clean context no one holds the buffer -/
theorem wpC_exported {self : Value} {Q : Bool → Shared → Prop} (h : Q false s) : wpC M A (Builtin.Bytes.exported self) Q E s := fun Γ p hΓ hc => by
  have hcl : ∀ x ∈ (Γ.code, p) :: Γ.below, okC x.1 = true := fun x hx => by
    rcases List.mem_cons.mp hx with rfl | hx
    · exact hc.1
    · exact hc.2 x hx
  unfold Builtin.Bytes.exported
  show Q (List.any ((Γ.code, p) :: Γ.below) _) s
  rw [List.any_eq_false.mpr ?_]
  · exact h
  · rintro ⟨c, q⟩ hx
    have hk := hcl _ hx
    dsimp only at hk
    cases c with
    | builtin id args =>
      have n : ∀ s, holders.contains s = true → ¬ id = s := fun s hs e => by subst e; rw [notok hs] at hk; exact Bool.noConfusion hk
      delta Builtin.Bytes.exported.match_1
      show ¬ (dite (id = "bytearray.__contains__") _ _) = true
      rw [dif_neg (n _ (by decide +kernel))]
      show ¬ (dite (id = "bytearray.__mod__") _ _) = true
      rw [dif_neg (n _ (by decide +kernel))]
      show ¬ (dite (id = "bytearray.__rmod__") _ _) = true
      rw [dif_neg (n _ (by decide +kernel))]
      show ¬ (dite (id = "_struct.pack_into.held") _ _) = true
      rw [dif_neg (n _ (by decide +kernel))]
      show ¬ (dite (id = "bytearray.find.held") _ _) = true
      rw [dif_neg (n _ (by decide +kernel))]
      obtain ⟨pos, kw⟩ := args
      cases pos with
      | nil => exact Bool.false_ne_true
      | cons v tl =>
        show ¬ (Builtin.Bytes.sameRef v self && Builtin.Bytes.decodersThatHold.contains id) = true
        unfold okC holders at hk
        rw [Bool.not_eq_true', List.contains_eq_mem, decide_eq_false_iff_not] at hk
        rw [Bool.and_eq_true, not_and]
        intro _ hm
        rw [List.contains_eq_mem, decide_eq_true_eq] at hm
        exact hk (List.mem_append_right _ hm)
    | _ => exact Bool.false_ne_true
end
section
variable {prog : Program} {w : World} {A : Around} {E : Value → Shared → Prop} {s : Shared} {R : Result → Shared → Prop} {env : Env}
theorem wpC_execs_nil {M : Model} {Q : Flow → Shared → Prop} (h : Q .next s) : wpC M A (execs [] env) Q E s := fun _ _ _ _ => h
/-- a statement without buffers first -/
theorem wpC_execs_leaf {M : Model} {st : Stmt} {rest : List Stmt} {Q : Flow → Shared → Prop} (h : wpAny M A (exec st env) (fun f s' => match f with | .next => wpC M A (execs rest env) Q E s' | f => Q f s') E s) : wpC M A (execs (st :: rest) env) Q E s := by
  rw [execs_cons]
  refine wpC_leaf (wpAny_mono h (fun f s' h' => ?_) fun _ _ x => x)
  cases f <;> first | exact h' | exact wpC_pure h'
theorem wpC_execs_cons {M : Model} {st : Stmt} {rest : List Stmt} {Q : Flow → Shared → Prop} (h : wpC M A (exec st env) (fun f s' => match f with | .next => wpC M A (execs rest env) Q E s' | f => Q f s') E s) : wpC M A (execs (st :: rest) env) Q E s := by
  rw [execs_cons]
  refine wpC_bind (wpC_mono h (fun f s' h' => ?_) fun _ _ x => x)
  cases f <;> first | exact h' | exact wpC_pure h'
theorem wpC_Expr {e : PySem.Expr} {pos : Pos} {Q : Flow → Shared → Prop} (h : wpC (model prog w) A (eval e env) (fun _ => Q .next) E s) (hi : interactive env = false := by rfl) (hs : swapsWith e none pos.line env = pure false := by rfl) :
    wpC (model prog w) A (exec (.Expr e pos) env) Q E s := by
  rw [exec_Expr env e pos hi hs]
  exact wpC_leaf (wpAny_standAt (wpC_bind (wpC_mono h (fun v s' h' => wpC_any (wpAny_dropValue h')) fun _ _ x => x)))
theorem wpC_If {M : Model} {test : PySem.Expr} {body orelse : List Stmt} {pos : Pos} {Q : Flow → Shared → Prop}
    (h : wpAny M A (isTrue test env (eval test env)) (fun b s₂ => if b then wpC M A (execs body env) Q E s₂ else wpC M A (execs orelse env) Q E s₂) E s) : wpC M A (exec (.If test body orelse pos) env) Q E s := by
  rw [exec_If]
  refine wpC_leaf (wpAny_standAt (wpC_leaf (wpAny_mono h (fun b s₂ h₂ => ?_) fun _ _ x => x)))
  cases b <;> exact h₂
theorem wpC_IfExp {M : Model} {test body orelse : PySem.Expr} {pos : Pos} {Q : Value → Shared → Prop}
    (h : wpAny M A (isTrue test env (eval test env)) (fun b s₁ => if b then wpC M A (eval body env) Q E s₁ else wpC M A (eval orelse env) Q E s₁) E s) : wpC M A (eval (.IfExp test body orelse pos) env) Q E s := by
  rw [arm_eval_IfExp]
  refine wpC_leaf (wpAny_mono h (fun b s₁ h₁ => ?_) fun _ _ x => x)
  cases b <;> exact h₁
theorem codeC_func {body : List Stmt}
    (h : wpC (model prog w) (A.deeper env) (execs body env) (fun f s' => R (.ok (.ret (match f with | .ret v => v | _ => .none))) s')
      (fun e s' => wpAny (model prog w) (A.deeper env) (leaving env e) (fun _ s'' => R (.error e) s'') (fun e' s'' => R (.error e') s'') s') s) :
    codeC (model prog w) A (.func body env) R s := by
  refine codeC_tree rfl ?_
  show wpC _ (A.deeper env) (do point; match ← (execs body env).onRaise (leaving env) with | .ret v => ret v | _ => ret .none) _ _ s
  refine wpC_leaf (wpAny_point (wpC_bind (wpC_onRaise (wpC_mono h (fun f s' h' => ?_) fun _ _ h' => wpC_any h'))))
  cases f <;> exact wpC_pure h'
theorem codeC_call_function {a : Addr} {args : Args} {o : Obj} {fd : FuncData} {body : List Stmt} (hroom : A.depth < recursionLimit) (ho : s.heap.get? a = some o)
    (hd' : o.data = .func fd) (hco : fd.scope.isCoroutine = false) (hgen : fd.scope.isGenerator = false) (hbody : fd.body = .stmts body) (hcd : s.heap.CodeRec fd.code fd.qualname)
    (h : wpAny (model prog w) A.in1 (bindArgs fd args) (fun binds s₁ =>
      wpAny (model prog w) A.in1 (newFunctionEnv fd.scope fd.globals fd.closure binds (fd.qualname ++ ".<locals>.") (some a) fd.code none fd.builtins)
        (fun env s₂ => s₂.heap.NoLimit ∧ codeC (model prog w) A (.func body env) R s₂) (fun e s' => R (.error e) s') s₁) (fun e s' => R (.error e) s') s) :
    codeC (model prog w) A (.call (.ref a) args) R s := by
  refine codeC_tree rfl ?_
  show wpC _ A.in1 (callAny (.ref a) args) _ _ s
  simp only [callAny]
  refine wpC_leaf (wpAny_load ho ?_)
  obtain ⟨c, oc, vs, tq, hc, hoc, hdc, hq⟩ := hcd
  simp only [hd', callFunction, hco, hgen, hbody, hc]
  rw [hc] at h
  refine wpC_leaf (m := field (.ref c) 1) (wpAny_field hoc hdc hq (wpC_leaf (wpAny_pure ?_)))
  exact wpC_leaf (wpAny_mono h (fun binds s₁ h₁ => wpC_leaf (wpAny_mono h₁ (fun env s₂ h₂ => wpC_leaf (wpAny_enterFrame h₂.1 hroom (wpC_pure (And.intro rfl h₂.2)))) fun _ _ h' => h')) fun _ _ h' => h')
theorem codeC_call_def {a : Addr} {o : Obj} {fd : FuncData} {body : List Stmt} {args : Args} {binds : List (Str × Value)}
    (hroom : A.depth < recursionLimit) (ho : s.heap.get? a = some o) (hdata : o.data = .func fd) (hlim : s.heap.NoLimit) (hcd : s.heap.CodeRec fd.code fd.qualname)
    (hbody : fd.body = .stmts body) (hbind : BindsTo s fd args binds) (hcell : ∀ x ∈ fd.scope.names, x.2 ≠ .cell) (hloc : ∀ x ∈ binds, fd.scope.names.lookup x.1 = some .local)
    (h : ∀ h₀, h₀.Ns s.heap.objs.size (fun x => binds.reverse.lookup x) → (∀ b o, s.heap.get? b = some o → h₀.get? b = some o) →
      wpC (model prog w) (A.deeper (callEnv fd s.heap.objs.size a)) (execs body (callEnv fd s.heap.objs.size a)) (fun f s' => R (.ok (.ret (match f with | .ret v => v | _ => .none))) s')
        (fun e s' => wpAny (model prog w) (A.deeper (callEnv fd s.heap.objs.size a)) (leaving (callEnv fd s.heap.objs.size a) e) (fun _ s'' => R (.error e) s'') (fun e' s'' => R (.error e') s'') s')
        { s with heap := h₀, toks := s.toks + binds.length })
    (hco : fd.scope.isCoroutine = false := by rfl) (hgen : fd.scope.isGenerator = false := by rfl) (hk : fd.scope.kind = .function := by rfl) :
    codeC (model prog w) A (.call (.ref a) args) R s := by
  refine codeC_call_function hroom ho hdata hco hgen hbody hcd (hbind _ _ _ _ ?_)
  refine wpAny_newFunctionEnv hcell hloc (fun h₀ hns₀ hsb₀ => ⟨hlim.fresh _ hsb₀, codeC_func (h h₀ hns₀ fun b o e => ?_)⟩) hk
  exact hsb₀.extBut b o (Nat.ne_of_lt (Heap.lt_size e)) (Heap.get?_push_of_some _ e)
end
section
variable {prog : Program} {w : World} {A A₀ : Around} {K : Frag} {p : Program} {loose : List Str} {mean : ExcName → Option Value} {mg mb : Str → Option Value} {base h₀ : Heap} {L : Addr} {m : Str → Option Value} {news : List (Addr × Obj)} {s : Shared}
/-- the call of a def, for clean contexts -/
theorem defC {env : Env} {outer : List Env} {R : Result → Shared → Prop} {name qual : Str} {params : Arguments} {body : List Stmt} {scope : Scope} {dV kV doc pm cdv ct oc : Value} {an od : Option Addr} {osl : Array (Option Value)} {f : Addr} {args : Args} {binds : List (Str × Value)}
    (B : Below A₀ base outer h₀) (F : Fr h₀ L s.heap m) (X₀ : K.In h₀) (N : News h₀ L s.heap news) (T : Top p loose mean mg mb h₀) (hA : A.frames = some (env :: outer)) (hf : env.frame = some L) (hke : env.scope.kind = .function)
    (ho : K.lookup f = some ⟨oc, od, .func (fnOf name qual params body scope dV kV doc pm an cdv ct), osl⟩) (hcd : codeIn K cdv qual = true) (hroom : A.depth < recursionLimit)
    (hbind : BindsTo s (fnOf name qual params body scope dV kV doc pm an cdv ct) args binds) (hloc : ∀ y ∈ binds, scope.names.lookup y.1 = some .local)
    (h : ∀ g L' h₁, Fr h₀ L g m → Fr g L' h₁ (fun y => binds.reverse.lookup y) → News g L' h₁ news → Below A base (env :: outer) g → K.In g → Top p loose mean mg mb g →
      wpC (model prog w) (A.deeper (envOf qual scope L' f cdv)) (execs body (envOf qual scope L' f cdv))
        (fun fl s' => LeaveK h₀ L m g R (match fl with | .ret v => v | _ => .none) s')
        (fun e s' => wpAny (model prog w) (A.deeper (envOf qual scope L' f cdv)) (leaving (envOf qual scope L' f cdv) e) (fun _ s'' => R (.error e) s'') (fun e' s'' => R (.error e') s'') s')
        { s with heap := h₁, toks := s.toks + binds.length })
    (hco : scope.isCoroutine = false) (hgen : scope.isGenerator = false) (hk : scope.kind = .function)
    (hcell : ∀ x ∈ scope.names, x.2 ≠ .cell) : codeC (model prog w) A (.call (.ref f) args) R s := by
  obtain ⟨FG, BG, st, lv⟩ := groundX (R := R) B F N hA hf hke
  refine codeC_call_def (fd := fnOf name qual params body scope dV kV doc pm an cdv ct) (body := body) (binds := binds) hroom ((X₀.keeps F.keep) _ _ ho) rfl (T.nolimit.keeps F.keep) (codeRec_of (X₀.keeps F.keep) hcd) rfl hbind hcell hloc (fun h₁ hns hk₁ => ?_) hco hgen hk
  exact wpC_mono (h _ s.heap.objs.size h₁ FG ⟨hns, fun b o e => hk₁ b o (of_hideAll _ e), Nat.le_of_eq (hideAll_size _ _)⟩
    (fun p hp => ⟨hk₁ _ _ (N p hp).1, Nat.ne_of_lt (Heap.lt_size (N p hp).1), hideAll_none _ (List.mem_map_of_mem hp)⟩) BG (X₀.keeps st) (T.keeps st)) (fun fl s' hl => lv _ _ hl) fun _ _ y => y
end
end
section
open PySem.Calls
set_option maxHeartbeats 4000000
noncomputable abbrev ctx0 : Ctx := ⟨.builtin "claim.caller" {}, none, none, [], none⟩
theorem clean0 : Clean ctx0 := ⟨by decide +kernel, fun _ h => nomatch h⟩
/-- the thread of a claim ends, by a walk through clean contexts alone -/
theorem threadC {prog : Program} {w : World} {t : Sem Fin} {s : Shared} {R : Result → Shared → Prop} (hreg : s.asleep)
    (h : wpC (model prog w) callerA t (fun fin s' => ∃ f, fin = .done f ∧ (R (.ok f) s' ∧ leftWithCleanup s'.gens = false)) (fun e s' => R (.error e) s' ∧ leftWithCleanup s'.gens = false) s) :
    ∃ n r s' s'', runN (denote table) prog w n s ⟨t, .builtin "claim.caller" {}, default, []⟩ = .halted (outcomeOf r) s' ∧
      schedN (denote table) prog w n (.single s ⟨t, .builtin "claim.caller" {}, default, []⟩) = .halted (outcomeOf r) s' ∧ s'.forget = s''.forget ∧ R r s'' := by
  have hw : Sem.wp (model prog w) ctx0 t (Sem.finPost (model prog w) ctx0 fun r s' => R r s' ∧ leftWithCleanup s'.gens = false) (fun e _ s' => R (.error e) s' ∧ leftWithCleanup s'.gens = false) default s :=
    Sem.wp_mono _ ctx0 t (fun fin p' s' h' => by obtain ⟨f, rfl, hf⟩ := h'; exact hf) (fun _ _ _ x => x) default s (h ctx0 default caller_in clean0)
  obtain ⟨n, r, s₁, s₂, a, b, c, d⟩ := wp_halts_full (M := model prog w) (R := R) hreg hw
  exact ⟨n, r, s₂, s₁, b, a, c, d⟩
theorem callC {c : ClaimW} {tree : List Value → Sem Fin} {w : World} {s : Shared} {free : Addr → Prop} {gens : Prop} {kept : Heap → Prop} (hz : s.asleep) (hgens : s.gens = #[])
    (hspec : ∀ args, c.pre args = true → WData.layableAll args = true → ∀ ord : List DictEntry → List DictEntry, (∀ l, (ord l).Perm l) →
      ∃ vs s₁, layAllW c.records (classAt s.heap) w.params ord args s = some (vs, s₁) ∧
        wpC (model c.prog w) callerA (tree vs) (fun fin s' => ∃ f, fin = .done f ∧ (c.Ends s args vs s₁ (.ok f) s' ∧ s'.os = s.os ∧ AllBare s'.gens ∧ kept s'.heap))
          (fun e s' => c.Ends s args vs s₁ (.error e) s' ∧ s'.os = s.os ∧ AllBare s'.gens ∧ kept s'.heap) s₁) :
    c.CallFrom (fun vs => ⟨tree vs, .builtin "claim.caller" {}, default, []⟩) w free gens kept s := by
  intro args hpre hlay ord hord
  obtain ⟨vs, s₁, hlaid, hcode⟩ := hspec args hpre hlay ord hord
  have hal := layAllW_rest _ _ _ hlaid
  obtain ⟨k, r, s', s'', hrun, hsched, hfo, hcase, hos, hkp⟩ := threadC (R := fun r s' => c.Ends s args vs s₁ r s' ∧ s'.os = s.os ∧ kept s'.heap) (Shared.asleep_of_life hal.2.2.2 hz)
    (wpC_mono hcode (fun _ _ ⟨f, e, h1, h2, h3, h4⟩ => ⟨f, e, ⟨h1, h2, h4⟩, leftWithCleanup_false_of_bare h3⟩) fun _ _ ⟨h1, h2, h3, h4⟩ => ⟨⟨h1, h2, h4⟩, leftWithCleanup_false_of_bare h3⟩)
  obtain ⟨eh, _, _, eo, _⟩ := Shared.forget_eq hfo
  replace hcase := hcase.congr eh
  rw [← eh] at hkp
  rw [← eo] at hos
  have hlife := (runN_life _ _ _ hrun).trans hal.2.2.2
  refine ⟨vs, s₁, hlaid, k, _, s', hsched, ?_, fun _ i x hx => ?_, hkp, by rw [hlife], Shared.rest_eq hos⟩
  · rcases hcase with ⟨v, rfl, d1, d2, d3, d4, d5⟩ | ⟨e, ob, cls, rfl, d1, d2, d3, d4, d5⟩
    · exact .inl ⟨v, rfl, d1, d2, d3, fun b o y _ => d4 b o y, d5⟩
    · exact .inr ⟨e, ob, cls, rfl, d1, d2, d3, d4, fun b o y _ => d5 b o y⟩
  · rw [hgens] at hx; simp at hx
theorem wpC_nsGet {prog : Program} {w : World} {A : Around} {s : Shared} {mg : PySem.Str → Option Value} {name : PySem.Str} {f : Value} {α : Type} {k : Option Value → Sem α} {Q : α → Shared → Prop} {E : Value → Shared → Prop}
    (hg : s.heap.Ns mainGlobals mg) (hf : mg name = some f) (h : wpC (model prog w) A (k (some f)) Q E s) : wpC (model prog w) A (nsGet mainNs name >>= k) Q E s :=
  wpC_leaf (wpAny_nsGet hg (by rw [hf]; exact h))
/-- the walk that a claim asks for, through clean contexts -/
noncomputable abbrev WalkC (q : Program) (loose : List PySem.Str) (XP : (PySem.Str → Option Value) → Heap → Prop) (YP : World → Heap → Prop) (r : RowW) (d : DefRec) (kwd : List (PySem.Str × PySem.Expr)) : Prop :=
  ∀ (w : World) (s₀ s₁ : Shared) (mg mb : PySem.Str → Option Value), Ground q loose r.records XP w s₀ mg mb s₁.heap → YP w s₁.heap → ∀ (a : Addr) (o : Obj) (pm cd doc dV kV : Value), s₁.heap.get? a = some o →
    o.data = .func { docDef d.name d.params d.body d.scope pm cd doc with defaults := dV, kwdefaults := kV } → s₁.heap.CodeRec cd d.name → Dflts mg s₁.heap d.params kwd dV kV → mg d.name = some (.ref a) → s₁.gens = #[] →
    ∀ (args : List WData) (vals : List Value) (as : List Addr), r.claim.pre args = true → WData.layableAll args = true → ReadsAllW r.records (classAt s₀.heap) s₁.heap vals args as → WellAll w.params s₁.heap vals args → (∀ a ∈ as, (a == sysModules) = false) →
      wpC (model r.prog w) callerA (PySem.call (.ref a) vals) (fun v s' => GoodWG r.claim (classAt s₀.heap) (ExcName.means s₀.heap) args s₁ (.ok (.ret v)) s')
        (fun e s' => GoodWG r.claim (classAt s₀.heap) (ExcName.means s₀.heap) args s₁ (.error e) s') s₁
theorem headC {r : OpenRow} {q : Program} {loose : List PySem.Str} {Xt : Shared → Bool} {XP : (PySem.Str → Option Value) → Heap → Prop} {α : Type} {Yf : Shared → α} {Ya : World → α} {YP : World → Heap → Prop} {d : DefRec} {kwd : List (PySem.Str × PySem.Expr)} {N : Nat}
    (left : LeftO r.prog q loose Xt Yf Ya N) (hY : ∀ w s, Yf s = Ya w → YP w s.heap) (hYk : ∀ w h h', YP w h → (∀ b o, h.get? b = some o → h'.get? b = some o) → YP w h')
    (hX : ∀ s, Xt s = true → XP (s.heap.nsMap mainGlobals) s.heap) (hXk : ∀ mg h h', XP mg h → (∀ b o, h.get? b = some o → h'.get? b = some o) → XP mg h')
    (hdef : defOf q r.name = some (d, kwd)) (hp : r.prog.theDef r.name = some (d.params, d.body, d.scope)) (hk : kwWritten? d.params.kwonlyargs d.params.kw_defaults = some kwd) (hRf : ∀ s, Xt s = true → RecFacts r.records s.heap) (hwr : (!r.writes || r.records.isEmpty) = true)
    (k1 : r.wellSaid = true) (ok : (chainsOk q && opensWell r.prog && (frees r.toRowW && r.within.isEmpty)) = true) (hb : r.prog.bare) (hw : r.toRowW.promised)
    (call : WalkC q loose XP YP r.toRowW d kwd) : r.Holds := by
  obtain ⟨ok', k5⟩ := Bool.and_eq_true_iff.mp ok
  obtain ⟨hch, o1⟩ := Bool.and_eq_true_iff.mp ok'
  obtain ⟨k5, k6⟩ := Bool.and_eq_true_iff.mp k5
  obtain ⟨hsame, hu, ha, hap, hm⟩ := frees_parts k5
  refine ⟨k1, hw, ⟨hb, o1, by show r.makers.map _ = []; rw [hm]; rfl⟩, hw.witness, fun w => ⟨(left.behind hX hch w).1, fun s' hs' => ?_⟩⟩
  obtain ⟨s₀, hf, hg0, s, hT, hz, hgens, hg, G00, y⟩ := (left.behind (XP := fun mg h => XP mg h ∧ RecFacts r.records h) (fun s hs => ⟨hX s hs, hRf s hs⟩) hch w).2 s' hs'
  have G0 : Ground q loose [] XP w s (s.heap.nsMap mainGlobals) (s.heap.nsMap builtinsNs) s.heap := ⟨G00.T, G00.B, G00.D, G00.TE, G00.TD, G00.W, G00.X.1, G00.cls, G00.has, G00.apart, G00.once, G00.K⟩
  have RF := G00.X.2
  have hT' := hT
  refine ⟨s₀, hf, hg0, s, hT, fun n hn => ?_, RF.1, RF.2.1, ?_⟩
  · obtain rfl : n = r.name := by split at hn <;> simp_all
    exact pinned_of_view hg G0 hdef hp hk
  have hgens : s.gens = #[] := Array.eq_empty_of_size_eq_zero (beq_iff_eq.mp hgens)
  have G : Ground q loose r.records XP w s _ _ s.heap := RF.ground G0
  refine callC (c := r.claim) hz hgens fun args hpre hlay ord hord => ?_
  obtain ⟨⟨vs, s₁⟩, hlaid⟩ := Option.isSome_iff_exists.mp (layAllW_isSome (P := w.params) (ord := ord) G.has args r.args s (pre_splitW hpre).1)
  have keeps := layAllW_keeps _ _ _ hlaid
  have hal := layAllW_rest _ _ _ hlaid
  obtain ⟨as, hrd, hin, hold⟩ := reads_layAllW hord _ _ _ hlaid hlay s₁.heap (fun _ _ e => e)
  have L : Laid r.records w s s₁ args vs as := ⟨⟨ord, hord, hlaid⟩, hrd, hin, hold, keeps, hal.1.trans hgens, hal.2.2.1⟩
  have G₁ := G.keeps hXk keeps
  obtain ⟨a, o, pm, cd, doc, dV, kV, h1, h2, h3, h4, h5⟩ := G₁.fn hdef
  have h := call w s s₁ _ _ G₁ (hYk _ _ _ (hY w s y) keeps) a o pm cd doc dV kV h2 h3 h4 h5 (defOf_name hdef ▸ h1) L.gens args vs as hpre hlay L.reads L.well (L.low G.low)
  have hi := ident_freeW hu ha hap
  have hwi : r.claim.within = [] := List.isEmpty_iff.mp k6
  refine ⟨vs, s₁, hlaid, wpC_nsGet G₁.T.g h1 (wpC_bind (wpC_mono h (fun v s' g => wpC_pure ⟨_, rfl, ?_⟩) fun e s' g => ?_))⟩
  · have z := g.laid (c := r.claim) hsame hwi hi L
    exact ⟨z.1, z.2.1, z.2.2, fun q => ⟨namesKept_of hT' hg _ keeps g.2.1.old, noTable hwr q⟩⟩
  · have z := g.laid (c := r.claim) hsame hwi hi L
    exact ⟨z.1, z.2.1, z.2.2, fun q => ⟨namesKept_of hT' hg _ keeps g.2.1.old, noTable hwr q⟩⟩
end
section
open PySem.Calls
set_option maxHeartbeats 4000000
theorem slot_ba_init : Slot "bytearray" "__init__" "bytearray.__init__" :=
  .of (owner := "bytearray") (n := "__init__") (by rw [typeLookup_type, builtinLookup_eq_fast]; kernel_rfl) (by decide +kernel) (by decide +kernel) (by decide +kernel) (.inl (by decide +kernel)) (by rw [isSubtype_type]; kernel_rfl)
theorem slot_ba_set : Slot "bytearray" "__setitem__" "bytearray.__setitem__" :=
  .of (owner := "bytearray") (n := "__setitem__") (by rw [typeLookup_type, builtinLookup_eq_fast]; kernel_rfl) (by decide +kernel) (by decide +kernel) (by decide +kernel) (.inl (by decide +kernel)) (by rw [isSubtype_type]; kernel_rfl)
theorem slot_ba_len : Slot "bytearray" "__len__" "bytearray.__len__" :=
  .of (owner := "bytearray") (n := "__len__") (by rw [typeLookup_type, builtinLookup_eq_fast]; kernel_rfl) (by decide +kernel) (by decide +kernel) (by decide +kernel) (.inl (by decide +kernel)) (by rw [isSubtype_type]; kernel_rfl)
theorem entry_ba_init : entryFor table "bytearray.__init__" = some Builtin.«bytearray.__init__» := entryFor_of_tree (by kernel_rfl)
theorem entry_ba_set : entryFor table "bytearray.__setitem__" = some Builtin.«bytearray.__setitem__» := entryFor_of_tree (by kernel_rfl)
theorem entry_ba_len : entryFor table "bytearray.__len__" = some Builtin.«bytearray.__len__» := entryFor_of_tree (by kernel_rfl)
theorem entry_ba_new : entryFor table "bytearray.__new__" = some Builtin.«list.__new__» := entryFor_alias (id' := "list.__new__") (by rw [fastTable_eq_tree]; kernel_rfl) (by first | rfl | decide +kernel) (by decide +kernel) (by rw [fastTable_eq_tree]; kernel_rfl)
theorem mro_ba : mroOf (.type "bytearray") = pure [.type "bytearray", .type "object"] := by rw [mroOf_type]; kernel_rfl
theorem lookup_ba_new : typeLookup (.type "bytearray") "__new__" = pure (some (.builtin "bytearray.__new__")) := by rw [typeLookup_type, builtinLookup_eq_fast]; kernel_rfl
theorem called_ba : TypeCalled "bytearray" "bytearray.__new__" "bytearray.__init__" :=
  ⟨by decide +kernel, by decide +kernel, ⟨_, _, mro_ba⟩, madeBy_type mro_ba lookup_ba_new (by decide +kernel), by decide +kernel, by rw [isSubtype_type]; kernel_rfl, slot_ba_init⟩
theorem new_ba0 : checkBuiltinCall "bytearray.__new__" ⟨[.type "bytearray"], []⟩ = pure () := by kernel_rfl
theorem new_ba1 (a : Value) : checkBuiltinCall "bytearray.__new__" ⟨[.type "bytearray", a], []⟩ = pure () := by kernel_rfl
theorem tc_ba0 : checkTypeCall "bytearray" ⟨[], []⟩ = pure () := by kernel_rfl
theorem tc_ba1 (a : Value) : checkTypeCall "bytearray" ⟨[a], []⟩ = pure () := by kernel_rfl
theorem args_ba_init0 (a : Value) : argsOk "bytearray.__init__" ⟨[a], []⟩ := by unfold argsOk; kernel_rfl
theorem args_ba_init1 (a b : Value) : argsOk "bytearray.__init__" ⟨[a, b], []⟩ := by unfold argsOk; kernel_rfl
theorem args_ba_set (a b c : Value) : argsOk "bytearray.__setitem__" ⟨[a, b, c], []⟩ := by unfold argsOk; kernel_rfl
theorem args_ba_len (a : Value) : argsOk "bytearray.__len__" ⟨[a], []⟩ := by unfold argsOk; kernel_rfl
theorem plain_ba_new : plainId "bytearray.__new__" = true := by decide +kernel
noncomputable abbrev baObj (b : Array UInt8) : Obj := { cls := .type "bytearray", data := .bytearray b }
section
variable {prog : Program} {w : World} {A : Around} {E : Value → Shared → Prop} {s : Shared} {R : Result → Shared → Prop}
theorem codeC_builtin {id : String} {args : Args} {b : Builtin} (hok : holders.contains id = false) (hb : entryFor table id = some b)
    (h : wpC (model prog w) (A.under (.builtin id args)) (b args) (fun fin s' => match fin with | .done f => R (.ok f) s' | .again c' => c'.quiet = true ∧ codeC (model prog w) A c' R s') (fun e s' => R (.error e) s') s) :
    codeC (model prog w) A (.builtin id args) R s := by
  refine codeC_tree (by unfold okC; dsimp only; rw [hok]; rfl) ?_
  show wpC _ _ (match entryFor table id with | some b => b args | none => unsupported ((withoutEnding? id "#data").getD id)) _ _ s
  rw [hb]; exact h
theorem codeC_call_builtin {id : String} {args : Args} {b : Builtin} (hq : plainId id = true) (hok : holders.contains id = false) (hb : entryFor table id = some b)
    (h : wpAny (model prog w) A.in1 (checkBuiltinCall id args) (fun _ s₁ => wpC (model prog w) A.in1 (b args)
      (fun fin s' => match fin with | .done f => R (.ok f) s' | .again c' => c'.quiet = true ∧ codeC (model prog w) A c' R s') (fun e s' => R (.error e) s') s₁) (fun e s' => R (.error e) s') s) :
    codeC (model prog w) A (.call (.builtin id) args) R s := by
  refine codeC_tree rfl ?_
  show wpC _ A.in1 (do checkBuiltinCall id args; again (.builtin id args)) _ _ s
  refine wpC_leaf (wpAny_mono h (fun _ s₁ h₁ => wpC_pure (And.intro (plainId_quiet hq args) (codeC_builtin hok hb ?_))) fun _ _ h' => h')
  rw [Around.under_plainId hq args]; exact h₁
theorem wpC_special {M : Model} {self : Value} {T : String} {name : Str} {id : String} {args : List Value} {kw : List (Str × Value)} {Q : Option Value → Shared → Prop} (hT : s.TypeIs self T) (h : Slot T name id)
    (hc : wpC M A (call (.builtin id) (self :: args) kw) (fun v => Q (some v)) E s) : wpC M A (callSpecial? self name args kw) Q E s := by
  simp only [callSpecial?]
  refine wpC_leaf (wpAny_specialOf hT h.lookup ?_)
  simp only [h.bind]
  exact wpC_holding (wpC_leaf (wpAny_pure (wpC_bind (wpC_mono hc (fun v s' h' => wpC_pure h') fun _ _ h' => h'))))
theorem ba_typeIs {B : Addr} {b : Array UInt8} (h : s.heap.get? B = some (baObj b)) : s.TypeIs (.ref B) "bytearray" := ⟨_, h, rfl⟩
theorem rel_ba : typeLookup (.type "bytearray") "__release_buffer__" = pure (some (.builtin "bytearray.__release_buffer__")) := by rw [typeLookup_type, builtinLookup_eq_fast]; kernel_rfl
theorem sub_ba : isSubtype (.type "bytearray") (.type "bytearray") = pure true := by rw [isSubtype_type]; kernel_rfl
theorem own_release {B : Addr} {b : Array UInt8} {Q : Bool → Shared → Prop} (hB : s.heap.get? B = some (baObj b)) (h : Q false s) : wpAny (model prog w) A (Builtin.Bytes.ownRelease (.ref B)) Q E s := by
  unfold Builtin.Bytes.ownRelease Builtin.Bytes.slotIsOwn
  refine wpAny_bind (wpAny_bind (wpAny_specialOf (ba_typeIs hB) rel_ba ?_))
  dsimp only
  rw [show (!("bytearray.__release_buffer__".endsWith ("." ++ "__release_buffer__"))) = false by decide +kernel]
  rw [show "bytearray.__release_buffer__".dropRight ("__release_buffer__".length + 1) = "bytearray" by decide +kernel]
  exact wpAny_isInstance (ba_typeIs hB) sub_ba (wpAny_pure h)
theorem ba_exports {B : Addr} {b : Array UInt8} {Q : Nat → Shared → Prop} (hB : s.heap.get? B = some (baObj b)) (h : Q 0 s) : wpAny (model prog w) A (Builtin.Bytes.exportsOf (.ref B)) Q E s := by
  unfold Builtin.Bytes.exportsOf
  exact wpAny_bind (wpAny_load hB (wpAny_pure h))
theorem ba_payload {B : Addr} {b : Array UInt8} {Q : Array UInt8 → Shared → Prop} (hB : s.heap.get? B = some (baObj b)) (h : Q b s) : wpAny (model prog w) A (Builtin.Bytes.payload (.ref B)) Q E s := by
  unfold Builtin.Bytes.payload Builtin.Bytes.payload?
  exact wpAny_bind (wpAny_bind (wpAny_load hB (wpAny_pure (wpAny_pure h))))
theorem ba_write {B : Addr} {b : Array UInt8} {f : Array UInt8 → Array UInt8} {Q : Unit → Shared → Prop} (hB : s.heap.get? B = some (baObj b)) (hz : (f b).size ≤ sizeLine)
    (h : ∀ h', h'.get? B = some (baObj (f b)) → Heap.SameBut B s.heap h' → Q () { s with heap := h' }) : wpAny (model prog w) A (Builtin.Bytes.write (.ref B) f) Q E s := by
  unfold Builtin.Bytes.write updateBytearray
  dsimp only
  refine wpAny_bind (wpAny_load hB (wpAny_bind (wpAny_update hB ?_)))
  have hB' : (s.heap.update B (Obj.mapBytearray f)).get? B = some (baObj (f b)) := Heap.get?_update_self _ hB rfl
  refine wpAny_lookBehind hB' ?_ (h _ hB' (Heap.SameBut.update ..))
  show (if (f b).size > sizeLine then some "bytearray:memory" else none) = none
  rw [if_neg (by omega)]
theorem held_no {B : Addr} {b : Array UInt8} {Q : Bool → Shared → Prop} (hB : s.heap.get? B = some (baObj b)) (h : Q false s) :
    wpC (model prog w) A (Builtin.Bytes.exported (.ref B) <||> do return (← Builtin.Bytes.exportsOf (.ref B)) > 0) Q E s := by
  refine wpC_bind (wpC_exported ?_)
  show wpC _ _ (Builtin.Bytes.exportsOf (.ref B) >>= fun n => pure (decide (n > 0))) Q E s
  refine wpC_leaf (ba_exports hB (wpC_pure ?_))
  exact h
theorem opt_none : Builtin.Bytes.bindOptional "bytearray.__init__" "bytearray" ["source", "encoding", "errors"] [] [] = pure [none, none, none] := by kernel_rfl
theorem opt_one (v : Value) : Builtin.Bytes.bindOptional "bytearray.__init__" "bytearray" ["source", "encoding", "errors"] [v] [] = pure [some v, none, none] := by kernel_rfl
theorem asStr_bytes {b : Array UInt8} {t : Tok} : asStr? (.bytes b t) = pure none := by rfl
theorem noIndex_bytes : typeLookup (.type "bytes") "__index__" = pure none := by rw [typeLookup_type, builtinLookup_eq_fast]; kernel_rfl
theorem buffer_true {id : String} {b : Array UInt8} {t : Tok} : Builtin.Bytes.buffer? id (.bytes b t) true = pure (some b) := by
  unfold Builtin.Bytes.buffer?
  rw [KBy.special_eq KBy.look_buffer, KBy.own_buffer, KBy.own_release]
  kernel_rfl
theorem ba_init0 {B : Addr} {Q : PySem.Fin → Shared → Prop} (hB : s.heap.get? B = some (baObj #[])) (h : ∀ h', h'.get? B = some (baObj #[]) → Heap.SameBut B s.heap h' → Q (.done (.ret .none)) { s with heap := h' }) :
    wpC (model prog w) A (Builtin.«bytearray.__init__» ⟨[.ref B], []⟩) Q E s := by
  unfold Builtin.«bytearray.__init__»
  dsimp only
  refine wpC_leaf (own_release hB ?_)
  rw [if_neg Bool.false_ne_true]
  rw [opt_none]
  refine wpC_leaf (wpAny_pure ?_)
  dsimp only
  refine wpC_leaf (wpAny_pure (wpC_leaf (wpAny_pure ?_)))
  refine wpC_bind (held_no hB ?_)
  rw [if_neg Bool.false_ne_true]
  refine wpC_leaf (ba_write hB (by rw [sizeLine_eq]; decide) fun h' hB' hs => ?_)
  exact wpC_leaf (wpAny_pure (wpC_pure (h h' hB' hs)))
theorem ba_init1 {B : Addr} {b : Array UInt8} {t : Tok} {Q : PySem.Fin → Shared → Prop} (hB : s.heap.get? B = some (baObj #[])) (hz : b.size ≤ sizeLine) (h : ∀ h' k, h'.get? B = some (baObj b) → Heap.SameBut B s.heap h' → Q (.done (.ret .none)) { s with heap := h', toks := k }) :
    wpC (model prog w) A (Builtin.«bytearray.__init__» ⟨[.ref B, .bytes b t], []⟩) Q E s := by
  unfold Builtin.«bytearray.__init__»
  dsimp only
  refine wpC_leaf (own_release hB ?_)
  rw [if_neg Bool.false_ne_true]
  rw [opt_one]
  refine wpC_leaf (wpAny_pure ?_)
  dsimp only
  refine wpC_leaf (wpAny_pure (wpC_leaf (wpAny_pure ?_)))
  refine wpC_bind (held_no hB ?_)
  rw [if_neg Bool.false_ne_true]
  refine wpC_leaf (ba_write hB (by rw [sizeLine_eq]; decide) fun h' hB' hs => ?_)
  refine wpC_leaf (wpAny_of_eq asStr_bytes ?_)
  simp only [Option.isSome_none, Bool.false_eq_true, if_false]
  refine wpC_leaf (wpAny_pure (wpC_leaf (wpAny_specialOf (typeIs_bytes _ _ _) noIndex_bytes ?_)))
  simp only [Option.isSome_none, Bool.false_eq_true, if_false]
  refine wpC_leaf (wpAny_of_eq buffer_true ?_)
  dsimp only
  refine wpC_leaf (wpAny_rule (wpC_leaf (ba_write hB' hz fun h'' hB'' hs'' => ?_)))
  exact wpC_leaf (wpAny_pure (wpC_pure (h h'' _ hB'' (hs.trans hs''))))
theorem new_run {a : List Value} {Q : Value → Shared → Prop} (ha : a = [] ∨ ∃ v, a = [v]) (h : Q (.ref s.heap.objs.size) { s with heap := s.heap.push (baObj #[]) }) :
    codeAny (model prog w) A (.call (.builtin "bytearray.__new__") ⟨.type "bytearray" :: a, []⟩) (wants Q E) s := by
  have hc : checkBuiltinCall "bytearray.__new__" ⟨.type "bytearray" :: a, []⟩ = pure () := by
    rcases ha with rfl | ⟨v, rfl⟩
    · exact new_ba0
    · exact new_ba1 v
  refine codeAny_of_tree ?_
  show wpAny _ A.in1 (do checkBuiltinCall "bytearray.__new__" ⟨.type "bytearray" :: a, []⟩; again (.builtin "bytearray.__new__" ⟨.type "bytearray" :: a, []⟩)) _ _ s
  refine wpAny_bind (wpAny_of_eq hc (wpAny_pure ⟨plainId_quiet plain_ba_new _, codeAny_builtin_stack entry_ba_new rfl fun p st => ?_⟩))
  rw [Around.under_plainId plain_ba_new _]
  have hsub := sub_ba
  have hown := split_bytearray
  obtain ⟨hp, g, d, tk, os⟩ := s
  simp only [hown, List.headD_cons]
  wp_walk
  exact h
theorem ba_made {a : List Value} {Q : Value → Shared → Prop} (ha : a = [] ∨ ∃ v, a = [v]) (hct : checkTypeCall "bytearray" ⟨a, []⟩ = pure ()) (hargs : ∀ o, argsOk "bytearray.__init__" ⟨o :: a, []⟩)
    (hinit : wpC (model prog w) A.in1.in1 (Builtin.«bytearray.__init__» ⟨.ref s.heap.objs.size :: a, []⟩) (fun fin s' => fin = .done (.ret .none) ∧ Q (.ref s.heap.objs.size) s' ∧ s'.heap.get? s.heap.objs.size ≠ none) E { s with heap := s.heap.push (baObj #[]) }) :
    wpC (model prog w) A (call (.type "bytearray") a) Q E s := by
  have hsub := called_ba.sub
  refine wpC_call (codeC_tree rfl ?_)
  show wpC _ _ (callAny (.type "bytearray") _) _ _ _
  refine wpC_pure ⟨Code.quiet_builtin _ (by decide +kernel), codeC_builtin (by decide +kernel) F.entry_type_call ?_⟩
  rw [Around.under_plain (weight_type_call_type _ _ _) rfl]
  unfold Builtin.«type.__call__»
  simp only [called_ba.notType, Bool.false_eq_true, if_false]
  refine wpC_leaf (wpAny_of_eq hct ?_)
  refine wpC_leaf (wpAny_of_eq mro_ba ?_)
  simp only [List.isEmpty_cons, Bool.false_eq_true, if_false]
  refine wpC_leaf (wpAny_of_eq called_ba.made ?_)
  dsimp only
  refine wpC_leaf (wpAny_pure ?_)
  refine wpC_leaf (wpAny_holding (wpAny_call (new_run ha ?_)))
  have hB : (s.heap.push (baObj #[])).get? s.heap.objs.size = some (baObj #[]) := Heap.get?_push_size _ rfl
  refine wpC_leaf (wpAny_isInstance (s := { s with heap := s.heap.push (baObj #[]) }) (ba_typeIs hB) sub_ba ?_)
  simp only [Bool.not_true, Bool.false_eq_true, if_false]
  refine wpC_bind (wpC_holding (wpC_special (s := { s with heap := s.heap.push (baObj #[]) }) (ba_typeIs hB) slot_ba_init (wpC_call (codeC_call_builtin slot_ba_init.plain (by decide +kernel) entry_ba_init
    (slot_ba_init.check _ _ _ { s with heap := s.heap.push (baObj #[]) } _ _ _ _ (ba_typeIs hB) (hargs _) (wpC_mono hinit (fun fin s' hf => ?_) fun _ _ x => x))))))
  obtain ⟨rfl, hq, _⟩ := hf
  show wpC _ _ (if (Value.none != Value.none) = true then _ else ret (.ref s.heap.objs.size)) _ _ _
  rw [if_neg (by decide)]
  exact wpC_pure hq
theorem r_baNew0 {Q : Value → Shared → Prop} (h : ∀ h', h'.get? s.heap.objs.size = some (baObj #[]) → Heap.SameBut s.heap.objs.size (s.heap.push (baObj #[])) h' → Q (.ref s.heap.objs.size) { s with heap := h' }) :
    wpC (model prog w) A (call (.type "bytearray") []) Q E s := by
  have hB : (s.heap.push (baObj #[])).get? s.heap.objs.size = some (baObj #[]) := Heap.get?_push_size _ rfl
  exact ba_made (.inl rfl) tc_ba0 args_ba_init0 (ba_init0 (s := { s with heap := s.heap.push (baObj #[]) }) hB fun h' hB' hs => ⟨rfl, h h' hB' hs, by rw [hB']; exact Option.some_ne_none _⟩)
theorem r_baNew1 {b : Array UInt8} {t : Tok} {Q : Value → Shared → Prop} (hz : b.size ≤ sizeLine) (h : ∀ h' k, h'.get? s.heap.objs.size = some (baObj b) → Heap.SameBut s.heap.objs.size (s.heap.push (baObj #[])) h' → Q (.ref s.heap.objs.size) { s with heap := h', toks := k }) :
    wpC (model prog w) A (call (.type "bytearray") [.bytes b t]) Q E s := by
  have hB : (s.heap.push (baObj #[])).get? s.heap.objs.size = some (baObj #[]) := Heap.get?_push_size _ rfl
  exact ba_made (.inr ⟨_, rfl⟩) (tc_ba1 _) (fun o => args_ba_init1 o _) (ba_init1 (s := { s with heap := s.heap.push (baObj #[]) }) hB hz fun h' k hB' hs => ⟨rfl, h h' k hB' hs, by rw [hB']; exact Option.some_ne_none _⟩)
theorem slice_parts {S : Addr} {i j : Int} {ti tj : Tok} {Q : Value × Value × Value → Shared → Prop} (hS : s.heap.get? S = some { cls := .type "slice", data := .fields #[.int i ti, .int j tj, .none] }) (h : Q (rawPart (some i), rawPart (some j), rawPart none) s) :
    wpAny (model prog w) A (Builtin.Bytes.sliceParts (.ref S)) Q E s := by
  unfold Builtin.Bytes.sliceParts
  refine wpAny_bind (wpAny_field (x := .none) hS rfl rfl ?_)
  kby_none
  refine wpAny_ite (KBy.ite_no (show ¬ ((Value.none == rawInt 0) = true) from Bool.false_ne_true) ?_)
  refine wpAny_bind (wpAny_field (x := .int _ _) hS rfl rfl ?_)
  kby_int
  refine wpAny_bind (wpAny_field (x := .int _ _) hS rfl rfl ?_)
  kby_int
  exact wpAny_pure h
theorem slice_noIdx {S : Addr} {i j : Int} {ti tj : Tok} {Q : Option Int → Shared → Prop} (hS : s.heap.get? S = some { cls := .type "slice", data := .fields #[.int i ti, .int j tj, .none] }) (h : Q none s) :
    wpAny (model prog w) A (Builtin.Bytes.subscript? (.ref S)) Q E s := by
  unfold Builtin.Bytes.subscript?
  exact wpAny_bind (wpAny_specialOf ⟨_, hS, rfl⟩ slice_no_index (wpAny_pure h))
theorem noInt_bytes : typeLookup (.type "bytes") "__int__" = pure none := by rw [typeLookup_type, builtinLookup_eq_fast]; kernel_rfl
theorem noFloat_bytes : typeLookup (.type "bytes") "__float__" = pure none := by rw [typeLookup_type, builtinLookup_eq_fast]; kernel_rfl
theorem sub_bytes_complex : isSubtype (.type "bytes") (.type "complex") = pure false := by rw [isSubtype_type]; kernel_rfl
theorem sub_bytes_ba : isSubtype (.type "bytes") (.type "bytearray") = pure false := by rw [isSubtype_type]; kernel_rfl
theorem resize_no {B : Addr} {b : Array UInt8} {Q : Unit → Shared → Prop} (hB : s.heap.get? B = some (baObj b)) (h : Q () s) : wpC (model prog w) A (Builtin.Bytes.checkResize (.ref B)) Q E s := by
  unfold Builtin.Bytes.checkResize
  refine wpC_bind (held_no hB ?_)
  rw [if_neg Bool.false_ne_true]
  exact wpC_pure h
/-- the slice store of a bytearray -/
theorem ba_set {B S : Addr} {b c : Array UInt8} {i j : Int} {ti tj t : Tok} {Q : PySem.Fin → Shared → Prop} (hB : s.heap.get? B = some (baObj b)) (hS : s.heap.get? S = some { cls := .type "slice", data := .fields #[.int i ti, .int j tj, .none] }) (hz : b.size + c.size ≤ sizeLine)
    (hi : i = b.size) (hj : j = (b.size + c.size : Nat))
    (h : ∀ h₁ h' k, (∀ a o, s.heap.get? a = some o → h₁.get? a = some o) → Heap.SameBut B h₁ h' → h'.get? B = some (baObj (b ++ c)) → Q (.done (.ret .none)) { s with heap := h', toks := k }) :
    wpC (model prog w) A (Builtin.«bytearray.__setitem__» ⟨[.ref B, .ref S, .bytes c t], []⟩) Q E s := by
  have hBz : B < s.heap.objs.size := Heap.lt_size hB
  have hSz : S < s.heap.objs.size := Heap.lt_size hS
  have hBS : B ≠ S := fun e => absurd (congrArg Obj.cls (Option.some.inj (hS.symm.trans (e ▸ hB)))) (show ¬ Value.type "slice" = Value.type "bytearray" by decide)
  unfold Builtin.«bytearray.__setitem__»
  simp only [List.isEmpty_nil, Bool.not_true, Bool.false_eq_true, if_false]
  refine wpC_leaf (slice_noIdx hS ?_)
  dsimp only
  refine wpC_leaf (wpAny_typeOf ⟨_, hS, rfl⟩ ?_)
  rw [if_neg (by decide)]
  refine wpC_leaf (slice_parts hS ?_)
  simp only [Builtin.Bytes.sameRef, Bool.false_eq_true, if_false]
  refine wpC_leaf (wpAny_isInstance (typeIs_bytes _ _ _) sub_bytes_ba ?_)
  simp only [Bool.not_false, if_true]
  have hcx : isInstance (.bytes c t) (.type "complex") = pure false := sub_bytes_complex
  rw [KBy.special_eq noIndex_bytes, KBy.special_eq noInt_bytes, KBy.special_eq noFloat_bytes, hcx]
  refine wpC_leaf (wpAny_of_eq (a := false) rfl ?_)
  refine wpC_leaf (wpAny_of_eq asStr_bytes ?_)
  simp only [Option.isSome_none, Bool.or_false, Bool.false_eq_true, if_false]
  refine wpC_leaf (wpAny_rule ?_)
  refine wpC_bind (r_baNew1 (by omega) fun h₁ k₁ hT hs₁ => ?_)
  have keep₁ : ∀ a o, s.heap.get? a = some o → h₁.get? a = some o := fun a o e =>
    (hs₁.2 a (Nat.ne_of_lt (Heap.lt_size e))).trans (Heap.get?_push_of_some _ e)
  refine wpC_leaf (wpAny_holding (slice_parts (keep₁ _ _ hS) ?_))
  refine wpC_leaf (ba_payload hT ?_)
  refine wpC_leaf (ba_payload (keep₁ _ _ hB) ?_)
  refine wpC_leaf (wpAny_of_eq (sliceIndices_raw (some i) (some j) none b.size (fun e => nomatch e)) ?_)
  have hb : sliceBounds (some i) (some j) none b.size = ((b.size : Int), (b.size : Int), 1) := by
    subst hi hj
    unfold sliceBounds
    simp only [Option.getD_none, gt_iff_lt, Int.zero_lt_one, if_true]
    refine Prod.ext ?_ (Prod.ext ?_ rfl) <;> dsimp only <;> split <;> omega
  rw [hb]
  dsimp only
  rw [if_pos (by decide)]
  refine wpC_leaf (wpAny_rule ?_)
  have hf : (b.extract 0 ((b.size : Int)).toNat ++ c ++ b.extract (max (b.size : Int) (b.size : Int)).toNat b.size) = b ++ c := by
    rw [Int.max_self, Int.toNat_natCast, Array.extract_size]
    simp
  have fin : wpC (model prog w) A (Builtin.Bytes.write (.ref B) (fun x => x.extract 0 ((b.size : Int)).toNat ++ c ++ x.extract (max (b.size : Int) (b.size : Int)).toNat x.size) >>= fun _ => ret .none) Q E { s with heap := h₁, toks := k₁ } := by
    refine wpC_leaf (ba_write (s := { s with heap := h₁, toks := k₁ }) (keep₁ _ _ hB) (by rw [hf, Array.size_append]; exact hz) fun h' hB' hs => ?_)
    rw [hf] at hB'
    exact wpC_pure (h h₁ h' k₁ keep₁ hs hB')
  split
  · exact wpC_bind (resize_no (s := { s with heap := h₁, toks := k₁ }) (keep₁ _ _ hB) fin)
  · exact fin
/-- o[i:j] = bytes for a bytearray o -/
theorem r_baStore {B S : Addr} {b c : Array UInt8} {i j : Int} {ti tj t : Tok} {Q : Unit → Shared → Prop} (hB : s.heap.get? B = some (baObj b)) (hS : s.heap.get? S = some { cls := .type "slice", data := .fields #[.int i ti, .int j tj, .none] }) (hz : b.size + c.size ≤ sizeLine)
    (hi : i = b.size) (hj : j = (b.size + c.size : Nat))
    (h : ∀ h₁ h' k, (∀ a o, s.heap.get? a = some o → h₁.get? a = some o) → Heap.SameBut B h₁ h' → h'.get? B = some (baObj (b ++ c)) → Q () { s with heap := h', toks := k }) :
    wpC (model prog w) A (setItem (.ref B) (.ref S) (.bytes c t)) Q E s := by
  unfold setItem
  refine wpC_holding ?_
  refine wpC_leaf (m := sequenceKey (.ref B) (.ref S) "__setitem__") (wpAny_sequenceKey (ba_typeIs hB) (by decide) ?_)
  refine wpC_bind (wpC_special (ba_typeIs hB) slot_ba_set (wpC_call (codeC_call_builtin slot_ba_set.plain (by decide +kernel) entry_ba_set
    (slot_ba_set.check _ _ _ _ _ _ _ _ (ba_typeIs hB) (args_ba_set _ _ _) (ba_set hB hS hz hi hj fun h₁ h' k h1 h2 h3 => ?_)))))
  exact wpC_pure (h h₁ h' k h1 h2 h3)
theorem r_baLen {B : Addr} {b : Array UInt8} {Q : Value → Shared → Prop} (hB : s.heap.get? B = some (baObj b)) (hz : b.size ≤ 1000000) (h : ∀ t k, Q (.int (b.size : Nat) t) { s with toks := k }) : wpAny (model prog w) A (call (.builtin "len") [.ref B]) Q E s := by
  refine PyProof.Rows.call_len_slot (n := b.size) (ba_typeIs hB) slot_ba_len (fun Q' hq => ?_) (by omega) (by omega) (h _ _)
  refine wpAny_call (codeAny_call_builtin slot_ba_len.plain entry_ba_len (slot_ba_len.check _ _ _ _ _ _ _ _ (ba_typeIs hB) (args_ba_len _) ?_))
  unfold Builtin.«bytearray.__len__»
  refine wpAny_bind (wpAny_of_eq (a := (Value.ref B, [])) rfl ?_)
  dsimp only
  refine wpAny_bind (ba_payload hB ?_)
  exact wpAny_bind (wpAny_mkInt (wpAny_pure hq))
theorem noBytes_ba : typeLookup (.type "bytearray") "__bytes__" = pure none := by rw [typeLookup_type, builtinLookup_eq_fast]; kernel_rfl
theorem noIndex_ba : typeLookup (.type "bytearray") "__index__" = pure none := by rw [typeLookup_type, builtinLookup_eq_fast]; kernel_rfl
theorem buffer_ba : typeLookup (.type "bytearray") "__buffer__" = pure (some (.builtin "bytearray.__buffer__")) := by rw [typeLookup_type, builtinLookup_eq_fast]; kernel_rfl
theorem ba_buffer {B : Addr} {b : Array UInt8} {id : String} {Q : Option (Array UInt8) → Shared → Prop} (hB : s.heap.get? B = some (baObj b)) (h : Q (some b) s) : wpAny (model prog w) A (Builtin.Bytes.buffer? id (.ref B) true) Q E s := by
  have hT : s.TypeIs (.ref B) "bytearray" := ba_typeIs hB
  unfold Builtin.Bytes.buffer?
  refine wpAny_bind (wpAny_specialOf hT buffer_ba ?_)
  refine wpAny_bind ?_
  unfold Builtin.Bytes.slotIsOwn
  refine wpAny_bind (wpAny_specialOf hT buffer_ba ?_)
  dsimp only
  rw [show (!("bytearray.__buffer__".endsWith ("." ++ "__buffer__"))) = false by decide +kernel]
  rw [show "bytearray.__buffer__".dropRight ("__buffer__".length + 1) = "bytearray" by decide +kernel]
  refine wpAny_isInstance hT sub_ba ?_
  refine bm_if_false rfl ?_
  refine wpAny_bind (wpAny_specialOf hT buffer_ba ?_)
  refine wpAny_bind (own_release hB ?_)
  refine bm_if_false rfl ?_
  exact wpAny_bind (ba_payload hB (wpAny_pure h))
theorem ba_toBytes {B : Addr} {b : Array UInt8} {Q : Value → Shared → Prop} (hB : s.heap.get? B = some (baObj b)) (hz : b.size ≤ sizeLine) (hQ : ∀ t k, Q (.bytes b t) { s with toks := k }) :
    codeAny (model prog w) A (.call (.builtin "bytes.__new__") ⟨[.type "bytes", .ref B], []⟩) (wants Q E) s := by
  refine codeAny_of_tree ?_
  show wpAny _ A.in1 (do checkBuiltinCall "bytes.__new__" ⟨[.type "bytes", .ref B], []⟩; again (.builtin "bytes.__new__" ⟨[.type "bytes", .ref B], []⟩)) _ _ s
  refine wpAny_bind (wpAny_of_eq (F.bm_newCall _) (wpAny_pure ⟨plainId_quiet F.bm_plain _, codeAny_builtin F.bm_entry ?_⟩))
  rw [Around.under_plainId F.bm_plain _]
  have hT : s.TypeIs (.ref B) "bytearray" := ba_typeIs hB
  unfold Builtin.«bytes.__new__»
  refine wpAny_bind (wpAny_of_eq (a := true) rfl ?_)
  refine bm_if_false rfl ?_
  refine wpAny_bind (wpAny_of_eq F.bm_sub ?_)
  refine bm_if_false rfl ?_
  refine wpAny_bind (wpAny_of_eq (F.bm_bind _) ?_)
  refine wpAny_bind (wpAny_of_eq (a := ()) rfl ?_)
  refine wpAny_bind (wpAny_of_eq (a := ()) rfl ?_)
  refine bm_if_false rfl ?_
  refine wpAny_bind (wpAny_specialOf hT noBytes_ba ?_)
  refine wpAny_bind (wpAny_bind ?_)
  show wpAny _ _ (load B >>= _) _ _ _
  refine wpAny_bind (wpAny_load hB ?_)
  refine wpAny_pure (wpAny_pure ?_)
  refine bm_if_false rfl ?_
  refine wpAny_bind (wpAny_specialOf hT noIndex_ba ?_)
  refine bm_if_true rfl ?_
  first
    | show wpAny _ _ (Builtin.Bytes.buffer? "bytes.__new__" (.ref B) true >>= _) _ _ _
    | (refine wpAny_bind ?_; show wpAny _ _ (Builtin.Bytes.buffer? "bytes.__new__" (.ref B) true >>= _) _ _ _)
  refine wpAny_bind (ba_buffer hB ?_)
  refine wpAny_bind (wpAny_rule (wpAny_bind (wpAny_mkBytes ?_ hz)))
  exact wpAny_of_eq rfl (hQ _ _)
theorem r_baBytes {B : Addr} {b : Array UInt8} {Q : Value → Shared → Prop} (hB : s.heap.get? B = some (baObj b)) (hz : b.size ≤ sizeLine) (hQ : ∀ t k, Q (.bytes b t) { s with toks := k }) : wpAny (model prog w) A (call (.type "bytes") [.ref B]) Q E s := by
  refine callType_codes (Q₁ := fun obj s₁ => s₁.TypeIs obj "bytes" ∧ Q obj s₁) F.bm_called (F.bm_typeCall _) F.entry_object_init
    (ba_toBytes hB hz fun t k => ⟨PySem.W.typeIs_bytes _ _ _, hQ t k⟩) fun obj s₁ h₁ => ?_
  exact ⟨h₁.1, F.args_object_init_2 obj _, object_init_meets F.bm_called.init.lookup F.bm_called.made (by decide) prog w A.in1 _ s₁ ⟨h₁.1, rfl, h₁.2⟩⟩
end
end
section
open PySem.Calls
set_option maxHeartbeats 4000000
section
variable {prog : Program} {w : World} {A : Around} {E : Value → Shared → Prop} {s : Shared} {h₀ : Heap} {L B : Addr} {m : PySem.Str → Option Value} {news news' : List (Addr × Obj)}
theorem k_baNew0 {Q : Value → Shared → Prop} (F : Fr h₀ L s.heap m) (N : News h₀ L s.heap news)
    (h : ∀ B h', Fr h₀ L h' m → News h₀ L h' ((B, baObj #[]) :: news) → (∀ p ∈ news, p.1 < B) → Q (.ref B) { s with heap := h' }) : wpC (model prog w) A (call (.type "bytearray") []) Q E s := by
  refine r_baNew0 fun h' hB hs => ?_
  have N₁ := N.push F (baObj #[])
  have z := N₁ (s.heap.objs.size, baObj #[]) (.head _)
  exact h _ h' ((F.push _).change hs z.2.1 z.2.2) (news_set (pre := []) N₁ (fun _ h => nomatch h) (fun p hp => Nat.ne_of_lt (Heap.lt_size (N p hp).1)) hs hB) fun p hp => Heap.lt_size (N p hp).1
theorem k_baStore {b c : Array UInt8} {i j : Int} {ti tj t : Tok} {Q : Unit → Shared → Prop} (F : Fr h₀ L s.heap m) (N : News h₀ L s.heap news) (U : Upd B (baObj b) (baObj (b ++ c)) news news') (hz : b.size + c.size ≤ sizeLine) (hi : i = b.size) (hj : j = (b.size + c.size : Nat))
    (h : ∀ h' k, Fr h₀ L h' m → News h₀ L h' news' → Q () { s with heap := h', toks := k }) :
    wpC (model prog w) A (setItem (.ref B) (.ref s.heap.objs.size) (.bytes c t)) Q E { s with heap := s.heap.push { cls := .type "slice", data := .fields #[.int i ti, .int j tj, .none] } } := by
  obtain ⟨pre, post, rfl, rfl, a, e⟩ := U.split
  have z := N (B, baObj b) (List.mem_append.mpr (.inr (.head _)))
  refine r_baStore (s := { s with heap := s.heap.push { cls := .type "slice", data := .fields #[.int i ti, .int j tj, .none] } }) (Heap.get?_push_of_some _ z.1) (Heap.get?_push_size _ rfl) hz hi hj fun h₁ h' k hk hs hB => ?_
  have hk' : ∀ a o, s.heap.get? a = some o → h₁.get? a = some o := fun a o q => hk a o (Heap.get?_push_of_some _ q)
  exact h h' k ((F.keeps hk').change hs z.2.1 z.2.2) (news_set (N.grown hk') a e hs hB)
theorem k_baLen {b : Array UInt8} {Q : Value → Shared → Prop} (N : News h₀ L s.heap news) (hb : (B, baObj b) ∈ news) (hz : b.size ≤ 1000000) (h : ∀ t k, Q (.int (b.size : Nat) t) { s with toks := k }) : wpAny (model prog w) A (call (.builtin "len") [.ref B]) Q E s := r_baLen (N _ hb).1 hz h
theorem k_baBytes {b : Array UInt8} {Q : Value → Shared → Prop} (N : News h₀ L s.heap news) (hb : (B, baObj b) ∈ news) (hz : b.size ≤ sizeLine) (h : ∀ t k, Q (.bytes b t) { s with toks := k }) : wpAny (model prog w) A (call (.type "bytes") [.ref B]) Q E s := r_baBytes (N _ hb).1 hz h
end
section
variable {M : Model} {prog : Program} {w : World} {A : Around} {E : Value → Shared → Prop} {s : Shared} {env : Env} {K : Frag}
theorem wpC_methodCall {o : PySem.Expr} {name : PySem.Str} {apos pos : Pos} {args : List PySem.Expr} {kws : List Keyword} {pl : Sem Bool} {Q : Value → Shared → Prop}
    (h : wpAny M A (eval o env) (fun ov s₁ => wpAny M A (getMethod ov name pl) (fun fx s₂ => wpC M A (callWith pos fx.1 fx.2 (backTo pos (starEach args env)) (backToKw pos (keywordEach kws env))) Q E s₂) E s₁) E s)
    (he : eval (.Call (.Attribute o name apos) args kws pos) env = (do
      let ov ← eval o env
      standAt apos.atName
      let (f, first) ← holding [ov] (getMethod ov name pl)
      callWith pos f first (backTo pos (starEach args env)) (backToKw pos (keywordEach kws env))) := by rfl) :
    wpC M A (eval (.Call (.Attribute o name apos) args kws pos) env) Q E s := by
  rw [he]
  exact wpC_leaf (wpAny_mono h (fun ov s₁ h₁ => wpC_leaf (wpAny_standAt (wpC_leaf (wpAny_holding h₁)))) fun _ _ x => x)
theorem wpC_callName {id : PySem.Str} {p pos : Pos} {args : List PySem.Expr} {keywords : List Keyword} {Q : Value → Shared → Prop}
    (h : wpAny M A (eval (.Name id p) env) (fun f s₁ => wpC M A (callWith pos f [] (backTo pos (starEach args env)) (backToKw pos (keywordEach keywords env))) Q E s₁) E s) :
    wpC M A (eval (.Call (.Name id p) args keywords pos) env) Q E s := by
  rw [arm_eval_Call_Name']
  exact wpC_leaf h
theorem wpC_callWith_of {P : Heap → Prop} {pos : Pos} {f : Value} {first : List Value} {Q : Value → Shared → Prop} {args : List (Bool × Sem Value)} {keywords : List (Option PySem.Str × Sem Value)} (hplain : (args.any (·.1) || keywords.any (·.1.isNone)) = false)
    (hk : ∀ h, P h → ∃ k, (k = Keeper.frame ∨ k = Keeper.machine ∨ k = Keeper.boundFrame) ∧ Looks M h (keeperOf f) k)
    (h : wpAny M A (evalArgs f true args keywords) (fun a s₁ => P s₁.heap ∧ wpC M A (call f (first ++ a.pos) a.kw) Q E s₁) E s) : wpC M A (callWith pos f first args keywords) Q E s := by
  unfold callWith
  refine wpC_leaf (wpAny_holding (wpAny_mono h (fun a s₁ h₁ => wpC_leaf (wpAny_standAt ?_)) fun _ _ x => x))
  obtain ⟨k, hk', L⟩ := hk _ h₁.1
  simp only [hplain]
  refine wpC_leaf (L.here ?_)
  have tail : ∀ {t : Sem Value}, wpC M A t Q E s₁ → wpC M A (t >>= fun r => holding [r] point >>= fun _ => pure r) Q E s₁ :=
    fun ht => wpC_bind (wpC_mono ht (fun r s₂ hr => wpC_leaf (wpAny_holding (wpAny_point (wpC_pure hr)))) fun _ _ x => x)
  have marked (mk : Value) : wpC M A (callMarked mk f (first ++ a.pos) a.kw) Q E s₁ := by unfold callMarked; exact wpC_keep h₁.2
  rcases hk' with rfl | rfl | rfl <;> dsimp only <;> first | exact tail h₁.2 | (split <;> first | exact tail h₁.2 | exact tail (marked _))
theorem wpC_callWith {h₀ : Heap} {pos : Pos} {f : Value} {first : List Value} {Q : Value → Shared → Prop} {e : PySem.Expr} {rest : List PySem.Expr} (_X : K.In h₀) (hk : keepIn K f = true)
    (h : wpAny M A (spliced (backTo pos (starEach (e :: rest) env))) (fun vs s₁ => K.In s₁.heap ∧ wpC M A (call f (first ++ vs)) Q E s₁) E s)
    (hplain : (backTo pos (starEach rest env)).any (·.1) = false := by rfl) (he : starEach (e :: rest) env = (false, eval e env) :: starEach rest env := by rfl) :
    wpC M A (callWith pos f first (backTo pos (starEach (e :: rest) env)) []) Q E s := by
  rw [he] at h ⊢
  exact wpC_callWith_of (by show ((false || (backTo pos (starEach rest env)).any (·.1)) || false) = false; rw [hplain]; rfl) (keeps_K hk) (evalArgs_plain h)
theorem wpC_callWith0 {pos : Pos} {f : Value} {first : List Value} {Q : Value → Shared → Prop} (X : K.In s.heap) (hk : keepIn K f = true) (h : wpC M A (call f (first ++ [])) Q E s) : wpC M A (callWith pos f first (backTo pos (starEach [] env)) []) Q E s :=
  wpC_callWith_of rfl (keeps_K hk) (evalArgs_nil3 ⟨X, h⟩)
theorem wpC_callType0 {pos : Pos} {T : String} {first : List Value} {Q : Value → Shared → Prop} (h : wpC M A (call (.type T) (first ++ [])) Q E s) : wpC M A (callWith pos (.type T) first (backTo pos (starEach [] env)) []) Q E s :=
  wpC_callWith_of (P := fun _ => True) rfl (fun h _ => ⟨.machine, .inr (.inl rfl), Looks.of_pure rfl⟩) (evalArgs_nil3 ⟨trivial, h⟩)
theorem wpC_Assign_Name {x : PySem.Str} {pos' : Pos} {value : PySem.Expr} {pos : Pos} {Q : Flow → Shared → Prop} (h : wpC M A (eval value env) (fun v s₁ => wpAny M A (storeName env x v) (fun _ => Q .next) E s₁) E s)
    (hs : swapsWith value (some (.Name x pos')) pos.line env = pure false := by rfl) : wpC M A (exec (.Assign [.Name x pos'] value pos) env) Q E s := fun Γ p hΓ hc => by
  simp only [exec_Assign_Name env x pos' value pos hs, Sem.wp_bind', Sem.wp_cmd_standAt, Sem.wp_bindName, Sem.wp_pure']
  exact Sem.wp_mono M Γ _ (fun v _ s₁ h₁ => h₁ Γ _ hΓ) (fun _ _ _ h' => h') _ _ (h Γ _ hΓ hc)
theorem wpC_Assign_Attribute {o : PySem.Expr} {attr : PySem.Str} {pos' : Pos} {value : PySem.Expr} {pos : Pos} {Q : Flow → Shared → Prop}
    (h : wpC M A (eval value env) (fun v s₁ => wpAny M A (eval o env) (fun ov s₂ => wpAny M A (setAttr ov attr v) (fun _ => Q .next) E s₂) E s₁) E s)
    (hs : swapsWith value (some (.Attribute o attr pos')) pos.line env = pure false := by rfl) : wpC M A (exec (.Assign [.Attribute o attr pos'] value pos) env) Q E s := fun Γ p hΓ hc => by
  simp only [plainObj_exec_Assign_Attribute o attr pos' value pos hs, assign_Attribute, Sem.wp_bind', Sem.wp_holding, Sem.wp_cmd_standAt, Sem.wp_release, Sem.wp_pure']
  exact Sem.wp_mono M Γ _ (fun v p₁ s₁ h₁ => Sem.wp_mono M Γ _ (fun ov _ s₂ h₂ => h₂ Γ _ hΓ) (fun _ _ _ h' => h') _ _ (h₁ Γ p₁ hΓ)) (fun _ _ _ h' => h') _ _ (h Γ _ hΓ hc)
theorem wpC_Assign_Subscript {o i : PySem.Expr} {pos' : Pos} {value : PySem.Expr} {pos : Pos} {Q : Flow → Shared → Prop}
    (h : wpAny M A (eval value env) (fun v s₁ => wpAny M A (eval o env) (fun ov s₂ => wpAny M A (eval i env) (fun iv s₃ => wpC M A (setItem ov iv v) (fun _ => Q .next) E s₃) E s₂) E s₁) E s)
    (hs : swapsWith value (some (.Subscript o i pos')) pos.line env = pure false := by rfl) : wpC M A (exec (.Assign [.Subscript o i pos'] value pos) env) Q E s := fun Γ p hΓ hc => by
  simp only [exec_Assign_Subscript o i pos' value pos hs, assign_Subscript, Sem.wp_bind', Sem.wp_holding, Sem.wp_cmd_standAt, Sem.wp_release, Sem.wp_pure']
  exact Sem.wp_mono M Γ _ (fun v p₁ s₁ h₁ => Sem.wp_mono M Γ _ (fun ov p₂ s₂ h₂ => Sem.wp_mono M Γ _ (fun iv _ s₃ h₃ => h₃ Γ _ hΓ hc)
    (fun _ _ _ h' => h') _ _ (h₂ Γ p₂ hΓ)) (fun _ _ _ h' => h') _ _ (h₁ Γ p₁ hΓ)) (fun _ _ _ h' => h') _ _ (h Γ _ hΓ)
end
end
section
open PySem.Calls Builtin Builtin.ObjectAttr Builtin.Getset_descriptor
set_option maxHeartbeats 4000000
theorem here_pk (S : Setting) (P : Params) : peek (KH P) S (Bind.madeHere "object.__new__" (.ref 559)) = some () := by kernel_rfl
theorem made_pk (S : Setting) (P : Params) : peek (KH P) S (Bind.madeBy (.ref 559)) = some none := by kernel_rfl
theorem ty_pk (S : Setting) (P : Params) : peek (KH P) S (isType (.ref 559)) = some true := by kernel_rfl
theorem chk_pk (S : Setting) (P : Params) : peek (KH P) S (checkBuiltinCall "object.__new__" ⟨[.ref 559], []⟩) = some () := by kernel_rfl
theorem cls_pk (P : Params) : ((KH P).lookup 559).any (fun o => match o.data with | .cls cd => !cd.abstract && !cd.hasDel | _ => false) = true := by kernel_rfl
theorem cls_at {P : Params} {h : Heap} (X : (KH P).In h) : ∃ oc od cd sl, h.get? 559 = some ⟨oc, od, .cls cd, sl⟩ ∧ cd.abstract = false ∧ cd.hasDel = false := by
  obtain ⟨o, h1, h2⟩ := any_some (cls_pk P)
  obtain ⟨oc, od, dt, sl⟩ := o
  cases dt with
  | cls cd =>
    simp only [Bool.and_eq_true, Bool.not_eq_true'] at h2
    exact ⟨oc, od, cd, sl, X _ _ h1, h2.1, h2.2⟩
  | _ => cases h2
theorem mro_pk (S : Setting) (P : Params) : peek (KH P) S (mroOf (.ref 559)) = some [.ref 559, .ref 317, .ref 302, .type "object"] := by kernel_rfl
section
variable {prog : Program} {w : World} {A : Around} {E : Value → Shared → Prop} {s : Shared} {h₀ : Heap} {L : Addr} {m : PySem.Str → Option Value} {news : List (Addr × Obj)}
theorem r_objnew {Q : Value → Shared → Prop} (X : (KH w.params).In h₀) (F : Fr h₀ L s.heap m) (N : News h₀ L s.heap news)
    (h : ∀ x dx h', Fr h₀ L h' m → News h₀ L h' ((x, instObj 559 dx) :: (dx, dictOf [] 0) :: news) → (∀ p ∈ news, p.1 < dx) → dx < x → Q (.ref x) { s with heap := h' }) :
    wpAny (model prog w) A (call (.builtin "object.__new__") [.ref 559]) Q E s := by
  have X := X.keeps F.keep
  obtain ⟨hh, g, d, t, os⟩ := s
  have Nn := (N.push F (dictOf [] 0)).push (F.push _) (instObj 559 hh.objs.size)
  rw [Heap.size_push] at Nn
  have hq := h _ hh.objs.size _ ((F.push _).push _) Nn (fun p hp => Heap.lt_size (N p hp).1) (Nat.lt_succ_self _)
  have F := PySem.F.objNew
  have here : Looks (model prog w) hh (Bind.madeHere "object.__new__" (.ref 559)) () := Looks.of_peek X (here_pk _ _)
  have ty : Looks (model prog w) hh (isType (.ref 559)) true := Looks.of_peek X (ty_pk _ _)
  refine wpAny_call (codeAny_call_builtin_code (Code.quiet_builtin _ F.quiet) (Looks.here (s := ⟨hh, g, d, t, os⟩) (Looks.of_peek X (chk_pk _ _)) (codeAny_builtin F.entry ?_)))
  unfold Builtin.«object.__new__»
  dsimp only
  refine wpAny_bind (Looks.here (s := ⟨hh, g, d, t, os⟩) ty ?_)
  refine bm_if_false rfl ?_
  refine wpAny_bind (Looks.here (s := ⟨hh, g, d, t, os⟩) here ?_)
  refine bm_if_false rfl ?_
  obtain ⟨oc, od, cd, sl, hC, e1, e2⟩ := cls_at X
  have lc : Looks (model prog w) hh (classData 559) cd := (Looks.ld (part := none) hC).andThen .now
  refine wpAny_bind (Looks.here (s := ⟨hh, g, d, t, os⟩) lc ?_)
  refine bm_if_false e1 ?_
  show wpAny _ _ ((alloc (dictOf [] 0) >>= fun x => pure (some x)) >>= _) _ _ _
  refine wpAny_bind (wpAny_bind (wpAny_alloc (wpAny_pure (wpAny_bind ?_))))
  show wpAny _ _ (newObjAsIs _ _ _) _ _ _
  unfold newObjAsIs classHasDel
  refine wpAny_bind (wpAny_alloc (wpAny_bind (wpAny_bind (wpAny_load (Heap.get?_push_of_some _ (Heap.get?_push_of_some _ hC)) (wpAny_pure ?_)))))
  rw [e2]
  refine wpAny_pure (wpAny_pure ?_)
  show Q _ _
  rw [Heap.size_push]
  exact hq
end
end
section
set_option maxHeartbeats 8000000
/-- a contract with a fact about the ledger and a word on what it turns into -/
noncomputable abbrev SaysG (w : World) (d u : Nat) (f : Addr) (vs : List Value) (P : List (Addr × Obj) → Prop) (Post : List (Addr × Obj) → Value → List (Addr × Obj) → Prop) : Prop :=
  ∀ (p : Program) (loose : List PySem.Str) (mean : ExcName → Option Value) (mg mb : PySem.Str → Option Value)
  (dp un : Nat) (gd : Option (List Code)) (cn : PySem.Str) (cs : Scope) (a : Addr) (ccd : Value) (cl : List (PySem.Str × Addr)) (outer : List Env) (A₀ : Around) (base h₀ : Heap) (L : Addr) (m : PySem.Str → Option Value) (news : List (Addr × Obj)) (s : Shared)
    (Q E : Value → Shared → Prop),
    Below A₀ base outer h₀ → Fr h₀ L s.heap m → (KH w.params).In h₀ → News h₀ L s.heap news → Top p loose mean mg mb h₀ → cs.kind = .function → dp + d < recursionLimit → un + u < cLine → P news →
    (∀ v news' h' tk', Post news v news' → Fr h₀ L h' m → News h₀ L h' news' → Q v { s with heap := h', toks := tk' }) →
    wpAny (model PySem.Challenge.rw_kl0275_01.prog w) (ktrTop dp un gd cn cs L a ccd cl outer) (call (.ref f) vs) Q E s
theorem new_ok (w : World) : SaysG w 3 40 299 [.ref 559] (fun _ => True) (fun news v news' => ∃ x dx, v = .ref x ∧ news' = (x, instObj 559 dx) :: (dx, dictOf [] 0) :: news ∧ AllLt dx news ∧ @LT.lt Nat _ dx x) := by
  unfold SaysG; k_fill; intro p loose mean mg mb dp un gd cn cs a ccd cl outer A₀ base h₀ L m news s Q E B F X N T hk hd hu hP hret; refine wpAny_call ?_; k_dflt (refine' kpc_both ?k1 ?k2 ?k3 ?k4 ?k5 ?kA ?kF ?kK ?k6 ?k7 ?k8 ?kV ?kX ?kQ ?kM ?kN ?kD ?kR ?kP ?kS ?kT ?kB ?_ ?c2 ?c3 ?c4 ?c5; (case kA => exact rfl); (case kF => exact rfl); (case kK => assumption); (case k1 => k_asm); (case k2 => k_asm); (case k3 => k_asm); (case k4 => k_asm); (case k5 => k_asm); (case k6 => k_is); (case k7 => k_is); (case k8 => ktr_room); (case kV => kp_lit); (case kX => kp_lit); (case kQ => exact rfl); (case kM => exact rfl); (case kN => exact rfl); (case kD => kp_flats); (case kR => exact rfl); (case kP => exact rfl); (case kS => exact fun _ => rfl); (case kT => exact fun _ _ => rfl); (case kB => exact fun _ _ => locs rfl); (case c5 => decide); (case c2 => exact rfl); (case c3 => exact rfl); (case c4 => exact rfl); k_whole; intro C' D' o' g' L' h' tk' l1 l2 lo' hs' fs' FG' F' N' B' X' T'; (try k_lt l1); (try k_lt2 l2); (try dsimp only); (try k_lift B'); (try k_fold))
  have hI0 : IntsAre ([] : List Value) [] := IntsAre.nil
  repeat' (first | (k_unfold; (try dsimp only)) | ((fail_if_success (with_reducible show Q _ _)); first | (k_end; kc_close) | ((with_reducible show wpAny _ _ (call (Value.builtin "object.__new__") _) _ _ _); first | with_reducible (((rename Fr _ _ _ _ => F'Zz); (rename News _ _ _ _ => N'Zz); k_dflt (refine r_objnew (by assumption) F'Zz N'Zz ?_); intro x9Zz d9Zz h9Zz F9Zz N9Zz l9Zz m9Zz; k_lt l9Zz))) | walk1 | (dsimp only; first | ((with_reducible show wpAny _ _ (call (Value.builtin "object.__new__") _) _ _ _); first | with_reducible (((rename Fr _ _ _ _ => F'Zz); (rename News _ _ _ _ => N'Zz); k_dflt (refine r_objnew (by assumption) F'Zz N'Zz ?_); intro x9Zz d9Zz h9Zz F9Zz N9Zz l9Zz m9Zz; k_lt l9Zz))) | walk1) | (leave1; (try dsimp only)) | fail "no step"))
  (refine hret _ _ _ _ ⟨_, _, rfl, rfl, ?_, by assumption⟩ (by k_asm) (by ((first | k_asm | (refine' cb_drop ?cbN ?cbS; (case cbN => assumption); (case cbS => kcj_all))))); (try simp only [AllLt, and_true] at *); simp only [*])
end
section
set_option maxHeartbeats 8000000
/-- a contract for clean contexts -/
noncomputable abbrev SaysC (w : World) (d u : Nat) (f : Addr) (vs : List Value) (P : List (Addr × Obj) → Prop) (Post : List (Addr × Obj) → Value → List (Addr × Obj) → Prop) : Prop :=
  ∀ (p : Program) (loose : List PySem.Str) (mean : ExcName → Option Value) (mg mb : PySem.Str → Option Value)
  (dp un : Nat) (gd : Option (List Code)) (cn : PySem.Str) (cs : Scope) (a : Addr) (ccd : Value) (cl : List (PySem.Str × Addr)) (outer : List Env) (A₀ : Around) (base h₀ : Heap) (L : Addr) (m : PySem.Str → Option Value) (news : List (Addr × Obj)) (s : Shared)
    (Q E : Value → Shared → Prop),
    Below A₀ base outer h₀ → Fr h₀ L s.heap m → (KH w.params).In h₀ → News h₀ L s.heap news → Top p loose mean mg mb h₀ → cs.kind = .function → dp + d < recursionLimit → un + u < cLine → P news →
    (∀ v news' h' tk', Post news v news' → Fr h₀ L h' m → News h₀ L h' news' → Q v { s with heap := h', toks := tk' }) →
    wpC (model PySem.Challenge.rw_kl0275_01.prog w) (ktrTop dp un gd cn cs L a ccd cl outer) (call (.ref f) vs) Q E s
/-- the names of a BytesIO -/
noncomputable abbrev papD (P : Params) (B : Addr) (pos : Int) (k1 k2 t : Tok) : Obj := dictOf [⟨PyData.keyHash P (Str.ofString "_BytesIO__buf"), .str (Str.ofString "_BytesIO__buf") k1, .ref B⟩, ⟨PyData.keyHash P (Str.ofString "_BytesIO__pos"), .str (Str.ofString "_BytesIO__pos") k2, .int pos t⟩] (nat_lit 2)
theorem init_ok (w : World) (x dx : Addr) (rest : List (Addr × Obj)) (hlt : @LT.lt Nat _ dx x) (hal : AllLt dx rest) : SaysC w 3 60 346 [.ref x] (fun news => news = (x, instObj 559 dx) :: (dx, dictOf [] 0) :: rest)
    (fun _ v news' => v = .none ∧ ∃ B k1 k2 t, news' = (B, baObj #[]) :: (x, instObj 559 dx) :: (dx, papD w.params B 0 k1 k2 t) :: rest ∧ @LT.lt Nat _ x B) := by
  unfold SaysC; k_fill; intro p loose mean mg mb dp un gd cn cs a ccd cl outer A₀ base h₀ L m news s Q E B F X N T hk hd hu hP hret; subst hP; refine wpC_call ?_; k_dflt (refine' defC (binds := [(Str.ofString "self", .ref x), (Str.ofString "initial_bytes", .none)]) ?k1 ?k2 ?k3 ?k4 ?k5 ?kA ?kF ?kK ?k6 ?k7 ?k8 ?k9 ?kB ?_ ?c2 ?c3 ?c4 ?c5; (case kA => exact rfl); (case kF => exact rfl); (case kK => assumption); (case k1 => k_asm); (case k2 => k_asm); (case k3 => k_asm); (case k4 => k_asm); (case k5 => k_asm); (case k6 => k_is); (case k7 => k_is); (case k8 => ktr_room); (case k9 => exact binds_peek (by k_in) (fun _ => by kernel_rfl)); (case c5 => decide); (case kB => exact locs rfl); (case c2 => exact rfl); (case c3 => exact rfl); (case c4 => exact rfl); k_whole; intro g' L' h' FG' F' N' B' X' T'; (try dsimp only); (try k_lift B'); (try k_fold))
  have hI0 : IntsAre ([] : List Value) [] := IntsAre.nil
  repeat' (first | (k_unfold; (try dsimp only)) | ((fail_if_success (with_reducible show Q _ _)); first | (((first | ((with_reducible show wpC _ _ (execs [] _) _ _ _); refine wpC_execs_nil ?_) | ((with_reducible show wpC _ _ (execs (Stmt.Assign [Expr.Attribute _ _ _] (Expr.IfExp _ _ _ _) _ :: _) _) _ _ _); k_dflt (refine wpC_execs_cons (wpC_Assign_Attribute ?_))) | ((with_reducible show wpC _ _ (execs (Stmt.Assign [Expr.Subscript _ _ _] _ _ :: _) _) _ _ _); k_dflt (refine wpC_execs_cons (wpC_Assign_Subscript ?_))) | ((with_reducible show wpC _ _ (execs (_ :: _) _) _ _ _); refine wpC_execs_leaf ?_) | ((with_reducible show wpC _ _ (eval (Expr.IfExp _ _ _ _) _) _ _ _); refine wpC_IfExp ?_) | ((with_reducible show wpC _ _ (eval (Expr.Call (Expr.Name _ _) [] [] _) _) _ _ _); refine wpC_callName ?_) | ((with_reducible show wpC _ _ (callWith _ (Value.type _) _ (backTo _ (starEach [] _)) _) _ _ _); refine wpC_callType0 ?_) | ((with_reducible show wpC _ _ (call (Value.type "bytearray") _) _ _ _); (rename Fr _ _ _ _ => F'Zz); (rename News _ _ _ _ => N'Zz); k_dflt (refine k_baNew0 F'Zz N'Zz ?_); intro B9Zz h9Zz F9Zz N9Zz l9Zz; k_lt l9Zz))); (try dsimp only)) | (k_end; kc_close) | walk1 | (dsimp only; walk1) | (leave1; (try dsimp only)) | fail "no step"))
  (refine hret _ _ _ _ ⟨rfl, _, _, _, _, rfl, ?_⟩ (by k_asm) (by k_asm); (try simp only [AllLt, and_true] at *); simp only [*])
theorem call_pk (S : Setting) (P : Params) : peek (KH P) S (specialOf (.ref 559) "__call__") = some (some (.builtin "type.__call__")) := by kernel_rfl
theorem tchk_pk (S : Setting) (P : Params) : peek (KH P) S (checkBuiltinCall "type.__call__" ⟨[.ref 559], []⟩) = some () := by kernel_rfl
theorem ini_pk (S : Setting) (P : Params) : peek (KH P) S (typeLookup (.ref 559) "__init__") = some (some (.ref 346)) := by kernel_rfl
theorem sub_pk (S : Setting) (P : Params) : peek (KH P) S (isSubtype (.ref 559) (.ref 559)) = some true := by kernel_rfl
theorem bnd_pk (S : Setting) (P : Params) (v : Value) : peek (KH P) S (bindSpecial (.ref 346) v) = some (.ref 346, [v]) := by kernel_rfl
theorem codeC_call_builtin_at {prog : Program} {w : World} {A : Around} {s : Shared} {R : Result → Shared → Prop} {id : String} {args : Args} {b : Builtin} (hq : (Code.builtin id args).quiet = true) (hok : holders.contains id = false) (hb : entryFor table id = some b)
    (h : wpAny (model prog w) A.in1 (checkBuiltinCall id args) (fun _ s₁ => wpC (model prog w) (A.under (.builtin id args)) (b args)
      (fun fin s' => match fin with | .done f => R (.ok f) s' | .again c' => c'.quiet = true ∧ codeC (model prog w) A c' R s') (fun e s' => R (.error e) s') s₁) (fun e s' => R (.error e) s') s) :
    codeC (model prog w) A (.call (.builtin id) args) R s := by
  refine codeC_tree rfl ?_
  show wpC _ A.in1 (do checkBuiltinCall id args; again (.builtin id args)) _ _ s
  exact wpC_leaf (wpAny_mono h (fun _ s₁ h₁ => wpC_pure (And.intro hq (codeC_builtin hok hb h₁))) fun _ _ h' => h')
theorem under_tc {dp un : Nat} {gd : Option (List Code)} {cn : PySem.Str} {cs : Scope} {L a : Addr} {ccd : Value} {cl : List (PySem.Str × Addr)} {outer : List Env} :
    (ktrTop dp un gd cn cs L a ccd cl outer).under (.builtin "type.__call__" ⟨[.ref 559], []⟩) = ktrTop (dp + 1) (un + 1) gd cn cs L a ccd cl outer := by
  unfold Around.under
  rfl
theorem bio_ok (w : World) : SaysC w 6 100 559 [] (fun _ => True) (fun news v news' => ∃ x dx B k1 k2 t, v = .ref x ∧ news' = (B, baObj #[]) :: (x, instObj 559 dx) :: (dx, papD w.params B 0 k1 k2 t) :: news ∧ @LT.lt Nat _ dx x ∧ @LT.lt Nat _ x B ∧ AllLt dx news) := by
  unfold SaysC
  intro p loose mean mg mb dp un gd cn cs a ccd cl outer A₀ base h₀ L m news s Q E B F X N T hk hd hu hP hret
  have XS := X.keeps F.keep
  obtain ⟨oc, od, cd, sl, hC, e1, e2⟩ := cls_at XS
  refine wpC_call (codeC_tree rfl ?_)
  show wpC _ _ (callAny (.ref 559) _) _ _ _
  simp only [callAny]
  refine wpC_leaf (wpAny_load hC ?_)
  show wpC _ _ (callAny.viaDunder (.ref 559) _) _ _ _
  unfold callAny.viaDunder
  refine wpC_leaf (Looks.here (Looks.of_peek XS (call_pk _ _)) ?_)
  dsimp only
  rw [tc_bind]
  refine wpC_leaf (wpAny_pure (wpC_leaf (wpAny_pure ?_)))
  refine wpC_pure (a := PySem.Fin.again (.call (.builtin "type.__call__") ⟨[.ref 559], []⟩)) (And.intro rfl ?_)
  refine codeC_call_builtin_at (Code.quiet_builtin _ (by decide +kernel)) (by decide +kernel) PySem.F.entry_type_call (Looks.here (Looks.of_peek XS (tchk_pk _ _)) ?_)
  rw [under_tc]
  unfold Builtin.«type.__call__»
  dsimp only
  rw [if_neg (by decide)]
  refine wpC_leaf (Looks.here (Looks.of_peek XS (mro_pk _ _)) ?_)
  rw [if_neg (by decide)]
  refine wpC_leaf (Looks.here (Looks.of_peek XS (made_pk _ _)) ?_)
  dsimp only
  refine wpC_leaf (cls_sm (f := .ref 299) (rest := []) (p := 303) F X (mc := .type "type") (by kernel_rfl) (by kernel_rfl) (by kernel_rfl) (by kernel_rfl) (by kernel_rfl) ?_)
  refine wpC_leaf (wpAny_holding (new_ok w p loose mean mg mb (dp + 1) (un + 1) gd cn cs a ccd cl outer A₀ base h₀ L m news { s with toks := s.toks + 1 } _ _ B F X N T hk (by omega) (by omega) trivial ?_))
  rintro v news' h' tk' ⟨x, dx, rfl, rfl, l1, l2⟩ F' N'
  have hx : h'.get? x = some (instObj 559 dx) := (N' _ (.head _)).1
  have XS' := X.keeps F'.keep
  have t1 : Looks (model PySem.Challenge.rw_kl0275_01.prog w) h' (typeOf (.ref x)) (.ref 559) := (Looks.ld hx).andThen .now
  have t2 : Looks (model PySem.Challenge.rw_kl0275_01.prog w) h' (isInstance (.ref x) (.ref 559)) true := t1.andThen (Looks.of_peek XS' (sub_pk _ _))
  refine wpC_leaf (Looks.here t2 ?_)
  rw [if_neg (by decide)]
  unfold callSpecial? specialOf
  refine wpC_bind (wpC_holding (wpC_leaf (wpAny_bind (Looks.here t1 (Looks.here (Looks.of_peek XS' (ini_pk _ _)) ?_)))))
  dsimp only
  refine wpC_holding (wpC_leaf (Looks.here (Looks.of_peek XS' (bnd_pk _ _ _)) ?_))
  dsimp only
  refine wpC_bind (init_ok w x dx news l2 l1 p loose mean mg mb (dp + 1) (un + 1) gd cn cs a ccd cl outer A₀ base h₀ L m _ { s with heap := h', toks := tk' } _ _ B F' X N' T hk (by omega) (by omega) rfl ?_)
  rintro v news'' h'' tk'' ⟨rfl, B', k1, k2, t, rfl, l3⟩ F'' N''
  refine wpC_pure ?_
  dsimp only
  rw [if_neg (by decide)]
  exact wpC_pure (hret _ _ _ _ ⟨x, dx, B', k1, k2, t, rfl, rfl, l2, l3, l1⟩ F'' N'')
end
local macro_rules | `(tactic| k_all) => `(tactic| assumption)
section
set_option maxHeartbeats 8000000
theorem SaysG.use {w : World} {d u : Nat} {f : Addr} {vs : List Value} {P : List (Addr × Obj) → Prop} {Post : List (Addr × Obj) → Value → List (Addr × Obj) → Prop} (C : SaysG w d u f vs P Post) {p : Program} {loose : List Str} {mean : ExcName → Option Value} {mg mb : Str → Option Value}
  {dp un : Nat} {gd : Option (List Code)} {cn : Str} {cs : Scope} {a : Addr} {ccd : Value} {cl : List (Str × Addr)} {outer : List Env} {A₀ : Around} {base h₀ : Heap} {L : Addr} {m : Str → Option Value} {news : List (Addr × Obj)} {s : Shared}
    {Q E : Value → Shared → Prop}
    (B : Below A₀ base outer h₀) (F : Fr h₀ L s.heap m) (X : (KH w.params).In h₀) (N : News h₀ L s.heap news) (T : Top p loose mean mg mb h₀) (hk : cs.kind = .function) (hd : dp + d < recursionLimit) (hu : un + u < cLine) (hP : P news)
    (hr : ∀ v news' h' tk', Post news v news' → Fr h₀ L h' m → News h₀ L h' news' → Q v { s with heap := h', toks := tk' }) :
    wpAny (model PySem.Challenge.rw_kl0275_01.prog w) (ktrTop dp un gd cn cs L a ccd cl outer) (call (.ref f) vs) Q E s := C _ _ _ _ _ _ _ _ _ _ _ _ _ _ _ _ _ _ _ _ _ _ _ B F X N T hk hd hu hP hr
theorem SaysC.use {w : World} {d u : Nat} {f : Addr} {vs : List Value} {P : List (Addr × Obj) → Prop} {Post : List (Addr × Obj) → Value → List (Addr × Obj) → Prop} (C : SaysC w d u f vs P Post) {p : Program} {loose : List Str} {mean : ExcName → Option Value} {mg mb : Str → Option Value}
  {dp un : Nat} {gd : Option (List Code)} {cn : Str} {cs : Scope} {a : Addr} {ccd : Value} {cl : List (Str × Addr)} {outer : List Env} {A₀ : Around} {base h₀ : Heap} {L : Addr} {m : Str → Option Value} {news : List (Addr × Obj)} {s : Shared}
    {Q E : Value → Shared → Prop}
    (B : Below A₀ base outer h₀) (F : Fr h₀ L s.heap m) (X : (KH w.params).In h₀) (N : News h₀ L s.heap news) (T : Top p loose mean mg mb h₀) (hk : cs.kind = .function) (hd : dp + d < recursionLimit) (hu : un + u < cLine) (hP : P news)
    (hr : ∀ v news' h' tk', Post news v news' → Fr h₀ L h' m → News h₀ L h' news' → Q v { s with heap := h', toks := tk' }) :
    wpC (model PySem.Challenge.rw_kl0275_01.prog w) (ktrTop dp un gd cn cs L a ccd cl outer) (call (.ref f) vs) Q E s := C _ _ _ _ _ _ _ _ _ _ _ _ _ _ _ _ _ _ _ _ _ _ _ B F X N T hk hd hu hP hr
theorem check_ok (w : World) (x dx B : Addr) (pos : Int) (k1 k2 t : Tok) : SaysG w 3 60 353 [.ref x] (fun news => (x, instObj 559 dx) ∈ news ∧ (dx, papD w.params B pos k1 k2 t) ∈ news) (fun news v news' => v = .none ∧ news' = news) := by
  unfold SaysG; k_fill; intro p loose mean mg mb dp un gd cn cs a ccd cl outer A₀ base h₀ L m news s Q E B F X N T hk hd hu hP hret; refine wpAny_call ?_; k_dflt cell_enter
  obtain ⟨hP1, hP2⟩ := hP
  have hI0 : IntsAre ([] : List Value) [] := IntsAre.nil
  repeat' (first | (k_unfold; (try dsimp only)) | ((fail_if_success (with_reducible show Q _ _)); first | (k_end; kc_close) | ((with_reducible show wpAny _ _ (call (Value.type "bytes") _) _ _ _); first | with_reducible (((with_reducible show wpAny _ _ (call (Value.type "bytes") [Value.ref _]) _ _ _); (rename News _ _ _ _ => nE'Zz); (try simp only [List.push_toArray] at nE'Zz); k_dflt (refine' KBa.make_K ?kbaF nE'Zz ?kbah ?kbal ?kbai ?kbar ?kban ?_; (case kbaF => k_asm); (case kbah => rfl); (case kbal => exact News.isList nE'Zz (by k_mem)); (case kbai => l_ints); (case kbar => (first | assumption | (((repeat (first | assumption | exact c64_lo _ | exact c64_hi _ | refine in_snoc ?_ ?_ ?_ | omega)))))); (case kban => (simp only [List.length_append, List.length_cons, List.length_nil]; omega))); intro h'Zz t'Zz k'Zz F'Zz N'Zz hIn'Zz))) | ((with_reducible show wpAny _ _ (call (Value.type "type") _) _ _ _); first | (((with_reducible show wpAny _ _ (call _ [Value.bytes _ _]) _ _ _); refine call_type_of (Tx := "bytes") rfl (by decide +kernel) ?_))) | ((with_reducible show wpAny _ _ (execs (_ :: _) _) _ _ _); first | with_reducible ((dsimp only; k_gentoks))) | ((with_reducible show wpAny _ _ (execs [] _) _ _ _); first | with_reducible (((with_reducible show wpAny _ _ (execs [] _) _ _ _); dsimp only; (try k_gentoks); refine wpAny_execs_nil ?_))) | walk1 | (dsimp only; first | ((with_reducible show wpAny _ _ (call (Value.type "bytes") _) _ _ _); first | with_reducible (((with_reducible show wpAny _ _ (call (Value.type "bytes") [Value.ref _]) _ _ _); (rename News _ _ _ _ => nE'Zz); (try simp only [List.push_toArray] at nE'Zz); k_dflt (refine' KBa.make_K ?kbaF nE'Zz ?kbah ?kbal ?kbai ?kbar ?kban ?_; (case kbaF => k_asm); (case kbah => rfl); (case kbal => exact News.isList nE'Zz (by k_mem)); (case kbai => l_ints); (case kbar => (first | assumption | (((repeat (first | assumption | exact c64_lo _ | exact c64_hi _ | refine in_snoc ?_ ?_ ?_ | omega)))))); (case kban => (simp only [List.length_append, List.length_cons, List.length_nil]; omega))); intro h'Zz t'Zz k'Zz F'Zz N'Zz hIn'Zz))) | ((with_reducible show wpAny _ _ (call (Value.type "type") _) _ _ _); first | (((with_reducible show wpAny _ _ (call _ [Value.bytes _ _]) _ _ _); refine call_type_of (Tx := "bytes") rfl (by decide +kernel) ?_))) | ((with_reducible show wpAny _ _ (execs (_ :: _) _) _ _ _); first | with_reducible ((dsimp only; k_gentoks))) | ((with_reducible show wpAny _ _ (execs [] _) _ _ _); first | with_reducible (((with_reducible show wpAny _ _ (execs [] _) _ _ _); dsimp only; (try k_gentoks); refine wpAny_execs_nil ?_))) | walk1) | (leave1; (try dsimp only)) | fail "no step"))
  exact hret _ _ _ _ ⟨rfl, rfl⟩ (by k_asm) (by k_asm)
theorem getvalue_ok (w : World) (x dx B : Addr) (bs : List Int) (pos : Int) (k1 k2 t : Tok) (hlen : bs.length ≤ 100000) : SaysG w 6 100 445 [.ref x] (fun news => (B, baObj (byteArr bs)) ∈ news ∧ (x, instObj 559 dx) ∈ news ∧ (dx, papD w.params B pos k1 k2 t) ∈ news) (fun news v news' => (∃ tv, v = .bytes (byteArr bs) tv) ∧ news' = news) := by
  unfold SaysG; k_fill; intro p loose mean mg mb dp un gd cn cs a ccd cl outer A₀ base h₀ L m news s Q E B F X N T hk hd hu hP hret; refine wpAny_call ?_; k_dflt cell_enter
  obtain ⟨hP0, hP1, hP2⟩ := hP
  have hI0 : IntsAre ([] : List Value) [] := IntsAre.nil
  repeat' (first | (k_unfold; (try dsimp only)) | ((fail_if_success (with_reducible show Q _ _)); first | (k_end; kc_close) | ((with_reducible show wpAny _ _ (call (Value.builtin "len") _) _ _ _); first | with_reducible (((with_reducible show wpAny _ _ (call (Value.builtin "len") [Value.ref _]) _ _ _); (rename News _ _ _ _ => nE'Zz); k_dflt (refine k_baLen (b := byteArr _) nE'Zz (by k_mem) (by rw [byteArr_size]; omega) ?_); (rw [byteArr_size]); intro _ _)) | with_reducible (((with_reducible show wpAny _ _ (call (Value.builtin "len") [Value.bytes (byteArr _) _]) _ _ _); (refine r_lenB (by omega) ?_)))) | ((with_reducible show wpAny _ _ (call (Value.ref _) _) _ _ _); first | with_reducible ((k_dflt ((refine' SaysG.use (check_ok _ _ _ _ _ _ _ _) ?k1 ?k2 ?k3 ?k4 ?k5 ?k6 ?k7 ?k8 ?k9 ?_); (((case k1 => k_asm); (case k2 => k_asm); (case k3 => k_asm); (case k4 => k_asm); (case k5 => k_asm); (case k6 => first | exact rfl | assumption); (case k7 => ktr_room); (case k8 => ktr_units))); (case k9 => exact ⟨by first | assumption | k_mem, by first | assumption | k_mem⟩); (rintro v9Zz n9Zz h9Zz tk9Zz ⟨e9Zz, f9Zz⟩ F9Zz N9Zz); subst e9Zz; subst n9Zz; (try dsimp only); (try k_fold))))) | ((with_reducible show wpAny _ _ (call (Value.type "bytes") _) _ _ _); first | with_reducible (((with_reducible show wpAny _ _ (call (Value.type "bytes") [Value.ref _]) _ _ _); (rename News _ _ _ _ => nE'Zz); k_dflt (refine k_baBytes (b := byteArr _) nE'Zz (by k_mem) (by rw [byteArr_size, sizeLine_eq]; omega) ?_); intro _ _)) | with_reducible (((with_reducible show wpAny _ _ (call (Value.type "bytes") [Value.ref _]) _ _ _); (rename News _ _ _ _ => nE'Zz); (try simp only [List.push_toArray] at nE'Zz); k_dflt (refine' KBa.make_K ?kbaF nE'Zz ?kbah ?kbal ?kbai ?kbar ?kban ?_; (case kbaF => k_asm); (case kbah => rfl); (case kbal => exact News.isList nE'Zz (by k_mem)); (case kbai => l_ints); (case kbar => (first | assumption | (((repeat (first | assumption | exact c64_lo _ | exact c64_hi _ | refine in_snoc ?_ ?_ ?_ | omega)))))); (case kban => (simp only [List.length_append, List.length_cons, List.length_nil]; omega))); intro h'Zz t'Zz k'Zz F'Zz N'Zz hIn'Zz))) | ((with_reducible show wpAny _ _ (call (Value.type "type") _) _ _ _); first | (((with_reducible show wpAny _ _ (call _ [Value.bytes _ _]) _ _ _); refine call_type_of (Tx := "bytes") rfl (by decide +kernel) ?_))) | ((with_reducible show wpAny _ _ (execs (_ :: _) _) _ _ _); first | with_reducible ((dsimp only; k_gentoks))) | ((with_reducible show wpAny _ _ (execs [] _) _ _ _); first | with_reducible (((with_reducible show wpAny _ _ (execs [] _) _ _ _); dsimp only; (try k_gentoks); refine wpAny_execs_nil ?_))) | walk1 | (dsimp only; first | ((with_reducible show wpAny _ _ (call (Value.builtin "len") _) _ _ _); first | with_reducible (((with_reducible show wpAny _ _ (call (Value.builtin "len") [Value.ref _]) _ _ _); (rename News _ _ _ _ => nE'Zz); k_dflt (refine k_baLen (b := byteArr _) nE'Zz (by k_mem) (by rw [byteArr_size]; omega) ?_); (rw [byteArr_size]); intro _ _)) | with_reducible (((with_reducible show wpAny _ _ (call (Value.builtin "len") [Value.bytes (byteArr _) _]) _ _ _); (refine r_lenB (by omega) ?_)))) | ((with_reducible show wpAny _ _ (call (Value.ref _) _) _ _ _); first | with_reducible ((k_dflt ((refine' SaysG.use (check_ok _ _ _ _ _ _ _ _) ?k1 ?k2 ?k3 ?k4 ?k5 ?k6 ?k7 ?k8 ?k9 ?_); (((case k1 => k_asm); (case k2 => k_asm); (case k3 => k_asm); (case k4 => k_asm); (case k5 => k_asm); (case k6 => first | exact rfl | assumption); (case k7 => ktr_room); (case k8 => ktr_units))); (case k9 => exact ⟨by first | assumption | k_mem, by first | assumption | k_mem⟩); (rintro v9Zz n9Zz h9Zz tk9Zz ⟨e9Zz, f9Zz⟩ F9Zz N9Zz); subst e9Zz; subst n9Zz; (try dsimp only); (try k_fold))))) | ((with_reducible show wpAny _ _ (call (Value.type "bytes") _) _ _ _); first | with_reducible (((with_reducible show wpAny _ _ (call (Value.type "bytes") [Value.ref _]) _ _ _); (rename News _ _ _ _ => nE'Zz); k_dflt (refine k_baBytes (b := byteArr _) nE'Zz (by k_mem) (by rw [byteArr_size, sizeLine_eq]; omega) ?_); intro _ _)) | with_reducible (((with_reducible show wpAny _ _ (call (Value.type "bytes") [Value.ref _]) _ _ _); (rename News _ _ _ _ => nE'Zz); (try simp only [List.push_toArray] at nE'Zz); k_dflt (refine' KBa.make_K ?kbaF nE'Zz ?kbah ?kbal ?kbai ?kbar ?kban ?_; (case kbaF => k_asm); (case kbah => rfl); (case kbal => exact News.isList nE'Zz (by k_mem)); (case kbai => l_ints); (case kbar => (first | assumption | (((repeat (first | assumption | exact c64_lo _ | exact c64_hi _ | refine in_snoc ?_ ?_ ?_ | omega)))))); (case kban => (simp only [List.length_append, List.length_cons, List.length_nil]; omega))); intro h'Zz t'Zz k'Zz F'Zz N'Zz hIn'Zz))) | ((with_reducible show wpAny _ _ (call (Value.type "type") _) _ _ _); first | (((with_reducible show wpAny _ _ (call _ [Value.bytes _ _]) _ _ _); refine call_type_of (Tx := "bytes") rfl (by decide +kernel) ?_))) | ((with_reducible show wpAny _ _ (execs (_ :: _) _) _ _ _); first | with_reducible ((dsimp only; k_gentoks))) | ((with_reducible show wpAny _ _ (execs [] _) _ _ _); first | with_reducible (((with_reducible show wpAny _ _ (execs [] _) _ _ _); dsimp only; (try k_gentoks); refine wpAny_execs_nil ?_))) | walk1) | (leave1; (try dsimp only)) | fail "no step"))
  exact hret _ _ _ _ ⟨⟨_, rfl⟩, rfl⟩ (by k_asm) (by k_asm)
theorem write_ok (w : World) (x dx B : Addr) (bs ns : List Int) (k1 k2 t tb : Tok) (rest : List (Addr × Obj)) (hlen : bs.length ≤ 100000) (hlen2 : ns.length ≤ 100000) (h1 : @LT.lt Nat _ dx x) (h2 : @LT.lt Nat _ x B) (hr1 : ∀ p ∈ rest, p.1 ≠ B) (hr2 : ∀ p ∈ rest, p.1 ≠ dx) :
    SaysC w 6 100 542 [.ref x, .bytes (byteArr ns) tb] (fun news => news = (B, baObj (byteArr bs)) :: (x, instObj 559 dx) :: (dx, papD w.params B (bs.length : Nat) k1 k2 t) :: rest)
      (fun _ v news' => ∃ t', news' = (B, baObj (byteArr (bs ++ ns))) :: (x, instObj 559 dx) :: (dx, papD w.params B ((bs ++ ns).length : Nat) k1 k2 t') :: rest) := by
  unfold SaysC; k_fill; intro p loose mean mg mb dp un gd cn cs a ccd cl outer A₀ base h₀ L m news s Q E B F X N T hk hd hu hP hret; subst hP; refine wpC_call ?_; k_dflt (refine' defC (binds := [(Str.ofString "self", .ref x), (Str.ofString "b", .bytes (byteArr ns) tb)]) ?k1 ?k2 ?k3 ?k4 ?k5 ?kA ?kF ?kK ?k6 ?k7 ?k8 ?k9 ?kB ?_ ?c2 ?c3 ?c4 ?c5; (case kA => exact rfl); (case kF => exact rfl); (case kK => assumption); (case k1 => k_asm); (case k2 => k_asm); (case k3 => k_asm); (case k4 => k_asm); (case k5 => k_asm); (case k6 => k_is); (case k7 => k_is); (case k8 => ktr_room); (case k9 => exact binds_peek (by k_in) (fun _ => by kernel_rfl)); (case c5 => decide); (case kB => exact locs rfl); (case c2 => exact rfl); (case c3 => exact rfl); (case c4 => exact rfl); k_whole; intro g' L' h' FG' F' N' B' X' T'; (try dsimp only); (try k_lift B'); (try k_fold))
  have hI0 : IntsAre ([] : List Value) [] := IntsAre.nil
  repeat' (first | (k_unfold; (try dsimp only)) | ((fail_if_success (with_reducible show Q _ _)); first | ((first | (((with_reducible show wpC _ _ (setItem (Value.ref _) (Value.ref _) (Value.bytes (byteArr _) _)) _ _ _); (rename Fr _ _ _ _ => F'Zz); (rename News _ _ _ _ => N'Zz); k_dflt (refine' k_baStore (s := ⟨_, _, _, _, _⟩) (b := byteArr _) (c := byteArr _) F'Zz N'Zz ?ku ?kz ?ki ?kj ?_; (case ku => k_upd); (case kz => rw [byteArr_size, byteArr_size, sizeLine_eq]; omega); (case ki => rw [byteArr_size]); (case kj => rw [byteArr_size, byteArr_size]; omega)); intro h9Zz tk9Zz F9Zz N9Zz)) | ((first | ((with_reducible show wpC _ _ (execs [] _) _ _ _); refine wpC_execs_nil ?_) | ((with_reducible show wpC _ _ (execs (Stmt.Assign [Expr.Attribute _ _ _] (Expr.IfExp _ _ _ _) _ :: _) _) _ _ _); k_dflt (refine wpC_execs_cons (wpC_Assign_Attribute ?_))) | ((with_reducible show wpC _ _ (execs (Stmt.Assign [Expr.Subscript _ _ _] _ _ :: _) _) _ _ _); k_dflt (refine wpC_execs_cons (wpC_Assign_Subscript ?_))) | ((with_reducible show wpC _ _ (execs (_ :: _) _) _ _ _); refine wpC_execs_leaf ?_) | ((with_reducible show wpC _ _ (eval (Expr.IfExp _ _ _ _) _) _ _ _); refine wpC_IfExp ?_) | ((with_reducible show wpC _ _ (eval (Expr.Call (Expr.Name _ _) [] [] _) _) _ _ _); refine wpC_callName ?_) | ((with_reducible show wpC _ _ (callWith _ (Value.type _) _ (backTo _ (starEach [] _)) _) _ _ _); refine wpC_callType0 ?_) | ((with_reducible show wpC _ _ (call (Value.type "bytearray") _) _ _ _); (rename Fr _ _ _ _ => F'Zz); (rename News _ _ _ _ => N'Zz); k_dflt (refine k_baNew0 F'Zz N'Zz ?_); intro B9Zz h9Zz F9Zz N9Zz l9Zz; k_lt l9Zz)))); (try dsimp only)) | (k_end; kc_close) | ((with_reducible show wpAny _ _ (call (Value.builtin "len") _) _ _ _); first | with_reducible (((with_reducible show wpAny _ _ (call (Value.builtin "len") [Value.ref _]) _ _ _); (rename News _ _ _ _ => nE'Zz); k_dflt (refine k_baLen (b := byteArr _) nE'Zz (by k_mem) (by rw [byteArr_size]; omega) ?_); (rw [byteArr_size]); intro _ _)) | with_reducible (((with_reducible show wpAny _ _ (call (Value.builtin "len") [Value.bytes (byteArr _) _]) _ _ _); (refine r_lenB (by omega) ?_)))) | ((with_reducible show wpAny _ _ (call (Value.ref _) _) _ _ _); first | with_reducible ((k_dflt ((refine' SaysG.use (check_ok _ _ _ _ _ _ _ _) ?k1 ?k2 ?k3 ?k4 ?k5 ?k6 ?k7 ?k8 ?k9 ?_); (((case k1 => k_asm); (case k2 => k_asm); (case k3 => k_asm); (case k4 => k_asm); (case k5 => k_asm); (case k6 => first | exact rfl | assumption); (case k7 => ktr_room); (case k8 => ktr_units))); (case k9 => exact ⟨by first | assumption | k_mem, by first | assumption | k_mem⟩); (rintro v9Zz n9Zz h9Zz tk9Zz ⟨e9Zz, f9Zz⟩ F9Zz N9Zz); subst e9Zz; subst n9Zz; (try dsimp only); (try k_fold))))) | ((with_reducible show wpAny _ _ (call (Value.type "bytes") _) _ _ _); first | with_reducible (((with_reducible show wpAny _ _ (call (Value.type "bytes") [Value.ref _]) _ _ _); (rename News _ _ _ _ => nE'Zz); k_dflt (refine k_baBytes (b := byteArr _) nE'Zz (by k_mem) (by rw [byteArr_size, sizeLine_eq]; omega) ?_); intro _ _)) | with_reducible (((with_reducible show wpAny _ _ (call (Value.type "bytes") [Value.ref _]) _ _ _); (rename News _ _ _ _ => nE'Zz); (try simp only [List.push_toArray] at nE'Zz); k_dflt (refine' KBa.make_K ?kbaF nE'Zz ?kbah ?kbal ?kbai ?kbar ?kban ?_; (case kbaF => k_asm); (case kbah => rfl); (case kbal => exact News.isList nE'Zz (by k_mem)); (case kbai => l_ints); (case kbar => (first | assumption | (((repeat (first | assumption | exact c64_lo _ | exact c64_hi _ | refine in_snoc ?_ ?_ ?_ | omega)))))); (case kban => (simp only [List.length_append, List.length_cons, List.length_nil]; omega))); intro h'Zz t'Zz k'Zz F'Zz N'Zz hIn'Zz))) | ((with_reducible show wpAny _ _ (call (Value.type "type") _) _ _ _); first | (((with_reducible show wpAny _ _ (call _ [Value.bytes _ _]) _ _ _); refine call_type_of (Tx := "bytes") rfl (by decide +kernel) ?_))) | ((with_reducible show wpAny _ _ (execs (_ :: _) _) _ _ _); first | with_reducible ((dsimp only; k_gentoks))) | ((with_reducible show wpAny _ _ (execs [] _) _ _ _); first | with_reducible (((with_reducible show wpAny _ _ (execs [] _) _ _ _); dsimp only; (try k_gentoks); refine wpAny_execs_nil ?_))) | walk1 | (dsimp only; first | ((with_reducible show wpAny _ _ (call (Value.builtin "len") _) _ _ _); first | with_reducible (((with_reducible show wpAny _ _ (call (Value.builtin "len") [Value.ref _]) _ _ _); (rename News _ _ _ _ => nE'Zz); k_dflt (refine k_baLen (b := byteArr _) nE'Zz (by k_mem) (by rw [byteArr_size]; omega) ?_); (rw [byteArr_size]); intro _ _)) | with_reducible (((with_reducible show wpAny _ _ (call (Value.builtin "len") [Value.bytes (byteArr _) _]) _ _ _); (refine r_lenB (by omega) ?_)))) | ((with_reducible show wpAny _ _ (call (Value.ref _) _) _ _ _); first | with_reducible ((k_dflt ((refine' SaysG.use (check_ok _ _ _ _ _ _ _ _) ?k1 ?k2 ?k3 ?k4 ?k5 ?k6 ?k7 ?k8 ?k9 ?_); (((case k1 => k_asm); (case k2 => k_asm); (case k3 => k_asm); (case k4 => k_asm); (case k5 => k_asm); (case k6 => first | exact rfl | assumption); (case k7 => ktr_room); (case k8 => ktr_units))); (case k9 => exact ⟨by first | assumption | k_mem, by first | assumption | k_mem⟩); (rintro v9Zz n9Zz h9Zz tk9Zz ⟨e9Zz, f9Zz⟩ F9Zz N9Zz); subst e9Zz; subst n9Zz; (try dsimp only); (try k_fold))))) | ((with_reducible show wpAny _ _ (call (Value.type "bytes") _) _ _ _); first | with_reducible (((with_reducible show wpAny _ _ (call (Value.type "bytes") [Value.ref _]) _ _ _); (rename News _ _ _ _ => nE'Zz); k_dflt (refine k_baBytes (b := byteArr _) nE'Zz (by k_mem) (by rw [byteArr_size, sizeLine_eq]; omega) ?_); intro _ _)) | with_reducible (((with_reducible show wpAny _ _ (call (Value.type "bytes") [Value.ref _]) _ _ _); (rename News _ _ _ _ => nE'Zz); (try simp only [List.push_toArray] at nE'Zz); k_dflt (refine' KBa.make_K ?kbaF nE'Zz ?kbah ?kbal ?kbai ?kbar ?kban ?_; (case kbaF => k_asm); (case kbah => rfl); (case kbal => exact News.isList nE'Zz (by k_mem)); (case kbai => l_ints); (case kbar => (first | assumption | (((repeat (first | assumption | exact c64_lo _ | exact c64_hi _ | refine in_snoc ?_ ?_ ?_ | omega)))))); (case kban => (simp only [List.length_append, List.length_cons, List.length_nil]; omega))); intro h'Zz t'Zz k'Zz F'Zz N'Zz hIn'Zz))) | ((with_reducible show wpAny _ _ (call (Value.type "type") _) _ _ _); first | (((with_reducible show wpAny _ _ (call _ [Value.bytes _ _]) _ _ _); refine call_type_of (Tx := "bytes") rfl (by decide +kernel) ?_))) | ((with_reducible show wpAny _ _ (execs (_ :: _) _) _ _ _); first | with_reducible ((dsimp only; k_gentoks))) | ((with_reducible show wpAny _ _ (execs [] _) _ _ _); first | with_reducible (((with_reducible show wpAny _ _ (execs [] _) _ _ _); dsimp only; (try k_gentoks); refine wpAny_execs_nil ?_))) | walk1) | (leave1; (try dsimp only)) | fail "no step"))
  · have hz : ns = [] := List.length_eq_zero_iff.mp (by omega)
    subst hz
    refine hret _ _ _ _ ?_ (by k_asm) (by k_asm)
    exact ⟨_, by rw [List.append_nil]⟩
  · refine hret _ _ _ _ ?_ (by k_asm) (by k_asm)
    exact ⟨_, by rw [byteArr_app, List.length_append, Int.natCast_add]⟩
end
section
set_option maxHeartbeats 2000000
open Builtin
theorem byteArr_list (ns : List Int) : byteArr ns = (ns.map fun n => n.toNat.toUInt8).toArray := rfl
-- bytes times a whole number
theorem gives_same {b : Array UInt8} {n : Int} {t u : Tok} (hf : Bytes.fitsIndex n = true) (hs : b.size * n.toNat = b.size) (hz : b.size ≤ 16777216) : Gives («bytes.__mul__» ⟨[.bytes b t, .int n u], []⟩) (.val (.bytes b t)) := by
  refine .of_wp fun M A E s Q hq => ?_
  show wpAny M A (Bytes.repeatArgs .bytes "__mul__" ⟨[.bytes b t, .int n u], []⟩ >>= fun r => _) _ E s
  refine wpAny_bind (wpAny_of_eq (BMul.args_eq hf) ?_)
  refine wpAny_bind (wpAny_of_eq (a := b) rfl ?_)
  show wpAny M A (if b.size * n.toNat ≥ 2 ^ 63 then _ else _) _ E s
  rw [if_neg (by rw [hs]; omega)]
  refine bm_if_true (by rw [hs]; exact beq_self_eq_true _) ?_
  refine wpAny_bind (wpAny_typeOf (typeIs_bytes s b t) ?_)
  exact wpAny_bind (wpAny_rule (wpAny_pure ⟨_, rfl, hq⟩))
theorem rep_map (n : Nat) (ns : List Int) : (List.replicate n (ns.map fun x => x.toNat.toUInt8)).flatten = (List.replicate n ns).flatten.map fun x => x.toNat.toUInt8 := by
  induction n with
  | zero => rfl
  | succ n ih => rw [List.replicate_succ, List.flatten_cons, ih, List.replicate_succ, List.flatten_cons, List.map_append]
theorem rep_len (n : Nat) (ns : List Int) : (List.replicate n ns).flatten.length = n * ns.length := by
  induction n with
  | zero => simp
  | succ n ih => rw [List.replicate_succ, List.flatten_cons, List.length_append, ih, Nat.succ_mul]; omega
section
variable {prog : Program} {w : World} {A : Around} {E : Value → Shared → Prop} {s : Shared} {t u : Tok}
theorem mul_core {ns : List Int} {n : Int} {Q : Value → Shared → Prop} (h0 : 0 ≤ n) (hn : n ≤ 1000) (hl : ns.length ≤ 100) (h : ∀ t' k, Q (.bytes (byteArr (List.replicate n.toNat ns).flatten) t') { s with toks := k }) :
    wpAny (model prog w) A (call (.builtin "bytes.__mul__") [.bytes (byteArr ns) t, .int n u]) Q E s := by
  have hf : Bytes.fitsIndex n = true := by
    simp only [Bytes.fitsIndex, Bool.and_eq_true, decide_eq_true_eq]
    omega
  have hmul : ns.length * n.toNat ≤ 100 * 1000 := Nat.mul_le_mul hl (by omega)
  by_cases hs : (byteArr ns).size * n.toNat = (byteArr ns).size
  · refine call_gives BMul.slot_mul (typeIs_bytes s _ t) BMul.entry_mul (BMul.args_mul _ _) (gives_same hf hs (by rw [byteArr_size]; omega)) ?_
    have e : (List.replicate n.toNat ns).flatten = ns := by
      rw [byteArr_size] at hs
      rcases Nat.eq_zero_or_pos ns.length with hz | hz
      · have e0 : ns = [] := List.length_eq_zero_iff.mp hz
        subst e0
        rw [List.flatten_eq_nil_iff]
        intro l hl
        exact (List.mem_replicate.mp hl).2
      · have : n.toNat = 1 := Nat.eq_of_mul_eq_mul_left hz (by omega)
        rw [this]; simp
    have h' := h t s.toks
    rw [e] at h'
    exact h'
  · refine call_gives BMul.slot_mul (typeIs_bytes s _ t) BMul.entry_mul (BMul.args_mul _ _) (BMul.gives_mul hf (by rw [byteArr_size]; omega) (beq_false_of_ne hs) (KBy.tooLong_not (by rw [byteArr_size]; omega))) ?_
    have hb : (ns.map fun x => x.toNat.toUInt8) ≠ [] := fun e => hs (by
      have e0 : ns = [] := List.map_eq_nil_iff.mp e
      subst e0
      show 0 * n.toNat = 0
      exact Nat.zero_mul _)
    rw [byteArr_list, BMul.repeated_list hb, rep_map]
    refine ⟨?_, h _ _⟩
    rw [List.size_toArray, List.length_map, rep_len, sizeLine_eq, Nat.mul_comm]
    omega
theorem r_mulB {ns : List Int} {n : Int} {Q : Value → Shared → Prop} (h0 : 0 ≤ n) (hn : n ≤ 1000) (hl : ns.length ≤ 100) (h : ∀ t' k, Q (.bytes (byteArr (List.replicate n.toNat ns).flatten) t') { s with toks := k }) :
    wpAny (model prog w) A (binaryOp .Mult (.bytes (byteArr ns) t) (.int n u)) Q E s :=
  wpAny_binaryOp_repeat (T := "bytes") (U := "int") (by decide) (fun s' => typeIs_bytes s' _ t) (fun s' => typeIs_int s' n u) BMul.noFill F.fills_int_mul F.slot_int_rmul BMul.repeats F.slot_int_index.lookup
      (call_gives F.slot_int_rmul (typeIs_int s n u) F.entry_int_rmul (F.args_int_rmul_2 _ _) (BMul.int_declines n u _ t) ⟨rfl, mul_core h0 hn hl h⟩)
theorem int_declinesL (a : Int) (t : Tok) (b : Array UInt8) (u : Tok) : Gives (Builtin.«int.__mul__» ⟨[.int a t, .bytes b u], []⟩) (.val (Value.notImplemented)) :=
  .of_wp fun M A E s Q h => by obtain ⟨hp, g, d, tk, os⟩ := s; wp_walk; exact ⟨_, rfl, h⟩
theorem r_mulBr {ns : List Int} {n : Int} {Q : Value → Shared → Prop} (h0 : 0 ≤ n) (hn : n ≤ 1000) (hl : ns.length ≤ 100) (h : ∀ t' k, Q (.bytes (byteArr (List.replicate n.toNat ns).flatten) t') { s with toks := k }) :
    wpAny (model prog w) A (binaryOp .Mult (.int n u) (.bytes (byteArr ns) t)) Q E s :=
  lm_binaryOp_repeat_right (T := "bytes") (U := "int") (by decide) (fun s' => typeIs_int s' n u) (typeIs_bytes s _ t) F.fills_int_mul BMul.noFill F.slot_int_mul lm_noRepeat_int BMul.repeats F.slot_int_index.lookup
      (call_gives F.slot_int_mul (typeIs_int s n u) F.entry_int_mul (F.args_int_mul_2 _ _) (int_declinesL n u _ t) ⟨rfl, typeIs_bytes _ _ t, mul_core h0 hn hl h⟩)
end
-- expandtabs
theorem slot_bytes_exp : Slot "bytes" "expandtabs" "bytes.expandtabs" :=
  .of (owner := "bytes") (n := "expandtabs") (by rw [typeLookup_type, builtinLookup_eq_fast]; kernel_rfl) (by decide +kernel) (by decide +kernel) (by decide +kernel)
    (by first | exact .inl (by decide +kernel) | exact .inr (by decide +kernel)) (by rw [isSubtype_type]; kernel_rfl)
theorem type_bytes_exp : typeOf (.builtin "bytes.expandtabs") = pure (.type "method_descriptor") := by show builtinType _ = _; rw [builtinType_eq_fast]; kernel_rfl
theorem entry_bytes_exp : entryFor table "bytes.expandtabs" = some Builtin.«bytes.expandtabs» := entryFor_of_tree (by kernel_rfl)
theorem args_bytes_exp (a : Value) : argsOk "bytes.expandtabs" ⟨[a], []⟩ := by
  unfold argsOk; rw [signature?_of (id := "bytes.expandtabs") (n := "expandtabs".toList.reverse) (o := ['s', 'e', 't', 'y', 'b']) (by kernel_rfl) FB.owner_bytes]; kernel_rfl
/-- the column behind a sign -/
noncomputable def colStep (c n : Int) : Int := if n = 9 then c + (8 - c % 8) else c + 1
noncomputable def colL (ns : List Int) : Int := ns.foldl colStep 0
theorem exp_size : ∀ (ns : List Int) (out : Array UInt8) (col : Nat), (∀ n ∈ ns, n = 9 ∨ n = 32) → out.size = col →
    (((ns.map fun n => n.toNat.toUInt8).foldl (fun (acc : Array UInt8 × Nat) c =>
    let (out, col) := acc
    if c == 9 then
      if 8 == 0 then acc else let n := 8 - col % 8; (out ++ Array.replicate n 32, col + n)
    else (out.push c, if c == 10 || c == 13 then 0 else col + 1)) (out, col)).1.size : Int) = ns.foldl colStep (col : Int)
  | [], out, col, _, h => by simp [h]
  | n :: ns, out, col, hn, h => by
    rw [List.map_cons, List.foldl_cons, List.foldl_cons]
    rcases hn n (.head _) with rfl | rfl
    · have ih := exp_size ns (out ++ Array.replicate (8 - col % 8) 32) (col + (8 - col % 8)) (fun m hm => hn m (.tail _ hm)) (by simp [h])
      rw [show colStep (col : Int) 9 = ((col + (8 - col % 8) : Nat) : Int) by unfold colStep; rw [if_pos rfl]; omega]
      exact ih
    · have ih := exp_size ns (out.push 32) (col + 1) (fun m hm => hn m (.tail _ hm)) (by simp [h])
      rw [show colStep (col : Int) 32 = ((col + 1 : Nat) : Int) by unfold colStep; rw [if_neg (by decide)]; omega]
      exact ih
theorem exp_len {ns : List Int} (h : ∀ n ∈ ns, n = 9 ∨ n = 32) : ((Bytes.expanded 8 (byteArr ns).toList).size : Int) = colL ns := exp_size ns #[] 0 h rfl
theorem col_le : ∀ (ns : List Int) (c : Int), 0 ≤ c → c ≤ ns.foldl colStep c ∧ ns.foldl colStep c ≤ c + 8 * ns.length
  | [], c, _ => by simp
  | n :: ns, c, hc => by
    rw [List.foldl_cons]
    have h1 : 0 ≤ colStep c n ∧ c ≤ colStep c n ∧ colStep c n ≤ c + 8 := by unfold colStep; split <;> omega
    have := col_le ns (colStep c n) h1.1
    simp only [List.length_cons]
    omega
section
variable {prog : Program} {w : World} {A : Around} {E : Value → Shared → Prop} {s : Shared} {t u : Tok}
theorem meets_exp {ns : List Int} (h9 : ∀ n ∈ ns, n = 9 ∨ n = 32) (hl : ns.length ≤ 1000) : Meets («bytes.expandtabs» ⟨[.bytes (byteArr ns) t], []⟩) (fun _ R s => ∀ t' k, R (.ok (.ret (.bytes (Bytes.expanded 8 (byteArr ns).toList) t'))) { s with toks := k }) := by
  refine .of_wp fun prog w A R s h => ?_
  unfold Builtin.«bytes.expandtabs» Bytes.expandtabsM
  dsimp only
  refine wpAny_bind (m := Bytes.bindOptional _ "expandtabs" ["tabsize"] [] []) (wpAny_of_eq (a := [none]) (by kernel_rfl) ?_)
  dsimp only
  refine wpAny_bind (wpAny_pure (wpAny_bind (wpAny_of_eq (a := byteArr ns) rfl ?_)))
  refine bm_if_false (KBy.tooLong_not ?_) ?_
  · have : ((byteArr ns).toList.filter (· == 9)).length ≤ (byteArr ns).toList.length := List.length_filter_le _ _
    have e2 : (byteArr ns).toList.length = ns.length := by rw [Array.length_toList, byteArr_size]
    rw [e2] at this
    rw [byteArr_size]
    show ns.length + _ * 8 ≤ _
    omega
  · refine wpAny_bind (m := mkBytes (Bytes.expanded 8 (byteArr ns).toList)) (wpAny_mkBytes (wpAny_pure ⟨_, rfl, h _ _⟩) ?_)
    have e := exp_len h9
    have := col_le ns 0 (by decide)
    unfold colL at e
    rw [sizeLine_eq]
    omega
theorem r_exp {ns : List Int} {Q : Value → Shared → Prop} (h9 : ∀ n ∈ ns, n = 9 ∨ n = 32) (hl : ns.length ≤ 1000) (h : ∀ t' k, Q (.bytes (Bytes.expanded 8 (byteArr ns).toList) t') { s with toks := k }) : wpAny (model prog w) A (call (.builtin "bytes.expandtabs") [.bytes (byteArr ns) t]) Q E s :=
  call_meets slot_bytes_exp (typeIs_bytes _ _ _) entry_bytes_exp (args_bytes_exp _) (meets_exp h9 hl) h
theorem gm_exp {M : Model} {b : Array UInt8} {pl : Sem Bool} {Q : Value × List Value → Shared → Prop} (h : Q (.builtin "bytes.expandtabs", [.bytes b t]) s) : wpAny M A (getMethod (.bytes b t) "expandtabs" pl) Q E s := by
  with_reducible exact KBd.method_of (.bytes b t) (typeIs_bytes _ _ _) slot_bytes_exp type_bytes_exp KBd.noRef h
theorem r_lenExp {ns : List Int} {Q : Value → Shared → Prop} (h9 : ∀ n ∈ ns, n = 9 ∨ n = 32) (hl : ns.length ≤ 1000) (h : ∀ t' k, Q (.int (colL ns) t') { s with toks := k }) : wpAny (model prog w) A (call (.builtin "len") [.bytes (Bytes.expanded 8 (byteArr ns).toList) t]) Q E s := by
  have e := exp_len h9
  have := col_le ns 0 (by decide)
  refine len_bytes (by unfold colL at e; omega) ?_
  rw [e]
  exact h _ _
end
-- split at the line's end
/-- where the rows end -/
noncomputable def placesL (k : Nat) : List (List Int) → List Nat
  | [] => []
  | r :: rs => (k + r.length) :: placesL (k + r.length + 1) rs
theorem byteArr_get {T : List Int} {i : Nat} (hi : i < T.length) : (byteArr T).extract i (i + 1) = #[(T[i]).toNat.toUInt8] := by
  have h : i < (byteArr T).size := by rw [byteArr_size]; exact hi
  apply Array.ext
  · simp; omega
  · intro j h1 h2
    have : j = 0 := by simp at h2; omega
    subst this
    simp [byteArr]
theorem toU_ne {c : Int} (h0 : 0 ≤ c) (h1 : c < 256) (h : c ≠ 10) : c.toNat.toUInt8 ≠ 10 := by
  intro e
  have := congrArg UInt8.toNat e
  rw [Nat.toUInt8_eq, UInt8.toNat_ofNat'] at this
  have h3 : c.toNat % 2 ^ 8 = 10 := this
  omega
noncomputable def occStep (b : Array UInt8) (acc : List Nat × Nat) (i : Nat) : List Nat × Nat := if i ≥ acc.2 && b.extract i (i + (#[10] : Array UInt8).size) == #[10] then (i :: acc.1, i + (#[10] : Array UInt8).size) else acc
theorem occ_row {T : List Int} : ∀ (n k : Nat) (acc : List Nat) (q : Nat), (∀ i, k ≤ i → i < k + n → ∃ h : i < T.length, 0 ≤ T[i] ∧ T[i] < 256 ∧ T[i] ≠ 10) → (List.range' k n).foldl (occStep (byteArr T)) (acc, q) = (acc, q)
  | 0, _, _, _, _ => rfl
  | n + 1, k, acc, q, h => by
    obtain ⟨h1, h2, h3, h4⟩ := h k (Nat.le_refl _) (by omega)
    rw [List.range'_succ, List.foldl_cons]
    have e : occStep (byteArr T) (acc, q) k = (acc, q) := by
      unfold occStep
      rw [show k + (#[10] : Array UInt8).size = k + 1 from rfl, byteArr_get h1]
      rw [if_neg]
      rw [Bool.and_eq_true, not_and]
      intro _ e
      have e' := beq_iff_eq.mp e
      exact toU_ne h2 h3 h4 (by simpa using e')
    rw [e]
    exact occ_row n (k + 1) acc q fun i h5 h6 => h i (by omega) (by omega)
theorem occ_rows {X : List Int} : ∀ (rows : List (List Int)) (P : List Int) (acc : List Nat), (∀ r ∈ rows, ∀ c ∈ r, 0 ≤ c ∧ c < 256 ∧ c ≠ 10) →
    (List.range' P.length (pageL rows []).length).foldl (occStep (byteArr (P ++ pageL rows [] ++ X))) (acc, P.length) = ((placesL P.length rows).reverse ++ acc, P.length + (pageL rows []).length)
  | [], P, acc, _ => by simp [pageL, placesL]
  | r :: rows, P, acc, h => by
    have e : pageL (r :: rows) [] = r ++ [10] ++ pageL rows [] := by simp [pageL]
    have hT : P ++ pageL (r :: rows) [] ++ X = (P ++ r ++ [10]) ++ pageL rows [] ++ X := by rw [e]; simp
    have hn : (pageL (r :: rows) []).length = r.length + (1 + (pageL rows []).length) := by rw [e]; simp only [List.length_append, List.length_singleton]; omega
    rw [hn, ← List.range'_append_1, ← List.range'_append_1, List.foldl_append, List.foldl_append]
    rw [occ_row (T := P ++ pageL (r :: rows) [] ++ X) r.length P.length acc P.length (fun i h1 h2 => ?_)]
    · have hl : P.length + r.length < (P ++ pageL (r :: rows) [] ++ X).length := by simp only [List.length_append, hn]; omega
      have hg : (P ++ pageL (r :: rows) [] ++ X)[P.length + r.length] = 10 := by
        rw [List.getElem_of_eq hT, List.getElem_append_left (by simp), List.getElem_append_left (by simp)]
        rw [List.getElem_append_right (by simp)]
        simp
      have e1 : (List.range' (P.length + r.length) 1).foldl (occStep (byteArr (P ++ pageL (r :: rows) [] ++ X))) (acc, P.length) = ((P.length + r.length) :: acc, P.length + r.length + 1) := by
        rw [List.range'_one, List.foldl_cons, List.foldl_nil]
        unfold occStep
        rw [show P.length + r.length + (#[10] : Array UInt8).size = P.length + r.length + 1 from rfl, byteArr_get hl, hg]
        rw [if_pos]
        rw [Bool.and_eq_true]
        exact ⟨decide_eq_true (by show P.length + r.length ≥ P.length; omega), by decide⟩
      rw [e1, hT]
      have ih := occ_rows (X := X) rows (P ++ r ++ [10]) ((P.length + r.length) :: acc) fun x hx => h x (.tail _ hx)
      have hp : (P ++ r ++ [10]).length = P.length + r.length + 1 := by simp only [List.length_append, List.length_singleton]
      rw [hp] at ih
      rw [ih]
      rw [show placesL P.length (r :: rows) = (P.length + r.length) :: placesL (P.length + r.length + 1) rows from rfl, List.reverse_cons, List.append_assoc]
      refine Prod.ext rfl ?_
      dsimp only
      omega
    · have hi : i < (P ++ pageL (r :: rows) [] ++ X).length := by simp only [List.length_append, hn]; omega
      refine ⟨hi, ?_⟩
      have hr : i - P.length < r.length := by omega
      have hg : (P ++ pageL (r :: rows) [] ++ X)[i] = r[i - P.length] := by
        rw [List.getElem_of_eq hT, List.getElem_append_left (by simp; omega), List.getElem_append_left (by simp; omega), List.getElem_append_left (by simp; omega)]
        rw [List.getElem_append_right (by omega)]
      rw [hg]
      exact h r (.head _) _ (List.getElem_mem _)
theorem cut_mid (P r Y : List Int) : (byteArr (P ++ r ++ Y)).extract P.length (P.length + r.length) = byteArr r := by
  rw [byteArr_list, byteArr_list]
  simp [List.extract_toArray]
theorem btw_rows {X : List Int} : ∀ (rows : List (List Int)) (P : List Int) (parts : Array (Array UInt8)),
    (placesL P.length rows).foldl (fun (x : Array (Array UInt8) × Nat) p => (x.1.push ((byteArr (P ++ pageL rows [] ++ X)).extract x.2 p), p + 1)) (parts, P.length) = (parts ++ (rows.map byteArr).toArray, P.length + (pageL rows []).length)
  | [], P, parts => by simp [pageL, placesL]
  | r :: rows, P, parts => by
    have e : pageL (r :: rows) [] = r ++ [10] ++ pageL rows [] := by simp [pageL]
    have hT : P ++ pageL (r :: rows) [] ++ X = (P ++ r ++ [10]) ++ pageL rows [] ++ X := by rw [e]; simp
    have hT2 : P ++ pageL (r :: rows) [] ++ X = P ++ r ++ ([10] ++ pageL rows [] ++ X) := by rw [e]; simp
    unfold placesL
    rw [List.foldl_cons]
    dsimp only
    rw [hT2, cut_mid, ← hT2, hT]
    have ih := btw_rows (X := X) rows (P ++ r ++ [10]) (parts.push (byteArr r))
    have hp : (P ++ r ++ [10]).length = P.length + r.length + 1 := by simp only [List.length_append, List.length_singleton]
    rw [hp] at ih
    rw [ih, e]
    simp
    omega
theorem rows_le : ∀ (rows : List (List Int)), rows.length ≤ (pageL rows []).length
  | [] => Nat.zero_le _
  | r :: rows => by
    have e : pageL (r :: rows) [] = r ++ [10] ++ pageL rows [] := by simp [pageL]
    have := rows_le rows
    rw [e]
    simp only [List.length_append, List.length_singleton, List.length_cons]
    omega
theorem places_len : ∀ (k : Nat) (rows : List (List Int)), (placesL k rows).length = rows.length
  | _, [] => rfl
  | k, r :: rows => congrArg Nat.succ (places_len _ rows)
theorem occ_all {rows : List (List Int)} (h : ∀ r ∈ rows, ∀ c ∈ r, 0 ≤ c ∧ c < 256 ∧ c ≠ 10) : Bytes.occurrences (byteArr (pageL rows [])) #[10] 0 (byteArr (pageL rows [])).size = placesL 0 rows := by
  have hr : (((List.range ((byteArr (pageL rows [])).size + 1 - (0 + (#[10] : Array UInt8).size))).map (· + 0))) = List.range' 0 (pageL rows []).length := by
    rw [byteArr_size, show (pageL rows []).length + 1 - (0 + (#[10] : Array UInt8).size) = (pageL rows []).length from rfl, List.range_eq_range']
    simp
  have hf := occ_rows (X := []) rows [] [] h
  rw [List.nil_append, List.append_nil, List.append_nil] at hf
  unfold Bytes.occurrences
  dsimp only
  rw [hr]
  have hf' : (List.range' 0 (pageL rows []).length).foldl (occStep (byteArr (pageL rows []))) ([], 0) = ((placesL 0 rows).reverse, 0 + (pageL rows []).length) := hf
  show ((List.range' 0 (pageL rows []).length).foldl (occStep (byteArr (pageL rows []))) ([], 0)).1.reverse = _
  rw [hf', List.reverse_reverse]
theorem btw_all {rows : List (List Int)} : Bytes.between (byteArr (pageL rows [])) 1 (placesL 0 rows) = (rows ++ [[]]).map byteArr := by
  have hf := btw_rows (X := []) rows [] #[]
  rw [List.nil_append, List.append_nil] at hf
  have hf' : (placesL 0 rows).foldl (fun (x : Array (Array UInt8) × Nat) p => (x.1.push ((byteArr (pageL rows [])).extract x.2 p), p + 1)) (#[], 0) = (#[] ++ (rows.map byteArr).toArray, 0 + (pageL rows []).length) := hf
  unfold Bytes.between
  show (match (placesL 0 rows).foldl (fun (x : Array (Array UInt8) × Nat) p => (x.1.push ((byteArr (pageL rows [])).extract x.2 p), p + 1)) (#[], 0) with | (parts, last) => (parts.push ((byteArr (pageL rows [])).extract last (byteArr (pageL rows [])).size)).toList) = _
  rw [hf']
  dsimp only
  rw [byteArr_size, Nat.zero_add]
  rw [show (byteArr (pageL rows [])).extract (pageL rows []).length (pageL rows []).length = byteArr [] by
    apply Array.eq_empty_of_size_eq_zero
    rw [Array.size_extract]
    omega]
  simp
section
variable {M : Model} {A : Around} {E : Value → Shared → Prop}
theorem mapM_mk : ∀ (ps : List (List Int)) (s : Shared) (Q : List Value → Shared → Prop), (∀ p ∈ ps, p.length ≤ 100000) → (∀ vs k, BsAre vs ps → Q vs { s with toks := k }) → wpAny M A ((ps.map byteArr).mapM (Bytes.Kind.new .bytes)) Q E s
  | [], s, Q, _, h => by
    rw [List.map_nil, List.mapM_nil]
    exact wpAny_pure (h [] s.toks trivial)
  | p :: ps, s, Q, hp, h => by
    rw [List.map_cons, List.mapM_cons]
    refine wpAny_bind (m := mkBytes (byteArr p)) (wpAny_mkBytes ?_ (by rw [byteArr_size, sizeLine_eq]; have := hp p (.head _); omega))
    refine wpAny_bind (mapM_mk ps { s with toks := s.toks + 1 } _ (fun q hq => hp q (.tail _ hq)) fun vs k hv => ?_)
    exact wpAny_pure (h (.bytes (byteArr p) s.toks :: vs) k ⟨⟨_, rfl⟩, hv⟩)
end
theorem slot_bytes_split : Slot "bytes" "split" "bytes.split" :=
  .of (owner := "bytes") (n := "split") (by rw [typeLookup_type, builtinLookup_eq_fast]; kernel_rfl) (by decide +kernel) (by decide +kernel) (by decide +kernel)
    (by first | exact .inl (by decide +kernel) | exact .inr (by decide +kernel)) (by rw [isSubtype_type]; kernel_rfl)
theorem type_bytes_split : typeOf (.builtin "bytes.split") = pure (.type "method_descriptor") := by show builtinType _ = _; rw [builtinType_eq_fast]; kernel_rfl
theorem entry_bytes_split : entryFor table "bytes.split" = some Builtin.«bytes.split» := entryFor_of_tree (by kernel_rfl)
theorem args_bytes_split (a b : Value) : argsOk "bytes.split" ⟨[a, b], []⟩ := by
  unfold argsOk; rw [signature?_of (id := "bytes.split") (n := "split".toList.reverse) (o := ['s', 'e', 't', 'y', 'b']) (by kernel_rfl) FB.owner_bytes]; kernel_rfl
theorem bsAre_app {vs ws : List Value} : ∀ {xs ys : List (List Int)}, BsAre vs xs → BsAre ws ys → BsAre (vs ++ ws) (xs ++ ys) := by
  induction vs with
  | nil => intro xs ys h1 h2; cases xs with | nil => exact h2 | cons _ _ => exact h1.elim
  | cons v vs ih => intro xs ys h1 h2; cases xs with | nil => exact h1.elim | cons x xs => exact ⟨h1.1, ih h1.2 h2⟩
theorem meets_split {rows : List (List Int)} {t u : Tok} (h9 : ∀ r ∈ rows, ∀ c ∈ r, 0 ≤ c ∧ c < 256 ∧ c ≠ 10) (hl : (pageL rows []).length ≤ 100000) : Meets («bytes.split» ⟨[.bytes (byteArr (pageL rows [])) t, .bytes #[10] u], []⟩)
    (fun _ R s => ∀ vs k, BsAre vs (rows ++ [[]]) → R (.ok (.ret (.ref s.heap.objs.size))) { s with heap := s.heap.push (listOf vs.toArray 0), toks := k }) := by
  refine .of_wp fun prog w A R s h => ?_
  unfold Builtin.«bytes.split» Bytes.splitM
  dsimp only
  refine wpAny_bind (m := Bytes.bindOptional _ "split" ["sep", "maxsplit"] [.bytes #[10] u] []) (wpAny_of_eq (a := [some (.bytes #[10] u), none]) (by kernel_rfl) ?_)
  dsimp only
  refine wpAny_bind (wpAny_pure (wpAny_bind (wpAny_of_eq (a := byteArr (pageL rows [])) rfl ?_)))
  refine wpAny_bind (m := Bytes.bytesLike _ (.bytes #[10] u)) ?_
  unfold Bytes.bytesLike
  rw [KBy.buffer_eq]
  refine wpAny_bind (wpAny_pure (wpAny_pure ?_))
  refine bm_if_false rfl ?_
  have hm1 : (-1 : Int) < 0 := by decide
  simp only [Bool.false_eq_true, if_false, hm1, if_true]
  rw [occ_all h9, List.take_of_length_le (by rw [places_len, byteArr_size]; have := rows_le rows; omega)]
  have hrl : ∀ p ∈ rows, p.length ≤ (pageL rows []).length := by
    intro p hp
    have : (p ++ [10]).length ≤ (pageL rows []).length := List.Sublist.length_le (by
      unfold pageL
      exact List.sublist_flatten_of_mem (List.mem_map.mpr ⟨p, hp, by simp⟩))
    simp only [List.length_append] at this
    omega
  cases rows with
  | nil =>
    refine bm_if_true rfl ?_
    refine wpAny_bind (wpAny_rule ?_)
    refine wpAny_bind (m := Bytes.Kind.same .bytes (.bytes (byteArr (pageL [] [])) t)) ?_
    unfold Bytes.Kind.same
    refine bm_if_true rfl ?_
    refine wpAny_bind (wpAny_typeOf (typeIs_bytes _ _ _) ?_)
    refine bm_if_true rfl ?_
    refine wpAny_pure (wpAny_bind (wpAny_newList ?_ (by rw [sizeLine_eq]; exact Nat.le_of_ble_eq_true rfl)))
    exact wpAny_pure ⟨_, rfl, h [.bytes (byteArr []) t] s.toks ⟨⟨_, rfl⟩, trivial⟩⟩
  | cons r rs =>
    refine bm_if_false rfl ?_
    rw [show (#[10] : Array UInt8).size = 1 from rfl, btw_all]
    refine wpAny_bind (mapM_mk _ s _ (fun p hp => ?_) fun vs k hv => ?_)
    · rcases List.mem_append.mp hp with hp | hp
      · have := hrl p hp; omega
      · rw [List.mem_singleton.mp hp]; exact Nat.zero_le _
    · refine wpAny_bind (wpAny_newList (s := { s with toks := k }) ?_ (by
        have e := hv.length
        have := rows_le (r :: rs)
        rw [List.length_append, List.length_singleton] at e
        rw [sizeLine_eq]; omega))
      exact wpAny_pure ⟨_, rfl, h vs k hv⟩
section
variable {prog : Program} {w : World} {A : Around} {E : Value → Shared → Prop} {s : Shared} {t u : Tok} {h₀ : Heap} {L : Addr} {m : PySem.Str → Option Value} {news : List (Addr × Obj)}
theorem r_split {rows : List (List Int)} {Q : Value → Shared → Prop} (F : Fr h₀ L s.heap m) (N : News h₀ L s.heap news) (h9 : ∀ r ∈ rows, ∀ c ∈ r, 0 ≤ c ∧ c < 256 ∧ c ≠ 10) (hl : (pageL rows []).length ≤ 100000)
    (h : ∀ D vs h' k, BsAre vs (rows ++ [[]]) → Fr h₀ L h' m → News h₀ L h' ((D, listOf vs.toArray 0) :: news) → (∀ p ∈ news, p.1 < D) → Q (.ref D) { s with heap := h', toks := k }) :
    wpAny (model prog w) A (call (.builtin "bytes.split") [.bytes (byteArr (pageL rows [])) t, .bytes #[10] u]) Q E s :=
  call_meets slot_bytes_split (typeIs_bytes _ _ _) entry_bytes_split (args_bytes_split _ _) (meets_split h9 hl) fun vs k hv => h _ vs _ k hv (F.push _) (N.push F _) fun p hp => Heap.lt_size (N p hp).1
theorem gm_split {M : Model} {b : Array UInt8} {pl : Sem Bool} {Q : Value × List Value → Shared → Prop} (h : Q (.builtin "bytes.split", [.bytes b t]) s) : wpAny M A (getMethod (.bytes b t) "split" pl) Q E s := by
  with_reducible exact KBd.method_of (.bytes b t) (typeIs_bytes _ _ _) slot_bytes_split type_bytes_split KBd.noRef h
end
end
section
set_option maxHeartbeats 8000000
/-- the names of a writer -/
noncomputable abbrev wrD (P : Params) (x St : Addr) (lv : Int) (ind : List Int) (tl ti k1 k2 k3 k4 k5 k6 k7 : Tok) : Obj := dictOf [⟨PyData.keyHash P (Str.ofString "file"), .str (Str.ofString "file") k1, .ref x⟩, ⟨PyData.keyHash P (Str.ofString "stack"), .str (Str.ofString "stack") k2, .ref St⟩,
  ⟨PyData.keyHash P (Str.ofString "_indent_level"), .str (Str.ofString "_indent_level") k3, .int lv tl⟩, ⟨PyData.keyHash P (Str.ofString "indent"), .str (Str.ofString "indent") k4, .bytes (byteArr ind) ti⟩,
  ⟨PyData.keyHash P (Str.ofString "_sort_keys"), .str (Str.ofString "_sort_keys") k5, .bool true⟩, ⟨PyData.keyHash P (Str.ofString "_skipkeys"), .str (Str.ofString "_skipkeys") k6, .bool false⟩, ⟨PyData.keyHash P (Str.ofString "_aware_datetime"), .str (Str.ofString "_aware_datetime") k7, .bool false⟩] (nat_lit 7)
noncomputable abbrev wrD4 (P : Params) (x St : Addr) (lv : Int) (ind : List Int) (tl ti k1 k2 k3 k4 : Tok) : Obj := dictOf [⟨PyData.keyHash P (Str.ofString "file"), .str (Str.ofString "file") k1, .ref x⟩, ⟨PyData.keyHash P (Str.ofString "stack"), .str (Str.ofString "stack") k2, .ref St⟩,
  ⟨PyData.keyHash P (Str.ofString "_indent_level"), .str (Str.ofString "_indent_level") k3, .int lv tl⟩, ⟨PyData.keyHash P (Str.ofString "indent"), .str (Str.ofString "indent") k4, .bytes (byteArr ind) ti⟩] (nat_lit 4)
theorem dumb_ok (w : World) (W dW x : Addr) (lv : Int) (ind : List Int) (t1 t2 : Tok) (rest : List (Addr × Obj)) (hlt : @LT.lt Nat _ dW W) (hal : AllLt dW rest) : SaysG w 3 60 167 [.ref W, .ref x, .int lv t1, .bytes (byteArr ind) t2] (fun news => news = (W, instObj 256 dW) :: (dW, dictOf [] 0) :: rest)
    (fun _ v news' => v = .none ∧ ∃ St tl ti k1 k2 k3 k4, news' = (St, listOf #[] 0) :: (W, instObj 256 dW) :: (dW, wrD4 w.params x St lv ind tl ti k1 k2 k3 k4) :: rest ∧ @LT.lt Nat _ W St) := by
  unfold SaysG; k_fill; intro p loose mean mg mb dp un gd cn cs a ccd cl outer A₀ base h₀ L m news s Q E B F X N T hk hd hu hP hret; subst hP; refine wpAny_call ?_; k_dflt (refine' code_def (binds := [(Str.ofString "self", .ref W), (Str.ofString "file", .ref x), (Str.ofString "indent_level", .int lv t1), (Str.ofString "indent", .bytes (byteArr ind) t2)]) ?k1 ?k2 ?k3 ?k4 ?k5 ?kA ?kF ?kK ?k6 ?k7 ?k8 ?k9 ?kB ?_ ?c2 ?c3 ?c4 ?c5; (case kA => exact rfl); (case kF => exact rfl); (case kK => assumption); (case k1 => k_asm); (case k2 => k_asm); (case k3 => k_asm); (case k4 => k_asm); (case k5 => k_asm); (case k6 => k_is); (case k7 => k_is); (case k8 => ktr_room); (case k9 => exact binds_peek (by k_in) (fun _ => by kernel_rfl)); (case c5 => decide); (case kB => exact locs rfl); (case c2 => exact rfl); (case c3 => exact rfl); (case c4 => exact rfl); k_whole; intro g' L' h' FG' F' N' B' X' T'; (try dsimp only); (try k_lift B'); (try k_fold))
  have hI0 : IntsAre ([] : List Value) [] := IntsAre.nil
  repeat' (first | (k_unfold; (try dsimp only)) | ((fail_if_success (with_reducible show Q _ _)); first | (k_end; kc_close) | ((with_reducible show wpAny _ _ (execs (_ :: _) _) _ _ _); first | with_reducible ((dsimp only; k_gentoks))) | ((with_reducible show wpAny _ _ (execs [] _) _ _ _); first | with_reducible (((with_reducible show wpAny _ _ (execs [] _) _ _ _); dsimp only; (try k_gentoks); refine wpAny_execs_nil ?_))) | walk1 | (dsimp only; first | ((with_reducible show wpAny _ _ (execs (_ :: _) _) _ _ _); first | with_reducible ((dsimp only; k_gentoks))) | ((with_reducible show wpAny _ _ (execs [] _) _ _ _); first | with_reducible (((with_reducible show wpAny _ _ (execs [] _) _ _ _); dsimp only; (try k_gentoks); refine wpAny_execs_nil ?_))) | walk1) | (leave1; (try dsimp only)) | fail "no step"))
  (refine hret _ _ _ _ ⟨rfl, _, _, _, _, _, _, _, rfl, ?_⟩ (by k_asm) (by k_asm); (try simp only [AllLt, and_true] at *); simp only [*])
theorem ini_ok (w : World) (W dW x : Addr) (lv : Int) (ind : List Int) (t1 t2 t3 : Tok) (rest : List (Addr × Obj)) (hlt : @LT.lt Nat _ dW W) (hal : AllLt dW rest) (p : Program) (loose : List PySem.Str) (mean : ExcName → Option Value) (mg mb : PySem.Str → Option Value)
  (dp un : Nat) (gd : Option (List Code)) (cn : PySem.Str) (cs : Scope) (a : Addr) (ccd : Value) (cl : List (PySem.Str × Addr)) (outer : List Env) (A₀ : Around) (base h₀ : Heap) (L : Addr) (m : PySem.Str → Option Value) (s : Shared)
    (R : Result → Shared → Prop) (B : Below A₀ base outer h₀) (F : Fr h₀ L s.heap m) (X : (KH w.params).In h₀) (N : News h₀ L s.heap ((W, instObj 256 dW) :: (dW, dictOf [] 0) :: rest)) (T : Top p loose mean mg mb h₀) (hk : cs.kind = .function) (hd : dp + 6 < recursionLimit) (hu : un + 100 < cLine)
    (hret : ∀ h' tk' St tl ti k1 k2 k3 k4 k5 k6 k7, @LT.lt Nat _ W St → Fr h₀ L h' m → News h₀ L h' ((St, listOf #[] 0) :: (W, instObj 256 dW) :: (dW, wrD w.params x St lv ind tl ti k1 k2 k3 k4 k5 k6 k7) :: rest) → R (.ok (.ret .none)) { s with heap := h', toks := tk' }) :
    codeAny (model PySem.Challenge.rw_kl0275_01.prog w) (ktrTop dp un gd cn cs L a ccd cl outer) (.call (.ref 218) ⟨[.ref W, .ref x, .int lv t1, .bytes (byteArr ind) t2, .int 0 t3], []⟩) R s := by
  k_fill
  k_dflt (refine' code_def (binds := [(Str.ofString "self", .ref W), (Str.ofString "file", .ref x), (Str.ofString "indent_level", .int lv t1), (Str.ofString "indent", .bytes (byteArr ind) t2), (Str.ofString "writeHeader", .int 0 t3), (Str.ofString "sort_keys", .bool true), (Str.ofString "skipkeys", .bool false), (Str.ofString "aware_datetime", .bool false)]) ?k1 ?k2 ?k3 ?k4 ?k5 ?kA ?kF ?kK ?k6 ?k7 ?k8 ?k9 ?kB ?_ ?c2 ?c3 ?c4 ?c5; (case kA => exact rfl); (case kF => exact rfl); (case kK => assumption); (case k1 => k_asm); (case k2 => k_asm); (case k3 => k_asm); (case k4 => k_asm); (case k5 => k_asm); (case k6 => k_is); (case k7 => k_is); (case k8 => ktr_room); (case k9 => exact binds_peek (by k_in) (fun _ => by kernel_rfl)); (case c5 => decide); (case kB => exact locs rfl); (case c2 => exact rfl); (case c3 => exact rfl); (case c4 => exact rfl); k_whole; intro g' L' h' FG' F' N' B' X' T'; (try dsimp only); (try k_lift B'); (try k_fold))
  have hI0 : IntsAre ([] : List Value) [] := IntsAre.nil
  repeat' (first | (k_unfold; (try dsimp only)) | ((fail_if_success (with_reducible show R _ _)); first | (k_end; kc_close) | ((with_reducible show wpAny _ _ (call (Value.ref _) _) _ _ _); first | with_reducible ((k_dflt ((refine' SaysG.use (dumb_ok _ _ _ _ _ _ _ _ _ (by assumption) (by assumption)) ?k1 ?k2 ?k3 ?k4 ?k5 ?k6 ?k7 ?k8 ?k9 ?_); (((case k1 => k_asm); (case k2 => k_asm); (case k3 => k_asm); (case k4 => k_asm); (case k5 => k_asm); (case k6 => first | exact rfl | assumption); (case k7 => ktr_room); (case k8 => ktr_units))); (case k9 => exact rfl); (rintro v9Zz n9Zz h9Zz tk9Zz ⟨e9Zz, St9Zz, tl9Zz, ti9Zz, k19Zz, k29Zz, k39Zz, k49Zz, f9Zz, l9Zz⟩ F9Zz N9Zz); subst e9Zz; subst n9Zz; (try dsimp only); (try k_fold))))) | ((with_reducible show wpAny _ _ (execs (_ :: _) _) _ _ _); first | with_reducible ((dsimp only; k_gentoks))) | ((with_reducible show wpAny _ _ (execs [] _) _ _ _); first | with_reducible (((with_reducible show wpAny _ _ (execs [] _) _ _ _); dsimp only; (try k_gentoks); refine wpAny_execs_nil ?_))) | walk1 | (dsimp only; first | ((with_reducible show wpAny _ _ (call (Value.ref _) _) _ _ _); first | with_reducible ((k_dflt ((refine' SaysG.use (dumb_ok _ _ _ _ _ _ _ _ _ (by assumption) (by assumption)) ?k1 ?k2 ?k3 ?k4 ?k5 ?k6 ?k7 ?k8 ?k9 ?_); (((case k1 => k_asm); (case k2 => k_asm); (case k3 => k_asm); (case k4 => k_asm); (case k5 => k_asm); (case k6 => first | exact rfl | assumption); (case k7 => ktr_room); (case k8 => ktr_units))); (case k9 => exact rfl); (rintro v9Zz n9Zz h9Zz tk9Zz ⟨e9Zz, St9Zz, tl9Zz, ti9Zz, k19Zz, k29Zz, k39Zz, k49Zz, f9Zz, l9Zz⟩ F9Zz N9Zz); subst e9Zz; subst n9Zz; (try dsimp only); (try k_fold))))) | ((with_reducible show wpAny _ _ (execs (_ :: _) _) _ _ _); first | with_reducible ((dsimp only; k_gentoks))) | ((with_reducible show wpAny _ _ (execs [] _) _ _ _); first | with_reducible (((with_reducible show wpAny _ _ (execs [] _) _ _ _); dsimp only; (try k_gentoks); refine wpAny_execs_nil ?_))) | walk1) | (leave1; (try dsimp only)) | fail "no step"))
  exact hret _ _ _ _ _ _ _ _ _ _ _ _ (by assumption) (by k_asm) (by k_asm)
theorem under_tc2 {dp un : Nat} {gd : Option (List Code)} {cn : PySem.Str} {cs : Scope} {L a : Addr} {ccd : Value} {cl : List (PySem.Str × Addr)} {outer : List Env} {pos : List Value} :
    (ktrTop dp un gd cn cs L a ccd cl outer).under (.builtin "type.__call__" ⟨.ref 256 :: pos, []⟩) = ktrTop (dp + 1) (un + 1) gd cn cs L a ccd cl outer := by
  unfold Around.under
  rfl
theorem makes_256 (P : Params) : makesIn (KH P) 256 = true := by kernel_rfl
theorem init_256 (P : Params) : findIn (KH P) (.ref 256) "__init__" = some (some (.ref 218)) := by kernel_rfl
theorem isFn_218 (P : Params) : isFn (KH P) (.ref 218) = true := by kernel_rfl
theorem plist_ok (w : World) (x : Addr) (lv : Int) (ind : List Int) (t1 t2 t3 : Tok) : SaysG w 10 200 256 [.ref x, .int lv t1, .bytes (byteArr ind) t2, .int 0 t3] (fun _ => True)
    (fun news v news' => ∃ W dW St tl ti k1 k2 k3 k4 k5 k6 k7, v = .ref W ∧ news' = (St, listOf #[] 0) :: (W, instObj 256 dW) :: (dW, wrD w.params x St lv ind tl ti k1 k2 k3 k4 k5 k6 k7) :: news ∧ @LT.lt Nat _ dW W ∧ @LT.lt Nat _ W St ∧ AllLt dW news) := by
  unfold SaysG
  intro p loose mean mg mb dp un gd cn cs a ccd cl outer A₀ base h₀ L m news s Q E B F X N T hk hd hu hP hret
  refine call_cls (fI := 218) F X N (makes_256 _) (init_256 _) (isFn_218 _) ?_
  intro W dW h' F' N' l1 l2
  rw [under_tc2]
  refine ini_ok w W dW x lv ind t1 t2 t3 news l2 (allLt_of l1) p loose mean mg mb (dp + 1) (un + 1) gd cn cs a ccd cl outer A₀ base h₀ L m { s with heap := h' } _ B F' X N' T hk (by omega) (by omega) ?_
  intro h'' tk' St tl ti k1 k2 k3 k4 k5 k6 k7 l3 F'' N''
  exact ⟨rfl, hret _ _ _ _ ⟨W, dW, St, tl, ti, k1, k2, k3, k4, k5, k6, k7, rfl, rfl, l2, l3, allLt_of l1⟩ F'' N''⟩
end
local macro_rules | `(tactic| k_mem) => `(tactic| first | (refine List.Mem.tail _ (List.Mem.tail _ (List.Mem.tail _ ?_)); assumption) | (refine List.Mem.tail _ ?_; assumption))
section
set_option maxHeartbeats 8000000
section
variable {prog : Program} {w : World} {A : Around} {E : Value → Shared → Prop} {s : Shared} {t : Tok}
theorem r_truthyB1 {ns : List Int} {Q : Bool → Shared → Prop} (h0 : 0 < ns.length) (hz : ns.length ≤ 1000000) (h : ∀ k, Q true { s with toks := k }) : wpAny (model prog w) A (truthy (.bytes (byteArr ns) t)) Q E s := by
  refine truthy_bytes (by rw [byteArr_size]; omega) ?_
  rw [byteArr_size, show (((ns.length : Nat) : Int) != 0) = true by rw [bne_iff_ne]; omega]
  exact h _
theorem r_truthyS1 {ns : List Int} {Q : Bool → Shared → Prop} (h0 : 0 < ns.length) (hz : ns.length ≤ 1000000) (h : ∀ k, Q true { s with toks := k }) : wpAny (model prog w) A (truthy (.str (strArr ns) t)) Q E s := by
  refine P.truthy_str (by rw [strArr_len]; omega) ?_
  rw [strArr_len, show (((ns.length : Nat) : Int) != 0) = true by rw [bne_iff_ne]; omega]
  exact h _
theorem r_truthyB0 {Q : Bool → Shared → Prop} (h : ∀ k, Q false { s with toks := k }) : wpAny (model prog w) A (truthy (.bytes (byteArr []) t)) Q E s := by
  refine truthy_bytes (by rw [byteArr_size]; decide) ?_
  exact h _
end
theorem lineB_ok (w : World) (W dW x dx B St : Addr) (bs ns ind : List Int) (lv : Int) (k1 k2 t tb tl ti j1 j2 j3 j4 j5 j6 j7 : Tok) (rest : List (Addr × Obj)) (hlen : bs.length ≤ 50000) (hlen2 : ns.length ≤ 10000) (hl0 : 0 ≤ lv) (hl1 : lv ≤ 20) (hli : ind.length ≤ 10) (hne : 0 < ns.length)
    (h1 : @LT.lt Nat _ dx x) (h2 : @LT.lt Nat _ x B) (hr1 : ∀ p ∈ rest, p.1 ≠ B) (hr2 : ∀ p ∈ rest, p.1 ≠ dx) (hW : (W, instObj 256 dW) ∈ rest) (hdW : (dW, wrD w.params x St lv ind tl ti j1 j2 j3 j4 j5 j6 j7) ∈ rest) :
    SaysC w 10 200 196 [.ref W, .bytes (byteArr ns) tb] (fun news => news = (B, baObj (byteArr bs)) :: (x, instObj 559 dx) :: (dx, papD w.params B (bs.length : Nat) k1 k2 t) :: rest)
      (fun _ v news' => v = .none ∧ ∃ t', news' = (B, baObj (byteArr (bs ++ (List.replicate lv.toNat ind).flatten ++ ns ++ [10]))) :: (x, instObj 559 dx) :: (dx, papD w.params B ((bs ++ (List.replicate lv.toNat ind).flatten ++ ns ++ [10]).length : Nat) k1 k2 t') :: rest) := by
  unfold SaysC; k_fill; intro p loose mean mg mb dp un gd cn cs a ccd cl outer A₀ base h₀ L m news s Q E B F X N T hk hd hu hP hret; subst hP; refine wpC_call ?_; k_dflt (refine' defC (binds := [(Str.ofString "self", .ref W), (Str.ofString "line", .bytes (byteArr ns) tb)]) ?k1 ?k2 ?k3 ?k4 ?k5 ?kA ?kF ?kK ?k6 ?k7 ?k8 ?k9 ?kB ?_ ?c2 ?c3 ?c4 ?c5; (case kA => exact rfl); (case kF => exact rfl); (case kK => assumption); (case k1 => k_asm); (case k2 => k_asm); (case k3 => k_asm); (case k4 => k_asm); (case k5 => k_asm); (case k6 => k_is); (case k7 => k_is); (case k8 => ktr_room); (case k9 => exact binds_peek (by k_in) (fun _ => by kernel_rfl)); (case c5 => decide); (case kB => exact locs rfl); (case c2 => exact rfl); (case c3 => exact rfl); (case c4 => exact rfl); k_whole; intro g' L' h' FG' F' N' B' X' T'; (try dsimp only); (try k_lift B'); (try k_fold))
  have hI0 : IntsAre ([] : List Value) [] := IntsAre.nil
  have hmul : lv.toNat * ind.length ≤ 20 * 10 := Nat.mul_le_mul (by omega) hli
  repeat' (first | (k_unfold; (try dsimp only)) | ((fail_if_success (with_reducible show Q _ _)); first | ((first | (((with_reducible show wpC _ _ (call (Value.ref 542) _) _ _ _); k_dflt ((first | (with_reducible show wpC _ _ (call (Value.ref 542) [_, Value.bytes (byteArr _) _]) _ _ _) | (show wpC _ _ (call (Value.ref 542) [_, Value.bytes (byteArr [10]) _]) _ _ _)); (refine' SaysC.use (write_ok _ _ _ _ _ _ _ _ _ _ _ ?kb ?kn (by assumption) (by assumption) (by assumption) (by assumption)) ?k1 ?k2 ?k3 ?k4 ?k5 ?k6 ?k7 ?k8 ?k9 ?_); (((case k1 => k_asm); (case k2 => k_asm); (case k3 => k_asm); (case k4 => k_asm); (case k5 => k_asm); (case k6 => first | exact rfl | assumption); (case k7 => ktr_room); (case k8 => ktr_units))); (case k9 => exact rfl); (case kb => ((try simp only [List.length_append, List.length_cons, List.length_nil, rep_len]); omega)); (case kn => ((try simp only [List.length_append, List.length_cons, List.length_nil, rep_len]); omega)); (rintro v9Zz n9Zz h9Zz tk9Zz ⟨t9Zz, f9Zz⟩ F9Zz N9Zz); subst n9Zz))) | ((first | ((with_reducible show wpC _ _ (execs (Stmt.If _ _ _ _ :: _) _) _ _ _); k_dflt (refine wpC_execs_cons (wpC_If ?_))) | ((with_reducible show wpC _ _ (execs (Stmt.Expr (Expr.Call (Expr.Attribute _ _ _) _ _ _) _ :: _) _) _ _ _); k_dflt (refine wpC_execs_cons (wpC_Expr (wpC_methodCall ?_)))) | ((with_reducible show wpC _ _ (callWith _ (Value.ref _) _ (backTo _ (starEach (_ :: _) _)) _) _ _ _); k_dflt (refine' wpC_callWith ?k1 ?k2 ?_; (case k1 => k_asm); (case k2 => k_is))))) | ((first | ((with_reducible show wpC _ _ (execs [] _) _ _ _); refine wpC_execs_nil ?_) | ((with_reducible show wpC _ _ (execs (Stmt.Assign [Expr.Attribute _ _ _] (Expr.IfExp _ _ _ _) _ :: _) _) _ _ _); k_dflt (refine wpC_execs_cons (wpC_Assign_Attribute ?_))) | ((with_reducible show wpC _ _ (execs (Stmt.Assign [Expr.Subscript _ _ _] _ _ :: _) _) _ _ _); k_dflt (refine wpC_execs_cons (wpC_Assign_Subscript ?_))) | ((with_reducible show wpC _ _ (execs (_ :: _) _) _ _ _); refine wpC_execs_leaf ?_) | ((with_reducible show wpC _ _ (eval (Expr.IfExp _ _ _ _) _) _ _ _); refine wpC_IfExp ?_) | ((with_reducible show wpC _ _ (eval (Expr.Call (Expr.Name _ _) [] [] _) _) _ _ _); refine wpC_callName ?_) | ((with_reducible show wpC _ _ (callWith _ (Value.type _) _ (backTo _ (starEach [] _)) _) _ _ _); refine wpC_callType0 ?_) | ((with_reducible show wpC _ _ (call (Value.type "bytearray") _) _ _ _); (rename Fr _ _ _ _ => F'Zz); (rename News _ _ _ _ => N'Zz); k_dflt (refine k_baNew0 F'Zz N'Zz ?_); intro B9Zz h9Zz F9Zz N9Zz l9Zz; k_lt l9Zz)))); (try dsimp only)) | (k_end; kc_close) | ((with_reducible show wpAny _ _ (binaryOp Operator.Mult (Value.int _ _) (Value.bytes _ _)) _ _ _); first | with_reducible (((with_reducible show wpAny _ _ (binaryOp Operator.Mult (Value.int _ _) (Value.bytes (byteArr _) _)) _ _ _); refine r_mulBr (by omega) (by omega) (by omega) ?_; intro _ _))) | ((with_reducible show wpAny _ _ (call (Value.builtin "str.encode") _) _ _ _); first | with_reducible ((first | ((with_reducible show wpAny _ _ (call (Value.builtin "str.encode") [Value.str _ _, Value.str (PySem.Str.ofString "utf-8") _]) _ _ _); refine r_enc8 (by assumption) (by omega) ?_; intro _ _) | ((with_reducible show wpAny _ _ (call (Value.builtin "str.encode") [Value.str _ _, Value.str (PySem.Str.ofString "ascii") _]) _ _ _); refine r_encA (by assumption) (by omega) ?_; intro _ _)))) | with_reducible (((with_reducible refine gm_encode ?_))) | ((with_reducible show wpAny _ _ (truthy (Value.bytes _ _)) _ _ _); first | with_reducible ((first | ((with_reducible show wpAny _ _ (truthy (Value.bytes (byteArr []) _)) _ _ _); refine r_truthyB0 ?_; intro _) | ((with_reducible show wpAny _ _ (truthy (Value.bytes (byteArr _) _)) _ _ _); refine r_truthyB1 (by omega) (by omega) ?_; intro _)))) | walk1 | (dsimp only; first | ((with_reducible show wpAny _ _ (binaryOp Operator.Mult (Value.int _ _) (Value.bytes _ _)) _ _ _); first | with_reducible (((with_reducible show wpAny _ _ (binaryOp Operator.Mult (Value.int _ _) (Value.bytes (byteArr _) _)) _ _ _); refine r_mulBr (by omega) (by omega) (by omega) ?_; intro _ _))) | ((with_reducible show wpAny _ _ (call (Value.builtin "str.encode") _) _ _ _); first | with_reducible ((first | ((with_reducible show wpAny _ _ (call (Value.builtin "str.encode") [Value.str _ _, Value.str (PySem.Str.ofString "utf-8") _]) _ _ _); refine r_enc8 (by assumption) (by omega) ?_; intro _ _) | ((with_reducible show wpAny _ _ (call (Value.builtin "str.encode") [Value.str _ _, Value.str (PySem.Str.ofString "ascii") _]) _ _ _); refine r_encA (by assumption) (by omega) ?_; intro _ _)))) | with_reducible (((with_reducible refine gm_encode ?_))) | ((with_reducible show wpAny _ _ (truthy (Value.bytes _ _)) _ _ _); first | with_reducible ((first | ((with_reducible show wpAny _ _ (truthy (Value.bytes (byteArr []) _)) _ _ _); refine r_truthyB0 ?_; intro _) | ((with_reducible show wpAny _ _ (truthy (Value.bytes (byteArr _) _)) _ _ _); refine r_truthyB1 (by omega) (by omega) ?_; intro _)))) | walk1) | (leave1; (try dsimp only)) | fail "no step"))
  refine hret _ _ _ _ ?_ (by k_asm) (by k_asm)
  exact ⟨rfl, _, rfl⟩
theorem lineS_ok (w : World) (W dW x dx B St : Addr) (bs ns ind : List Int) (lv : Int) (k1 k2 t tb tl ti j1 j2 j3 j4 j5 j6 j7 : Tok) (rest : List (Addr × Obj)) (hlen : bs.length ≤ 50000) (hlen2 : ns.length ≤ 10000) (hl0 : 0 ≤ lv) (hl1 : lv ≤ 20) (hli : ind.length ≤ 10) (hne : 0 < ns.length) (hasc : Asc ns)
    (h1 : @LT.lt Nat _ dx x) (h2 : @LT.lt Nat _ x B) (hr1 : ∀ p ∈ rest, p.1 ≠ B) (hr2 : ∀ p ∈ rest, p.1 ≠ dx) (hW : (W, instObj 256 dW) ∈ rest) (hdW : (dW, wrD w.params x St lv ind tl ti j1 j2 j3 j4 j5 j6 j7) ∈ rest) :
    SaysC w 10 200 196 [.ref W, .str (strArr ns) tb] (fun news => news = (B, baObj (byteArr bs)) :: (x, instObj 559 dx) :: (dx, papD w.params B (bs.length : Nat) k1 k2 t) :: rest)
      (fun _ v news' => v = .none ∧ ∃ t', news' = (B, baObj (byteArr (bs ++ (List.replicate lv.toNat ind).flatten ++ ns ++ [10]))) :: (x, instObj 559 dx) :: (dx, papD w.params B ((bs ++ (List.replicate lv.toNat ind).flatten ++ ns ++ [10]).length : Nat) k1 k2 t') :: rest) := by
  unfold SaysC; k_fill; intro p loose mean mg mb dp un gd cn cs a ccd cl outer A₀ base h₀ L m news s Q E B F X N T hk hd hu hP hret; subst hP; refine wpC_call ?_; k_dflt (refine' defC (binds := [(Str.ofString "self", .ref W), (Str.ofString "line", .str (strArr ns) tb)]) ?k1 ?k2 ?k3 ?k4 ?k5 ?kA ?kF ?kK ?k6 ?k7 ?k8 ?k9 ?kB ?_ ?c2 ?c3 ?c4 ?c5; (case kA => exact rfl); (case kF => exact rfl); (case kK => assumption); (case k1 => k_asm); (case k2 => k_asm); (case k3 => k_asm); (case k4 => k_asm); (case k5 => k_asm); (case k6 => k_is); (case k7 => k_is); (case k8 => ktr_room); (case k9 => exact binds_peek (by k_in) (fun _ => by kernel_rfl)); (case c5 => decide); (case kB => exact locs rfl); (case c2 => exact rfl); (case c3 => exact rfl); (case c4 => exact rfl); k_whole; intro g' L' h' FG' F' N' B' X' T'; (try dsimp only); (try k_lift B'); (try k_fold))
  have hI0 : IntsAre ([] : List Value) [] := IntsAre.nil
  have hmul : lv.toNat * ind.length ≤ 20 * 10 := Nat.mul_le_mul (by omega) hli
  repeat' (first | (k_unfold; (try dsimp only)) | ((fail_if_success (with_reducible show Q _ _)); first | ((first | (((with_reducible show wpC _ _ (call (Value.ref 542) _) _ _ _); k_dflt ((first | (with_reducible show wpC _ _ (call (Value.ref 542) [_, Value.bytes (byteArr _) _]) _ _ _) | (show wpC _ _ (call (Value.ref 542) [_, Value.bytes (byteArr [10]) _]) _ _ _)); (refine' SaysC.use (write_ok _ _ _ _ _ _ _ _ _ _ _ ?kb ?kn (by assumption) (by assumption) (by assumption) (by assumption)) ?k1 ?k2 ?k3 ?k4 ?k5 ?k6 ?k7 ?k8 ?k9 ?_); (((case k1 => k_asm); (case k2 => k_asm); (case k3 => k_asm); (case k4 => k_asm); (case k5 => k_asm); (case k6 => first | exact rfl | assumption); (case k7 => ktr_room); (case k8 => ktr_units))); (case k9 => exact rfl); (case kb => ((try simp only [List.length_append, List.length_cons, List.length_nil, rep_len]); omega)); (case kn => ((try simp only [List.length_append, List.length_cons, List.length_nil, rep_len]); omega)); (rintro v9Zz n9Zz h9Zz tk9Zz ⟨t9Zz, f9Zz⟩ F9Zz N9Zz); subst n9Zz))) | ((first | ((with_reducible show wpC _ _ (execs (Stmt.If _ _ _ _ :: _) _) _ _ _); k_dflt (refine wpC_execs_cons (wpC_If ?_))) | ((with_reducible show wpC _ _ (execs (Stmt.Expr (Expr.Call (Expr.Attribute _ _ _) _ _ _) _ :: _) _) _ _ _); k_dflt (refine wpC_execs_cons (wpC_Expr (wpC_methodCall ?_)))) | ((with_reducible show wpC _ _ (callWith _ (Value.ref _) _ (backTo _ (starEach (_ :: _) _)) _) _ _ _); k_dflt (refine' wpC_callWith ?k1 ?k2 ?_; (case k1 => k_asm); (case k2 => k_is))))) | ((first | ((with_reducible show wpC _ _ (execs [] _) _ _ _); refine wpC_execs_nil ?_) | ((with_reducible show wpC _ _ (execs (Stmt.Assign [Expr.Attribute _ _ _] (Expr.IfExp _ _ _ _) _ :: _) _) _ _ _); k_dflt (refine wpC_execs_cons (wpC_Assign_Attribute ?_))) | ((with_reducible show wpC _ _ (execs (Stmt.Assign [Expr.Subscript _ _ _] _ _ :: _) _) _ _ _); k_dflt (refine wpC_execs_cons (wpC_Assign_Subscript ?_))) | ((with_reducible show wpC _ _ (execs (_ :: _) _) _ _ _); refine wpC_execs_leaf ?_) | ((with_reducible show wpC _ _ (eval (Expr.IfExp _ _ _ _) _) _ _ _); refine wpC_IfExp ?_) | ((with_reducible show wpC _ _ (eval (Expr.Call (Expr.Name _ _) [] [] _) _) _ _ _); refine wpC_callName ?_) | ((with_reducible show wpC _ _ (callWith _ (Value.type _) _ (backTo _ (starEach [] _)) _) _ _ _); refine wpC_callType0 ?_) | ((with_reducible show wpC _ _ (call (Value.type "bytearray") _) _ _ _); (rename Fr _ _ _ _ => F'Zz); (rename News _ _ _ _ => N'Zz); k_dflt (refine k_baNew0 F'Zz N'Zz ?_); intro B9Zz h9Zz F9Zz N9Zz l9Zz; k_lt l9Zz)))); (try dsimp only)) | (k_end; kc_close) | ((with_reducible show wpAny _ _ (binaryOp Operator.Mult (Value.int _ _) (Value.bytes _ _)) _ _ _); first | with_reducible (((with_reducible show wpAny _ _ (binaryOp Operator.Mult (Value.int _ _) (Value.bytes (byteArr _) _)) _ _ _); refine r_mulBr (by omega) (by omega) (by omega) ?_; intro _ _))) | ((with_reducible show wpAny _ _ (call (Value.builtin "str.encode") _) _ _ _); first | with_reducible ((first | ((with_reducible show wpAny _ _ (call (Value.builtin "str.encode") [Value.str _ _, Value.str (PySem.Str.ofString "utf-8") _]) _ _ _); refine r_enc8 (by assumption) (by omega) ?_; intro _ _) | ((with_reducible show wpAny _ _ (call (Value.builtin "str.encode") [Value.str _ _, Value.str (PySem.Str.ofString "ascii") _]) _ _ _); refine r_encA (by assumption) (by omega) ?_; intro _ _)))) | with_reducible (((with_reducible refine gm_encode ?_))) | ((with_reducible show wpAny _ _ (truthy (Value.bytes _ _)) _ _ _); first | with_reducible ((first | ((with_reducible show wpAny _ _ (truthy (Value.bytes (byteArr []) _)) _ _ _); refine r_truthyB0 ?_; intro _) | ((with_reducible show wpAny _ _ (truthy (Value.bytes (byteArr _) _)) _ _ _); refine r_truthyB1 (by omega) (by omega) ?_; intro _)))) | ((with_reducible show wpAny _ _ (truthy (Value.str _ _)) _ _ _); first | with_reducible (((with_reducible show wpAny _ _ (truthy (Value.str (strArr _) _)) _ _ _); refine r_truthyS1 (by omega) (by omega) ?_; intro _))) | walk1 | (dsimp only; first | ((with_reducible show wpAny _ _ (binaryOp Operator.Mult (Value.int _ _) (Value.bytes _ _)) _ _ _); first | with_reducible (((with_reducible show wpAny _ _ (binaryOp Operator.Mult (Value.int _ _) (Value.bytes (byteArr _) _)) _ _ _); refine r_mulBr (by omega) (by omega) (by omega) ?_; intro _ _))) | ((with_reducible show wpAny _ _ (call (Value.builtin "str.encode") _) _ _ _); first | with_reducible ((first | ((with_reducible show wpAny _ _ (call (Value.builtin "str.encode") [Value.str _ _, Value.str (PySem.Str.ofString "utf-8") _]) _ _ _); refine r_enc8 (by assumption) (by omega) ?_; intro _ _) | ((with_reducible show wpAny _ _ (call (Value.builtin "str.encode") [Value.str _ _, Value.str (PySem.Str.ofString "ascii") _]) _ _ _); refine r_encA (by assumption) (by omega) ?_; intro _ _)))) | with_reducible (((with_reducible refine gm_encode ?_))) | ((with_reducible show wpAny _ _ (truthy (Value.bytes _ _)) _ _ _); first | with_reducible ((first | ((with_reducible show wpAny _ _ (truthy (Value.bytes (byteArr []) _)) _ _ _); refine r_truthyB0 ?_; intro _) | ((with_reducible show wpAny _ _ (truthy (Value.bytes (byteArr _) _)) _ _ _); refine r_truthyB1 (by omega) (by omega) ?_; intro _)))) | ((with_reducible show wpAny _ _ (truthy (Value.str _ _)) _ _ _); first | with_reducible (((with_reducible show wpAny _ _ (truthy (Value.str (strArr _) _)) _ _ _); refine r_truthyS1 (by omega) (by omega) ?_; intro _))) | walk1) | (leave1; (try dsimp only)) | fail "no step"))
  refine hret _ _ _ _ ?_ (by k_asm) (by k_asm)
  exact ⟨rfl, _, rfl⟩
end
section
set_option maxHeartbeats 8000000
theorem str_open : Str.ofString "<" ++ Str.ofString "data" ++ Str.ofString ">" = strArr [60, 100, 97, 116, 97, 62] := by decide +kernel
theorem str_shut : Str.ofString "</" ++ Str.ofString "data" ++ Str.ofString ">" = strArr [60, 47, 100, 97, 116, 97, 62] := by decide +kernel
theorem asc_open : Asc [60, 100, 97, 116, 97, 62] := by unfold Asc; decide
theorem asc_shut : Asc [60, 47, 100, 97, 116, 97, 62] := by unfold Asc; decide
/-- the ledger of a writer at work -/
noncomputable abbrev wLed (P : Params) (W dW x dx B St : Addr) (bs : List Int) (k1 k2 t : Tok) (its : Array Value) (n : Nat) (lv : Int) (ind : List Int) (tl ti j1 j2 j3 j4 j5 j6 j7 : Tok) (rest : List (Addr × Obj)) : List (Addr × Obj) :=
  (B, baObj (byteArr bs)) :: (x, instObj 559 dx) :: (dx, papD P B (bs.length : Nat) k1 k2 t) :: (St, listOf its n) :: (W, instObj 256 dW) :: (dW, wrD P x St lv ind tl ti j1 j2 j3 j4 j5 j6 j7) :: rest
theorem begin_ok (w : World) (W dW x dx B St : Addr) (bs ind : List Int) (lv : Int) (k1 k2 t tb tl ti j1 j2 j3 j4 j5 j6 j7 : Tok) (rest : List (Addr × Obj)) (hlen : bs.length ≤ 50000) (hl0 : 0 ≤ lv) (hl1 : lv ≤ 20) (hli : ind.length ≤ 10)
    (h1 : @LT.lt Nat _ dx x) (h2 : @LT.lt Nat _ x B) (h3 : @LT.lt Nat _ B dW) (h4 : @LT.lt Nat _ dW W) (h5 : @LT.lt Nat _ W St) (hal : ∀ p ∈ rest, @LT.lt Nat _ p.1 dx) :
    SaysC w 14 300 174 [.ref W, .str (Str.ofString "data") tb] (fun news => news = wLed w.params W dW x dx B St bs k1 k2 t #[] 0 lv ind tl ti j1 j2 j3 j4 j5 j6 j7 rest)
      (fun _ v news' => v = .none ∧ ∃ t' tb' tl' n', news' = wLed w.params W dW x dx B St (bs ++ (List.replicate lv.toNat ind).flatten ++ [60, 100, 97, 116, 97, 62] ++ [10]) k1 k2 t' #[.str (Str.ofString "data") tb'] n' (lv + 1) ind tl' ti j1 j2 j3 j4 j5 j6 j7 rest) := by
  have aB : ∀ p ∈ rest, p.1 ≠ B := fun p hp => Nat.ne_of_lt (by have := hal p hp; omega)
  have aD : ∀ p ∈ rest, p.1 ≠ dx := fun p hp => Nat.ne_of_lt (by have := hal p hp; omega)
  have aS : ∀ p ∈ rest, p.1 ≠ St := fun p hp => Nat.ne_of_lt (by have := hal p hp; omega)
  have aW : ∀ p ∈ rest, p.1 ≠ dW := fun p hp => Nat.ne_of_lt (by have := hal p hp; omega)
  unfold SaysC; k_fill; intro p loose mean mg mb dp un gd cn cs a ccd cl outer A₀ base h₀ L m news s Q E B F X N T hk hd hu hP hret; subst hP; refine wpC_call ?_; k_dflt (refine' defC (binds := [(Str.ofString "self", .ref W), (Str.ofString "element", .str (Str.ofString "data") tb)]) ?k1 ?k2 ?k3 ?k4 ?k5 ?kA ?kF ?kK ?k6 ?k7 ?k8 ?k9 ?kB ?_ ?c2 ?c3 ?c4 ?c5; (case kA => exact rfl); (case kF => exact rfl); (case kK => assumption); (case k1 => k_asm); (case k2 => k_asm); (case k3 => k_asm); (case k4 => k_asm); (case k5 => k_asm); (case k6 => k_is); (case k7 => k_is); (case k8 => ktr_room); (case k9 => exact binds_peek (by k_in) (fun _ => by kernel_rfl)); (case c5 => decide); (case kB => exact locs rfl); (case c2 => exact rfl); (case c3 => exact rfl); (case c4 => exact rfl); k_whole; intro g' L' h' FG' F' N' B' X' T'; (try dsimp only); (try k_lift B'); (try k_fold))
  have hI0 : IntsAre ([] : List Value) [] := IntsAre.nil
  repeat' (first | (k_unfold; (try dsimp only)) | ((fail_if_success (with_reducible show Q _ _)); first | ((first | (((with_reducible show wpC _ _ (call (Value.ref 196) _) _ _ _); (rename Fr _ _ _ _ => F'Zz); (rename News _ _ _ _ => N'Zz); k_dflt ((first | rw [str_open] | rw [str_shut]); (refine' SaysC.use (lineS_ok _ _ _ _ _ _ _ _ _ _ _ _ _ _ _ _ _ _ _ _ _ _ _ _ _ ?kb (by decide) ?kl0 ?kl1 ?kli (by decide) (by first | exact asc_open | exact asc_shut) (by assumption) (by assumption) (by ((repeat' (first | assumption | refine List.forall_mem_cons.mpr ⟨?_, ?_⟩ | (show @Ne Nat _ _; omega))))) (by ((repeat' (first | assumption | refine List.forall_mem_cons.mpr ⟨?_, ?_⟩ | (show @Ne Nat _ _; omega))))) (by (first | ((first | exact List.Mem.head _ | exact List.Mem.tail _ (List.Mem.head _) | exact List.Mem.tail _ (List.Mem.tail _ (List.Mem.head _)))) | ((repeat (first | assumption | exact c64_lo _ | exact c64_hi _ | refine in_snoc ?_ ?_ ?_ | omega))))) (by (first | ((first | exact List.Mem.head _ | exact List.Mem.tail _ (List.Mem.head _) | exact List.Mem.tail _ (List.Mem.tail _ (List.Mem.head _)))) | ((repeat (first | assumption | exact c64_lo _ | exact c64_hi _ | refine in_snoc ?_ ?_ ?_ | omega)))))) ?k1 F'Zz ?k3 N'Zz ?k5 ?k6 ?k7 ?k8 rfl ?_); (((case k1 => k_asm); (case k3 => k_asm); (case k5 => k_asm); (case k6 => first | exact rfl | assumption); (case k7 => ktr_room); (case k8 => ktr_units); (case kb => ((try simp only [List.length_append, List.length_cons, List.length_nil, rep_len]); omega)); (case kl0 => omega); (case kl1 => omega); (case kli => omega); (rintro v9Zz n9Zz h9Zz tk9Zz ⟨w9Zz, t9Zz, f9Zz⟩ F9Zz N9Zz); subst w9Zz; subst n9Zz; (try dsimp only); (try k_fold)))))) | (((first | (with_reducible show wpC _ _ (execs (Stmt.Expr (Expr.Call (Expr.Attribute _ (PySem.Str.ofString "append") _) _ _ _) _ :: _) _) _ _ _) | (with_reducible show wpC _ _ (execs (Stmt.AugAssign _ _ _ _ :: _) _) _ _ _)); refine wpC_execs_leaf ?_)) | ((first | ((with_reducible show wpC _ _ (execs (Stmt.If _ _ _ _ :: _) _) _ _ _); k_dflt (refine wpC_execs_cons (wpC_If ?_))) | ((with_reducible show wpC _ _ (execs (Stmt.Expr (Expr.Call (Expr.Attribute _ _ _) _ _ _) _ :: _) _) _ _ _); k_dflt (refine wpC_execs_cons (wpC_Expr (wpC_methodCall ?_)))) | ((with_reducible show wpC _ _ (callWith _ (Value.ref _) _ (backTo _ (starEach (_ :: _) _)) _) _ _ _); k_dflt (refine' wpC_callWith ?k1 ?k2 ?_; (case k1 => k_asm); (case k2 => k_is))))) | ((first | ((with_reducible show wpC _ _ (execs [] _) _ _ _); refine wpC_execs_nil ?_) | ((with_reducible show wpC _ _ (execs (Stmt.Assign [Expr.Attribute _ _ _] (Expr.IfExp _ _ _ _) _ :: _) _) _ _ _); k_dflt (refine wpC_execs_cons (wpC_Assign_Attribute ?_))) | ((with_reducible show wpC _ _ (execs (Stmt.Assign [Expr.Subscript _ _ _] _ _ :: _) _) _ _ _); k_dflt (refine wpC_execs_cons (wpC_Assign_Subscript ?_))) | ((with_reducible show wpC _ _ (execs (_ :: _) _) _ _ _); refine wpC_execs_leaf ?_) | ((with_reducible show wpC _ _ (eval (Expr.IfExp _ _ _ _) _) _ _ _); refine wpC_IfExp ?_) | ((with_reducible show wpC _ _ (eval (Expr.Call (Expr.Name _ _) [] [] _) _) _ _ _); refine wpC_callName ?_) | ((with_reducible show wpC _ _ (callWith _ (Value.type _) _ (backTo _ (starEach [] _)) _) _ _ _); refine wpC_callType0 ?_) | ((with_reducible show wpC _ _ (call (Value.type "bytearray") _) _ _ _); (rename Fr _ _ _ _ => F'Zz); (rename News _ _ _ _ => N'Zz); k_dflt (refine k_baNew0 F'Zz N'Zz ?_); intro B9Zz h9Zz F9Zz N9Zz l9Zz; k_lt l9Zz)))); (try dsimp only)) | (k_end; kc_close) | walk1 | (dsimp only; walk1) | (leave1; (try dsimp only)) | fail "no step"))
  refine hret _ _ _ _ ?_ (by k_asm) (by k_asm)
  exact ⟨rfl, _, _, _, _, rfl⟩
theorem end_ok (w : World) (W dW x dx B St : Addr) (bs ind : List Int) (lv : Int) (k1 k2 t tb ts tl ti j1 j2 j3 j4 j5 j6 j7 : Tok) (n : Nat) (rest : List (Addr × Obj)) (hlen : bs.length ≤ 50000) (hl0 : 1 ≤ lv) (hl1 : lv ≤ 20) (hli : ind.length ≤ 10)
    (h1 : @LT.lt Nat _ dx x) (h2 : @LT.lt Nat _ x B) (h3 : @LT.lt Nat _ B dW) (h4 : @LT.lt Nat _ dW W) (h5 : @LT.lt Nat _ W St) (hal : ∀ p ∈ rest, @LT.lt Nat _ p.1 dx) :
    SaysC w 14 300 181 [.ref W, .str (Str.ofString "data") tb] (fun news => news = wLed w.params W dW x dx B St bs k1 k2 t #[.str (Str.ofString "data") ts] n lv ind tl ti j1 j2 j3 j4 j5 j6 j7 rest)
      (fun _ v news' => v = .none ∧ ∃ t' tl' n', news' = wLed w.params W dW x dx B St (bs ++ (List.replicate (lv - 1).toNat ind).flatten ++ [60, 47, 100, 97, 116, 97, 62] ++ [10]) k1 k2 t' #[] n' (lv - 1) ind tl' ti j1 j2 j3 j4 j5 j6 j7 rest) := by
  have aB : ∀ p ∈ rest, p.1 ≠ B := fun p hp => Nat.ne_of_lt (by have := hal p hp; omega)
  have aD : ∀ p ∈ rest, p.1 ≠ dx := fun p hp => Nat.ne_of_lt (by have := hal p hp; omega)
  have aS : ∀ p ∈ rest, p.1 ≠ St := fun p hp => Nat.ne_of_lt (by have := hal p hp; omega)
  have aW : ∀ p ∈ rest, p.1 ≠ dW := fun p hp => Nat.ne_of_lt (by have := hal p hp; omega)
  unfold SaysC; k_fill; intro p loose mean mg mb dp un gd cn cs a ccd cl outer A₀ base h₀ L m news s Q E B F X N T hk hd hu hP hret; subst hP; refine wpC_call ?_; k_dflt (refine' defC (binds := [(Str.ofString "self", .ref W), (Str.ofString "element", .str (Str.ofString "data") tb)]) ?k1 ?k2 ?k3 ?k4 ?k5 ?kA ?kF ?kK ?k6 ?k7 ?k8 ?k9 ?kB ?_ ?c2 ?c3 ?c4 ?c5; (case kA => exact rfl); (case kF => exact rfl); (case kK => assumption); (case k1 => k_asm); (case k2 => k_asm); (case k3 => k_asm); (case k4 => k_asm); (case k5 => k_asm); (case k6 => k_is); (case k7 => k_is); (case k8 => ktr_room); (case k9 => exact binds_peek (by k_in) (fun _ => by kernel_rfl)); (case c5 => decide); (case kB => exact locs rfl); (case c2 => exact rfl); (case c3 => exact rfl); (case c4 => exact rfl); k_whole; intro g' L' h' FG' F' N' B' X' T'; (try dsimp only); (try k_lift B'); (try k_fold))
  have hI0 : IntsAre ([] : List Value) [] := IntsAre.nil
  repeat' (first | (k_unfold; (try dsimp only)) | ((fail_if_success (with_reducible show Q _ _)); first | ((first | (((with_reducible show wpC _ _ (call (Value.ref 196) _) _ _ _); (rename Fr _ _ _ _ => F'Zz); (rename News _ _ _ _ => N'Zz); k_dflt ((first | rw [str_open] | rw [str_shut]); (refine' SaysC.use (lineS_ok _ _ _ _ _ _ _ _ _ _ _ _ _ _ _ _ _ _ _ _ _ _ _ _ _ ?kb (by decide) ?kl0 ?kl1 ?kli (by decide) (by first | exact asc_open | exact asc_shut) (by assumption) (by assumption) (by ((repeat' (first | assumption | refine List.forall_mem_cons.mpr ⟨?_, ?_⟩ | (show @Ne Nat _ _; omega))))) (by ((repeat' (first | assumption | refine List.forall_mem_cons.mpr ⟨?_, ?_⟩ | (show @Ne Nat _ _; omega))))) (by (first | ((first | exact List.Mem.head _ | exact List.Mem.tail _ (List.Mem.head _) | exact List.Mem.tail _ (List.Mem.tail _ (List.Mem.head _)))) | ((repeat (first | assumption | exact c64_lo _ | exact c64_hi _ | refine in_snoc ?_ ?_ ?_ | omega))))) (by (first | ((first | exact List.Mem.head _ | exact List.Mem.tail _ (List.Mem.head _) | exact List.Mem.tail _ (List.Mem.tail _ (List.Mem.head _)))) | ((repeat (first | assumption | exact c64_lo _ | exact c64_hi _ | refine in_snoc ?_ ?_ ?_ | omega)))))) ?k1 F'Zz ?k3 N'Zz ?k5 ?k6 ?k7 ?k8 rfl ?_); (((case k1 => k_asm); (case k3 => k_asm); (case k5 => k_asm); (case k6 => first | exact rfl | assumption); (case k7 => ktr_room); (case k8 => ktr_units); (case kb => ((try simp only [List.length_append, List.length_cons, List.length_nil, rep_len]); omega)); (case kl0 => omega); (case kl1 => omega); (case kli => omega); (rintro v9Zz n9Zz h9Zz tk9Zz ⟨w9Zz, t9Zz, f9Zz⟩ F9Zz N9Zz); subst w9Zz; subst n9Zz; (try dsimp only); (try k_fold)))))) | (((first | (with_reducible show wpC _ _ (execs (Stmt.Expr (Expr.Call (Expr.Attribute _ (PySem.Str.ofString "append") _) _ _ _) _ :: _) _) _ _ _) | (with_reducible show wpC _ _ (execs (Stmt.AugAssign _ _ _ _ :: _) _) _ _ _)); refine wpC_execs_leaf ?_)) | ((first | ((with_reducible show wpC _ _ (execs (Stmt.If _ _ _ _ :: _) _) _ _ _); k_dflt (refine wpC_execs_cons (wpC_If ?_))) | ((with_reducible show wpC _ _ (execs (Stmt.Expr (Expr.Call (Expr.Attribute _ _ _) _ _ _) _ :: _) _) _ _ _); k_dflt (refine wpC_execs_cons (wpC_Expr (wpC_methodCall ?_)))) | ((with_reducible show wpC _ _ (callWith _ (Value.ref _) _ (backTo _ (starEach (_ :: _) _)) _) _ _ _); k_dflt (refine' wpC_callWith ?k1 ?k2 ?_; (case k1 => k_asm); (case k2 => k_is))))) | ((first | ((with_reducible show wpC _ _ (execs [] _) _ _ _); refine wpC_execs_nil ?_) | ((with_reducible show wpC _ _ (execs (Stmt.Assign [Expr.Attribute _ _ _] (Expr.IfExp _ _ _ _) _ :: _) _) _ _ _); k_dflt (refine wpC_execs_cons (wpC_Assign_Attribute ?_))) | ((with_reducible show wpC _ _ (execs (Stmt.Assign [Expr.Subscript _ _ _] _ _ :: _) _) _ _ _); k_dflt (refine wpC_execs_cons (wpC_Assign_Subscript ?_))) | ((with_reducible show wpC _ _ (execs (_ :: _) _) _ _ _); refine wpC_execs_leaf ?_) | ((with_reducible show wpC _ _ (eval (Expr.IfExp _ _ _ _) _) _ _ _); refine wpC_IfExp ?_) | ((with_reducible show wpC _ _ (eval (Expr.Call (Expr.Name _ _) [] [] _) _) _ _ _); refine wpC_callName ?_) | ((with_reducible show wpC _ _ (callWith _ (Value.type _) _ (backTo _ (starEach [] _)) _) _ _ _); refine wpC_callType0 ?_) | ((with_reducible show wpC _ _ (call (Value.type "bytearray") _) _ _ _); (rename Fr _ _ _ _ => F'Zz); (rename News _ _ _ _ => N'Zz); k_dflt (refine k_baNew0 F'Zz N'Zz ?_); intro B9Zz h9Zz F9Zz N9Zz l9Zz; k_lt l9Zz)))); (try dsimp only)) | (k_end; kc_close) | walk1 | (dsimp only; walk1) | (leave1; (try dsimp only)) | fail "no step"))
  refine hret _ _ _ _ ?_ (by k_asm) (by k_asm)
  exact ⟨rfl, _, _, _, rfl⟩
end
section
/-- a sign that a page of base64 may hold -/
noncomputable def SignOk (c : Int) : Prop := seen c = true ∧ 0 ≤ c ∧ c < 128 ∧ c ≠ 10 ∧ c ≠ 60 ∧ c ≠ 62
theorem sign61 : SignOk 61 := by unfold SignOk; decide
theorem sign_key : ∀ k : Nat, k < 64 → seen (c64 (k : Int)) = true ∧ 0 ≤ c64 (k : Int) ∧ c64 (k : Int) < 128 ∧ c64 (k : Int) ≠ 10 ∧ c64 (k : Int) ≠ 60 ∧ c64 (k : Int) ≠ 62 := by decide +kernel
theorem sign64 {k : Int} (h0 : 0 ≤ k) (h1 : k < 64) : SignOk (c64 k) := by
  have := sign_key k.toNat (by omega)
  rw [Int.toNat_of_nonneg h0] at this
  exact this
theorem b64B_sign : ∀ {p : List Int}, KBa.In p → ∀ c ∈ b64B p, SignOk c
  | a :: b :: c :: r, h => by
    have ha := in_head h
    have hb := in_head (in_tail h)
    have hc := in_head (in_tail (in_tail h))
    intro x hx
    rcases List.mem_cons.mp hx with rfl | hx
    · exact sign64 (by omega) (by omega)
    rcases List.mem_cons.mp hx with rfl | hx
    · exact sign64 (by omega) (by omega)
    rcases List.mem_cons.mp hx with rfl | hx
    · exact sign64 (by omega) (by omega)
    rcases List.mem_cons.mp hx with rfl | hx
    · exact sign64 (by omega) (by omega)
    exact b64B_sign (in_tail (in_tail (in_tail h))) x hx
  | [a, b], h => by
    have ha := in_head h
    have hb := in_head (in_tail h)
    intro x hx
    simp only [b64B, List.mem_cons, List.not_mem_nil, or_false] at hx
    rcases hx with rfl | rfl | rfl | rfl
    · exact sign64 (by omega) (by omega)
    · exact sign64 (by omega) (by omega)
    · exact sign64 (by omega) (by omega)
    · exact sign61
  | [a], h => by
    have ha := in_head h
    intro x hx
    simp only [b64B, List.mem_cons, List.not_mem_nil, or_false] at hx
    rcases hx with rfl | rfl | rfl | rfl
    · exact sign64 (by omega) (by omega)
    · exact sign64 (by omega) (by omega)
    · exact sign61
    · exact sign61
  | [], _ => fun _ h => nomatch h
theorem b64B_len : ∀ (p : List Int), (b64B p).length = 4 * ((p.length + 2) / 3)
  | a :: b :: c :: r => by
    show (b64B r).length + 1 + 1 + 1 + 1 = _
    rw [b64B_len r]; simp only [List.length_cons]; omega
  | [_, _] => by simp [b64B]
  | [_] => by simp [b64B]
  | [] => rfl
theorem rows_sign {ns : List Int} (hin : KBa.In ns) (m : Int) : ∀ r ∈ rowsL ns m, ∀ c ∈ r, SignOk c := by
  intro r hr
  unfold rowsL rowPs at hr
  obtain ⟨k, _, rfl⟩ := List.mem_map.mp hr
  have h := cutL_in (m := m) (k := k) hin
  rw [rowL_eq h]
  exact b64B_sign h
theorem stepK_mem {b c k : Int} (hc : 0 < c) (h : k ∈ stepKs (stepN b c) c) : 0 ≤ k ∧ k < b := by
  unfold stepKs at h
  obtain ⟨i, hi, rfl⟩ := List.mem_map.mp h
  exact ⟨Int.mul_nonneg (by omega) (by omega), stepN_lt hc (List.mem_range.mp hi)⟩
theorem rows_ne {ns : List Int} (hin : KBa.In ns) {m : Int} (hm : 0 < m) : ∀ r ∈ rowsL ns m, 0 < r.length := by
  intro r hr
  unfold rowsL rowPs at hr
  obtain ⟨k, hk, rfl⟩ := List.mem_map.mp hr
  have h := cutL_in (m := m) (k := k) hin
  have hk' := stepK_mem hm hk
  rw [rowL_eq h, b64B_len]
  have : 0 < (cutL ns m k).length := by
    unfold cutL; rw [List.length_take, List.length_drop]; omega
  omega
theorem step_over {b c : Int} (hc : 0 < c) (hb : 0 ≤ b) : b ≤ (stepN b c : Int) * c := by
  have e := stepN_eq (b := b) hc
  unfold Builtin.Range.rangeSize at e
  rw [if_pos hc] at e
  rw [← e]
  split
  · have := Int.lt_ediv_add_one_mul_self (b - 0 - 1) hc
    omega
  · omega
theorem rows_flatL {ns : List Int} (hin : KBa.In ns) {fo : Int} (hf : 1 ≤ fo) : (rowsL ns (3 * fo)).flatten = b64B ns := by
  obtain ⟨k, rfl⟩ := Int.eq_ofNat_of_zero_le (show 0 ≤ fo by omega)
  unfold rowsL
  show (rowPs ns (3 * (k : Int)) (stepKs (stepN ns.length (3 * (k : Int))) (3 * (k : Int)))).flatten = _
  rw [rows_flat hin]
  congr 1
  apply List.take_of_length_le
  have := step_over (b := ns.length) (c := 3 * (k : Int)) (by omega) (by omega)
  have e : ((stepN ns.length (3 * (k : Int)) : Nat) : Int) * (3 * (k : Int)) = ((stepN ns.length (3 * (k : Int)) * (3 * k) : Nat) : Int) := by rw [Int.natCast_mul, Int.natCast_mul]; rfl
  rw [e] at this
  omega
theorem rows_count (ns : List Int) (m : Int) : (rowsL ns m).length = stepN ns.length m := by
  unfold rowsL rowPs; rw [List.length_map, stepKs_length]
theorem rows_few {ns : List Int} (hl : ns.length ≤ 64) {m : Int} (hm : 3 ≤ m) : (rowsL ns m).length ≤ 22 ∧ (12 ≤ m → (rowsL ns m).length ≤ 6) := by
  rw [rows_count]
  rcases Nat.eq_zero_or_pos (stepN ns.length m) with h | h
  · rw [h]; exact ⟨by decide, fun _ => by decide⟩
  · have h1 := stepN_lt (b := ns.length) (c := m) (by omega) (i := stepN ns.length m - 1) (by omega)
    generalize stepN ns.length m = n at h h1
    constructor
    · have h2 : (((n - 1 : Nat) : Int)) * 3 ≤ ((n - 1 : Nat) : Int) * m := Int.mul_le_mul_of_nonneg_left hm (by omega)
      omega
    · intro hq
      have h2 : (((n - 1 : Nat) : Int)) * 12 ≤ ((n - 1 : Nat) : Int) * m := Int.mul_le_mul_of_nonneg_left hq (by omega)
      omega
theorem flat_mem_len : ∀ {xs : List (List Int)} {r : List Int}, r ∈ xs → r.length ≤ xs.flatten.length
  | x :: xs, r, h => by
    rw [List.flatten_cons, List.length_append]
    rcases List.mem_cons.mp h with rfl | h
    · omega
    · have := flat_mem_len h; omega
theorem pageL_cons (r : List Int) (rows : List (List Int)) (bs : List Int) : pageL (r :: rows) bs = bs ++ r ++ [10] ++ pageL rows bs := by unfold pageL; simp
theorem pageL_snoc (r : List Int) (rows : List (List Int)) (bs : List Int) : pageL (rows ++ [r]) bs = pageL rows bs ++ (bs ++ r ++ [10]) := by unfold pageL; simp
theorem pageL_app (a b : List (List Int)) (bs : List Int) : pageL (a ++ b) bs = pageL a bs ++ pageL b bs := by unfold pageL; simp
theorem pageL_length (bs : List Int) : ∀ rows : List (List Int), (pageL rows bs).length = rows.length * (bs.length + 1) + rows.flatten.length
  | [] => by simp [pageL]
  | r :: rows => by
    rw [pageL_cons, List.length_append, pageL_length bs rows]
    simp only [List.length_append, List.length_cons, List.length_nil, List.flatten_cons]
    rw [Nat.add_mul]
    omega
theorem rows_total {ns : List Int} (hin : KBa.In ns) (hl : ns.length ≤ 64) {fo : Int} (hf : 1 ≤ fo) : (rowsL ns (3 * fo)).flatten.length ≤ 88 := by
  rw [rows_flatL hin hf, b64B_len]; omega
theorem rows_short {ns : List Int} (hin : KBa.In ns) (hl : ns.length ≤ 64) {fo : Int} (hf : 1 ≤ fo) : ∀ r ∈ rowsL ns (3 * fo), r.length ≤ 88 := fun _ hr => Nat.le_trans (flat_mem_len hr) (rows_total hin hl hf)
theorem page_bare {ns : List Int} (hin : KBa.In ns) (hl : ns.length ≤ 64) {fo : Int} (hf : 1 ≤ fo) : (pageL (rowsL ns (3 * fo)) []).length ≤ 110 := by
  rw [pageL_length]
  have h1 := (rows_few hl (m := 3 * fo) (by omega)).1
  have h2 := rows_total hin hl hf
  simp only [List.length_nil]
  omega
theorem page_far {ns : List Int} (hin : KBa.In ns) (hl : ns.length ≤ 64) {fo : Int} (hf : 4 ≤ fo) {bs : List Int} (hb : bs.length ≤ 22) : (pageL (rowsL ns (3 * fo)) bs).length ≤ 226 := by
  rw [pageL_length]
  have h1 := (rows_few hl (m := 3 * fo) (by omega)).2 (by omega)
  have h2 := rows_total hin hl (fo := fo) (by omega)
  have h3 : (rowsL ns (3 * fo)).length * (bs.length + 1) ≤ 6 * 23 := Nat.mul_le_mul h1 (by omega)
  omega
/-- what is passed over -/
noncomputable def Blank (bs : List Int) : Prop := ∀ c ∈ bs, seen c = false
theorem blank_filter {bs : List Int} (h : Blank bs) : bs.filter seen = [] := by
  rw [List.filter_eq_nil_iff]; intro c hc; rw [h c hc]; exact Bool.false_ne_true
theorem page_filter {bs : List Int} (hb : Blank bs) : ∀ rows : List (List Int), (∀ r ∈ rows, ∀ c ∈ r, seen c = true) → (pageL rows bs).filter seen = rows.flatten
  | [], _ => rfl
  | r :: rows, h => by
    rw [pageL_cons, List.flatten_cons]
    simp only [List.filter_append]
    rw [blank_filter hb, page_filter hb rows fun x hx => h x (.tail _ hx), List.filter_eq_self.mpr (h r (.head _)), show [10].filter seen = ([] : List Int) by decide]
    simp
theorem reads_page {ns : List Int} (hin : KBa.In ns) {fo : Int} (hf : 1 ≤ fo) {bs : List Int} (hb : Blank bs) : Reads (pageL (rowsL ns (3 * fo)) bs) ns := by
  unfold Reads
  rw [page_filter hb _ fun r hr c hc => (rows_sign hin _ r hr c hc).1, rows_flatL hin hf]
theorem reads_mid {ns : List Int} {T bs : List Int} (h : Reads T ns) (hb : Blank bs) : Reads ([10] ++ T ++ bs) ns := by
  unfold Reads at h ⊢
  simp only [List.filter_append]
  rw [h, blank_filter hb, show [10].filter seen = ([] : List Int) by decide]
  simp
theorem page_asc {rows : List (List Int)} {bs : List Int} (hb : Asc bs) (h : ∀ r ∈ rows, Asc r) : Asc (pageL rows bs) := by
  induction rows with
  | nil => exact fun _ h => nomatch h
  | cons r rows ih =>
    rw [pageL_cons]
    intro c hc
    simp only [List.mem_append, List.mem_singleton] at hc
    rcases hc with ((hc | hc) | rfl) | hc
    · exact hb c hc
    · exact h r (.head _) c hc
    · exact ⟨by decide, by decide⟩
    · exact ih (fun x hx => h x (.tail _ hx)) c hc
theorem rows_asc {ns : List Int} (hin : KBa.In ns) (m : Int) : ∀ r ∈ rowsL ns m, Asc r := fun r hr c hc => ⟨(rows_sign hin m r hr c hc).2.1, (rows_sign hin m r hr c hc).2.2.1⟩
end
section
open PySem.Calls
set_option maxHeartbeats 4000000
section
variable {M : Model} {A : Around} {E : Value → Shared → Prop} {s : Shared} {env : Env}
theorem codeC_loop {c : Code} {R : Result → Shared → Prop} (hq : c.quiet = true) (hok : okC c = true) (I : Nat → Shared → Prop)
    (turn : ∀ n s, I n s → wpC M (A.under c) (M.den c)
      (fun fin s' => match fin with
        | .done f => R (.ok f) s'
        | .again c' => (c' = c ∧ ∃ m, m < n ∧ I m s') ∨ (c'.quiet = true ∧ codeC M A c' R s')) (fun e s' => R (.error e) s') s)
    (n : Nat) (h : I n s) : codeC M A c R s := by
  induction n using Nat.strongRecOn generalizing s with
  | ind n ih =>
    refine codeC_tree hok (wpC_mono (turn n s h) (fun fin s' hf => ?_) fun _ _ h' => h')
    cases fin with
    | done f => exact hf
    | again c' =>
      rcases hf with ⟨rfl, m, hm, hI⟩ | hf
      · exact ⟨hq, ih m hm hI⟩
      · exact hf
theorem wpC_noted {α : Type} {m : Sem α} {Q : α → Shared → Prop} (h : wpC M A m Q (notedBy M A env E) s) : wpC M A (m.onRaise fun x => do noteFrame x env; theTreesLotGoes x) Q E s :=
  wpC_onRaise (wpC_mono h (fun _ _ q => q) fun _ _ hx => wpC_any (wpAny_bind (wpAny_mono hx (fun _ _ e => wpAny_theTreesLotGoes e) fun _ _ e => e)))
theorem wpC_runOwn {c : Code} {h : Option Value} {Q : Flow → Shared → Prop}
    (hc : codeC M (A.mark h) c (fun r s' => match r with | .ok f => Q f s' | .error e => cameBackBy M A env E e s') s) (hnb : h ≠ some byPass := by intro x; cases x) :
    wpC M A (runOwn c env h) Q E s := by
  unfold runOwn
  exact wpC_onRaise (wpC_mono (wpC_run hc hnb) (fun _ _ q => q) fun _ _ hx => wpC_any hx)
theorem wpC_For {target : PySem.Expr} {iter : PySem.Expr} {body orelse : List Stmt} {pos : Pos} {Q : Flow → Shared → Prop}
    (h : wpAny M A (eval iter env) (fun x s₁ => wpAny M A (pyIter x) (fun it s₂ =>
      codeC M A (.forLoop target it body orelse env) (fun r s' => match r with | .ok f => Q f s' | .error e => cameBackBy M A env E e s') s₂) E s₁) E s)
    (hs : ∀ x, foldedSetIterable iter env x = pure x := by intro _; rfl) :
    wpC M A (exec (.For target iter body orelse pos) env) Q E s := by
  rw [exec_For]
  exact wpC_leaf (wpAny_standAt (wpC_leaf (wpAny_mono h (fun x s₁ h₁ => wpC_leaf (wpAny_of_eq (hs x) (wpC_leaf (wpAny_standAt (wpC_leaf (wpAny_holding
    (wpAny_mono h₁ (fun it s₂ h₂ => wpC_runOwn h₂) fun _ _ h' => h'))))))) fun _ _ h' => h')))
end
/-- the end of a turn -/
noncomputable def EndC (h₀ : Heap) (L : Addr) (own : List (Addr × Obj)) (stored : List PySem.Str) (x : PySem.Str) (m₀ : PySem.Str → Option Value) (Pn : List (Addr × Obj) → Prop) (s₁ : Shared) (f : Flow) (s₂ : Shared) : Prop :=
  f = .next ∧ ∃ h' tk m₂ news₂, s₂ = { s₁ with heap := h', toks := tk } ∧ Fr h₀ L h' m₂ ∧ News h₀ L h' (own ++ news₂) ∧ Pn news₂ ∧ ∀ z, z ≠ x → stored.contains z = false → m₂ z = m₀ z
section
variable {prog : Program} {w : World} {A : Around} {E : Value → Shared → Prop} {s : Shared} {env : Env} {h₀ : Heap}
theorem codeC_forList {R : Result → Shared → Prop} {x : PySem.Str} {px : Pos} {body : List Stmt} {I l : Addr} {vs : List Value} {n₀ : Nat} {m₀ : PySem.Str → Option Value} {news : List (Addr × Obj)} (stored : List PySem.Str)
    (hh : A.handled = none) (hx : env.kindOf x = some .local) (hp : (env.scope.kind == .class || (env.scope.kind == .module && env.locals != env.globals)) = false)
    (P : Nat → List (Addr × Obj) → Prop) (h0 : P 0 news) (F : Fr h₀ env.locals s.heap m₀) (N : News h₀ env.locals s.heap news)
    (hI : s.heap.IsListIter I l 0) (hIn : h₀.get? I = none) (hIL : I ≠ env.locals)
    (hP : ∀ i news', P i news' → (l, listOf vs.toArray n₀) ∈ news' ∧ ∀ p ∈ news', p.1 ≠ I)
    (turn : ∀ i v news₁ (u : PySem.Str → Option Value) h tk o, vs[i]? = some v → P i news₁ → Fr h₀ env.locals h (fun y => if y = x then some v else if stored.contains y then u y else m₀ y) → News h₀ env.locals h ((I, o) :: news₁) →
      wpC (model prog w) A (execs body env) (EndC h₀ env.locals [(I, o)] stored x m₀ (P (i + 1)) { s with heap := h, toks := tk }) (notedBy (model prog w) A env fun e s' => R (.error e) s') { s with heap := h, toks := tk })
    (done : ∀ news' (u : PySem.Str → Option Value) h tk, P vs.length news' → Fr h₀ env.locals h (fun y => if y = x then u y else if stored.contains y then u y else m₀ y) → News h₀ env.locals h news' → R (.ok .next) { s with heap := h, toks := tk }) :
    codeC (model prog w) A (.forLoop (.Name x px) (.ref I) body [] env) R s := by
  refine codeC_loop rfl rfl
    (fun k s' => ∃ h' tk m' news' i, s' = { s with heap := h', toks := tk } ∧ h'.IsListIter I l i ∧ Fr h₀ env.locals h' m' ∧ News h₀ env.locals h' news' ∧ P i news' ∧ (∀ z, z ≠ x → stored.contains z = false → m' z = m₀ z) ∧ i ≤ vs.length ∧ k = vs.length + 1 - i) ?_ (vs.length + 1)
    ⟨s.heap, s.toks, m₀, news, 0, rfl, hI, F, N, h0, fun _ _ _ => rfl, Nat.zero_le _, rfl⟩
  rintro k s' ⟨h', tk, m', news', i, rfl, hit, F', N', hPi, hm, hi, rfl⟩
  show wpC _ _ ((forTurn (.Name x px) (.ref I) body [] env).onRaise (fun x => do noteFrame x env; theTreesLotGoes x)) _ _ _
  refine wpC_noted ?_
  simp only [forTurn]
  refine wpC_leaf (wpAny_standAt (wpC_leaf (wpAny_onRaise ?_)))
  obtain ⟨hl, hne⟩ := hP i news' hPi
  have hlist : h'.IsList l vs.toArray := ⟨_, (N' _ hl).1, rfl, _, rfl⟩
  have next : ∀ h₁ : Heap, (∀ b o, b ≠ I → h'.get? b = some o → h₁.get? b = some o) → Fr h₀ env.locals h₁ m' ∧ News h₀ env.locals h₁ news' := fun h₁ hk₁ =>
    ⟨⟨F'.ns.at' fun o e => hk₁ _ o hIL.symm e, fun b o e => hk₁ b o (fun q => by rw [q, hIn] at e; cases e) (F'.keep b o e), F'.above⟩, fun p hp => ⟨hk₁ _ _ (hne p hp) (N' p hp).1, (N' p hp).2⟩⟩
  by_cases hlt : i < vs.length
  · refine wpAny_pyNext_list_item hit hlist (x := vs[i]) (by simp [hlt]) fun h₁ hit₁ hs₁ => ?_
    obtain ⟨F₁, N₁⟩ := next h₁ fun b o hb e => hs₁.extBut b o hb e
    refine wpC_leaf (wpAny_of_eq rfl ?_)
    refine wpC_leaf (wpAny_assign_Name (wpAny_storeName_local hx F₁.ns (fun h₂ hn₂ hs₂ => ?_) hp))
    have F₂ := F₁.set hn₂ hs₂
    obtain ⟨o, ho, hoc, hod⟩ := hit₁
    have ho₂ : h₂.get? I = some o := (hs₂.2 I hIL).trans ho
    have Nown : News h₀ env.locals h₂ ((I, o) :: news') := fun p hp => by
      rcases List.mem_cons.mp hp with rfl | hp
      · exact ⟨ho₂, hIL, hIn⟩
      · exact (N₁.set hs₂) p hp
    have em : (fun y => if y = x then some vs[i] else m' y) = fun y => if y = x then some vs[i] else if stored.contains y then m' y else m₀ y := by
      funext y
      by_cases e1 : y = x
      · rw [if_pos e1, if_pos e1]
      · rw [if_neg e1, if_neg e1]
        cases e2 : stored.contains y with
        | true => rw [if_pos rfl]
        | false => rw [if_neg Bool.false_ne_true]; exact hm y e1 e2
    rw [em] at F₂
    refine wpC_bind (wpC_mono (turn i _ news' m' h₂ _ o (by simp [hlt]) hPi F₂ Nown) (fun f s₃ h₃ => ?_) fun _ _ e => e)
    obtain ⟨rfl, h₃', tk₃, m₂, news₂, rfl, F₃, N₃, hP₃, hm₃⟩ := h₃
    refine wpC_pure (.inl ⟨rfl, vs.length + 1 - (i + 1), by omega, h₃', tk₃, m₂, news₂, i + 1, rfl, ?_, F₃, N₃.right, hP₃, hm₃, hlt, rfl⟩)
    exact ⟨o, (N₃ (I, o) (.head _)).1, hoc, hod⟩
  · have hin : i = vs.length := by omega
    subst hin
    refine wpAny_pyNext_list_end hh hit hlist (by simp) fun h₁ he₁ => ?_
    obtain ⟨F₁, N₁⟩ := next h₁ he₁
    refine wpC_pure (.inr ⟨rfl, codeC_any (codeAny_block (wpAny_execs_nil ?_))⟩)
    have em : m' = fun y => if y = x then m' y else if stored.contains y then m' y else m₀ y := by
      funext y
      by_cases e1 : y = x
      · rw [if_pos e1]
      · rw [if_neg e1]
        cases e2 : stored.contains y with
        | true => rw [if_pos rfl]
        | false => rw [if_neg Bool.false_ne_true]; exact hm y e1 e2
    rw [em] at F₁
    exact done news' m' h₁ tk hPi F₁ N₁
/-- a loop over a list, its turns and its end -/
noncomputable def ForC (prog : Program) (w : World) (A : Around) (h₀ : Heap) (env : Env) (x : PySem.Str) (body : List Stmt) (Q : Flow → Shared → Prop) (E : Value → Shared → Prop) (xv : Value) (s₁ : Shared) : Prop :=
  ∃ (stored : List PySem.Str) (l : Addr) (vs : List Value) (n₀ : Nat) (m₀ : PySem.Str → Option Value) (news : List (Addr × Obj)) (P : Addr → Nat → List (Addr × Obj) → Prop),
    xv = .ref l ∧ (l, listOf vs.toArray n₀) ∈ news ∧ Fr h₀ env.locals s₁.heap m₀ ∧ News h₀ env.locals s₁.heap news ∧ ∀ I, (∀ p ∈ news, p.1 < I) →
      P I 0 news ∧ (∀ i news', P I i news' → (l, listOf vs.toArray n₀) ∈ news' ∧ ∀ p ∈ news', p.1 ≠ I) ∧
      (∀ i v news₁ (u : PySem.Str → Option Value) h tk o, vs[i]? = some v → P I i news₁ → Fr h₀ env.locals h (fun y => if y = x then some v else if stored.contains y then u y else m₀ y) → News h₀ env.locals h ((I, o) :: news₁) →
        wpC (model prog w) A (execs body env) (EndC h₀ env.locals [(I, o)] stored x m₀ (P I (i + 1)) { s₁ with heap := h, toks := tk }) E { s₁ with heap := h, toks := tk }) ∧
      (∀ news' (u : PySem.Str → Option Value) h tk, P I vs.length news' → Fr h₀ env.locals h (fun y => if y = x then u y else if stored.contains y then u y else m₀ y) → News h₀ env.locals h news' → Q .next { s₁ with heap := h, toks := tk })
theorem wpC_ForC {x : PySem.Str} {px : Pos} {iter : PySem.Expr} {body : List Stmt} {pos : Pos} {Q : Flow → Shared → Prop} (h₀ : Heap)
    (hh : A.handled = none) (hx : env.kindOf x = some .local) (hp : (env.scope.kind == .class || (env.scope.kind == .module && env.locals != env.globals)) = false)
    (h : wpAny (model prog w) A (eval iter env) (ForC prog w A h₀ env x body Q E) E s)
    (hs : ∀ x, foldedSetIterable iter env x = pure x := by intro _; rfl)
    (hE : PassesOwn (model prog w) A env E := by passes_own) :
    wpC (model prog w) A (exec (.For (.Name x px) iter body [] pos) env) Q E s := by
  refine wpC_For (wpAny_mono h (fun xv s₁ h₁ => ?_) fun _ _ e => e) hs
  obtain ⟨stored, l, vs, n₀, m₀, news, P, rfl, hl, F, N, H⟩ := h₁
  refine wpAny_pyIter_list (items := vs.toArray) ⟨_, (N _ hl).1, rfl, _, rfl⟩ ?_
  obtain ⟨h0, hP, turn, done⟩ := H s₁.heap.objs.size fun p hp => Heap.lt_size (N p hp).1
  refine codeC_forList (R := fun r s' => match r with | .ok f => Q f s' | .error e => cameBackBy (model prog w) A env E e s') (s := ⟨_, _, _, _, _⟩) stored hh hx hp (P s₁.heap.objs.size) h0 (F.push _) (N.grown fun a o e => Heap.get?_push_of_some _ e) ⟨_, Heap.get?_push_size _ rfl, rfl, rfl⟩ ?_ ?_ hP ?_ done
  · cases e : h₀.get? s₁.heap.objs.size with
    | none => rfl
    | some o => exact absurd (Heap.lt_size (F.keep _ _ e)) (Nat.lt_irrefl _)
  · intro e
    exact absurd (e ▸ F.ns.lt : s₁.heap.objs.size < s₁.heap.objs.size) (Nat.lt_irrefl _)
  · intro i v news₁ u h tk o a b c d
    exact wpC_mono (turn i v news₁ u h tk o a b c d) (fun _ _ x => x) hE
theorem wpC_ForCF {x : PySem.Str} {px : Pos} {iter : PySem.Expr} {body : List Stmt} {pos : Pos} {Q : Flow → Shared → Prop} {h₀ : Heap} {L : Addr} {h₁ : Heap} {m₁ : PySem.Str → Option Value} (_F : Fr h₀ L h₁ m₁)
    (hh : A.handled = none) (hx : env.kindOf x = some .local) (hp : (env.scope.kind == .class || (env.scope.kind == .module && env.locals != env.globals)) = false)
    (h : wpAny (model prog w) A (eval iter env) (ForC prog w A h₀ env x body Q E) E s)
    (hs : ∀ x, foldedSetIterable iter env x = pure x)
    (hE : PassesOwn (model prog w) A env E) :
    wpC (model prog w) A (exec (.For (.Name x px) iter body [] pos) env) Q E s := wpC_ForC h₀ hh hx hp h hs hE
end
end
section
set_option maxHeartbeats 8000000
section
variable {prog : Program} {w : World} {A : Around} {E : Value → Shared → Prop} {s : Shared} {h₀ : Heap} {L : Addr} {m : PySem.Str → Option Value} {news : List (Addr × Obj)}
theorem r_max {a b : Int} {t u : Tok} {Q : Value → Shared → Prop} (hh : A.handled = none) (F : Fr h₀ L s.heap m) (N : News h₀ L s.heap news) (h : ∀ h' tk t', Fr h₀ L h' m → News h₀ L h' news → Q (.int (max a b) t') { s with heap := h', toks := tk }) :
    wpAny (model prog w) A (call (.builtin "max") [.int a t, .int b u]) Q E s :=
  PySem.Flt.max_two_num hh (.int a t) (.int b u) fun h' tk kp => by
    have hF := F.grownK kp
    have hN := N.grown kp
    by_cases hc : a < b
    · rw [if_pos (by show decide (a < b) = true; exact decide_eq_true hc)]
      have := h h' tk u hF hN
      rwa [Int.max_eq_right (Int.le_of_lt hc)] at this
    · rw [if_neg (by show ¬ decide (a < b) = true; rw [decide_eq_false hc]; exact Bool.false_ne_true)]
      have := h h' tk t hF hN
      rwa [Int.max_eq_left (by omega)] at this
end
theorem rep_mem {p : Int → Prop} {ind : List Int} (h : ∀ n ∈ ind, p n) (k : Nat) : ∀ n ∈ (List.replicate k ind).flatten, p n := by
  intro n hn
  obtain ⟨l, hl, hn⟩ := List.mem_flatten.mp hn
  rw [List.eq_of_mem_replicate hl] at hn
  exact h n hn
theorem bsAre_at : ∀ {vs : List Value} {xs : List (List Int)} {i : Nat} {v : Value}, BsAre vs xs → vs[i]? = some v → ∃ x t, xs[i]? = some x ∧ v = .bytes (byteArr x) t
  | [], _, i, _, _, h => by simp at h
  | _ :: vs, x :: xs, 0, v, h, e => by
    obtain ⟨⟨t, h1⟩, _⟩ := h
    simp at e
    exact ⟨x, t, by simp, by rw [← e, h1]⟩
  | _ :: vs, x :: xs, i + 1, v, h, e => by
    simp only [List.getElem?_cons_succ] at e ⊢
    exact bsAre_at h.2 e
  | _ :: vs, [], _, _, h, _ => h.elim
theorem bsAre_len : ∀ {vs : List Value} {xs : List (List Int)}, BsAre vs xs → vs.length = xs.length
  | [], [], _ => rfl
  | _ :: _, _ :: _, h => congrArg (· + 1) (bsAre_len h.2)
  | [], _ :: _, h => h.elim
  | _ :: _, [], h => h.elim
theorem news_back {h₀ h : Heap} {L : Addr} {a b c d e : Addr × Obj} {r : List (Addr × Obj)} (N : News h₀ L h (c :: d :: e :: a :: b :: r)) : News h₀ L h (a :: b :: c :: d :: e :: r) := fun p hp => N p (by
  simp only [List.mem_cons] at hp ⊢
  rcases hp with h | h | h | h | h | h <;> simp [h])
theorem page_turn {rows : List (List Int)} {R pre x : List Int} {i : Nat} (h : rows[i]? = some x) : pre ++ pageL (rows.take i) R ++ R ++ x ++ [10] = pre ++ pageL (rows.take (i + 1)) R := by
  obtain ⟨hi, rfl⟩ := List.getElem?_eq_some_iff.mp h
  rw [List.take_succ_eq_append_getElem hi, pageL_snoc]
  simp only [List.append_assoc]
theorem page_take_le (rows : List (List Int)) (R : List Int) (i : Nat) : (pageL (rows.take i) R).length ≤ (pageL rows R).length := by
  have := pageL_app (rows.take i) (rows.drop i) R
  rw [List.take_append_drop] at this
  rw [this, List.length_append]
  omega
theorem news_two {h₀ h : Heap} {L : Addr} {a b c d e : Addr × Obj} {r : List (Addr × Obj)} (N : News h₀ L h (a :: b :: c :: d :: e :: r)) : News h₀ L h (c :: d :: e :: a :: b :: r) := fun p hp => N p (by
  simp only [List.mem_cons] at hp ⊢
  rcases hp with h | h | h | h | h | h <;> simp [h])
theorem wbytes_ok (w : World) (W dW x dx B St : Addr) (bs ind ns : List Int) (lv : Int) (k1 k2 t tb tl ti j1 j2 j3 j4 j5 j6 j7 : Tok) (rest : List (Addr × Obj)) (hlen : bs.length ≤ 10000) (hl0 : 0 ≤ lv) (hl1 : lv ≤ 11) (hli : ind.length ≤ 2) (hin : KBa.In ns) (hns : ns.length ≤ 64) (h9 : ∀ n ∈ ind, n = 9 ∨ n = 32)
    (h1 : @LT.lt Nat _ dx x) (h2 : @LT.lt Nat _ x B) (h3 : @LT.lt Nat _ B dW) (h4 : @LT.lt Nat _ dW W) (h5 : @LT.lt Nat _ W St) (hal : ∀ p ∈ rest, @LT.lt Nat _ p.1 dx) :
    SaysC w 20 500 239 [.ref W, .bytes (byteArr ns) tb] (fun news => news = wLed w.params W dW x dx B St bs k1 k2 t #[] 0 lv ind tl ti j1 j2 j3 j4 j5 j6 j7 rest)
      (fun _ v news' => v = .none ∧ ∃ t' tl' n', news' = wLed w.params W dW x dx B St (bs ++ (List.replicate lv.toNat ind).flatten ++ [60, 100, 97, 116, 97, 62] ++ [10] ++ pageL (rowsL ns (3 * (max 16 (76 - colL (List.replicate lv.toNat ind).flatten) / 4))) (List.replicate lv.toNat ind).flatten ++ (List.replicate lv.toNat ind).flatten ++ [60, 47, 100, 97, 116, 97, 62] ++ [10]) k1 k2 t' #[] n' lv ind tl' ti j1 j2 j3 j4 j5 j6 j7 rest) := by
  have aB : ∀ p ∈ rest, p.1 ≠ B := fun p hp => Nat.ne_of_lt (by have := hal p hp; omega)
  have aD : ∀ p ∈ rest, p.1 ≠ dx := fun p hp => Nat.ne_of_lt (by have := hal p hp; omega)
  have aS : ∀ p ∈ rest, p.1 ≠ St := fun p hp => Nat.ne_of_lt (by have := hal p hp; omega)
  have aW : ∀ p ∈ rest, p.1 ≠ dW := fun p hp => Nat.ne_of_lt (by have := hal p hp; omega)
  have hmul : lv.toNat * ind.length ≤ 11 * 2 := Nat.mul_le_mul (by omega) hli
  have hR9 := rep_mem h9 lv.toNat
  have hRl := rep_len lv.toNat ind
  have hcol := col_le (List.replicate lv.toNat ind).flatten 0 (by decide)
  have hc0 : 0 ≤ colL (List.replicate lv.toNat ind).flatten := hcol.1
  have hw1 : 4 ≤ max 16 (76 - colL (List.replicate lv.toNat ind).flatten) := by omega
  have hw2 : max 16 (76 - colL (List.replicate lv.toNat ind).flatten) ≤ 100 := by omega
  have hfo : 4 ≤ max 16 (76 - colL (List.replicate lv.toNat ind).flatten) / 4 := by omega
  have hbare := page_bare hin hns (fo := max 16 (76 - colL (List.replicate lv.toNat ind).flatten) / 4) (by omega)
  have hfar := page_far hin hns hfo (bs := (List.replicate lv.toNat ind).flatten) (by omega)
  have hsg : ∀ r ∈ rowsL ns (3 * (max 16 (76 - colL (List.replicate lv.toNat ind).flatten) / 4)), ∀ c ∈ r, 0 ≤ c ∧ c < 256 ∧ c ≠ 10 := fun r hr c hc => by
    have q := rows_sign hin _ r hr c hc
    unfold SignOk at q
    omega
  unfold SaysC; k_fill; intro p loose mean mg mb dp un gd cn cs a ccd cl outer A₀ base h₀ L m news s Q E BW FW XW NW TW hk hd hu hP hret; subst hP; refine wpC_call ?_; k_dflt (refine' defC (binds := [(Str.ofString "self", .ref W), (Str.ofString "data", .bytes (byteArr ns) tb)]) ?k1 ?k2 ?k3 ?k4 ?k5 ?kA ?kF ?kK ?k6 ?k7 ?k8 ?k9 ?kB ?_ ?c2 ?c3 ?c4 ?c5; (case kA => exact rfl); (case kF => exact rfl); (case kK => assumption); (case k1 => k_asm); (case k2 => k_asm); (case k3 => k_asm); (case k4 => k_asm); (case k5 => k_asm); (case k6 => k_is); (case k7 => k_is); (case k8 => ktr_room); (case k9 => exact binds_peek (by k_in) (fun _ => by kernel_rfl)); (case c5 => decide); (case kB => exact locs rfl); (case c2 => exact rfl); (case c3 => exact rfl); (case c4 => exact rfl); k_whole; intro g' L' h' FG' F' N' B' X' T'; (try dsimp only); (try k_lift B'); (try k_fold))
  have hI0 : IntsAre ([] : List Value) [] := IntsAre.nil
  (k_with "call builtin:bytes.split" => ((rename Fr _ _ _ _ => F8); (rename News _ _ _ _ => N8); rw [encL_page (by assumption)]; (refine r_split F8 N8 (by assumption) (by omega) ?_); clear F8 N8; intro D5 vs5 h5' tk5 hb5 F5 N5 hD5))
  repeat' (first | (k_unfold; (try dsimp only)) | ((fail_if_success (with_reducible show Q _ _)); first | ((first | (((with_reducible show wpC _ _ (call (Value.ref 196) [_, Value.bytes (byteArr _) _]) _ _ _); (rename Fr _ _ _ _ => F'Zz); (rename News _ _ _ _ => N'Zz); k_dflt ((refine' SaysC.use (lineB_ok _ _ _ _ _ _ _ _ _ _ _ _ _ _ _ _ _ _ _ _ _ _ _ _ _ ?kb (by omega) ?kl0 ?kl1 ?kli (by omega) (by assumption) (by assumption) (by ((repeat' (first | assumption | refine List.forall_mem_cons.mpr ⟨?_, ?_⟩ | (show @Ne Nat _ _; omega))))) (by ((repeat' (first | assumption | refine List.forall_mem_cons.mpr ⟨?_, ?_⟩ | (show @Ne Nat _ _; omega))))) (by (first | ((first | exact List.Mem.head _ | exact List.Mem.tail _ (List.Mem.head _) | exact List.Mem.tail _ (List.Mem.tail _ (List.Mem.head _)) | exact List.Mem.tail _ (List.Mem.tail _ (List.Mem.tail _ (List.Mem.head _))) | exact List.Mem.tail _ (List.Mem.tail _ (List.Mem.tail _ (List.Mem.tail _ (List.Mem.head _)))))) | ((repeat (first | assumption | exact c64_lo _ | exact c64_hi _ | refine in_snoc ?_ ?_ ?_ | omega))))) (by (first | ((first | exact List.Mem.head _ | exact List.Mem.tail _ (List.Mem.head _) | exact List.Mem.tail _ (List.Mem.tail _ (List.Mem.head _)) | exact List.Mem.tail _ (List.Mem.tail _ (List.Mem.tail _ (List.Mem.head _))) | exact List.Mem.tail _ (List.Mem.tail _ (List.Mem.tail _ (List.Mem.tail _ (List.Mem.head _)))))) | ((repeat (first | assumption | exact c64_lo _ | exact c64_hi _ | refine in_snoc ?_ ?_ ?_ | omega)))))) ?k1 F'Zz ?k3 N'Zz ?k5 ?k6 ?k7 ?k8 rfl ?_); (case k1 => k_asm); (case k3 => k_asm); (case k5 => k_asm); (case k6 => first | exact rfl | assumption); (case k7 => ktr_room); (case k8 => ktr_units); (case kb => omega); (case kl0 => omega); (case kl1 => omega); (case kli => omega); (rintro v9Zz n9Zz h9Zz tk9Zz ⟨w9Zz, t9Zz, f9Zz⟩ F9Zz N9Zz); subst w9Zz; subst n9Zz; (try dsimp only); (try k_fold)))) | (((with_reducible show wpC _ _ (execs (Stmt.For _ _ _ _ _ :: _) _) _ _ _); (rename Fr _ _ _ _ => F'Zz); k_dflt (refine wpC_execs_cons (wpC_ForCF F'Zz rfl rfl rfl ?_ (by intro _; rfl) ?hE); (case hE => first | passes_own | with_unfolding_all passes_own)))) | (((with_reducible show wpC _ _ (call (Value.ref 181) _) _ _ _); (rename Fr _ _ _ _ => F'Zz); (rename News _ _ _ _ => N'Zz); k_dflt ((refine' SaysC.use (end_ok _ _ _ _ _ _ _ _ _ _ _ _ _ _ _ _ _ _ _ _ _ _ _ _ _ _ ?kb ?kl0 ?kl1 ?kli (by assumption) (by assumption) (by assumption) (by assumption) (by assumption) (by assumption)) ?k1 F'Zz ?k3 N'Zz ?k5 ?k6 ?k7 ?k8 rfl ?_); (case k1 => k_asm); (case k3 => k_asm); (case k5 => k_asm); (case k6 => first | exact rfl | assumption); (case k7 => ktr_room); (case k8 => ktr_units); (case kb => ((try simp only [List.length_append, List.length_cons, List.length_nil, rep_len]); omega)); (case kl0 => omega); (case kl1 => omega); (case kli => omega); (rintro v9Zz n9Zz h9Zz tk9Zz ⟨w9Zz, t9Zz, tl9Zz, m9Zz, f9Zz⟩ F9Zz N9Zz); subst w9Zz; subst n9Zz; (try dsimp only); (try k_fold)))) | (((with_reducible show wpC _ _ (call (Value.ref 174) _) _ _ _); (rename Fr _ _ _ _ => F'Zz); (rename News _ _ _ _ => N'Zz); k_dflt ((refine' SaysC.use (begin_ok _ _ _ _ _ _ _ _ _ _ _ _ _ _ _ _ _ _ _ _ _ _ _ _ ?kb ?kl0 ?kl1 ?kli (by assumption) (by assumption) (by assumption) (by assumption) (by assumption) (by assumption)) ?k1 F'Zz ?k3 N'Zz ?k5 ?k6 ?k7 ?k8 rfl ?_); (case k1 => k_asm); (case k3 => k_asm); (case k5 => k_asm); (case k6 => first | exact rfl | assumption); (case k7 => ktr_room); (case k8 => ktr_units); (case kb => ((try simp only [List.length_append, List.length_cons, List.length_nil, rep_len]); omega)); (case kl0 => omega); (case kl1 => omega); (case kli => omega); (rintro v9Zz n9Zz h9Zz tk9Zz ⟨w9Zz, t9Zz, tb9Zz, tl9Zz, m9Zz, f9Zz⟩ F9Zz N9Zz); subst w9Zz; subst n9Zz; (try dsimp only); (try k_fold)))) | (((first | (with_reducible show wpC _ _ (execs (Stmt.Expr (Expr.Call (Expr.Attribute _ (PySem.Str.ofString "append") _) _ _ _) _ :: _) _) _ _ _) | (with_reducible show wpC _ _ (execs (Stmt.AugAssign _ _ _ _ :: _) _) _ _ _)); refine wpC_execs_leaf ?_)) | ((first | ((with_reducible show wpC _ _ (execs (Stmt.If _ _ _ _ :: _) _) _ _ _); k_dflt (refine wpC_execs_cons (wpC_If ?_))) | ((with_reducible show wpC _ _ (execs (Stmt.Expr (Expr.Call (Expr.Attribute _ _ _) _ _ _) _ :: _) _) _ _ _); k_dflt (refine wpC_execs_cons (wpC_Expr (wpC_methodCall ?_)))) | ((with_reducible show wpC _ _ (callWith _ (Value.ref _) _ (backTo _ (starEach (_ :: _) _)) _) _ _ _); k_dflt (refine' wpC_callWith ?k1 ?k2 ?_; (case k1 => k_asm); (case k2 => k_is))))) | ((first | ((with_reducible show wpC _ _ (execs [] _) _ _ _); refine wpC_execs_nil ?_) | ((with_reducible show wpC _ _ (execs (Stmt.Assign [Expr.Attribute _ _ _] (Expr.IfExp _ _ _ _) _ :: _) _) _ _ _); k_dflt (refine wpC_execs_cons (wpC_Assign_Attribute ?_))) | ((with_reducible show wpC _ _ (execs (Stmt.Assign [Expr.Subscript _ _ _] _ _ :: _) _) _ _ _); k_dflt (refine wpC_execs_cons (wpC_Assign_Subscript ?_))) | ((with_reducible show wpC _ _ (execs (_ :: _) _) _ _ _); refine wpC_execs_leaf ?_) | ((with_reducible show wpC _ _ (eval (Expr.IfExp _ _ _ _) _) _ _ _); refine wpC_IfExp ?_) | ((with_reducible show wpC _ _ (eval (Expr.Call (Expr.Name _ _) [] [] _) _) _ _ _); refine wpC_callName ?_) | ((with_reducible show wpC _ _ (callWith _ (Value.type _) _ (backTo _ (starEach [] _)) _) _ _ _); refine wpC_callType0 ?_) | ((with_reducible show wpC _ _ (call (Value.type "bytearray") _) _ _ _); (rename Fr _ _ _ _ => F'Zz); (rename News _ _ _ _ => N'Zz); k_dflt (refine k_baNew0 F'Zz N'Zz ?_); intro B9Zz h9Zz F9Zz N9Zz l9Zz; k_lt l9Zz)))); (try dsimp only)) | (k_end; kc_close) | ((with_reducible show wpAny _ _ (binaryOp Operator.Mult (Value.bytes _ _) (Value.int _ _)) _ _ _); first | with_reducible (((with_reducible show wpAny _ _ (binaryOp Operator.Mult (Value.bytes (byteArr _) _) (Value.int _ _)) _ _ _); refine r_mulB (by omega) (by omega) (by omega) ?_; intro _ _))) | ((with_reducible show wpAny _ _ (call (Value.builtin "bytes.expandtabs") _) _ _ _); first | with_reducible (((refine r_exp (by assumption) (by omega) ?_); intro _ _))) | ((with_reducible show wpAny _ _ (call (Value.builtin "len") _) _ _ _); first | with_reducible (((with_reducible show wpAny _ _ (call (Value.builtin "len") [Value.bytes (Builtin.Bytes.expanded _ _) _]) _ _ _); (refine r_lenExp (by assumption) (by omega) ?_); intro _ _))) | ((with_reducible show wpAny _ _ (call (Value.builtin "max") _) _ _ _); first | with_reducible (((rename Fr _ _ _ _ => F'Zz); (rename News _ _ _ _ => N'Zz); refine r_max rfl F'Zz N'Zz ?_; clear F'Zz N'Zz; intro _ _ _ _ _))) | ((with_reducible show wpAny _ _ (call (Value.ref _) _) _ _ _); first | with_reducible (((with_reducible show wpAny _ _ (call (Value.ref 131) _) _ _ _); k_dflt (refine' Says.use (encode_ok _ _ _ _ _ (by assumption) (by assumption) (by assumption) (by assumption)) ?k1 ?k2 ?k3 ?k4 ?k5 ?k6 ?k7 ?k8 ?_; (((case k1 => k_asm); (case k2 => k_asm); (case k3 => k_asm); (case k4 => k_asm); (case k5 => k_asm); (case k6 => first | exact rfl | assumption); (case k7 => ktr_room); (case k8 => ktr_units); intro t9Zz h9Zz tk9Zz F9Zz N9Zz; (try dsimp only); (try k_fold))))))) | with_reducible ((first | (with_reducible refine gm_exp ?_) | (with_reducible refine gm_split ?_))) | with_reducible (((with_reducible refine gm_bjoin ?_))) | ((with_reducible show wpAny _ _ (inplaceOp Operator.Sub (Value.int _ _) (Value.int _ _)) _ _ _); first | with_reducible (((with_reducible show wpAny _ _ (inplaceOp _ (Value.int (_ + 1) _) (Value.int 1 _)) _ _ _); refine isub_int ?_; rw [Int.add_sub_cancel]))) | ((with_reducible show wpAny _ _ (truthy (Value.bytes _ _)) _ _ _); first | with_reducible ((first | ((with_reducible show wpAny _ _ (truthy (Value.bytes (byteArr []) _)) _ _ _); refine r_truthyB0 ?_; intro _) | ((with_reducible show wpAny _ _ (truthy (Value.bytes (byteArr _) _)) _ _ _); refine r_truthyB1 (by omega) (by omega) ?_; intro _)))) | walk1 | (dsimp only; first | ((with_reducible show wpAny _ _ (binaryOp Operator.Mult (Value.bytes _ _) (Value.int _ _)) _ _ _); first | with_reducible (((with_reducible show wpAny _ _ (binaryOp Operator.Mult (Value.bytes (byteArr _) _) (Value.int _ _)) _ _ _); refine r_mulB (by omega) (by omega) (by omega) ?_; intro _ _))) | ((with_reducible show wpAny _ _ (call (Value.builtin "bytes.expandtabs") _) _ _ _); first | with_reducible (((refine r_exp (by assumption) (by omega) ?_); intro _ _))) | ((with_reducible show wpAny _ _ (call (Value.builtin "len") _) _ _ _); first | with_reducible (((with_reducible show wpAny _ _ (call (Value.builtin "len") [Value.bytes (Builtin.Bytes.expanded _ _) _]) _ _ _); (refine r_lenExp (by assumption) (by omega) ?_); intro _ _))) | ((with_reducible show wpAny _ _ (call (Value.builtin "max") _) _ _ _); first | with_reducible (((rename Fr _ _ _ _ => F'Zz); (rename News _ _ _ _ => N'Zz); refine r_max rfl F'Zz N'Zz ?_; clear F'Zz N'Zz; intro _ _ _ _ _))) | ((with_reducible show wpAny _ _ (call (Value.ref _) _) _ _ _); first | with_reducible (((with_reducible show wpAny _ _ (call (Value.ref 131) _) _ _ _); k_dflt (refine' Says.use (encode_ok _ _ _ _ _ (by assumption) (by assumption) (by assumption) (by assumption)) ?k1 ?k2 ?k3 ?k4 ?k5 ?k6 ?k7 ?k8 ?_; (((case k1 => k_asm); (case k2 => k_asm); (case k3 => k_asm); (case k4 => k_asm); (case k5 => k_asm); (case k6 => first | exact rfl | assumption); (case k7 => ktr_room); (case k8 => ktr_units); intro t9Zz h9Zz tk9Zz F9Zz N9Zz; (try dsimp only); (try k_fold))))))) | with_reducible ((first | (with_reducible refine gm_exp ?_) | (with_reducible refine gm_split ?_))) | with_reducible (((with_reducible refine gm_bjoin ?_))) | ((with_reducible show wpAny _ _ (inplaceOp Operator.Sub (Value.int _ _) (Value.int _ _)) _ _ _); first | with_reducible (((with_reducible show wpAny _ _ (inplaceOp _ (Value.int (_ + 1) _) (Value.int 1 _)) _ _ _); refine isub_int ?_; rw [Int.add_sub_cancel]))) | ((with_reducible show wpAny _ _ (truthy (Value.bytes _ _)) _ _ _); first | with_reducible ((first | ((with_reducible show wpAny _ _ (truthy (Value.bytes (byteArr []) _)) _ _ _); refine r_truthyB0 ?_; intro _) | ((with_reducible show wpAny _ _ (truthy (Value.bytes (byteArr _) _)) _ _ _); refine r_truthyB1 (by omega) (by omega) ?_; intro _)))) | walk1) | (leave1; (try dsimp only)) | fail "no step"))
  have hlx : @LT.lt Nat _ B D5 := hD5 _ (.head _)
  refine ⟨[], D5, vs5, 0, _, _, fun I i news' => ∃ t8 tb8 n8 tl8, news' = (D5, listOf vs5.toArray 0) :: wLed w.params W dW x dx B St (bs ++ (List.replicate lv.toNat ind).flatten ++ [60, 100, 97, 116, 97, 62] ++ [10] ++ pageL ((rowsL ns (3 * (max 16 (76 - colL (List.replicate lv.toNat ind).flatten) / 4))).take i) (List.replicate lv.toNat ind).flatten) k1 k2 t8 #[Value.str (Str.ofString "data") tb8] n8 lv ind tl8 ti j1 j2 j3 j4 j5 j6 j7 rest, rfl, .head _, F5, N5, fun I hI => ⟨?_, ?_, ?_, ?_⟩⟩
  · exact ⟨_, _, _, _, by rw [List.take_zero, show pageL [] (List.replicate lv.toNat ind).flatten = [] from rfl, List.append_nil]⟩
  · rintro i n8 ⟨t8, tb8, m8, tl8, rfl⟩
    have hDI : @LT.lt Nat _ D5 I := hI _ (.head _)
    refine ⟨.head _, ?_⟩
    have hdI : @LT.lt Nat _ St I := hI _ (.tail _ (.tail _ (.tail _ (.tail _ (.head _)))))
    have hrI : ∀ p ∈ rest, p.1 ≠ I := fun p hp => Nat.ne_of_lt (by have := hal p hp; omega)
    ((repeat' (first | assumption | refine List.forall_mem_cons.mpr ⟨?_, ?_⟩ | (show @Ne Nat _ _; omega))))
  · rintro i v n8 u h tk o hv ⟨t8, tb8, m8, tl8, rfl⟩ F6 N6
    replace N6 := news_two N6
    have hDI : @LT.lt Nat _ D5 I := hI _ (.head _)
    have hlp := page_take_le (rowsL ns (3 * (max 16 (76 - colL (List.replicate lv.toNat ind).flatten) / 4))) (List.replicate lv.toNat ind).flatten i
    obtain ⟨l, tl, hl, rfl⟩ := bsAre_at hb5 hv
    have hpre : (bs ++ (List.replicate lv.toNat ind).flatten ++ [60, 100, 97, 116, 97, 62] ++ [10] ++ pageL ((rowsL ns (3 * (max 16 (76 - colL (List.replicate lv.toNat ind).flatten) / 4))).take i) (List.replicate lv.toNat ind).flatten).length ≤ 20000 := by
      simp only [List.length_append, List.length_cons, List.length_nil]; omega
    rcases Nat.lt_or_ge i (rowsL ns (3 * (max 16 (76 - colL (List.replicate lv.toNat ind).flatten) / 4))).length with hi | hi
    · rw [List.getElem?_append_left hi] at hl
      have hne := rows_ne hin (m := 3 * (max 16 (76 - colL (List.replicate lv.toNat ind).flatten) / 4)) (by omega) l (List.mem_of_getElem? hl)
      have hsh := rows_short hin hns (fo := max 16 (76 - colL (List.replicate lv.toNat ind).flatten) / 4) (by omega) l (List.mem_of_getElem? hl)
      repeat' (first | (k_unfold; (try dsimp only)) | ((fail_if_success (with_reducible show Q _ _)); first | ((first | (((with_reducible show wpC _ _ (call (Value.ref 196) [_, Value.bytes (byteArr _) _]) _ _ _); (rename Fr _ _ _ _ => F'Zz); (rename News _ _ _ _ => N'Zz); k_dflt ((refine' SaysC.use (lineB_ok _ _ _ _ _ _ _ _ _ _ _ _ _ _ _ _ _ _ _ _ _ _ _ _ _ ?kb (by omega) ?kl0 ?kl1 ?kli (by omega) (by assumption) (by assumption) (by ((repeat' (first | assumption | refine List.forall_mem_cons.mpr ⟨?_, ?_⟩ | (show @Ne Nat _ _; omega))))) (by ((repeat' (first | assumption | refine List.forall_mem_cons.mpr ⟨?_, ?_⟩ | (show @Ne Nat _ _; omega))))) (by (first | ((first | exact List.Mem.head _ | exact List.Mem.tail _ (List.Mem.head _) | exact List.Mem.tail _ (List.Mem.tail _ (List.Mem.head _)) | exact List.Mem.tail _ (List.Mem.tail _ (List.Mem.tail _ (List.Mem.head _))) | exact List.Mem.tail _ (List.Mem.tail _ (List.Mem.tail _ (List.Mem.tail _ (List.Mem.head _)))))) | ((repeat (first | assumption | exact c64_lo _ | exact c64_hi _ | refine in_snoc ?_ ?_ ?_ | omega))))) (by (first | ((first | exact List.Mem.head _ | exact List.Mem.tail _ (List.Mem.head _) | exact List.Mem.tail _ (List.Mem.tail _ (List.Mem.head _)) | exact List.Mem.tail _ (List.Mem.tail _ (List.Mem.tail _ (List.Mem.head _))) | exact List.Mem.tail _ (List.Mem.tail _ (List.Mem.tail _ (List.Mem.tail _ (List.Mem.head _)))))) | ((repeat (first | assumption | exact c64_lo _ | exact c64_hi _ | refine in_snoc ?_ ?_ ?_ | omega)))))) ?k1 F'Zz ?k3 N'Zz ?k5 ?k6 ?k7 ?k8 rfl ?_); (case k1 => k_asm); (case k3 => k_asm); (case k5 => k_asm); (case k6 => first | exact rfl | assumption); (case k7 => ktr_room); (case k8 => ktr_units); (case kb => omega); (case kl0 => omega); (case kl1 => omega); (case kli => omega); (rintro v9Zz n9Zz h9Zz tk9Zz ⟨w9Zz, t9Zz, f9Zz⟩ F9Zz N9Zz); subst w9Zz; subst n9Zz; (try dsimp only); (try k_fold)))) | (((with_reducible show wpC _ _ (execs (Stmt.For _ _ _ _ _ :: _) _) _ _ _); (rename Fr _ _ _ _ => F'Zz); k_dflt (refine wpC_execs_cons (wpC_ForCF F'Zz rfl rfl rfl ?_ (by intro _; rfl) ?hE); (case hE => first | passes_own | with_unfolding_all passes_own)))) | (((with_reducible show wpC _ _ (call (Value.ref 181) _) _ _ _); (rename Fr _ _ _ _ => F'Zz); (rename News _ _ _ _ => N'Zz); k_dflt ((refine' SaysC.use (end_ok _ _ _ _ _ _ _ _ _ _ _ _ _ _ _ _ _ _ _ _ _ _ _ _ _ _ ?kb ?kl0 ?kl1 ?kli (by assumption) (by assumption) (by assumption) (by assumption) (by assumption) (by assumption)) ?k1 F'Zz ?k3 N'Zz ?k5 ?k6 ?k7 ?k8 rfl ?_); (case k1 => k_asm); (case k3 => k_asm); (case k5 => k_asm); (case k6 => first | exact rfl | assumption); (case k7 => ktr_room); (case k8 => ktr_units); (case kb => ((try simp only [List.length_append, List.length_cons, List.length_nil, rep_len]); omega)); (case kl0 => omega); (case kl1 => omega); (case kli => omega); (rintro v9Zz n9Zz h9Zz tk9Zz ⟨w9Zz, t9Zz, tl9Zz, m9Zz, f9Zz⟩ F9Zz N9Zz); subst w9Zz; subst n9Zz; (try dsimp only); (try k_fold)))) | (((with_reducible show wpC _ _ (call (Value.ref 174) _) _ _ _); (rename Fr _ _ _ _ => F'Zz); (rename News _ _ _ _ => N'Zz); k_dflt ((refine' SaysC.use (begin_ok _ _ _ _ _ _ _ _ _ _ _ _ _ _ _ _ _ _ _ _ _ _ _ _ ?kb ?kl0 ?kl1 ?kli (by assumption) (by assumption) (by assumption) (by assumption) (by assumption) (by assumption)) ?k1 F'Zz ?k3 N'Zz ?k5 ?k6 ?k7 ?k8 rfl ?_); (case k1 => k_asm); (case k3 => k_asm); (case k5 => k_asm); (case k6 => first | exact rfl | assumption); (case k7 => ktr_room); (case k8 => ktr_units); (case kb => ((try simp only [List.length_append, List.length_cons, List.length_nil, rep_len]); omega)); (case kl0 => omega); (case kl1 => omega); (case kli => omega); (rintro v9Zz n9Zz h9Zz tk9Zz ⟨w9Zz, t9Zz, tb9Zz, tl9Zz, m9Zz, f9Zz⟩ F9Zz N9Zz); subst w9Zz; subst n9Zz; (try dsimp only); (try k_fold)))) | (((first | (with_reducible show wpC _ _ (execs (Stmt.Expr (Expr.Call (Expr.Attribute _ (PySem.Str.ofString "append") _) _ _ _) _ :: _) _) _ _ _) | (with_reducible show wpC _ _ (execs (Stmt.AugAssign _ _ _ _ :: _) _) _ _ _)); refine wpC_execs_leaf ?_)) | ((first | ((with_reducible show wpC _ _ (execs (Stmt.If _ _ _ _ :: _) _) _ _ _); k_dflt (refine wpC_execs_cons (wpC_If ?_))) | ((with_reducible show wpC _ _ (execs (Stmt.Expr (Expr.Call (Expr.Attribute _ _ _) _ _ _) _ :: _) _) _ _ _); k_dflt (refine wpC_execs_cons (wpC_Expr (wpC_methodCall ?_)))) | ((with_reducible show wpC _ _ (callWith _ (Value.ref _) _ (backTo _ (starEach (_ :: _) _)) _) _ _ _); k_dflt (refine' wpC_callWith ?k1 ?k2 ?_; (case k1 => k_asm); (case k2 => k_is))))) | ((first | ((with_reducible show wpC _ _ (execs [] _) _ _ _); refine wpC_execs_nil ?_) | ((with_reducible show wpC _ _ (execs (Stmt.Assign [Expr.Attribute _ _ _] (Expr.IfExp _ _ _ _) _ :: _) _) _ _ _); k_dflt (refine wpC_execs_cons (wpC_Assign_Attribute ?_))) | ((with_reducible show wpC _ _ (execs (Stmt.Assign [Expr.Subscript _ _ _] _ _ :: _) _) _ _ _); k_dflt (refine wpC_execs_cons (wpC_Assign_Subscript ?_))) | ((with_reducible show wpC _ _ (execs (_ :: _) _) _ _ _); refine wpC_execs_leaf ?_) | ((with_reducible show wpC _ _ (eval (Expr.IfExp _ _ _ _) _) _ _ _); refine wpC_IfExp ?_) | ((with_reducible show wpC _ _ (eval (Expr.Call (Expr.Name _ _) [] [] _) _) _ _ _); refine wpC_callName ?_) | ((with_reducible show wpC _ _ (callWith _ (Value.type _) _ (backTo _ (starEach [] _)) _) _ _ _); refine wpC_callType0 ?_) | ((with_reducible show wpC _ _ (call (Value.type "bytearray") _) _ _ _); (rename Fr _ _ _ _ => F'Zz); (rename News _ _ _ _ => N'Zz); k_dflt (refine k_baNew0 F'Zz N'Zz ?_); intro B9Zz h9Zz F9Zz N9Zz l9Zz; k_lt l9Zz)))); (try dsimp only)) | (k_end; kc_close) | ((with_reducible show wpAny _ _ (binaryOp Operator.Mult (Value.bytes _ _) (Value.int _ _)) _ _ _); first | with_reducible (((with_reducible show wpAny _ _ (binaryOp Operator.Mult (Value.bytes (byteArr _) _) (Value.int _ _)) _ _ _); refine r_mulB (by omega) (by omega) (by omega) ?_; intro _ _))) | ((with_reducible show wpAny _ _ (call (Value.builtin "bytes.expandtabs") _) _ _ _); first | with_reducible (((refine r_exp (by assumption) (by omega) ?_); intro _ _))) | ((with_reducible show wpAny _ _ (call (Value.builtin "len") _) _ _ _); first | with_reducible (((with_reducible show wpAny _ _ (call (Value.builtin "len") [Value.bytes (Builtin.Bytes.expanded _ _) _]) _ _ _); (refine r_lenExp (by assumption) (by omega) ?_); intro _ _))) | ((with_reducible show wpAny _ _ (call (Value.builtin "max") _) _ _ _); first | with_reducible (((rename Fr _ _ _ _ => F'Zz); (rename News _ _ _ _ => N'Zz); refine r_max rfl F'Zz N'Zz ?_; clear F'Zz N'Zz; intro _ _ _ _ _))) | ((with_reducible show wpAny _ _ (call (Value.ref _) _) _ _ _); first | with_reducible (((with_reducible show wpAny _ _ (call (Value.ref 131) _) _ _ _); k_dflt (refine' Says.use (encode_ok _ _ _ _ _ (by assumption) (by assumption) (by assumption) (by assumption)) ?k1 ?k2 ?k3 ?k4 ?k5 ?k6 ?k7 ?k8 ?_; (((case k1 => k_asm); (case k2 => k_asm); (case k3 => k_asm); (case k4 => k_asm); (case k5 => k_asm); (case k6 => first | exact rfl | assumption); (case k7 => ktr_room); (case k8 => ktr_units); intro t9Zz h9Zz tk9Zz F9Zz N9Zz; (try dsimp only); (try k_fold))))))) | with_reducible ((first | (with_reducible refine gm_exp ?_) | (with_reducible refine gm_split ?_))) | with_reducible (((with_reducible refine gm_bjoin ?_))) | ((with_reducible show wpAny _ _ (inplaceOp Operator.Sub (Value.int _ _) (Value.int _ _)) _ _ _); first | with_reducible (((with_reducible show wpAny _ _ (inplaceOp _ (Value.int (_ + 1) _) (Value.int 1 _)) _ _ _); refine isub_int ?_; rw [Int.add_sub_cancel]))) | ((with_reducible show wpAny _ _ (truthy (Value.bytes _ _)) _ _ _); first | with_reducible ((first | ((with_reducible show wpAny _ _ (truthy (Value.bytes (byteArr []) _)) _ _ _); refine r_truthyB0 ?_; intro _) | ((with_reducible show wpAny _ _ (truthy (Value.bytes (byteArr _) _)) _ _ _); refine r_truthyB1 (by omega) (by omega) ?_; intro _)))) | walk1 | (dsimp only; first | ((with_reducible show wpAny _ _ (binaryOp Operator.Mult (Value.bytes _ _) (Value.int _ _)) _ _ _); first | with_reducible (((with_reducible show wpAny _ _ (binaryOp Operator.Mult (Value.bytes (byteArr _) _) (Value.int _ _)) _ _ _); refine r_mulB (by omega) (by omega) (by omega) ?_; intro _ _))) | ((with_reducible show wpAny _ _ (call (Value.builtin "bytes.expandtabs") _) _ _ _); first | with_reducible (((refine r_exp (by assumption) (by omega) ?_); intro _ _))) | ((with_reducible show wpAny _ _ (call (Value.builtin "len") _) _ _ _); first | with_reducible (((with_reducible show wpAny _ _ (call (Value.builtin "len") [Value.bytes (Builtin.Bytes.expanded _ _) _]) _ _ _); (refine r_lenExp (by assumption) (by omega) ?_); intro _ _))) | ((with_reducible show wpAny _ _ (call (Value.builtin "max") _) _ _ _); first | with_reducible (((rename Fr _ _ _ _ => F'Zz); (rename News _ _ _ _ => N'Zz); refine r_max rfl F'Zz N'Zz ?_; clear F'Zz N'Zz; intro _ _ _ _ _))) | ((with_reducible show wpAny _ _ (call (Value.ref _) _) _ _ _); first | with_reducible (((with_reducible show wpAny _ _ (call (Value.ref 131) _) _ _ _); k_dflt (refine' Says.use (encode_ok _ _ _ _ _ (by assumption) (by assumption) (by assumption) (by assumption)) ?k1 ?k2 ?k3 ?k4 ?k5 ?k6 ?k7 ?k8 ?_; (((case k1 => k_asm); (case k2 => k_asm); (case k3 => k_asm); (case k4 => k_asm); (case k5 => k_asm); (case k6 => first | exact rfl | assumption); (case k7 => ktr_room); (case k8 => ktr_units); intro t9Zz h9Zz tk9Zz F9Zz N9Zz; (try dsimp only); (try k_fold))))))) | with_reducible ((first | (with_reducible refine gm_exp ?_) | (with_reducible refine gm_split ?_))) | with_reducible (((with_reducible refine gm_bjoin ?_))) | ((with_reducible show wpAny _ _ (inplaceOp Operator.Sub (Value.int _ _) (Value.int _ _)) _ _ _); first | with_reducible (((with_reducible show wpAny _ _ (inplaceOp _ (Value.int (_ + 1) _) (Value.int 1 _)) _ _ _); refine isub_int ?_; rw [Int.add_sub_cancel]))) | ((with_reducible show wpAny _ _ (truthy (Value.bytes _ _)) _ _ _); first | with_reducible ((first | ((with_reducible show wpAny _ _ (truthy (Value.bytes (byteArr []) _)) _ _ _); refine r_truthyB0 ?_; intro _) | ((with_reducible show wpAny _ _ (truthy (Value.bytes (byteArr _) _)) _ _ _); refine r_truthyB1 (by omega) (by omega) ?_; intro _)))) | walk1) | (leave1; (try dsimp only)) | fail "no step"))
      refine ⟨rfl, _, _, _, _, rfl, by k_asm, news_back (by k_asm), ⟨_, _, _, _, by rw [page_turn hl]⟩, fun z h1 h2 => ?_⟩
      show (if z = _ then _ else if _ then _ else _) = _
      rw [if_neg h1, if_neg (by rw [h2]; exact Bool.false_ne_true)]
    · rw [List.getElem?_append_right hi] at hl
      have hi0 : i - (rowsL ns (3 * (max 16 (76 - colL (List.replicate lv.toNat ind).flatten) / 4))).length = 0 := by
        have := (List.getElem?_eq_some_iff.mp hl).1
        simp only [List.length_cons, List.length_nil] at this
        omega
      rw [hi0] at hl
      simp only [List.getElem?_cons_zero, Option.some.injEq] at hl
      subst hl
      repeat' (first | (k_unfold; (try dsimp only)) | ((fail_if_success (with_reducible show Q _ _)); first | ((first | (((with_reducible show wpC _ _ (call (Value.ref 196) [_, Value.bytes (byteArr _) _]) _ _ _); (rename Fr _ _ _ _ => F'Zz); (rename News _ _ _ _ => N'Zz); k_dflt ((refine' SaysC.use (lineB_ok _ _ _ _ _ _ _ _ _ _ _ _ _ _ _ _ _ _ _ _ _ _ _ _ _ ?kb (by omega) ?kl0 ?kl1 ?kli (by omega) (by assumption) (by assumption) (by ((repeat' (first | assumption | refine List.forall_mem_cons.mpr ⟨?_, ?_⟩ | (show @Ne Nat _ _; omega))))) (by ((repeat' (first | assumption | refine List.forall_mem_cons.mpr ⟨?_, ?_⟩ | (show @Ne Nat _ _; omega))))) (by (first | ((first | exact List.Mem.head _ | exact List.Mem.tail _ (List.Mem.head _) | exact List.Mem.tail _ (List.Mem.tail _ (List.Mem.head _)) | exact List.Mem.tail _ (List.Mem.tail _ (List.Mem.tail _ (List.Mem.head _))) | exact List.Mem.tail _ (List.Mem.tail _ (List.Mem.tail _ (List.Mem.tail _ (List.Mem.head _)))))) | ((repeat (first | assumption | exact c64_lo _ | exact c64_hi _ | refine in_snoc ?_ ?_ ?_ | omega))))) (by (first | ((first | exact List.Mem.head _ | exact List.Mem.tail _ (List.Mem.head _) | exact List.Mem.tail _ (List.Mem.tail _ (List.Mem.head _)) | exact List.Mem.tail _ (List.Mem.tail _ (List.Mem.tail _ (List.Mem.head _))) | exact List.Mem.tail _ (List.Mem.tail _ (List.Mem.tail _ (List.Mem.tail _ (List.Mem.head _)))))) | ((repeat (first | assumption | exact c64_lo _ | exact c64_hi _ | refine in_snoc ?_ ?_ ?_ | omega)))))) ?k1 F'Zz ?k3 N'Zz ?k5 ?k6 ?k7 ?k8 rfl ?_); (case k1 => k_asm); (case k3 => k_asm); (case k5 => k_asm); (case k6 => first | exact rfl | assumption); (case k7 => ktr_room); (case k8 => ktr_units); (case kb => omega); (case kl0 => omega); (case kl1 => omega); (case kli => omega); (rintro v9Zz n9Zz h9Zz tk9Zz ⟨w9Zz, t9Zz, f9Zz⟩ F9Zz N9Zz); subst w9Zz; subst n9Zz; (try dsimp only); (try k_fold)))) | (((with_reducible show wpC _ _ (execs (Stmt.For _ _ _ _ _ :: _) _) _ _ _); (rename Fr _ _ _ _ => F'Zz); k_dflt (refine wpC_execs_cons (wpC_ForCF F'Zz rfl rfl rfl ?_ (by intro _; rfl) ?hE); (case hE => first | passes_own | with_unfolding_all passes_own)))) | (((with_reducible show wpC _ _ (call (Value.ref 181) _) _ _ _); (rename Fr _ _ _ _ => F'Zz); (rename News _ _ _ _ => N'Zz); k_dflt ((refine' SaysC.use (end_ok _ _ _ _ _ _ _ _ _ _ _ _ _ _ _ _ _ _ _ _ _ _ _ _ _ _ ?kb ?kl0 ?kl1 ?kli (by assumption) (by assumption) (by assumption) (by assumption) (by assumption) (by assumption)) ?k1 F'Zz ?k3 N'Zz ?k5 ?k6 ?k7 ?k8 rfl ?_); (case k1 => k_asm); (case k3 => k_asm); (case k5 => k_asm); (case k6 => first | exact rfl | assumption); (case k7 => ktr_room); (case k8 => ktr_units); (case kb => ((try simp only [List.length_append, List.length_cons, List.length_nil, rep_len]); omega)); (case kl0 => omega); (case kl1 => omega); (case kli => omega); (rintro v9Zz n9Zz h9Zz tk9Zz ⟨w9Zz, t9Zz, tl9Zz, m9Zz, f9Zz⟩ F9Zz N9Zz); subst w9Zz; subst n9Zz; (try dsimp only); (try k_fold)))) | (((with_reducible show wpC _ _ (call (Value.ref 174) _) _ _ _); (rename Fr _ _ _ _ => F'Zz); (rename News _ _ _ _ => N'Zz); k_dflt ((refine' SaysC.use (begin_ok _ _ _ _ _ _ _ _ _ _ _ _ _ _ _ _ _ _ _ _ _ _ _ _ ?kb ?kl0 ?kl1 ?kli (by assumption) (by assumption) (by assumption) (by assumption) (by assumption) (by assumption)) ?k1 F'Zz ?k3 N'Zz ?k5 ?k6 ?k7 ?k8 rfl ?_); (case k1 => k_asm); (case k3 => k_asm); (case k5 => k_asm); (case k6 => first | exact rfl | assumption); (case k7 => ktr_room); (case k8 => ktr_units); (case kb => ((try simp only [List.length_append, List.length_cons, List.length_nil, rep_len]); omega)); (case kl0 => omega); (case kl1 => omega); (case kli => omega); (rintro v9Zz n9Zz h9Zz tk9Zz ⟨w9Zz, t9Zz, tb9Zz, tl9Zz, m9Zz, f9Zz⟩ F9Zz N9Zz); subst w9Zz; subst n9Zz; (try dsimp only); (try k_fold)))) | (((first | (with_reducible show wpC _ _ (execs (Stmt.Expr (Expr.Call (Expr.Attribute _ (PySem.Str.ofString "append") _) _ _ _) _ :: _) _) _ _ _) | (with_reducible show wpC _ _ (execs (Stmt.AugAssign _ _ _ _ :: _) _) _ _ _)); refine wpC_execs_leaf ?_)) | ((first | ((with_reducible show wpC _ _ (execs (Stmt.If _ _ _ _ :: _) _) _ _ _); k_dflt (refine wpC_execs_cons (wpC_If ?_))) | ((with_reducible show wpC _ _ (execs (Stmt.Expr (Expr.Call (Expr.Attribute _ _ _) _ _ _) _ :: _) _) _ _ _); k_dflt (refine wpC_execs_cons (wpC_Expr (wpC_methodCall ?_)))) | ((with_reducible show wpC _ _ (callWith _ (Value.ref _) _ (backTo _ (starEach (_ :: _) _)) _) _ _ _); k_dflt (refine' wpC_callWith ?k1 ?k2 ?_; (case k1 => k_asm); (case k2 => k_is))))) | ((first | ((with_reducible show wpC _ _ (execs [] _) _ _ _); refine wpC_execs_nil ?_) | ((with_reducible show wpC _ _ (execs (Stmt.Assign [Expr.Attribute _ _ _] (Expr.IfExp _ _ _ _) _ :: _) _) _ _ _); k_dflt (refine wpC_execs_cons (wpC_Assign_Attribute ?_))) | ((with_reducible show wpC _ _ (execs (Stmt.Assign [Expr.Subscript _ _ _] _ _ :: _) _) _ _ _); k_dflt (refine wpC_execs_cons (wpC_Assign_Subscript ?_))) | ((with_reducible show wpC _ _ (execs (_ :: _) _) _ _ _); refine wpC_execs_leaf ?_) | ((with_reducible show wpC _ _ (eval (Expr.IfExp _ _ _ _) _) _ _ _); refine wpC_IfExp ?_) | ((with_reducible show wpC _ _ (eval (Expr.Call (Expr.Name _ _) [] [] _) _) _ _ _); refine wpC_callName ?_) | ((with_reducible show wpC _ _ (callWith _ (Value.type _) _ (backTo _ (starEach [] _)) _) _ _ _); refine wpC_callType0 ?_) | ((with_reducible show wpC _ _ (call (Value.type "bytearray") _) _ _ _); (rename Fr _ _ _ _ => F'Zz); (rename News _ _ _ _ => N'Zz); k_dflt (refine k_baNew0 F'Zz N'Zz ?_); intro B9Zz h9Zz F9Zz N9Zz l9Zz; k_lt l9Zz)))); (try dsimp only)) | (k_end; kc_close) | ((with_reducible show wpAny _ _ (binaryOp Operator.Mult (Value.bytes _ _) (Value.int _ _)) _ _ _); first | with_reducible (((with_reducible show wpAny _ _ (binaryOp Operator.Mult (Value.bytes (byteArr _) _) (Value.int _ _)) _ _ _); refine r_mulB (by omega) (by omega) (by omega) ?_; intro _ _))) | ((with_reducible show wpAny _ _ (call (Value.builtin "bytes.expandtabs") _) _ _ _); first | with_reducible (((refine r_exp (by assumption) (by omega) ?_); intro _ _))) | ((with_reducible show wpAny _ _ (call (Value.builtin "len") _) _ _ _); first | with_reducible (((with_reducible show wpAny _ _ (call (Value.builtin "len") [Value.bytes (Builtin.Bytes.expanded _ _) _]) _ _ _); (refine r_lenExp (by assumption) (by omega) ?_); intro _ _))) | ((with_reducible show wpAny _ _ (call (Value.builtin "max") _) _ _ _); first | with_reducible (((rename Fr _ _ _ _ => F'Zz); (rename News _ _ _ _ => N'Zz); refine r_max rfl F'Zz N'Zz ?_; clear F'Zz N'Zz; intro _ _ _ _ _))) | ((with_reducible show wpAny _ _ (call (Value.ref _) _) _ _ _); first | with_reducible (((with_reducible show wpAny _ _ (call (Value.ref 131) _) _ _ _); k_dflt (refine' Says.use (encode_ok _ _ _ _ _ (by assumption) (by assumption) (by assumption) (by assumption)) ?k1 ?k2 ?k3 ?k4 ?k5 ?k6 ?k7 ?k8 ?_; (((case k1 => k_asm); (case k2 => k_asm); (case k3 => k_asm); (case k4 => k_asm); (case k5 => k_asm); (case k6 => first | exact rfl | assumption); (case k7 => ktr_room); (case k8 => ktr_units); intro t9Zz h9Zz tk9Zz F9Zz N9Zz; (try dsimp only); (try k_fold))))))) | with_reducible ((first | (with_reducible refine gm_exp ?_) | (with_reducible refine gm_split ?_))) | with_reducible (((with_reducible refine gm_bjoin ?_))) | ((with_reducible show wpAny _ _ (inplaceOp Operator.Sub (Value.int _ _) (Value.int _ _)) _ _ _); first | with_reducible (((with_reducible show wpAny _ _ (inplaceOp _ (Value.int (_ + 1) _) (Value.int 1 _)) _ _ _); refine isub_int ?_; rw [Int.add_sub_cancel]))) | ((with_reducible show wpAny _ _ (truthy (Value.bytes _ _)) _ _ _); first | with_reducible ((first | ((with_reducible show wpAny _ _ (truthy (Value.bytes (byteArr []) _)) _ _ _); refine r_truthyB0 ?_; intro _) | ((with_reducible show wpAny _ _ (truthy (Value.bytes (byteArr _) _)) _ _ _); refine r_truthyB1 (by omega) (by omega) ?_; intro _)))) | walk1 | (dsimp only; first | ((with_reducible show wpAny _ _ (binaryOp Operator.Mult (Value.bytes _ _) (Value.int _ _)) _ _ _); first | with_reducible (((with_reducible show wpAny _ _ (binaryOp Operator.Mult (Value.bytes (byteArr _) _) (Value.int _ _)) _ _ _); refine r_mulB (by omega) (by omega) (by omega) ?_; intro _ _))) | ((with_reducible show wpAny _ _ (call (Value.builtin "bytes.expandtabs") _) _ _ _); first | with_reducible (((refine r_exp (by assumption) (by omega) ?_); intro _ _))) | ((with_reducible show wpAny _ _ (call (Value.builtin "len") _) _ _ _); first | with_reducible (((with_reducible show wpAny _ _ (call (Value.builtin "len") [Value.bytes (Builtin.Bytes.expanded _ _) _]) _ _ _); (refine r_lenExp (by assumption) (by omega) ?_); intro _ _))) | ((with_reducible show wpAny _ _ (call (Value.builtin "max") _) _ _ _); first | with_reducible (((rename Fr _ _ _ _ => F'Zz); (rename News _ _ _ _ => N'Zz); refine r_max rfl F'Zz N'Zz ?_; clear F'Zz N'Zz; intro _ _ _ _ _))) | ((with_reducible show wpAny _ _ (call (Value.ref _) _) _ _ _); first | with_reducible (((with_reducible show wpAny _ _ (call (Value.ref 131) _) _ _ _); k_dflt (refine' Says.use (encode_ok _ _ _ _ _ (by assumption) (by assumption) (by assumption) (by assumption)) ?k1 ?k2 ?k3 ?k4 ?k5 ?k6 ?k7 ?k8 ?_; (((case k1 => k_asm); (case k2 => k_asm); (case k3 => k_asm); (case k4 => k_asm); (case k5 => k_asm); (case k6 => first | exact rfl | assumption); (case k7 => ktr_room); (case k8 => ktr_units); intro t9Zz h9Zz tk9Zz F9Zz N9Zz; (try dsimp only); (try k_fold))))))) | with_reducible ((first | (with_reducible refine gm_exp ?_) | (with_reducible refine gm_split ?_))) | with_reducible (((with_reducible refine gm_bjoin ?_))) | ((with_reducible show wpAny _ _ (inplaceOp Operator.Sub (Value.int _ _) (Value.int _ _)) _ _ _); first | with_reducible (((with_reducible show wpAny _ _ (inplaceOp _ (Value.int (_ + 1) _) (Value.int 1 _)) _ _ _); refine isub_int ?_; rw [Int.add_sub_cancel]))) | ((with_reducible show wpAny _ _ (truthy (Value.bytes _ _)) _ _ _); first | with_reducible ((first | ((with_reducible show wpAny _ _ (truthy (Value.bytes (byteArr []) _)) _ _ _); refine r_truthyB0 ?_; intro _) | ((with_reducible show wpAny _ _ (truthy (Value.bytes (byteArr _) _)) _ _ _); refine r_truthyB1 (by omega) (by omega) ?_; intro _)))) | walk1) | (leave1; (try dsimp only)) | fail "no step"))
      refine ⟨rfl, _, _, _, _, rfl, by k_asm, news_back (by k_asm), ⟨_, _, _, _, by rw [List.take_of_length_le hi, List.take_of_length_le (Nat.le_succ_of_le hi)]⟩, fun z h1 h2 => ?_⟩
      show (if z = _ then _ else if _ then _ else _) = _
      rw [if_neg h1, if_neg (by rw [h2]; exact Bool.false_ne_true)]
  · rintro n8 u h tk ⟨t8, tb8, m8, tl8, rfl⟩ F6 N6
    rw [List.take_of_length_le (by rw [hb5.length, List.length_append]; exact Nat.le_add_right _ _)] at N6
    replace N6 : News _ _ _ _ := fun p hp => N6 p (.tail _ hp)
    have hpre : (bs ++ (List.replicate lv.toNat ind).flatten ++ [60, 100, 97, 116, 97, 62] ++ [10] ++ pageL (rowsL ns (3 * (max 16 (76 - colL (List.replicate lv.toNat ind).flatten) / 4))) (List.replicate lv.toNat ind).flatten).length ≤ 20000 := by
      simp only [List.length_append, List.length_cons, List.length_nil]; omega
    repeat' (first | (k_unfold; (try dsimp only)) | ((fail_if_success (with_reducible show Q _ _)); first | ((first | (((with_reducible show wpC _ _ (call (Value.ref 196) [_, Value.bytes (byteArr _) _]) _ _ _); (rename Fr _ _ _ _ => F'Zz); (rename News _ _ _ _ => N'Zz); k_dflt ((refine' SaysC.use (lineB_ok _ _ _ _ _ _ _ _ _ _ _ _ _ _ _ _ _ _ _ _ _ _ _ _ _ ?kb (by omega) ?kl0 ?kl1 ?kli (by omega) (by assumption) (by assumption) (by ((repeat' (first | assumption | refine List.forall_mem_cons.mpr ⟨?_, ?_⟩ | (show @Ne Nat _ _; omega))))) (by ((repeat' (first | assumption | refine List.forall_mem_cons.mpr ⟨?_, ?_⟩ | (show @Ne Nat _ _; omega))))) (by (first | ((first | exact List.Mem.head _ | exact List.Mem.tail _ (List.Mem.head _) | exact List.Mem.tail _ (List.Mem.tail _ (List.Mem.head _)) | exact List.Mem.tail _ (List.Mem.tail _ (List.Mem.tail _ (List.Mem.head _))) | exact List.Mem.tail _ (List.Mem.tail _ (List.Mem.tail _ (List.Mem.tail _ (List.Mem.head _)))))) | ((repeat (first | assumption | exact c64_lo _ | exact c64_hi _ | refine in_snoc ?_ ?_ ?_ | omega))))) (by (first | ((first | exact List.Mem.head _ | exact List.Mem.tail _ (List.Mem.head _) | exact List.Mem.tail _ (List.Mem.tail _ (List.Mem.head _)) | exact List.Mem.tail _ (List.Mem.tail _ (List.Mem.tail _ (List.Mem.head _))) | exact List.Mem.tail _ (List.Mem.tail _ (List.Mem.tail _ (List.Mem.tail _ (List.Mem.head _)))))) | ((repeat (first | assumption | exact c64_lo _ | exact c64_hi _ | refine in_snoc ?_ ?_ ?_ | omega)))))) ?k1 F'Zz ?k3 N'Zz ?k5 ?k6 ?k7 ?k8 rfl ?_); (case k1 => k_asm); (case k3 => k_asm); (case k5 => k_asm); (case k6 => first | exact rfl | assumption); (case k7 => ktr_room); (case k8 => ktr_units); (case kb => omega); (case kl0 => omega); (case kl1 => omega); (case kli => omega); (rintro v9Zz n9Zz h9Zz tk9Zz ⟨w9Zz, t9Zz, f9Zz⟩ F9Zz N9Zz); subst w9Zz; subst n9Zz; (try dsimp only); (try k_fold)))) | (((with_reducible show wpC _ _ (execs (Stmt.For _ _ _ _ _ :: _) _) _ _ _); (rename Fr _ _ _ _ => F'Zz); k_dflt (refine wpC_execs_cons (wpC_ForCF F'Zz rfl rfl rfl ?_ (by intro _; rfl) ?hE); (case hE => first | passes_own | with_unfolding_all passes_own)))) | (((with_reducible show wpC _ _ (call (Value.ref 181) _) _ _ _); (rename Fr _ _ _ _ => F'Zz); (rename News _ _ _ _ => N'Zz); k_dflt ((refine' SaysC.use (end_ok _ _ _ _ _ _ _ _ _ _ _ _ _ _ _ _ _ _ _ _ _ _ _ _ _ _ ?kb ?kl0 ?kl1 ?kli (by assumption) (by assumption) (by assumption) (by assumption) (by assumption) (by assumption)) ?k1 F'Zz ?k3 N'Zz ?k5 ?k6 ?k7 ?k8 rfl ?_); (case k1 => k_asm); (case k3 => k_asm); (case k5 => k_asm); (case k6 => first | exact rfl | assumption); (case k7 => ktr_room); (case k8 => ktr_units); (case kb => ((try simp only [List.length_append, List.length_cons, List.length_nil, rep_len]); omega)); (case kl0 => omega); (case kl1 => omega); (case kli => omega); (rintro v9Zz n9Zz h9Zz tk9Zz ⟨w9Zz, t9Zz, tl9Zz, m9Zz, f9Zz⟩ F9Zz N9Zz); subst w9Zz; subst n9Zz; (try dsimp only); (try k_fold)))) | (((with_reducible show wpC _ _ (call (Value.ref 174) _) _ _ _); (rename Fr _ _ _ _ => F'Zz); (rename News _ _ _ _ => N'Zz); k_dflt ((refine' SaysC.use (begin_ok _ _ _ _ _ _ _ _ _ _ _ _ _ _ _ _ _ _ _ _ _ _ _ _ ?kb ?kl0 ?kl1 ?kli (by assumption) (by assumption) (by assumption) (by assumption) (by assumption) (by assumption)) ?k1 F'Zz ?k3 N'Zz ?k5 ?k6 ?k7 ?k8 rfl ?_); (case k1 => k_asm); (case k3 => k_asm); (case k5 => k_asm); (case k6 => first | exact rfl | assumption); (case k7 => ktr_room); (case k8 => ktr_units); (case kb => ((try simp only [List.length_append, List.length_cons, List.length_nil, rep_len]); omega)); (case kl0 => omega); (case kl1 => omega); (case kli => omega); (rintro v9Zz n9Zz h9Zz tk9Zz ⟨w9Zz, t9Zz, tb9Zz, tl9Zz, m9Zz, f9Zz⟩ F9Zz N9Zz); subst w9Zz; subst n9Zz; (try dsimp only); (try k_fold)))) | (((first | (with_reducible show wpC _ _ (execs (Stmt.Expr (Expr.Call (Expr.Attribute _ (PySem.Str.ofString "append") _) _ _ _) _ :: _) _) _ _ _) | (with_reducible show wpC _ _ (execs (Stmt.AugAssign _ _ _ _ :: _) _) _ _ _)); refine wpC_execs_leaf ?_)) | ((first | ((with_reducible show wpC _ _ (execs (Stmt.If _ _ _ _ :: _) _) _ _ _); k_dflt (refine wpC_execs_cons (wpC_If ?_))) | ((with_reducible show wpC _ _ (execs (Stmt.Expr (Expr.Call (Expr.Attribute _ _ _) _ _ _) _ :: _) _) _ _ _); k_dflt (refine wpC_execs_cons (wpC_Expr (wpC_methodCall ?_)))) | ((with_reducible show wpC _ _ (callWith _ (Value.ref _) _ (backTo _ (starEach (_ :: _) _)) _) _ _ _); k_dflt (refine' wpC_callWith ?k1 ?k2 ?_; (case k1 => k_asm); (case k2 => k_is))))) | ((first | ((with_reducible show wpC _ _ (execs [] _) _ _ _); refine wpC_execs_nil ?_) | ((with_reducible show wpC _ _ (execs (Stmt.Assign [Expr.Attribute _ _ _] (Expr.IfExp _ _ _ _) _ :: _) _) _ _ _); k_dflt (refine wpC_execs_cons (wpC_Assign_Attribute ?_))) | ((with_reducible show wpC _ _ (execs (Stmt.Assign [Expr.Subscript _ _ _] _ _ :: _) _) _ _ _); k_dflt (refine wpC_execs_cons (wpC_Assign_Subscript ?_))) | ((with_reducible show wpC _ _ (execs (_ :: _) _) _ _ _); refine wpC_execs_leaf ?_) | ((with_reducible show wpC _ _ (eval (Expr.IfExp _ _ _ _) _) _ _ _); refine wpC_IfExp ?_) | ((with_reducible show wpC _ _ (eval (Expr.Call (Expr.Name _ _) [] [] _) _) _ _ _); refine wpC_callName ?_) | ((with_reducible show wpC _ _ (callWith _ (Value.type _) _ (backTo _ (starEach [] _)) _) _ _ _); refine wpC_callType0 ?_) | ((with_reducible show wpC _ _ (call (Value.type "bytearray") _) _ _ _); (rename Fr _ _ _ _ => F'Zz); (rename News _ _ _ _ => N'Zz); k_dflt (refine k_baNew0 F'Zz N'Zz ?_); intro B9Zz h9Zz F9Zz N9Zz l9Zz; k_lt l9Zz)))); (try dsimp only)) | (k_end; kc_close) | ((with_reducible show wpAny _ _ (binaryOp Operator.Mult (Value.bytes _ _) (Value.int _ _)) _ _ _); first | with_reducible (((with_reducible show wpAny _ _ (binaryOp Operator.Mult (Value.bytes (byteArr _) _) (Value.int _ _)) _ _ _); refine r_mulB (by omega) (by omega) (by omega) ?_; intro _ _))) | ((with_reducible show wpAny _ _ (call (Value.builtin "bytes.expandtabs") _) _ _ _); first | with_reducible (((refine r_exp (by assumption) (by omega) ?_); intro _ _))) | ((with_reducible show wpAny _ _ (call (Value.builtin "len") _) _ _ _); first | with_reducible (((with_reducible show wpAny _ _ (call (Value.builtin "len") [Value.bytes (Builtin.Bytes.expanded _ _) _]) _ _ _); (refine r_lenExp (by assumption) (by omega) ?_); intro _ _))) | ((with_reducible show wpAny _ _ (call (Value.builtin "max") _) _ _ _); first | with_reducible (((rename Fr _ _ _ _ => F'Zz); (rename News _ _ _ _ => N'Zz); refine r_max rfl F'Zz N'Zz ?_; clear F'Zz N'Zz; intro _ _ _ _ _))) | ((with_reducible show wpAny _ _ (call (Value.ref _) _) _ _ _); first | with_reducible (((with_reducible show wpAny _ _ (call (Value.ref 131) _) _ _ _); k_dflt (refine' Says.use (encode_ok _ _ _ _ _ (by assumption) (by assumption) (by assumption) (by assumption)) ?k1 ?k2 ?k3 ?k4 ?k5 ?k6 ?k7 ?k8 ?_; (((case k1 => k_asm); (case k2 => k_asm); (case k3 => k_asm); (case k4 => k_asm); (case k5 => k_asm); (case k6 => first | exact rfl | assumption); (case k7 => ktr_room); (case k8 => ktr_units); intro t9Zz h9Zz tk9Zz F9Zz N9Zz; (try dsimp only); (try k_fold))))))) | with_reducible ((first | (with_reducible refine gm_exp ?_) | (with_reducible refine gm_split ?_))) | with_reducible (((with_reducible refine gm_bjoin ?_))) | ((with_reducible show wpAny _ _ (inplaceOp Operator.Sub (Value.int _ _) (Value.int _ _)) _ _ _); first | with_reducible (((with_reducible show wpAny _ _ (inplaceOp _ (Value.int (_ + 1) _) (Value.int 1 _)) _ _ _); refine isub_int ?_; rw [Int.add_sub_cancel]))) | ((with_reducible show wpAny _ _ (truthy (Value.bytes _ _)) _ _ _); first | with_reducible ((first | ((with_reducible show wpAny _ _ (truthy (Value.bytes (byteArr []) _)) _ _ _); refine r_truthyB0 ?_; intro _) | ((with_reducible show wpAny _ _ (truthy (Value.bytes (byteArr _) _)) _ _ _); refine r_truthyB1 (by omega) (by omega) ?_; intro _)))) | walk1 | (dsimp only; first | ((with_reducible show wpAny _ _ (binaryOp Operator.Mult (Value.bytes _ _) (Value.int _ _)) _ _ _); first | with_reducible (((with_reducible show wpAny _ _ (binaryOp Operator.Mult (Value.bytes (byteArr _) _) (Value.int _ _)) _ _ _); refine r_mulB (by omega) (by omega) (by omega) ?_; intro _ _))) | ((with_reducible show wpAny _ _ (call (Value.builtin "bytes.expandtabs") _) _ _ _); first | with_reducible (((refine r_exp (by assumption) (by omega) ?_); intro _ _))) | ((with_reducible show wpAny _ _ (call (Value.builtin "len") _) _ _ _); first | with_reducible (((with_reducible show wpAny _ _ (call (Value.builtin "len") [Value.bytes (Builtin.Bytes.expanded _ _) _]) _ _ _); (refine r_lenExp (by assumption) (by omega) ?_); intro _ _))) | ((with_reducible show wpAny _ _ (call (Value.builtin "max") _) _ _ _); first | with_reducible (((rename Fr _ _ _ _ => F'Zz); (rename News _ _ _ _ => N'Zz); refine r_max rfl F'Zz N'Zz ?_; clear F'Zz N'Zz; intro _ _ _ _ _))) | ((with_reducible show wpAny _ _ (call (Value.ref _) _) _ _ _); first | with_reducible (((with_reducible show wpAny _ _ (call (Value.ref 131) _) _ _ _); k_dflt (refine' Says.use (encode_ok _ _ _ _ _ (by assumption) (by assumption) (by assumption) (by assumption)) ?k1 ?k2 ?k3 ?k4 ?k5 ?k6 ?k7 ?k8 ?_; (((case k1 => k_asm); (case k2 => k_asm); (case k3 => k_asm); (case k4 => k_asm); (case k5 => k_asm); (case k6 => first | exact rfl | assumption); (case k7 => ktr_room); (case k8 => ktr_units); intro t9Zz h9Zz tk9Zz F9Zz N9Zz; (try dsimp only); (try k_fold))))))) | with_reducible ((first | (with_reducible refine gm_exp ?_) | (with_reducible refine gm_split ?_))) | with_reducible (((with_reducible refine gm_bjoin ?_))) | ((with_reducible show wpAny _ _ (inplaceOp Operator.Sub (Value.int _ _) (Value.int _ _)) _ _ _); first | with_reducible (((with_reducible show wpAny _ _ (inplaceOp _ (Value.int (_ + 1) _) (Value.int 1 _)) _ _ _); refine isub_int ?_; rw [Int.add_sub_cancel]))) | ((with_reducible show wpAny _ _ (truthy (Value.bytes _ _)) _ _ _); first | with_reducible ((first | ((with_reducible show wpAny _ _ (truthy (Value.bytes (byteArr []) _)) _ _ _); refine r_truthyB0 ?_; intro _) | ((with_reducible show wpAny _ _ (truthy (Value.bytes (byteArr _) _)) _ _ _); refine r_truthyB1 (by omega) (by omega) ?_; intro _)))) | walk1) | (leave1; (try dsimp only)) | fail "no step"))
    refine hret _ _ _ _ ?_ (by k_asm) (by k_asm)
    exact ⟨rfl, _, _, _, by rw [Int.add_sub_cancel]⟩
end
section
open PySem.Calls
set_option maxHeartbeats 4000000
/-- the end of a turn, with what the names hold -/
noncomputable def EndM (h₀ : Heap) (L : Addr) (own : List (Addr × Obj)) (Pn : (PySem.Str → Option Value) → List (Addr × Obj) → Prop) (s₁ : Shared) (f : Flow) (s₂ : Shared) : Prop :=
  f = .next ∧ ∃ h' tk m₂ news₂, s₂ = { s₁ with heap := h', toks := tk } ∧ Fr h₀ L h' m₂ ∧ News h₀ L h' (own ++ news₂) ∧ Pn m₂ news₂
section
variable {prog : Program} {w : World} {A : Around} {E : Value → Shared → Prop} {s : Shared} {env : Env} {h₀ : Heap}
theorem codeC_forListM {R : Result → Shared → Prop} {x : PySem.Str} {px : Pos} {body : List Stmt} {I l : Addr} {vs : List Value} {n₀ : Nat} {m₀ : PySem.Str → Option Value} {news : List (Addr × Obj)}
    (hh : A.handled = none) (hx : env.kindOf x = some .local) (hp : (env.scope.kind == .class || (env.scope.kind == .module && env.locals != env.globals)) = false)
    (P : Nat → (PySem.Str → Option Value) → List (Addr × Obj) → Prop) (h0 : P 0 m₀ news) (F : Fr h₀ env.locals s.heap m₀) (N : News h₀ env.locals s.heap news)
    (hI : s.heap.IsListIter I l 0) (hIn : h₀.get? I = none) (hIL : I ≠ env.locals)
    (hP : ∀ i m' news', P i m' news' → (l, listOf vs.toArray n₀) ∈ news' ∧ ∀ p ∈ news', p.1 ≠ I)
    (turn : ∀ i v m₁ news₁ h tk o, vs[i]? = some v → P i m₁ news₁ → Fr h₀ env.locals h (fun y => if y = x then some v else m₁ y) → News h₀ env.locals h ((I, o) :: news₁) →
      wpC (model prog w) A (execs body env) (EndM h₀ env.locals [(I, o)] (P (i + 1)) { s with heap := h, toks := tk }) (notedBy (model prog w) A env fun e s' => R (.error e) s') { s with heap := h, toks := tk })
    (done : ∀ m' news' h tk, P vs.length m' news' → Fr h₀ env.locals h m' → News h₀ env.locals h news' → R (.ok .next) { s with heap := h, toks := tk }) :
    codeC (model prog w) A (.forLoop (.Name x px) (.ref I) body [] env) R s := by
  refine codeC_loop rfl rfl
    (fun k s' => ∃ h' tk m' news' i, s' = { s with heap := h', toks := tk } ∧ h'.IsListIter I l i ∧ Fr h₀ env.locals h' m' ∧ News h₀ env.locals h' news' ∧ P i m' news' ∧ i ≤ vs.length ∧ k = vs.length + 1 - i) ?_ (vs.length + 1)
    ⟨s.heap, s.toks, m₀, news, 0, rfl, hI, F, N, h0, Nat.zero_le _, rfl⟩
  rintro k s' ⟨h', tk, m', news', i, rfl, hit, F', N', hPi, hi, rfl⟩
  show wpC _ _ ((forTurn (.Name x px) (.ref I) body [] env).onRaise (fun x => do noteFrame x env; theTreesLotGoes x)) _ _ _
  refine wpC_noted ?_
  simp only [forTurn]
  refine wpC_leaf (wpAny_standAt (wpC_leaf (wpAny_onRaise ?_)))
  obtain ⟨hl, hne⟩ := hP i m' news' hPi
  have hlist : h'.IsList l vs.toArray := ⟨_, (N' _ hl).1, rfl, _, rfl⟩
  have next : ∀ h₁ : Heap, (∀ b o, b ≠ I → h'.get? b = some o → h₁.get? b = some o) → Fr h₀ env.locals h₁ m' ∧ News h₀ env.locals h₁ news' := fun h₁ hk₁ =>
    ⟨⟨F'.ns.at' fun o e => hk₁ _ o hIL.symm e, fun b o e => hk₁ b o (fun q => by rw [q, hIn] at e; cases e) (F'.keep b o e), F'.above⟩, fun p hp => ⟨hk₁ _ _ (hne p hp) (N' p hp).1, (N' p hp).2⟩⟩
  by_cases hlt : i < vs.length
  · refine wpAny_pyNext_list_item hit hlist (x := vs[i]) (by simp [hlt]) fun h₁ hit₁ hs₁ => ?_
    obtain ⟨F₁, N₁⟩ := next h₁ fun b o hb e => hs₁.extBut b o hb e
    refine wpC_leaf (wpAny_of_eq rfl ?_)
    refine wpC_leaf (wpAny_assign_Name (wpAny_storeName_local hx F₁.ns (fun h₂ hn₂ hs₂ => ?_) hp))
    have F₂ := F₁.set hn₂ hs₂
    obtain ⟨o, ho, hoc, hod⟩ := hit₁
    have ho₂ : h₂.get? I = some o := (hs₂.2 I hIL).trans ho
    have Nown : News h₀ env.locals h₂ ((I, o) :: news') := fun p hp => by
      rcases List.mem_cons.mp hp with rfl | hp
      · exact ⟨ho₂, hIL, hIn⟩
      · exact (N₁.set hs₂) p hp
    refine wpC_bind (wpC_mono (turn i _ m' news' h₂ _ o (by simp [hlt]) hPi F₂ Nown) (fun f s₃ h₃ => ?_) fun _ _ e => e)
    obtain ⟨rfl, h₃', tk₃, m₂, news₂, rfl, F₃, N₃, hP₃⟩ := h₃
    refine wpC_pure (.inl ⟨rfl, vs.length + 1 - (i + 1), by omega, h₃', tk₃, m₂, news₂, i + 1, rfl, ?_, F₃, N₃.right, hP₃, hlt, rfl⟩)
    exact ⟨o, (N₃ (I, o) (.head _)).1, hoc, hod⟩
  · have hin : i = vs.length := by omega
    subst hin
    refine wpAny_pyNext_list_end hh hit hlist (by simp) fun h₁ he₁ => ?_
    obtain ⟨F₁, N₁⟩ := next h₁ he₁
    refine wpC_pure (.inr ⟨rfl, codeC_any (codeAny_block (wpAny_execs_nil ?_))⟩)
    exact done m' news' h₁ tk hPi F₁ N₁
/-- a loop over a list, its turns and its end -/
noncomputable def ForM (prog : Program) (w : World) (A : Around) (h₀ : Heap) (env : Env) (x : PySem.Str) (body : List Stmt) (Q : Flow → Shared → Prop) (E : Value → Shared → Prop) (xv : Value) (s₁ : Shared) : Prop :=
  ∃ (l : Addr) (vs : List Value) (n₀ : Nat) (m₀ : PySem.Str → Option Value) (news : List (Addr × Obj)) (P : Addr → Nat → (PySem.Str → Option Value) → List (Addr × Obj) → Prop),
    xv = .ref l ∧ (l, listOf vs.toArray n₀) ∈ news ∧ Fr h₀ env.locals s₁.heap m₀ ∧ News h₀ env.locals s₁.heap news ∧ ∀ I, (∀ p ∈ news, p.1 < I) →
      P I 0 m₀ news ∧ (∀ i m' news', P I i m' news' → (l, listOf vs.toArray n₀) ∈ news' ∧ ∀ p ∈ news', p.1 ≠ I) ∧
      (∀ i v m₁ news₁ h tk o, vs[i]? = some v → P I i m₁ news₁ → Fr h₀ env.locals h (fun y => if y = x then some v else m₁ y) → News h₀ env.locals h ((I, o) :: news₁) →
        wpC (model prog w) A (execs body env) (EndM h₀ env.locals [(I, o)] (P I (i + 1)) { s₁ with heap := h, toks := tk }) E { s₁ with heap := h, toks := tk }) ∧
      (∀ m' news' h tk, P I vs.length m' news' → Fr h₀ env.locals h m' → News h₀ env.locals h news' → Q .next { s₁ with heap := h, toks := tk })
theorem wpC_ForM {x : PySem.Str} {px : Pos} {iter : PySem.Expr} {body : List Stmt} {pos : Pos} {Q : Flow → Shared → Prop} {h₀ : Heap} {L : Addr} {h₁ : Heap} {m₁ : PySem.Str → Option Value} (_F : Fr h₀ L h₁ m₁)
    (hh : A.handled = none) (hx : env.kindOf x = some .local) (hp : (env.scope.kind == .class || (env.scope.kind == .module && env.locals != env.globals)) = false)
    (h : wpAny (model prog w) A (eval iter env) (ForM prog w A h₀ env x body Q E) E s)
    (hs : ∀ x, foldedSetIterable iter env x = pure x)
    (hE : PassesOwn (model prog w) A env E) :
    wpC (model prog w) A (exec (.For (.Name x px) iter body [] pos) env) Q E s := by
  refine wpC_For (wpAny_mono h (fun xv s₁ h₁ => ?_) fun _ _ e => e) hs
  obtain ⟨l, vs, n₀, m₀, news, P, rfl, hl, F, N, H⟩ := h₁
  refine wpAny_pyIter_list (items := vs.toArray) ⟨_, (N _ hl).1, rfl, _, rfl⟩ ?_
  obtain ⟨h0, hP, turn, done⟩ := H s₁.heap.objs.size fun p hp => Heap.lt_size (N p hp).1
  refine codeC_forListM (R := fun r s' => match r with | .ok f => Q f s' | .error e => cameBackBy (model prog w) A env E e s') (s := ⟨_, _, _, _, _⟩) hh hx hp (P s₁.heap.objs.size) h0 (F.push _) (N.grown fun a o e => Heap.get?_push_of_some _ e) ⟨_, Heap.get?_push_size _ rfl, rfl, rfl⟩ ?_ ?_ hP ?_ done
  · cases e : h₀.get? s₁.heap.objs.size with
    | none => rfl
    | some o => exact absurd (Heap.lt_size (F.keep _ _ e)) (Nat.lt_irrefl _)
  · intro e
    exact absurd (e ▸ F.ns.lt : s₁.heap.objs.size < s₁.heap.objs.size) (Nat.lt_irrefl _)
  · intro i v m₁ news₁ h tk o a b c d
    exact wpC_mono (turn i v m₁ news₁ h tk o a b c d) (fun _ _ x => x) hE
theorem fr_add {h : Heap} {L : Addr} {m : PySem.Str → Option Value} {k : PySem.Str} {v : Value} (hk : m k = some v) (F : Fr h₀ L h m) : Fr h₀ L h (fun y => if y = k then some v else m y) := by
  have e : (fun y => if y = k then some v else m y) = m := by
    funext y
    by_cases q : y = k
    · rw [if_pos q, q, hk]
    · rw [if_neg q]
  rw [e]; exact F
/-- one statement, then a state that the rest starts from -/
theorem wpC_cut {M : Model} {st : Stmt} {rest : List Stmt} {Q : Flow → Shared → Prop} (R : Shared → Prop) (h1 : wpC M A (exec st env) (fun f s' => f = .next ∧ R s') E s) (h2 : ∀ s', R s' → wpC M A (execs rest env) Q E s') : wpC M A (execs (st :: rest) env) Q E s :=
  wpC_execs_cons (wpC_mono h1 (fun f s' h => by obtain ⟨rfl, h⟩ := h; exact h2 _ h) fun _ _ e => e)
end
noncomputable def lawOf (K : Frag) : Option (Scope × Value × List Stmt) := match K.lookup 841 with
  | some ⟨_, _, .func fd, _⟩ => (match fd.body with | .stmts b => some (fd.scope, fd.code, b) | _ => none)
  | _ => none
/-- the scope and the code of the law, and the body of its last loop -/
noncomputable def lawParts (K : Frag) : Option (Scope × Value × List Stmt) := match lawOf K with
  | some (sc, cd, b) => (match b[9]? with | some (Stmt.For _ _ body _ _) => some (sc, cd, body) | _ => none)
  | none => none
end
section
set_option maxHeartbeats 8000000
/-- what the law's names hold in every turn -/
noncomputable def Kp (md wd lv col : Int) (ind : List Int) (t1 t2 t3 t4 t5 : Tok) (m : PySem.Str → Option Value) : Prop :=
  m (Str.ofString "mood") = some (.int md t1) ∧ m (Str.ofString "width") = some (.int wd t2) ∧ m (Str.ofString "indent") = some (.str (strArr ind) t3) ∧ m (Str.ofString "level") = some (.int lv t4) ∧ m (Str.ofString "column") = some (.int col t5)
theorem Kp.put {md wd lv col : Int} {ind : List Int} {t1 t2 t3 t4 t5 : Tok} {m : PySem.Str → Option Value} (h : Kp md wd lv col ind t1 t2 t3 t4 t5 m) {k : PySem.Str} {v : Value}
    (hk : [Str.ofString "mood", Str.ofString "width", Str.ofString "indent", Str.ofString "level", Str.ofString "column"].contains k = false) : Kp md wd lv col ind t1 t2 t3 t4 t5 (fun y => if y = k then some v else m y) := by
  simp only [List.contains_cons, List.contains_nil, Bool.or_eq_false_iff, Bool.or_false, beq_eq_false_iff_ne] at hk
  obtain ⟨h1, h2, h3, h4, h5⟩ := hk
  exact ⟨(if_neg (Ne.symm h1)).trans h.1, (if_neg (Ne.symm h2)).trans h.2.1, (if_neg (Ne.symm h3)).trans h.2.2.1, (if_neg (Ne.symm h4)).trans h.2.2.2.1, (if_neg (Ne.symm h5)).trans h.2.2.2.2⟩
theorem map_same {m : PySem.Str → Option Value} {k : PySem.Str} {v : Value} (hk : m k = some v) : (fun y => if y = k then some v else m y) = m := by
  funext y
  by_cases q : y = k
  · rw [if_pos q, q, hk]
  · rw [if_neg q]
theorem Kp.same {md wd lv col : Int} {ind : List Int} {t1 t2 t3 t4 t5 : Tok} {m : PySem.Str → Option Value} (h : Kp md wd lv col ind t1 t2 t3 t4 t5 m) {k : PySem.Str} {v : Value} (hk : m k = some v) : Kp md wd lv col ind t1 t2 t3 t4 t5 (fun y => if y = k then some v else m y) := by
  rw [map_same hk]; exact h
theorem at_other {m : PySem.Str → Option Value} {k z : PySem.Str} {v w : Value} (h : m z = some w) (hk : (z == k) = false) : (fun y => if y = k then some v else m y) z = some w := (if_neg (by simpa using hk)).trans h
theorem fr_put {h₀ h : Heap} {L : Addr} {m : PySem.Str → Option Value} (F : Fr h₀ L h m) (k : PySem.Str) (v : Value) (hk : m k = some v) : Fr h₀ L h (fun y => if y = k then some v else m y) := fr_add hk F
theorem r_neBB {prog : Program} {w : World} {A : Around} {E : Value → Shared → Prop} {s : Shared} {b : Array UInt8} {t u : Tok} {Q : Value → Shared → Prop} (h : Q (.bool false) s) : wpAny (model prog w) A (compareOp .NotEq (.bytes b t) (.bytes b u)) Q E s := by
  refine ne_bytes ?_
  rw [bne_self_eq_false]; exact h
theorem asc_in {ns : List Int} (h : Asc ns) : KBa.In ns := fun n hn => by have := h n hn; omega
theorem decode_strR (w : World) (tk : Tok) {T ns : List Int} (hR : Reads T ns) (hin : KBa.In ns) (ha : Asc T) (hl : T.length ≤ 4000) : Says w 3 60 138 [.str (strArr T) tk] (fun t => .bytes (byteArr ns) t) := by
  have hd := Reads.dec hR hin
  have h := decode_str_ok w T tk ha hl hd.2
  rw [hd.1] at h; exact h
theorem decode_bytesR (w : World) (tk : Tok) {T ns : List Int} (hR : Reads T ns) (hin : KBa.In ns) (ha : Asc T) (hl : T.length ≤ 4000) : Says w 3 60 138 [.bytes (byteArr T) tk] (fun t => .bytes (byteArr ns) t) := by
  have hd := Reads.dec hR hin
  have h := decode_bytes_ok w T tk (asc_in ha) hl hd.2
  rw [hd.1] at h; exact h
theorem stageE {w : World} {scope : Scope} {cdv : Value} {b : List Stmt} (hb : lawParts (KH w.params) = some (scope, cdv, b)) (ns : List Int) (pgs : List (List Int)) (vsP : List Value) (nP : Nat) (Pg : Addr) (led : List (Addr × Obj)) (g : PySem.Str → Option Value)
    (md wd lv col : Int) (ind : List Int) (t0 t1 t2 t3 t4 t5 : Tok) (hin : KBa.In ns) (hns : ns.length ≤ 64) (hmd : 0 ≤ md) (hmd2 : md < 10007) (hv : TsAre vsP pgs) (hpg : ∀ T ∈ pgs, Reads T ns ∧ Asc T ∧ T.length ≤ 1000) (hg : Kp md wd lv col ind t1 t2 t3 t4 t5 g)
    {p : Program} {loose : List PySem.Str} {mean : ExcName → Option Value} {mg mb : PySem.Str → Option Value} {h₀ : Heap} {L : Addr} {s : Shared} {Q : Flow → Shared → Prop} {E : Value → Shared → Prop}
    (X : (KH w.params).In h₀) (T : Top p loose mean mg mb h₀) (K0 : Below callerA h₀ [] h₀)
    (F : Fr h₀ L s.heap (fun y => if y = Str.ofString "pages" then some (.ref Pg) else if y = Str.ofString "mood" then some (.int md t1) else if y = Str.ofString "octets" then some (.bytes (byteArr ns) t0) else g y))
    (N : News h₀ L s.heap ((Pg, listOf vsP.toArray nP) :: led)) (hE : PassesOwn (model PySem.Challenge.rw_kl0275_01.prog w) (callerA.deeper (envOf (Str.ofString "law") scope L 841 cdv)) (envOf (Str.ofString "law") scope L 841 cdv) E)
    (hQ : ∀ h' tk m', Kp md wd lv col ind t1 t2 t3 t4 t5 m' → Fr h₀ L h' m' → News h₀ L h' led → Q .next { s with heap := h', toks := tk }) :
    wpC (model PySem.Challenge.rw_kl0275_01.prog w) (callerA.deeper (envOf (Str.ofString "law") scope L 841 cdv)) (execs (b.drop 11) (envOf (Str.ofString "law") scope L 841 cdv)) Q E s := by
  revert hb
  k_fill
  intro hb
  cases hb.symm.trans (rfl : lawParts (KH w.params) = some (_, _, _))
  clear hb
  simp only [List.drop]
  have hI0 : IntsAre ([] : List Value) [] := IntsAre.nil
  refine wpC_execs_cons (wpC_ForM F rfl rfl rfl ?_ (by intro _; rfl) hE)
  repeat' (first | (k_unfold; (try dsimp only)) | ((fail_if_success (with_reducible show Q _ _)); first | ((first | (((first | (with_reducible show wpC _ _ (execs (Stmt.Expr (Expr.Call (Expr.Attribute _ (PySem.Str.ofString "append") _) _ _ _) _ :: _) _) _ _ _) | (with_reducible show wpC _ _ (execs (Stmt.AugAssign _ _ _ _ :: _) _) _ _ _)); refine wpC_execs_leaf ?_)) | ((first | ((with_reducible show wpC _ _ (execs (Stmt.If _ _ _ _ :: _) _) _ _ _); k_dflt (refine wpC_execs_cons (wpC_If ?_))) | ((with_reducible show wpC _ _ (execs (Stmt.Expr (Expr.Call (Expr.Attribute _ _ _) _ _ _) _ :: _) _) _ _ _); k_dflt (refine wpC_execs_cons (wpC_Expr (wpC_methodCall ?_)))) | ((with_reducible show wpC _ _ (callWith _ (Value.ref _) _ (backTo _ (starEach (_ :: _) _)) _) _ _ _); k_dflt (refine' wpC_callWith ?k1 ?k2 ?_; (case k1 => k_asm); (case k2 => k_is))))) | ((first | ((with_reducible show wpC _ _ (execs [] _) _ _ _); refine wpC_execs_nil ?_) | ((with_reducible show wpC _ _ (execs (Stmt.Assign [Expr.Attribute _ _ _] (Expr.IfExp _ _ _ _) _ :: _) _) _ _ _); k_dflt (refine wpC_execs_cons (wpC_Assign_Attribute ?_))) | ((with_reducible show wpC _ _ (execs (Stmt.Assign [Expr.Subscript _ _ _] _ _ :: _) _) _ _ _); k_dflt (refine wpC_execs_cons (wpC_Assign_Subscript ?_))) | ((with_reducible show wpC _ _ (execs (_ :: _) _) _ _ _); refine wpC_execs_leaf ?_) | ((with_reducible show wpC _ _ (eval (Expr.IfExp _ _ _ _) _) _ _ _); refine wpC_IfExp ?_) | ((with_reducible show wpC _ _ (eval (Expr.Call (Expr.Name _ _) [] [] _) _) _ _ _); refine wpC_callName ?_) | ((with_reducible show wpC _ _ (callWith _ (Value.type _) _ (backTo _ (starEach [] _)) _) _ _ _); refine wpC_callType0 ?_) | ((with_reducible show wpC _ _ (call (Value.type "bytearray") _) _ _ _); (rename Fr _ _ _ _ => F'Zz); (rename News _ _ _ _ => N'Zz); k_dflt (refine k_baNew0 F'Zz N'Zz ?_); intro B9Zz h9Zz F9Zz N9Zz l9Zz; k_lt l9Zz)))); (try dsimp only)) | (k_end; kc_close) | ((with_reducible show wpAny _ _ (call (Value.builtin "str.encode") _) _ _ _); first | with_reducible ((first | ((with_reducible show wpAny _ _ (call (Value.builtin "str.encode") [Value.str _ _, Value.str (PySem.Str.ofString "utf-8") _]) _ _ _); refine r_enc8 (by assumption) (by omega) ?_; intro _ _) | ((with_reducible show wpAny _ _ (call (Value.builtin "str.encode") [Value.str _ _, Value.str (PySem.Str.ofString "ascii") _]) _ _ _); refine r_encA (by assumption) (by omega) ?_; intro _ _)))) | ((with_reducible show wpAny _ _ (call (Value.ref _) _) _ _ _); first | with_reducible (((with_reducible show wpAny _ _ (call (Value.ref 138) [Value.bytes _ _]) _ _ _); (rename Reads _ _ => hR9Zz); (rename KBa.In _ => hI9Zz); k_dflt (refine' Says.use (decode_bytesR _ _ hR9Zz hI9Zz (by assumption) (by omega)) ?k1 ?k2 ?k3 ?k4 ?k5 ?k6 ?k7 ?k8 ?_; (((case k1 => k_asm); (case k2 => k_asm); (case k3 => k_asm); (case k4 => k_asm); (case k5 => k_asm); (case k6 => first | exact rfl | assumption); (case k7 => ktr_room); (case k8 => ktr_units); intro t9Zz h9Zz tk9Zz F9Zz N9Zz; (try dsimp only); (try k_fold)))))) | with_reducible (((with_reducible show wpAny _ _ (call (Value.ref 138) [Value.str _ _]) _ _ _); (rename Reads _ _ => hR9Zz); (rename KBa.In _ => hI9Zz); k_dflt (refine' Says.use (decode_strR _ _ hR9Zz hI9Zz (by assumption) (by omega)) ?k1 ?k2 ?k3 ?k4 ?k5 ?k6 ?k7 ?k8 ?_; (((case k1 => k_asm); (case k2 => k_asm); (case k3 => k_asm); (case k4 => k_asm); (case k5 => k_asm); (case k6 => first | exact rfl | assumption); (case k7 => ktr_room); (case k8 => ktr_units); intro t9Zz h9Zz tk9Zz F9Zz N9Zz; (try dsimp only); (try k_fold)))))) | with_reducible (((with_reducible show wpAny _ _ (call (Value.ref 827) _) _ _ _); k_dflt (refine' Says.use (strewn_ok _ _ _ _ _ (by assumption) (by omega)) ?k1 ?k2 ?k3 ?k4 ?k5 ?k6 ?k7 ?k8 ?_; (((case k1 => k_asm); (case k2 => k_asm); (case k3 => k_asm); (case k4 => k_asm); (case k5 => k_asm); (case k6 => first | exact rfl | assumption); (case k7 => ktr_room); (case k8 => ktr_units); intro t9Zz h9Zz tk9Zz F9Zz N9Zz; (try dsimp only); (try k_fold))))))) | ((with_reducible show wpAny _ _ (compareOp CmpOp.NotEq (Value.bytes _ _) (Value.bytes _ _)) _ _ _); first | with_reducible ((refine r_neBB ?_))) | with_reducible (((with_reducible refine gm_encode ?_))) | walk1 | (dsimp only; first | ((with_reducible show wpAny _ _ (call (Value.builtin "str.encode") _) _ _ _); first | with_reducible ((first | ((with_reducible show wpAny _ _ (call (Value.builtin "str.encode") [Value.str _ _, Value.str (PySem.Str.ofString "utf-8") _]) _ _ _); refine r_enc8 (by assumption) (by omega) ?_; intro _ _) | ((with_reducible show wpAny _ _ (call (Value.builtin "str.encode") [Value.str _ _, Value.str (PySem.Str.ofString "ascii") _]) _ _ _); refine r_encA (by assumption) (by omega) ?_; intro _ _)))) | ((with_reducible show wpAny _ _ (call (Value.ref _) _) _ _ _); first | with_reducible (((with_reducible show wpAny _ _ (call (Value.ref 138) [Value.bytes _ _]) _ _ _); (rename Reads _ _ => hR9Zz); (rename KBa.In _ => hI9Zz); k_dflt (refine' Says.use (decode_bytesR _ _ hR9Zz hI9Zz (by assumption) (by omega)) ?k1 ?k2 ?k3 ?k4 ?k5 ?k6 ?k7 ?k8 ?_; (((case k1 => k_asm); (case k2 => k_asm); (case k3 => k_asm); (case k4 => k_asm); (case k5 => k_asm); (case k6 => first | exact rfl | assumption); (case k7 => ktr_room); (case k8 => ktr_units); intro t9Zz h9Zz tk9Zz F9Zz N9Zz; (try dsimp only); (try k_fold)))))) | with_reducible (((with_reducible show wpAny _ _ (call (Value.ref 138) [Value.str _ _]) _ _ _); (rename Reads _ _ => hR9Zz); (rename KBa.In _ => hI9Zz); k_dflt (refine' Says.use (decode_strR _ _ hR9Zz hI9Zz (by assumption) (by omega)) ?k1 ?k2 ?k3 ?k4 ?k5 ?k6 ?k7 ?k8 ?_; (((case k1 => k_asm); (case k2 => k_asm); (case k3 => k_asm); (case k4 => k_asm); (case k5 => k_asm); (case k6 => first | exact rfl | assumption); (case k7 => ktr_room); (case k8 => ktr_units); intro t9Zz h9Zz tk9Zz F9Zz N9Zz; (try dsimp only); (try k_fold)))))) | with_reducible (((with_reducible show wpAny _ _ (call (Value.ref 827) _) _ _ _); k_dflt (refine' Says.use (strewn_ok _ _ _ _ _ (by assumption) (by omega)) ?k1 ?k2 ?k3 ?k4 ?k5 ?k6 ?k7 ?k8 ?_; (((case k1 => k_asm); (case k2 => k_asm); (case k3 => k_asm); (case k4 => k_asm); (case k5 => k_asm); (case k6 => first | exact rfl | assumption); (case k7 => ktr_room); (case k8 => ktr_units); intro t9Zz h9Zz tk9Zz F9Zz N9Zz; (try dsimp only); (try k_fold))))))) | ((with_reducible show wpAny _ _ (compareOp CmpOp.NotEq (Value.bytes _ _) (Value.bytes _ _)) _ _ _); first | with_reducible ((refine r_neBB ?_))) | with_reducible (((with_reducible refine gm_encode ?_))) | walk1) | (leave1; (try dsimp only)) | fail "no step"))
  refine ⟨Pg, vsP, nP, _, _, fun I i m' news' => news' = (Pg, listOf vsP.toArray nP) :: led ∧ m' (Str.ofString "octets") = some (.bytes (byteArr ns) t0) ∧ Kp md wd lv col ind t1 t2 t3 t4 t5 m', rfl, .head _, F, N, fun I hI => ⟨⟨rfl, rfl, ?_⟩, ?_, ?_, ?_⟩⟩
  · have h1 := (hg.put (k := Str.ofString "octets") (v := .bytes (byteArr ns) t0) (by decide))
    exact (h1.same (k := Str.ofString "mood") h1.1).put (by decide)
  · rintro i m' n8 ⟨rfl, _, _⟩
    exact ⟨.head _, fun p hp => Nat.ne_of_lt (hI p hp)⟩
  · rintro i v m₁ n8 h tk o hv9 ⟨rfl, ho, hk⟩ F1 N1
    obtain ⟨T9, tv, hT, rfl⟩ := hv.at hv9
    obtain ⟨hr1, ha1, hl1⟩ := hpg _ (List.mem_of_getElem? hT)
    have F2 := fr_put F1 (Str.ofString "octets") (.bytes (byteArr ns) t0) ((if_neg (by decide)).trans ho)
    have F3 := fr_put F2 (Str.ofString "mood") (.int md t1) ((if_neg (by decide)).trans ((if_neg (by decide)).trans hk.1))
    clear F1 F2
    replace F3 : Fr h₀ L h _ := F3
    replace N1 : News h₀ L h _ := N1
    refine wpC_execs_cons (wpC_ForM F3 rfl rfl rfl ?_ (by intro _; rfl) hE)
    repeat' (first | (k_unfold; (try dsimp only)) | ((fail_if_success (with_reducible show Q _ _)); first | ((first | (((first | (with_reducible show wpC _ _ (execs (Stmt.Expr (Expr.Call (Expr.Attribute _ (PySem.Str.ofString "append") _) _ _ _) _ :: _) _) _ _ _) | (with_reducible show wpC _ _ (execs (Stmt.AugAssign _ _ _ _ :: _) _) _ _ _)); refine wpC_execs_leaf ?_)) | ((first | ((with_reducible show wpC _ _ (execs (Stmt.If _ _ _ _ :: _) _) _ _ _); k_dflt (refine wpC_execs_cons (wpC_If ?_))) | ((with_reducible show wpC _ _ (execs (Stmt.Expr (Expr.Call (Expr.Attribute _ _ _) _ _ _) _ :: _) _) _ _ _); k_dflt (refine wpC_execs_cons (wpC_Expr (wpC_methodCall ?_)))) | ((with_reducible show wpC _ _ (callWith _ (Value.ref _) _ (backTo _ (starEach (_ :: _) _)) _) _ _ _); k_dflt (refine' wpC_callWith ?k1 ?k2 ?_; (case k1 => k_asm); (case k2 => k_is))))) | ((first | ((with_reducible show wpC _ _ (execs [] _) _ _ _); refine wpC_execs_nil ?_) | ((with_reducible show wpC _ _ (execs (Stmt.Assign [Expr.Attribute _ _ _] (Expr.IfExp _ _ _ _) _ :: _) _) _ _ _); k_dflt (refine wpC_execs_cons (wpC_Assign_Attribute ?_))) | ((with_reducible show wpC _ _ (execs (Stmt.Assign [Expr.Subscript _ _ _] _ _ :: _) _) _ _ _); k_dflt (refine wpC_execs_cons (wpC_Assign_Subscript ?_))) | ((with_reducible show wpC _ _ (execs (_ :: _) _) _ _ _); refine wpC_execs_leaf ?_) | ((with_reducible show wpC _ _ (eval (Expr.IfExp _ _ _ _) _) _ _ _); refine wpC_IfExp ?_) | ((with_reducible show wpC _ _ (eval (Expr.Call (Expr.Name _ _) [] [] _) _) _ _ _); refine wpC_callName ?_) | ((with_reducible show wpC _ _ (callWith _ (Value.type _) _ (backTo _ (starEach [] _)) _) _ _ _); refine wpC_callType0 ?_) | ((with_reducible show wpC _ _ (call (Value.type "bytearray") _) _ _ _); (rename Fr _ _ _ _ => F'Zz); (rename News _ _ _ _ => N'Zz); k_dflt (refine k_baNew0 F'Zz N'Zz ?_); intro B9Zz h9Zz F9Zz N9Zz l9Zz; k_lt l9Zz)))); (try dsimp only)) | (k_end; kc_close) | ((with_reducible show wpAny _ _ (call (Value.builtin "str.encode") _) _ _ _); first | with_reducible ((first | ((with_reducible show wpAny _ _ (call (Value.builtin "str.encode") [Value.str _ _, Value.str (PySem.Str.ofString "utf-8") _]) _ _ _); refine r_enc8 (by assumption) (by omega) ?_; intro _ _) | ((with_reducible show wpAny _ _ (call (Value.builtin "str.encode") [Value.str _ _, Value.str (PySem.Str.ofString "ascii") _]) _ _ _); refine r_encA (by assumption) (by omega) ?_; intro _ _)))) | ((with_reducible show wpAny _ _ (call (Value.ref _) _) _ _ _); first | with_reducible (((with_reducible show wpAny _ _ (call (Value.ref 138) [Value.bytes _ _]) _ _ _); (rename Reads _ _ => hR9Zz); (rename KBa.In _ => hI9Zz); k_dflt (refine' Says.use (decode_bytesR _ _ hR9Zz hI9Zz (by assumption) (by omega)) ?k1 ?k2 ?k3 ?k4 ?k5 ?k6 ?k7 ?k8 ?_; (((case k1 => k_asm); (case k2 => k_asm); (case k3 => k_asm); (case k4 => k_asm); (case k5 => k_asm); (case k6 => first | exact rfl | assumption); (case k7 => ktr_room); (case k8 => ktr_units); intro t9Zz h9Zz tk9Zz F9Zz N9Zz; (try dsimp only); (try k_fold)))))) | with_reducible (((with_reducible show wpAny _ _ (call (Value.ref 138) [Value.str _ _]) _ _ _); (rename Reads _ _ => hR9Zz); (rename KBa.In _ => hI9Zz); k_dflt (refine' Says.use (decode_strR _ _ hR9Zz hI9Zz (by assumption) (by omega)) ?k1 ?k2 ?k3 ?k4 ?k5 ?k6 ?k7 ?k8 ?_; (((case k1 => k_asm); (case k2 => k_asm); (case k3 => k_asm); (case k4 => k_asm); (case k5 => k_asm); (case k6 => first | exact rfl | assumption); (case k7 => ktr_room); (case k8 => ktr_units); intro t9Zz h9Zz tk9Zz F9Zz N9Zz; (try dsimp only); (try k_fold)))))) | with_reducible (((with_reducible show wpAny _ _ (call (Value.ref 827) _) _ _ _); k_dflt (refine' Says.use (strewn_ok _ _ _ _ _ (by assumption) (by omega)) ?k1 ?k2 ?k3 ?k4 ?k5 ?k6 ?k7 ?k8 ?_; (((case k1 => k_asm); (case k2 => k_asm); (case k3 => k_asm); (case k4 => k_asm); (case k5 => k_asm); (case k6 => first | exact rfl | assumption); (case k7 => ktr_room); (case k8 => ktr_units); intro t9Zz h9Zz tk9Zz F9Zz N9Zz; (try dsimp only); (try k_fold))))))) | ((with_reducible show wpAny _ _ (compareOp CmpOp.NotEq (Value.bytes _ _) (Value.bytes _ _)) _ _ _); first | with_reducible ((refine r_neBB ?_))) | with_reducible (((with_reducible refine gm_encode ?_))) | walk1 | (dsimp only; first | ((with_reducible show wpAny _ _ (call (Value.builtin "str.encode") _) _ _ _); first | with_reducible ((first | ((with_reducible show wpAny _ _ (call (Value.builtin "str.encode") [Value.str _ _, Value.str (PySem.Str.ofString "utf-8") _]) _ _ _); refine r_enc8 (by assumption) (by omega) ?_; intro _ _) | ((with_reducible show wpAny _ _ (call (Value.builtin "str.encode") [Value.str _ _, Value.str (PySem.Str.ofString "ascii") _]) _ _ _); refine r_encA (by assumption) (by omega) ?_; intro _ _)))) | ((with_reducible show wpAny _ _ (call (Value.ref _) _) _ _ _); first | with_reducible (((with_reducible show wpAny _ _ (call (Value.ref 138) [Value.bytes _ _]) _ _ _); (rename Reads _ _ => hR9Zz); (rename KBa.In _ => hI9Zz); k_dflt (refine' Says.use (decode_bytesR _ _ hR9Zz hI9Zz (by assumption) (by omega)) ?k1 ?k2 ?k3 ?k4 ?k5 ?k6 ?k7 ?k8 ?_; (((case k1 => k_asm); (case k2 => k_asm); (case k3 => k_asm); (case k4 => k_asm); (case k5 => k_asm); (case k6 => first | exact rfl | assumption); (case k7 => ktr_room); (case k8 => ktr_units); intro t9Zz h9Zz tk9Zz F9Zz N9Zz; (try dsimp only); (try k_fold)))))) | with_reducible (((with_reducible show wpAny _ _ (call (Value.ref 138) [Value.str _ _]) _ _ _); (rename Reads _ _ => hR9Zz); (rename KBa.In _ => hI9Zz); k_dflt (refine' Says.use (decode_strR _ _ hR9Zz hI9Zz (by assumption) (by omega)) ?k1 ?k2 ?k3 ?k4 ?k5 ?k6 ?k7 ?k8 ?_; (((case k1 => k_asm); (case k2 => k_asm); (case k3 => k_asm); (case k4 => k_asm); (case k5 => k_asm); (case k6 => first | exact rfl | assumption); (case k7 => ktr_room); (case k8 => ktr_units); intro t9Zz h9Zz tk9Zz F9Zz N9Zz; (try dsimp only); (try k_fold)))))) | with_reducible (((with_reducible show wpAny _ _ (call (Value.ref 827) _) _ _ _); k_dflt (refine' Says.use (strewn_ok _ _ _ _ _ (by assumption) (by omega)) ?k1 ?k2 ?k3 ?k4 ?k5 ?k6 ?k7 ?k8 ?_; (((case k1 => k_asm); (case k2 => k_asm); (case k3 => k_asm); (case k4 => k_asm); (case k5 => k_asm); (case k6 => first | exact rfl | assumption); (case k7 => ktr_room); (case k8 => ktr_units); intro t9Zz h9Zz tk9Zz F9Zz N9Zz; (try dsimp only); (try k_fold))))))) | ((with_reducible show wpAny _ _ (compareOp CmpOp.NotEq (Value.bytes _ _) (Value.bytes _ _)) _ _ _); first | with_reducible ((refine r_neBB ?_))) | with_reducible (((with_reducible refine gm_encode ?_))) | walk1) | (leave1; (try dsimp only)) | fail "no step"))
    rename_i D5 h6 F5 N5 l5
    refine ⟨D5, [.str (strArr T9) tv, .str (strArr (strewL T9 md)) t9Zz], 0, _, _, fun J i m' news' => news' = (D5, listOf #[.str (strArr T9) tv, .str (strArr (strewL T9 md)) t9Zz] 0) :: (I, o) :: (Pg, listOf vsP.toArray nP) :: led ∧ m' (Str.ofString "octets") = some (.bytes (byteArr ns) t0) ∧ Kp md wd lv col ind t1 t2 t3 t4 t5 m', rfl, .head _, F5, N5, fun J hJ => ⟨⟨rfl, rfl, ?_⟩, ?_, ?_, ?_⟩⟩
    · have h1 := hk.put (k := Str.ofString "page") (v := .str (strArr T9) tv) (by decide)
      have h2 := h1.put (k := Str.ofString "octets") (v := .bytes (byteArr ns) t0) (by decide)
      exact h2.same (k := Str.ofString "mood") h2.1
    · rintro i m' n8 ⟨rfl, _, _⟩
      exact ⟨.head _, fun p hp => Nat.ne_of_lt (hJ p hp)⟩
    · rintro j v m₂ n8 h7 tk7 o7 hv8 ⟨rfl, ho7, hk7⟩ F7 N7
      obtain ⟨T8, tv8, rfl, hr8, ha8, hl8⟩ : ∃ T8 tv8, v = .str (strArr T8) tv8 ∧ Reads T8 ns ∧ Asc T8 ∧ T8.length ≤ 4000 := by
        rcases j with _ | _ | j
        · simp only [List.getElem?_cons_zero, Option.some.injEq] at hv8
          exact ⟨_, _, hv8.symm, hr1, ha1, by omega⟩
        · simp only [List.getElem?_cons_succ, List.getElem?_cons_zero, Option.some.injEq] at hv8
          have q := strew_len md T9 (0, [])
          refine ⟨_, _, hv8.symm, hr1.strew md, strew_asc md T9 (0, []) ha1 (fun _ h => nomatch h), ?_⟩
          unfold strewL
          simp only [List.length_nil] at q
          omega
        · simp at hv8
      clear hr1 ha1 hv8
      have F8 := fr_put F7 (Str.ofString "octets") (.bytes (byteArr ns) t0) ((if_neg (by decide)).trans ho7)
      clear F7 F5 N5
      replace F8 : Fr h₀ L h7 _ := F8
      replace N7 : News h₀ L h7 _ := N7
      repeat' (first | (k_unfold; (try dsimp only)) | ((fail_if_success (with_reducible show Q _ _)); first | ((first | (((first | (with_reducible show wpC _ _ (execs (Stmt.Expr (Expr.Call (Expr.Attribute _ (PySem.Str.ofString "append") _) _ _ _) _ :: _) _) _ _ _) | (with_reducible show wpC _ _ (execs (Stmt.AugAssign _ _ _ _ :: _) _) _ _ _)); refine wpC_execs_leaf ?_)) | ((first | ((with_reducible show wpC _ _ (execs (Stmt.If _ _ _ _ :: _) _) _ _ _); k_dflt (refine wpC_execs_cons (wpC_If ?_))) | ((with_reducible show wpC _ _ (execs (Stmt.Expr (Expr.Call (Expr.Attribute _ _ _) _ _ _) _ :: _) _) _ _ _); k_dflt (refine wpC_execs_cons (wpC_Expr (wpC_methodCall ?_)))) | ((with_reducible show wpC _ _ (callWith _ (Value.ref _) _ (backTo _ (starEach (_ :: _) _)) _) _ _ _); k_dflt (refine' wpC_callWith ?k1 ?k2 ?_; (case k1 => k_asm); (case k2 => k_is))))) | ((first | ((with_reducible show wpC _ _ (execs [] _) _ _ _); refine wpC_execs_nil ?_) | ((with_reducible show wpC _ _ (execs (Stmt.Assign [Expr.Attribute _ _ _] (Expr.IfExp _ _ _ _) _ :: _) _) _ _ _); k_dflt (refine wpC_execs_cons (wpC_Assign_Attribute ?_))) | ((with_reducible show wpC _ _ (execs (Stmt.Assign [Expr.Subscript _ _ _] _ _ :: _) _) _ _ _); k_dflt (refine wpC_execs_cons (wpC_Assign_Subscript ?_))) | ((with_reducible show wpC _ _ (execs (_ :: _) _) _ _ _); refine wpC_execs_leaf ?_) | ((with_reducible show wpC _ _ (eval (Expr.IfExp _ _ _ _) _) _ _ _); refine wpC_IfExp ?_) | ((with_reducible show wpC _ _ (eval (Expr.Call (Expr.Name _ _) [] [] _) _) _ _ _); refine wpC_callName ?_) | ((with_reducible show wpC _ _ (callWith _ (Value.type _) _ (backTo _ (starEach [] _)) _) _ _ _); refine wpC_callType0 ?_) | ((with_reducible show wpC _ _ (call (Value.type "bytearray") _) _ _ _); (rename Fr _ _ _ _ => F'Zz); (rename News _ _ _ _ => N'Zz); k_dflt (refine k_baNew0 F'Zz N'Zz ?_); intro B9Zz h9Zz F9Zz N9Zz l9Zz; k_lt l9Zz)))); (try dsimp only)) | (k_end; kc_close) | ((with_reducible show wpAny _ _ (call (Value.builtin "str.encode") _) _ _ _); first | with_reducible ((first | ((with_reducible show wpAny _ _ (call (Value.builtin "str.encode") [Value.str _ _, Value.str (PySem.Str.ofString "utf-8") _]) _ _ _); refine r_enc8 (by assumption) (by omega) ?_; intro _ _) | ((with_reducible show wpAny _ _ (call (Value.builtin "str.encode") [Value.str _ _, Value.str (PySem.Str.ofString "ascii") _]) _ _ _); refine r_encA (by assumption) (by omega) ?_; intro _ _)))) | ((with_reducible show wpAny _ _ (call (Value.ref _) _) _ _ _); first | with_reducible (((with_reducible show wpAny _ _ (call (Value.ref 138) [Value.bytes _ _]) _ _ _); (rename Reads _ _ => hR9Zz); (rename KBa.In _ => hI9Zz); k_dflt (refine' Says.use (decode_bytesR _ _ hR9Zz hI9Zz (by assumption) (by omega)) ?k1 ?k2 ?k3 ?k4 ?k5 ?k6 ?k7 ?k8 ?_; (((case k1 => k_asm); (case k2 => k_asm); (case k3 => k_asm); (case k4 => k_asm); (case k5 => k_asm); (case k6 => first | exact rfl | assumption); (case k7 => ktr_room); (case k8 => ktr_units); intro t9Zz h9Zz tk9Zz F9Zz N9Zz; (try dsimp only); (try k_fold)))))) | with_reducible (((with_reducible show wpAny _ _ (call (Value.ref 138) [Value.str _ _]) _ _ _); (rename Reads _ _ => hR9Zz); (rename KBa.In _ => hI9Zz); k_dflt (refine' Says.use (decode_strR _ _ hR9Zz hI9Zz (by assumption) (by omega)) ?k1 ?k2 ?k3 ?k4 ?k5 ?k6 ?k7 ?k8 ?_; (((case k1 => k_asm); (case k2 => k_asm); (case k3 => k_asm); (case k4 => k_asm); (case k5 => k_asm); (case k6 => first | exact rfl | assumption); (case k7 => ktr_room); (case k8 => ktr_units); intro t9Zz h9Zz tk9Zz F9Zz N9Zz; (try dsimp only); (try k_fold)))))) | with_reducible (((with_reducible show wpAny _ _ (call (Value.ref 827) _) _ _ _); k_dflt (refine' Says.use (strewn_ok _ _ _ _ _ (by assumption) (by omega)) ?k1 ?k2 ?k3 ?k4 ?k5 ?k6 ?k7 ?k8 ?_; (((case k1 => k_asm); (case k2 => k_asm); (case k3 => k_asm); (case k4 => k_asm); (case k5 => k_asm); (case k6 => first | exact rfl | assumption); (case k7 => ktr_room); (case k8 => ktr_units); intro t9Zz h9Zz tk9Zz F9Zz N9Zz; (try dsimp only); (try k_fold))))))) | ((with_reducible show wpAny _ _ (compareOp CmpOp.NotEq (Value.bytes _ _) (Value.bytes _ _)) _ _ _); first | with_reducible ((refine r_neBB ?_))) | with_reducible (((with_reducible refine gm_encode ?_))) | walk1 | (dsimp only; first | ((with_reducible show wpAny _ _ (call (Value.builtin "str.encode") _) _ _ _); first | with_reducible ((first | ((with_reducible show wpAny _ _ (call (Value.builtin "str.encode") [Value.str _ _, Value.str (PySem.Str.ofString "utf-8") _]) _ _ _); refine r_enc8 (by assumption) (by omega) ?_; intro _ _) | ((with_reducible show wpAny _ _ (call (Value.builtin "str.encode") [Value.str _ _, Value.str (PySem.Str.ofString "ascii") _]) _ _ _); refine r_encA (by assumption) (by omega) ?_; intro _ _)))) | ((with_reducible show wpAny _ _ (call (Value.ref _) _) _ _ _); first | with_reducible (((with_reducible show wpAny _ _ (call (Value.ref 138) [Value.bytes _ _]) _ _ _); (rename Reads _ _ => hR9Zz); (rename KBa.In _ => hI9Zz); k_dflt (refine' Says.use (decode_bytesR _ _ hR9Zz hI9Zz (by assumption) (by omega)) ?k1 ?k2 ?k3 ?k4 ?k5 ?k6 ?k7 ?k8 ?_; (((case k1 => k_asm); (case k2 => k_asm); (case k3 => k_asm); (case k4 => k_asm); (case k5 => k_asm); (case k6 => first | exact rfl | assumption); (case k7 => ktr_room); (case k8 => ktr_units); intro t9Zz h9Zz tk9Zz F9Zz N9Zz; (try dsimp only); (try k_fold)))))) | with_reducible (((with_reducible show wpAny _ _ (call (Value.ref 138) [Value.str _ _]) _ _ _); (rename Reads _ _ => hR9Zz); (rename KBa.In _ => hI9Zz); k_dflt (refine' Says.use (decode_strR _ _ hR9Zz hI9Zz (by assumption) (by omega)) ?k1 ?k2 ?k3 ?k4 ?k5 ?k6 ?k7 ?k8 ?_; (((case k1 => k_asm); (case k2 => k_asm); (case k3 => k_asm); (case k4 => k_asm); (case k5 => k_asm); (case k6 => first | exact rfl | assumption); (case k7 => ktr_room); (case k8 => ktr_units); intro t9Zz h9Zz tk9Zz F9Zz N9Zz; (try dsimp only); (try k_fold)))))) | with_reducible (((with_reducible show wpAny _ _ (call (Value.ref 827) _) _ _ _); k_dflt (refine' Says.use (strewn_ok _ _ _ _ _ (by assumption) (by omega)) ?k1 ?k2 ?k3 ?k4 ?k5 ?k6 ?k7 ?k8 ?_; (((case k1 => k_asm); (case k2 => k_asm); (case k3 => k_asm); (case k4 => k_asm); (case k5 => k_asm); (case k6 => first | exact rfl | assumption); (case k7 => ktr_room); (case k8 => ktr_units); intro t9Zz h9Zz tk9Zz F9Zz N9Zz; (try dsimp only); (try k_fold))))))) | ((with_reducible show wpAny _ _ (compareOp CmpOp.NotEq (Value.bytes _ _) (Value.bytes _ _)) _ _ _); first | with_reducible ((refine r_neBB ?_))) | with_reducible (((with_reducible refine gm_encode ?_))) | walk1) | (leave1; (try dsimp only)) | fail "no step"))
      refine ⟨rfl, _, _, _, _, rfl, by k_asm, by k_asm, rfl, if_pos rfl, ?_⟩
      exact (hk7.put (k := Str.ofString "words") (v := .str (strArr T8) tv8) (by decide)).put (by decide)
    · rintro m' n8 h7 tk7 ⟨rfl, ho7, hk7⟩ F7 N7
      refine wpC_execs_nil ?_
      exact ⟨rfl, _, _, _, _, rfl, F7, fun p hp => N7 p (.tail _ hp), rfl, ho7, hk7⟩
  · rintro m' n8 h tk ⟨rfl, ho, hk⟩ F1 N1
    refine wpC_execs_nil ?_
    exact hQ _ _ _ hk F1 (fun p hp => N1 p (.tail _ hp))
end
section
open PySem.Calls Builtin Builtin.Str PySem.StrLaws
theorem at_str {T : List Int} {n i : Nat} : At (strArr T) ⟨#[n]⟩ (strArr T).length i ↔ ∃ c, T[i]? = some c ∧ c.toNat = n := by
  show (_ ∧ _) ↔ _
  rw [subAt_one, strArr_toList, List.getElem?_map, Option.map_eq_some_iff]
theorem idx_first {A Z : List Int} {c : Int} (hc : 0 ≤ c) (hA : ∀ a ∈ A, 0 ≤ a ∧ a ≠ c) : ∃ rest, occurrences (strArr (A ++ c :: Z)) ⟨#[c.toNat]⟩ 0 (strArr (A ++ c :: Z)).length 1 = A.length :: rest := by
  have hat : At (strArr (A ++ c :: Z)) ⟨#[c.toNat]⟩ (strArr (A ++ c :: Z)).length A.length := at_str.mpr ⟨c, by simp, rfl⟩
  rcases occ_head (strArr (A ++ c :: Z)) ⟨#[c.toNat]⟩ 1 (Nat.le_refl _) with ⟨_, h⟩ | ⟨i, r, h1, h2, h3⟩
  · exact absurd hat (h _)
  · obtain ⟨d, hd, he⟩ := at_str.mp h2
    rcases Nat.lt_trichotomy i A.length with q | q | q
    · exfalso
      rw [List.getElem?_append_left q] at hd
      have := hA d (List.mem_of_getElem? hd)
      omega
    · exact ⟨r, by rw [h1, q]⟩
    · exact absurd hat (h3 _ q)
theorem idx_last {A Z : List Int} {c : Int} (hc : 0 ≤ c) (hZ : ∀ a ∈ Z, 0 ≤ a ∧ a ≠ c) : lastOccurrence (strArr (A ++ c :: Z)) ⟨#[c.toNat]⟩ 0 (strArr (A ++ c :: Z)).length = some A.length := by
  have hat : At (strArr (A ++ c :: Z)) ⟨#[c.toNat]⟩ (strArr (A ++ c :: Z)).length A.length := at_str.mpr ⟨c, by simp, rfl⟩
  rcases last_spec (strArr (A ++ c :: Z)) ⟨#[c.toNat]⟩ with ⟨_, h⟩ | ⟨i, h1, h2, h3⟩
  · exact absurd hat (h _)
  · obtain ⟨d, hd, he⟩ := at_str.mp h2
    rcases Nat.lt_trichotomy i A.length with q | q | q
    · exact absurd hat (h3 _ q)
    · rw [h1, q]
    · exfalso
      rw [List.getElem?_append_right (Nat.le_of_lt q)] at hd
      obtain ⟨j, hj⟩ : ∃ j, i - A.length = j + 1 := ⟨i - A.length - 1, by omega⟩
      rw [hj, List.getElem?_cons_succ] at hd
      have := hZ d (List.mem_of_getElem? hd)
      omega
/-- the writer's sheet: R the indent, PG the rows -/
noncomputable def sheetL (R PG : List Int) : List Int := R ++ [60, 100, 97, 116, 97, 62] ++ [10] ++ PG ++ R ++ [60, 47, 100, 97, 116, 97, 62] ++ [10]
theorem sheet_page (rows : List (List Int)) (R : List Int) : pageL ([[60, 100, 97, 116, 97, 62]] ++ rows ++ [[60, 47, 100, 97, 116, 97, 62]]) R = sheetL R (pageL rows R) := by
  rw [pageL_app, pageL_app]
  unfold sheetL
  rw [show pageL [[60, 100, 97, 116, 97, 62]] R = R ++ [60, 100, 97, 116, 97, 62] ++ [10] by simp [pageL], show pageL [[60, 47, 100, 97, 116, 97, 62]] R = R ++ [60, 47, 100, 97, 116, 97, 62] ++ [10] by simp [pageL]]
  simp only [List.append_assoc]
theorem sheet_length (R PG : List Int) : (sheetL R PG).length = 2 * R.length + PG.length + 15 := by unfold sheetL; simp only [List.length_append, List.length_cons, List.length_nil]; omega
theorem sheet_mid (R PG : List Int) : ((sheetL R PG).drop (R.length + 6)).take (R.length + PG.length + 1) = [10] ++ PG ++ R := by
  have e : sheetL R PG = (R ++ [60, 100, 97, 116, 97, 62]) ++ (([10] ++ PG ++ R) ++ ([60, 47, 100, 97, 116, 97, 62] ++ [10])) := by unfold sheetL; simp only [List.append_assoc]
  rw [e, List.drop_append_of_le_length (by simp), List.drop_of_length_le (by simp), List.nil_append, List.take_append_of_le_length (by simp; omega), List.take_of_length_le (by simp; omega)]
section
variable {prog : Program} {w : World} {A : Around} {E : Value → Shared → Prop} {s : Shared} {t u : Tok} {Q : Value → Shared → Prop} {R PG : List Int}
theorem r_index (hR : ∀ a ∈ R, 0 ≤ a ∧ a ≠ 62) (h : Q (.int (R.length + 5 : Nat) s.toks) { s with toks := s.toks + 1 }) : wpAny (model prog w) A (call (.builtin "str.index") [.str (strArr (sheetL R PG)) t, .str (Str.ofString ">") u]) Q E s := by
  have e : sheetL R PG = (R ++ [60, 100, 97, 116, 97]) ++ 62 :: ([10] ++ PG ++ R ++ [60, 47, 100, 97, 116, 97, 62] ++ [10]) := by unfold sheetL; simp only [List.append_assoc, List.cons_append, List.nil_append]
  obtain ⟨r, hr⟩ := idx_first (A := R ++ [60, 100, 97, 116, 97]) (Z := [10] ++ PG ++ R ++ [60, 47, 100, 97, 116, 97, 62] ++ [10]) (c := 62) (by decide) (fun a ha => by
    rcases List.mem_append.mp ha with ha | ha
    · exact hR a ha
    · simp only [List.mem_cons, List.not_mem_nil, or_false] at ha; omega)
  rw [← e] at hr
  rw [show Str.ofString ">" = (⟨#[(62 : Int).toNat]⟩ : Str) by decide +kernel]
  refine SC.index hr ?_
  have el : (R ++ [60, 100, 97, 116, 97] : List Int).length = R.length + 5 := by simp
  rw [el]
  exact h
theorem r_rindex (h : Q (.int (2 * R.length + PG.length + 7 : Nat) s.toks) { s with toks := s.toks + 1 }) : wpAny (model prog w) A (call (.builtin "str.rindex") [.str (strArr (sheetL R PG)) t, .str (Str.ofString "<") u]) Q E s := by
  have e : sheetL R PG = (R ++ [60, 100, 97, 116, 97, 62] ++ [10] ++ PG ++ R) ++ 60 :: [47, 100, 97, 116, 97, 62, 10] := by unfold sheetL; simp only [List.append_assoc, List.cons_append, List.nil_append]
  have hr := idx_last (A := R ++ [60, 100, 97, 116, 97, 62] ++ [10] ++ PG ++ R) (Z := [47, 100, 97, 116, 97, 62, 10]) (c := 60) (by decide) (by decide)
  rw [← e] at hr
  rw [show Str.ofString "<" = (⟨#[(60 : Int).toNat]⟩ : Str) by decide +kernel]
  refine call_gives F.slot_str_rindex (typeIs_str _ _ _) F.entry_str_rindex (F.args_str_rindex_2 _ _) (gives_str_rindex _ _ t u _ hr) ?_
  have el : (R ++ [60, 100, 97, 116, 97, 62] ++ [10] ++ PG ++ R : List Int).length = 2 * R.length + PG.length + 7 := by simp only [List.length_append, List.length_cons, List.length_nil]; omega
  rw [el]
  exact h
theorem r_cutMid {w1 sl : PySem.Expr} {h₀ : Heap} {L : Addr} {m : PySem.Str → Option Value} {news : List (Addr × Obj)} {i j : Int} {ti tj : Tok} (hF : Fr h₀ L s.heap m) (hN : News h₀ L s.heap news) (hi : i = (R.length : Int) + 6) (hj : j = 2 * (R.length : Int) + PG.length + 7) (hz : R.length + PG.length ≤ 10000)
    (h : ∀ h' t' k, Fr h₀ L h' m → News h₀ L h' news → Q (.str (strArr ([10] ++ PG ++ R)) t') { s with heap := h', toks := k })
    (hs : subscripted sl false (.str (strArr (sheetL R PG)) t) (.ref s.heap.objs.size) = operate [.ref s.heap.objs.size, .str (strArr (sheetL R PG)) t] (getItem (.str (strArr (sheetL R PG)) t) (.ref s.heap.objs.size)) := by with_unfolding_all rfl)
    (ht : ∀ r, letTemporaryGo w1 (.str (strArr (sheetL R PG)) t) r = pure () := by intro _; with_unfolding_all rfl) :
    wpAny (model prog w) A (subscriptTail w1 sl (.str (strArr (sheetL R PG)) t) (.ref s.heap.objs.size)) Q E { s with heap := s.heap.push { cls := .type "slice", data := .fields #[.int i ti, .int j tj, .none] } } :=
  slice_strN_ss hF hN (by
    rw [slice_mid (by omega) (by omega) (by rw [sheet_length]; omega), show i.toNat = R.length + 6 by omega, show (j - i).toNat = R.length + PG.length + 1 by omega, sheet_mid]
    exact h) hs ht (by rw [strArr_len, sheet_length, sizeLine_eq]; omega)
end
end
section
set_option maxHeartbeats 8000000
theorem news_six {h₀ h : Heap} {L : Addr} {a b c d e f : Addr × Obj} {r : List (Addr × Obj)} (N : News h₀ L h (a :: b :: c :: d :: e :: f :: r)) : News h₀ L h (d :: e :: f :: a :: b :: c :: r) := fun p hp => N p (by
  simp only [List.mem_cons] at hp ⊢
  rcases hp with h | h | h | h | h | h | h <;> simp [h])
theorem news_drop6 {h₀ h : Heap} {L : Addr} {a b c d e f : Addr × Obj} {r : List (Addr × Obj)} (N : News h₀ L h (a :: b :: c :: d :: e :: f :: r)) : News h₀ L h r := fun p hp => N p (.tail _ (.tail _ (.tail _ (.tail _ (.tail _ (.tail _ hp))))))
theorem allLt_head {d : Nat} {p : Addr × Obj} {r : List (Addr × Obj)} (h : AllLt d (p :: r)) : @LT.lt Nat _ p.1 d := h.1
theorem allLt_all {d : Addr} : ∀ {l : List (Addr × Obj)}, AllLt d l → ∀ p ∈ l, @LT.lt Nat _ p.1 d
  | p :: r, h, q, hq => by
    rcases List.mem_cons.mp hq with rfl | hq
    · exact h.1
    · exact allLt_all h.2 q hq
  | [], _, _, hq => nomatch hq
theorem wbytes2 (w : World) (W dW x dx B St : Addr) (ind ns R PG : List Int) (lv : Int) (k1 k2 t tb tl ti j1 j2 j3 j4 j5 j6 j7 : Tok) (rest : List (Addr × Obj)) (hR : R = (List.replicate lv.toNat ind).flatten) (hPG : PG = pageL (rowsL ns (3 * (max 16 (76 - colL R) / 4))) R) (hl0 : 0 ≤ lv) (hl1 : lv ≤ 11) (hli : ind.length ≤ 2) (hin : KBa.In ns) (hns : ns.length ≤ 64) (h9 : ∀ n ∈ ind, n = 9 ∨ n = 32)
    (h1 : @LT.lt Nat _ dx x) (h2 : @LT.lt Nat _ x B) (h3 : @LT.lt Nat _ B dW) (h4 : @LT.lt Nat _ dW W) (h5 : @LT.lt Nat _ W St) (hal : ∀ p ∈ rest, @LT.lt Nat _ p.1 dx) :
    SaysC w 20 500 239 [.ref W, .bytes (byteArr ns) tb] (fun news => news = wLed w.params W dW x dx B St [] k1 k2 t #[] 0 lv ind tl ti j1 j2 j3 j4 j5 j6 j7 rest)
      (fun _ v news' => v = .none ∧ ∃ t' tl' n', news' = wLed w.params W dW x dx B St (sheetL R PG) k1 k2 t' #[] n' lv ind tl' ti j1 j2 j3 j4 j5 j6 j7 rest) := by
  have h := wbytes_ok w W dW x dx B St [] ind ns lv k1 k2 t tb tl ti j1 j2 j3 j4 j5 j6 j7 rest (by decide) hl0 hl1 hli hin hns h9 h1 h2 h3 h4 h5 hal
  rw [← hR, ← hPG, List.nil_append] at h
  exact h
theorem sheet_asc {R PG : List Int} (hR : Asc R) (hP : Asc PG) : Asc (sheetL R PG) := by
  unfold sheetL
  intro a ha
  simp only [List.mem_append] at ha
  rcases ha with (((((ha | ha) | ha) | ha) | ha) | ha) | ha
  · exact hR a ha
  · exact asc_open a ha
  · rw [List.mem_singleton.mp ha]; decide
  · exact hP a ha
  · exact hR a ha
  · exact asc_shut a ha
  · rw [List.mem_singleton.mp ha]; decide
theorem stageD {w : World} {scope : Scope} {cdv : Value} {b : List Stmt} (hb : lawParts (KH w.params) = some (scope, cdv, b)) (ns : List Int) (pgs : List (List Int)) (vsP : List Value) (nP : Nat) (Pg : Addr) (led : List (Addr × Obj)) (g : PySem.Str → Option Value)
    (md wd lv col : Int) (ind R PG : List Int) (t0 t1 t2 t3 t4 t5 t6 : Tok) (hin : KBa.In ns) (hns : ns.length ≤ 64) (hmd : 0 ≤ md) (hmd2 : md < 10007) (hl0 : 0 ≤ lv) (hl1 : lv ≤ 11) (hli : ind.length ≤ 2) (h9 : ∀ n ∈ ind, n = 9 ∨ n = 32)
    (hR : R = (List.replicate lv.toNat ind).flatten) (hPG : PG = pageL (rowsL ns (3 * (max 16 (76 - colL R) / 4))) R)
    (hv : TsAre vsP pgs) (hpg : ∀ T ∈ pgs, Reads T ns ∧ Asc T ∧ T.length ≤ 1000) (hg : Kp md wd lv col ind t1 t2 t3 t4 t5 g)
    {p : Program} {loose : List PySem.Str} {mean : ExcName → Option Value} {mg mb : PySem.Str → Option Value} {h₀ : Heap} {L : Addr} {s : Shared} {Q : Flow → Shared → Prop} {E : Value → Shared → Prop}
    (X : (KH w.params).In h₀) (T : Top p loose mean mg mb h₀) (K0 : Below callerA h₀ [] h₀)
    (F : Fr h₀ L s.heap (fun y => if y = Str.ofString "sheet" then some (.str (strArr (sheetL R PG)) t6) else if y = Str.ofString "pages" then some (.ref Pg) else if y = Str.ofString "octets" then some (.bytes (byteArr ns) t0) else if y = Str.ofString "level" then some (.int lv t4) else if y = Str.ofString "indent" then some (.str (strArr ind) t3) else g y))
    (hpn : pgs.length ≤ 2) (hPl : ∀ p ∈ led, p.1 ≠ Pg) (N : News h₀ L s.heap ((Pg, listOf vsP.toArray nP) :: led)) (hE : PassesOwn (model PySem.Challenge.rw_kl0275_01.prog w) (callerA.deeper (envOf (Str.ofString "law") scope L 841 cdv)) (envOf (Str.ofString "law") scope L 841 cdv) E)
    (hQ : ∀ h' tk m', Kp md wd lv col ind t1 t2 t3 t4 t5 m' → Fr h₀ L h' m' → News h₀ L h' led → Q .next { s with heap := h', toks := tk }) :
    wpC (model PySem.Challenge.rw_kl0275_01.prog w) (callerA.deeper (envOf (Str.ofString "law") scope L 841 cdv)) (execs (b.drop 6) (envOf (Str.ofString "law") scope L 841 cdv)) Q E s := by
  revert hb
  k_fill
  intro hb
  cases hb.symm.trans (rfl : lawParts (KH w.params) = some (_, _, _))
  clear hb
  simp only [List.drop]
  have hI0 : IntsAre ([] : List Value) [] := IntsAre.nil
  have hRl : R.length ≤ 22 := by
    have hmul : lv.toNat * ind.length ≤ 11 * 2 := Nat.mul_le_mul (by omega) hli
    rw [hR, rep_len]; omega
  have hR9 : ∀ a ∈ R, 0 ≤ a ∧ a ≠ 62 := fun a ha => by
    rw [hR] at ha
    have := rep_mem h9 lv.toNat a ha
    omega
  have hai : Asc ind := fun a ha => by have := h9 a ha; omega
  have haR : Asc R := fun a ha => by
    rw [hR] at ha
    have := rep_mem h9 lv.toNat a ha
    omega
  have hcol0 : 0 ≤ colL R := (col_le R 0 (by decide)).1
  have hfo : 4 ≤ max 16 (76 - colL R) / 4 := by omega
  have hPl : PG.length ≤ 226 := by rw [hPG]; exact page_far hin hns hfo hRl
  have haP : Asc PG := by rw [hPG]; exact page_asc haR (rows_asc hin _)
  have hSl : (sheetL R PG).length ≤ 300 := by rw [sheet_length]; omega
  have haS : Asc (sheetL R PG) := sheet_asc haR haP
  repeat' (first | (k_unfold; (try dsimp only)) | ((fail_if_success (with_reducible show Q _ _)); (fail_if_success (with_reducible show wpC _ _ (execs (Stmt.For _ _ _ _ _ :: _) _) _ _ _)); first | ((first | (((with_reducible show wpC _ _ (call (Value.ref 239) _) _ _ _); (rename Fr _ _ _ _ => F'Zz); (rename News _ _ _ _ => N'Zz); k_dflt ((refine' SaysC.use (wbytes2 _ _ _ _ _ _ _ _ _ _ _ _ _ _ _ _ _ _ _ _ _ _ _ _ _ _ (by assumption) (by assumption) (by assumption) (by assumption) (by assumption) (by assumption) (by assumption) (by assumption) (by assumption) (by assumption) (by assumption) (by assumption) (by assumption) (allLt_all (by assumption))) ?k1 F'Zz ?k3 (news_six N'Zz) ?k5 ?k6 ?k7 ?k8 rfl ?_); (case k1 => k_asm); (case k3 => k_asm); (case k5 => k_asm); (case k6 => first | exact rfl | assumption); (case k7 => ktr_room); (case k8 => ktr_units); (rintro v9Zz n9Zz h9Zz tk9Zz ⟨w9Zz, t9Zz, tl9Zz, m9Zz, f9Zz⟩ F9Zz N9Zz); subst w9Zz; subst n9Zz; (try dsimp only); (try k_fold)))) | (((with_reducible show wpC _ _ (call (Value.ref 559) _) _ _ _); (rename Fr _ _ _ _ => F'Zz); (rename News _ _ _ _ => N'Zz); k_dflt ((refine' SaysC.use (bio_ok _) ?k1 F'Zz ?k3 N'Zz ?k5 ?k6 ?k7 ?k8 trivial ?_); (case k1 => k_asm); (case k3 => k_asm); (case k5 => k_asm); (case k6 => first | exact rfl | assumption); (case k7 => ktr_room); (case k8 => ktr_units); (rintro v9Zz n9Zz h9Zz tk9Zz ⟨x9Zz, dx9Zz, B9Zz, q1Zz, q2Zz, q3Zz, w9Zz, f9Zz, l1Zz, l2Zz, l3Zz⟩ F9Zz N9Zz); subst w9Zz; subst n9Zz; (try dsimp only); (try k_fold)))) | ((first | ((with_reducible show wpC _ _ (execs (Stmt.Assign [Expr.Name _ _] (Expr.Call (Expr.Name _ _) [] [] _) _ :: _) _) _ _ _); k_dflt (refine wpC_execs_cons (wpC_Assign_Name ?_))) | ((with_reducible show wpC _ _ (callWith _ (Value.ref _) _ (backTo _ (starEach [] _)) _) _ _ _); (rename Fr _ _ _ _ => F'Zz); (rename Frag.In _ _ => X'Zz); k_dflt (refine' wpC_callWith0 (X'Zz.keeps F'Zz.keep) ?k2 ?_; (case k2 => k_is))))) | (((first | (with_reducible show wpC _ _ (execs (Stmt.Expr (Expr.Call (Expr.Attribute _ (PySem.Str.ofString "append") _) _ _ _) _ :: _) _) _ _ _) | (with_reducible show wpC _ _ (execs (Stmt.AugAssign _ _ _ _ :: _) _) _ _ _)); refine wpC_execs_leaf ?_)) | ((first | ((with_reducible show wpC _ _ (execs (Stmt.If _ _ _ _ :: _) _) _ _ _); k_dflt (refine wpC_execs_cons (wpC_If ?_))) | ((with_reducible show wpC _ _ (execs (Stmt.Expr (Expr.Call (Expr.Attribute _ _ _) _ _ _) _ :: _) _) _ _ _); k_dflt (refine wpC_execs_cons (wpC_Expr (wpC_methodCall ?_)))) | ((with_reducible show wpC _ _ (callWith _ (Value.ref _) _ (backTo _ (starEach (_ :: _) _)) _) _ _ _); k_dflt (refine' wpC_callWith ?k1 ?k2 ?_; (case k1 => k_asm); (case k2 => k_is))))) | ((first | ((with_reducible show wpC _ _ (execs [] _) _ _ _); refine wpC_execs_nil ?_) | ((with_reducible show wpC _ _ (execs (Stmt.Assign [Expr.Attribute _ _ _] (Expr.IfExp _ _ _ _) _ :: _) _) _ _ _); k_dflt (refine wpC_execs_cons (wpC_Assign_Attribute ?_))) | ((with_reducible show wpC _ _ (execs (Stmt.Assign [Expr.Subscript _ _ _] _ _ :: _) _) _ _ _); k_dflt (refine wpC_execs_cons (wpC_Assign_Subscript ?_))) | ((with_reducible show wpC _ _ (execs (_ :: _) _) _ _ _); refine wpC_execs_leaf ?_) | ((with_reducible show wpC _ _ (eval (Expr.IfExp _ _ _ _) _) _ _ _); refine wpC_IfExp ?_) | ((with_reducible show wpC _ _ (eval (Expr.Call (Expr.Name _ _) [] [] _) _) _ _ _); refine wpC_callName ?_) | ((with_reducible show wpC _ _ (callWith _ (Value.type _) _ (backTo _ (starEach [] _)) _) _ _ _); refine wpC_callType0 ?_) | ((with_reducible show wpC _ _ (call (Value.type "bytearray") _) _ _ _); (rename Fr _ _ _ _ => F'Zz); (rename News _ _ _ _ => N'Zz); k_dflt (refine k_baNew0 F'Zz N'Zz ?_); intro B9Zz h9Zz F9Zz N9Zz l9Zz; k_lt l9Zz)))); (try dsimp only)) | (k_end; kc_close) | ((with_reducible show wpAny _ _ (call (Value.builtin "str.encode") _) _ _ _); first | with_reducible ((first | ((with_reducible show wpAny _ _ (call (Value.builtin "str.encode") [Value.str _ _, Value.str (PySem.Str.ofString "utf-8") _]) _ _ _); refine r_enc8 (by assumption) (by omega) ?_; intro _ _) | ((with_reducible show wpAny _ _ (call (Value.builtin "str.encode") [Value.str _ _, Value.str (PySem.Str.ofString "ascii") _]) _ _ _); refine r_encA (by assumption) (by omega) ?_; intro _ _)))) | ((with_reducible show wpAny _ _ (call (Value.builtin "str.index") _) _ _ _); first | with_reducible ((refine r_index (by assumption) ?_))) | ((with_reducible show wpAny _ _ (call (Value.builtin "str.rindex") _) _ _ _); first | with_reducible ((refine r_rindex ?_))) | ((with_reducible show wpAny _ _ (call (Value.ref _) _) _ _ _); first | with_reducible (((with_reducible show wpAny _ _ (call (Value.ref 445) _) _ _ _); (rename Fr _ _ _ _ => F'Zz); (rename News _ _ _ _ => N'Zz); k_dflt ((refine' SaysG.use (getvalue_ok _ _ _ _ _ _ _ _ _ (by omega)) ?k1 F'Zz ?k3 N'Zz ?k5 ?k6 ?k7 ?k8 ⟨List.Mem.head _, List.Mem.tail _ (List.Mem.head _), List.Mem.tail _ (List.Mem.tail _ (List.Mem.head _))⟩ ?_); (case k1 => k_asm); (case k3 => k_asm); (case k5 => k_asm); (case k6 => first | exact rfl | assumption); (case k7 => ktr_room); (case k8 => ktr_units); (rintro v9Zz n9Zz h9Zz tk9Zz ⟨⟨tv9Zz, w9Zz⟩, f9Zz⟩ F9Zz N9Zz); subst w9Zz; subst n9Zz; (try dsimp only); (try k_fold)))) | with_reducible (((with_reducible show wpAny _ _ (call (Value.ref 256) _) _ _ _); (rename Fr _ _ _ _ => F'Zz); (rename News _ _ _ _ => N'Zz); k_dflt ((refine' SaysG.use (plist_ok _ _ _ _ _ _ _) ?k1 F'Zz ?k3 N'Zz ?k5 ?k6 ?k7 ?k8 trivial ?_); (case k1 => k_asm); (case k3 => k_asm); (case k5 => k_asm); (case k6 => first | exact rfl | assumption); (case k7 => ktr_room); (case k8 => ktr_units); (rintro v9Zz n9Zz h9Zz tk9Zz ⟨W9Zz, dW9Zz, S9Zz, q1Zz, q2Zz, q3Zz, q4Zz, q5Zz, q6Zz, q7Zz, q8Zz, q9Zz, w9Zz, f9Zz, l1Zz, l2Zz, l3Zz⟩ F9Zz N9Zz); (have l4Zz := allLt_head l3Zz); subst w9Zz; subst n9Zz; (try dsimp only); (try k_fold)))) | with_reducible (((with_reducible show wpAny _ _ (call (Value.ref 138) [Value.bytes _ _]) _ _ _); (rename Reads _ _ => hR9Zz); (rename KBa.In _ => hI9Zz); k_dflt (refine' Says.use (decode_bytesR _ _ hR9Zz hI9Zz (by assumption) (by omega)) ?k1 ?k2 ?k3 ?k4 ?k5 ?k6 ?k7 ?k8 ?_; (((case k1 => k_asm); (case k2 => k_asm); (case k3 => k_asm); (case k4 => k_asm); (case k5 => k_asm); (case k6 => first | exact rfl | assumption); (case k7 => ktr_room); (case k8 => ktr_units); intro t9Zz h9Zz tk9Zz F9Zz N9Zz; (try dsimp only); (try k_fold)))))) | with_reducible (((with_reducible show wpAny _ _ (call (Value.ref 138) [Value.str _ _]) _ _ _); (rename Reads _ _ => hR9Zz); (rename KBa.In _ => hI9Zz); k_dflt (refine' Says.use (decode_strR _ _ hR9Zz hI9Zz (by assumption) (by omega)) ?k1 ?k2 ?k3 ?k4 ?k5 ?k6 ?k7 ?k8 ?_; (((case k1 => k_asm); (case k2 => k_asm); (case k3 => k_asm); (case k4 => k_asm); (case k5 => k_asm); (case k6 => first | exact rfl | assumption); (case k7 => ktr_room); (case k8 => ktr_units); intro t9Zz h9Zz tk9Zz F9Zz N9Zz; (try dsimp only); (try k_fold)))))) | with_reducible (((with_reducible show wpAny _ _ (call (Value.ref 827) _) _ _ _); k_dflt (refine' Says.use (strewn_ok _ _ _ _ _ (by assumption) (by omega)) ?k1 ?k2 ?k3 ?k4 ?k5 ?k6 ?k7 ?k8 ?_; (((case k1 => k_asm); (case k2 => k_asm); (case k3 => k_asm); (case k4 => k_asm); (case k5 => k_asm); (case k6 => first | exact rfl | assumption); (case k7 => ktr_room); (case k8 => ktr_units); intro t9Zz h9Zz tk9Zz F9Zz N9Zz; (try dsimp only); (try k_fold))))))) | ((with_reducible show wpAny _ _ (compareOp CmpOp.NotEq (Value.bytes _ _) (Value.bytes _ _)) _ _ _); first | with_reducible ((refine r_neBB ?_))) | with_reducible ((first | (with_reducible refine GM.index ?_) | (with_reducible refine GM.rindex ?_))) | with_reducible (((with_reducible refine gm_encode ?_))) | ((with_reducible show wpAny _ _ (subscriptTail _ _ _ _) _ _ _); first | with_reducible (((with_reducible show wpAny _ _ (subscriptTail _ (Expr.Slice _ _ none _) (Value.str (strArr (sheetL _ _)) _) (Value.ref _)) _ _ _); (rename Fr _ _ _ _ => F'Zz); (rename News _ _ _ _ => N'Zz); (refine r_cutMid (s := ⟨_, _, _, _, _⟩) F'Zz N'Zz (by omega) (by omega) (by omega) ?_); intro _ _ _ _ _)) | with_reducible (((with_reducible show wpAny _ _ (subscriptTail _ _ (Value.bytes _ _) (Value.int _ _)) _ _ _); k_dflt (refine r_b64 (by omega) (by omega) ?_)))) | walk1 | (dsimp only; first | ((with_reducible show wpAny _ _ (call (Value.builtin "str.encode") _) _ _ _); first | with_reducible ((first | ((with_reducible show wpAny _ _ (call (Value.builtin "str.encode") [Value.str _ _, Value.str (PySem.Str.ofString "utf-8") _]) _ _ _); refine r_enc8 (by assumption) (by omega) ?_; intro _ _) | ((with_reducible show wpAny _ _ (call (Value.builtin "str.encode") [Value.str _ _, Value.str (PySem.Str.ofString "ascii") _]) _ _ _); refine r_encA (by assumption) (by omega) ?_; intro _ _)))) | ((with_reducible show wpAny _ _ (call (Value.builtin "str.index") _) _ _ _); first | with_reducible ((refine r_index (by assumption) ?_))) | ((with_reducible show wpAny _ _ (call (Value.builtin "str.rindex") _) _ _ _); first | with_reducible ((refine r_rindex ?_))) | ((with_reducible show wpAny _ _ (call (Value.ref _) _) _ _ _); first | with_reducible (((with_reducible show wpAny _ _ (call (Value.ref 445) _) _ _ _); (rename Fr _ _ _ _ => F'Zz); (rename News _ _ _ _ => N'Zz); k_dflt ((refine' SaysG.use (getvalue_ok _ _ _ _ _ _ _ _ _ (by omega)) ?k1 F'Zz ?k3 N'Zz ?k5 ?k6 ?k7 ?k8 ⟨List.Mem.head _, List.Mem.tail _ (List.Mem.head _), List.Mem.tail _ (List.Mem.tail _ (List.Mem.head _))⟩ ?_); (case k1 => k_asm); (case k3 => k_asm); (case k5 => k_asm); (case k6 => first | exact rfl | assumption); (case k7 => ktr_room); (case k8 => ktr_units); (rintro v9Zz n9Zz h9Zz tk9Zz ⟨⟨tv9Zz, w9Zz⟩, f9Zz⟩ F9Zz N9Zz); subst w9Zz; subst n9Zz; (try dsimp only); (try k_fold)))) | with_reducible (((with_reducible show wpAny _ _ (call (Value.ref 256) _) _ _ _); (rename Fr _ _ _ _ => F'Zz); (rename News _ _ _ _ => N'Zz); k_dflt ((refine' SaysG.use (plist_ok _ _ _ _ _ _ _) ?k1 F'Zz ?k3 N'Zz ?k5 ?k6 ?k7 ?k8 trivial ?_); (case k1 => k_asm); (case k3 => k_asm); (case k5 => k_asm); (case k6 => first | exact rfl | assumption); (case k7 => ktr_room); (case k8 => ktr_units); (rintro v9Zz n9Zz h9Zz tk9Zz ⟨W9Zz, dW9Zz, S9Zz, q1Zz, q2Zz, q3Zz, q4Zz, q5Zz, q6Zz, q7Zz, q8Zz, q9Zz, w9Zz, f9Zz, l1Zz, l2Zz, l3Zz⟩ F9Zz N9Zz); (have l4Zz := allLt_head l3Zz); subst w9Zz; subst n9Zz; (try dsimp only); (try k_fold)))) | with_reducible (((with_reducible show wpAny _ _ (call (Value.ref 138) [Value.bytes _ _]) _ _ _); (rename Reads _ _ => hR9Zz); (rename KBa.In _ => hI9Zz); k_dflt (refine' Says.use (decode_bytesR _ _ hR9Zz hI9Zz (by assumption) (by omega)) ?k1 ?k2 ?k3 ?k4 ?k5 ?k6 ?k7 ?k8 ?_; (((case k1 => k_asm); (case k2 => k_asm); (case k3 => k_asm); (case k4 => k_asm); (case k5 => k_asm); (case k6 => first | exact rfl | assumption); (case k7 => ktr_room); (case k8 => ktr_units); intro t9Zz h9Zz tk9Zz F9Zz N9Zz; (try dsimp only); (try k_fold)))))) | with_reducible (((with_reducible show wpAny _ _ (call (Value.ref 138) [Value.str _ _]) _ _ _); (rename Reads _ _ => hR9Zz); (rename KBa.In _ => hI9Zz); k_dflt (refine' Says.use (decode_strR _ _ hR9Zz hI9Zz (by assumption) (by omega)) ?k1 ?k2 ?k3 ?k4 ?k5 ?k6 ?k7 ?k8 ?_; (((case k1 => k_asm); (case k2 => k_asm); (case k3 => k_asm); (case k4 => k_asm); (case k5 => k_asm); (case k6 => first | exact rfl | assumption); (case k7 => ktr_room); (case k8 => ktr_units); intro t9Zz h9Zz tk9Zz F9Zz N9Zz; (try dsimp only); (try k_fold)))))) | with_reducible (((with_reducible show wpAny _ _ (call (Value.ref 827) _) _ _ _); k_dflt (refine' Says.use (strewn_ok _ _ _ _ _ (by assumption) (by omega)) ?k1 ?k2 ?k3 ?k4 ?k5 ?k6 ?k7 ?k8 ?_; (((case k1 => k_asm); (case k2 => k_asm); (case k3 => k_asm); (case k4 => k_asm); (case k5 => k_asm); (case k6 => first | exact rfl | assumption); (case k7 => ktr_room); (case k8 => ktr_units); intro t9Zz h9Zz tk9Zz F9Zz N9Zz; (try dsimp only); (try k_fold))))))) | ((with_reducible show wpAny _ _ (compareOp CmpOp.NotEq (Value.bytes _ _) (Value.bytes _ _)) _ _ _); first | with_reducible ((refine r_neBB ?_))) | with_reducible ((first | (with_reducible refine GM.index ?_) | (with_reducible refine GM.rindex ?_))) | with_reducible (((with_reducible refine gm_encode ?_))) | ((with_reducible show wpAny _ _ (subscriptTail _ _ _ _) _ _ _); first | with_reducible (((with_reducible show wpAny _ _ (subscriptTail _ (Expr.Slice _ _ none _) (Value.str (strArr (sheetL _ _)) _) (Value.ref _)) _ _ _); (rename Fr _ _ _ _ => F'Zz); (rename News _ _ _ _ => N'Zz); (refine r_cutMid (s := ⟨_, _, _, _, _⟩) F'Zz N'Zz (by omega) (by omega) (by omega) ?_); intro _ _ _ _ _)) | with_reducible (((with_reducible show wpAny _ _ (subscriptTail _ _ (Value.bytes _ _) (Value.int _ _)) _ _ _); k_dflt (refine r_b64 (by omega) (by omega) ?_)))) | walk1) | (leave1; (try dsimp only)) | fail "no step"))
  have hvl : vsP.length ≤ 2 := by rw [hv.length]; exact hpn
  rename News _ _ _ _ => N8
  replace N8 := news_drop6 N8
  repeat' (first | (k_unfold; (try dsimp only)) | ((fail_if_success (with_reducible show Q _ _)); (fail_if_success (with_reducible show wpC _ _ (execs (Stmt.For _ _ _ _ _ :: _) _) _ _ _)); first | ((first | (((with_reducible show wpC _ _ (call (Value.ref 239) _) _ _ _); (rename Fr _ _ _ _ => F'Zz); (rename News _ _ _ _ => N'Zz); k_dflt ((refine' SaysC.use (wbytes2 _ _ _ _ _ _ _ _ _ _ _ _ _ _ _ _ _ _ _ _ _ _ _ _ _ _ (by assumption) (by assumption) (by assumption) (by assumption) (by assumption) (by assumption) (by assumption) (by assumption) (by assumption) (by assumption) (by assumption) (by assumption) (by assumption) (allLt_all (by assumption))) ?k1 F'Zz ?k3 (news_six N'Zz) ?k5 ?k6 ?k7 ?k8 rfl ?_); (case k1 => k_asm); (case k3 => k_asm); (case k5 => k_asm); (case k6 => first | exact rfl | assumption); (case k7 => ktr_room); (case k8 => ktr_units); (rintro v9Zz n9Zz h9Zz tk9Zz ⟨w9Zz, t9Zz, tl9Zz, m9Zz, f9Zz⟩ F9Zz N9Zz); subst w9Zz; subst n9Zz; (try dsimp only); (try k_fold)))) | (((with_reducible show wpC _ _ (call (Value.ref 559) _) _ _ _); (rename Fr _ _ _ _ => F'Zz); (rename News _ _ _ _ => N'Zz); k_dflt ((refine' SaysC.use (bio_ok _) ?k1 F'Zz ?k3 N'Zz ?k5 ?k6 ?k7 ?k8 trivial ?_); (case k1 => k_asm); (case k3 => k_asm); (case k5 => k_asm); (case k6 => first | exact rfl | assumption); (case k7 => ktr_room); (case k8 => ktr_units); (rintro v9Zz n9Zz h9Zz tk9Zz ⟨x9Zz, dx9Zz, B9Zz, q1Zz, q2Zz, q3Zz, w9Zz, f9Zz, l1Zz, l2Zz, l3Zz⟩ F9Zz N9Zz); subst w9Zz; subst n9Zz; (try dsimp only); (try k_fold)))) | ((first | ((with_reducible show wpC _ _ (execs (Stmt.Assign [Expr.Name _ _] (Expr.Call (Expr.Name _ _) [] [] _) _ :: _) _) _ _ _); k_dflt (refine wpC_execs_cons (wpC_Assign_Name ?_))) | ((with_reducible show wpC _ _ (callWith _ (Value.ref _) _ (backTo _ (starEach [] _)) _) _ _ _); (rename Fr _ _ _ _ => F'Zz); (rename Frag.In _ _ => X'Zz); k_dflt (refine' wpC_callWith0 (X'Zz.keeps F'Zz.keep) ?k2 ?_; (case k2 => k_is))))) | (((first | (with_reducible show wpC _ _ (execs (Stmt.Expr (Expr.Call (Expr.Attribute _ (PySem.Str.ofString "append") _) _ _ _) _ :: _) _) _ _ _) | (with_reducible show wpC _ _ (execs (Stmt.AugAssign _ _ _ _ :: _) _) _ _ _)); refine wpC_execs_leaf ?_)) | ((first | ((with_reducible show wpC _ _ (execs (Stmt.If _ _ _ _ :: _) _) _ _ _); k_dflt (refine wpC_execs_cons (wpC_If ?_))) | ((with_reducible show wpC _ _ (execs (Stmt.Expr (Expr.Call (Expr.Attribute _ _ _) _ _ _) _ :: _) _) _ _ _); k_dflt (refine wpC_execs_cons (wpC_Expr (wpC_methodCall ?_)))) | ((with_reducible show wpC _ _ (callWith _ (Value.ref _) _ (backTo _ (starEach (_ :: _) _)) _) _ _ _); k_dflt (refine' wpC_callWith ?k1 ?k2 ?_; (case k1 => k_asm); (case k2 => k_is))))) | ((first | ((with_reducible show wpC _ _ (execs [] _) _ _ _); refine wpC_execs_nil ?_) | ((with_reducible show wpC _ _ (execs (Stmt.Assign [Expr.Attribute _ _ _] (Expr.IfExp _ _ _ _) _ :: _) _) _ _ _); k_dflt (refine wpC_execs_cons (wpC_Assign_Attribute ?_))) | ((with_reducible show wpC _ _ (execs (Stmt.Assign [Expr.Subscript _ _ _] _ _ :: _) _) _ _ _); k_dflt (refine wpC_execs_cons (wpC_Assign_Subscript ?_))) | ((with_reducible show wpC _ _ (execs (_ :: _) _) _ _ _); refine wpC_execs_leaf ?_) | ((with_reducible show wpC _ _ (eval (Expr.IfExp _ _ _ _) _) _ _ _); refine wpC_IfExp ?_) | ((with_reducible show wpC _ _ (eval (Expr.Call (Expr.Name _ _) [] [] _) _) _ _ _); refine wpC_callName ?_) | ((with_reducible show wpC _ _ (callWith _ (Value.type _) _ (backTo _ (starEach [] _)) _) _ _ _); refine wpC_callType0 ?_) | ((with_reducible show wpC _ _ (call (Value.type "bytearray") _) _ _ _); (rename Fr _ _ _ _ => F'Zz); (rename News _ _ _ _ => N'Zz); k_dflt (refine k_baNew0 F'Zz N'Zz ?_); intro B9Zz h9Zz F9Zz N9Zz l9Zz; k_lt l9Zz)))); (try dsimp only)) | (k_end; kc_close) | ((with_reducible show wpAny _ _ (call (Value.builtin "str.encode") _) _ _ _); first | with_reducible ((first | ((with_reducible show wpAny _ _ (call (Value.builtin "str.encode") [Value.str _ _, Value.str (PySem.Str.ofString "utf-8") _]) _ _ _); refine r_enc8 (by assumption) (by omega) ?_; intro _ _) | ((with_reducible show wpAny _ _ (call (Value.builtin "str.encode") [Value.str _ _, Value.str (PySem.Str.ofString "ascii") _]) _ _ _); refine r_encA (by assumption) (by omega) ?_; intro _ _)))) | ((with_reducible show wpAny _ _ (call (Value.builtin "str.index") _) _ _ _); first | with_reducible ((refine r_index (by assumption) ?_))) | ((with_reducible show wpAny _ _ (call (Value.builtin "str.rindex") _) _ _ _); first | with_reducible ((refine r_rindex ?_))) | ((with_reducible show wpAny _ _ (call (Value.ref _) _) _ _ _); first | with_reducible (((with_reducible show wpAny _ _ (call (Value.ref 445) _) _ _ _); (rename Fr _ _ _ _ => F'Zz); (rename News _ _ _ _ => N'Zz); k_dflt ((refine' SaysG.use (getvalue_ok _ _ _ _ _ _ _ _ _ (by omega)) ?k1 F'Zz ?k3 N'Zz ?k5 ?k6 ?k7 ?k8 ⟨List.Mem.head _, List.Mem.tail _ (List.Mem.head _), List.Mem.tail _ (List.Mem.tail _ (List.Mem.head _))⟩ ?_); (case k1 => k_asm); (case k3 => k_asm); (case k5 => k_asm); (case k6 => first | exact rfl | assumption); (case k7 => ktr_room); (case k8 => ktr_units); (rintro v9Zz n9Zz h9Zz tk9Zz ⟨⟨tv9Zz, w9Zz⟩, f9Zz⟩ F9Zz N9Zz); subst w9Zz; subst n9Zz; (try dsimp only); (try k_fold)))) | with_reducible (((with_reducible show wpAny _ _ (call (Value.ref 256) _) _ _ _); (rename Fr _ _ _ _ => F'Zz); (rename News _ _ _ _ => N'Zz); k_dflt ((refine' SaysG.use (plist_ok _ _ _ _ _ _ _) ?k1 F'Zz ?k3 N'Zz ?k5 ?k6 ?k7 ?k8 trivial ?_); (case k1 => k_asm); (case k3 => k_asm); (case k5 => k_asm); (case k6 => first | exact rfl | assumption); (case k7 => ktr_room); (case k8 => ktr_units); (rintro v9Zz n9Zz h9Zz tk9Zz ⟨W9Zz, dW9Zz, S9Zz, q1Zz, q2Zz, q3Zz, q4Zz, q5Zz, q6Zz, q7Zz, q8Zz, q9Zz, w9Zz, f9Zz, l1Zz, l2Zz, l3Zz⟩ F9Zz N9Zz); (have l4Zz := allLt_head l3Zz); subst w9Zz; subst n9Zz; (try dsimp only); (try k_fold)))) | with_reducible (((with_reducible show wpAny _ _ (call (Value.ref 138) [Value.bytes _ _]) _ _ _); (rename Reads _ _ => hR9Zz); (rename KBa.In _ => hI9Zz); k_dflt (refine' Says.use (decode_bytesR _ _ hR9Zz hI9Zz (by assumption) (by omega)) ?k1 ?k2 ?k3 ?k4 ?k5 ?k6 ?k7 ?k8 ?_; (((case k1 => k_asm); (case k2 => k_asm); (case k3 => k_asm); (case k4 => k_asm); (case k5 => k_asm); (case k6 => first | exact rfl | assumption); (case k7 => ktr_room); (case k8 => ktr_units); intro t9Zz h9Zz tk9Zz F9Zz N9Zz; (try dsimp only); (try k_fold)))))) | with_reducible (((with_reducible show wpAny _ _ (call (Value.ref 138) [Value.str _ _]) _ _ _); (rename Reads _ _ => hR9Zz); (rename KBa.In _ => hI9Zz); k_dflt (refine' Says.use (decode_strR _ _ hR9Zz hI9Zz (by assumption) (by omega)) ?k1 ?k2 ?k3 ?k4 ?k5 ?k6 ?k7 ?k8 ?_; (((case k1 => k_asm); (case k2 => k_asm); (case k3 => k_asm); (case k4 => k_asm); (case k5 => k_asm); (case k6 => first | exact rfl | assumption); (case k7 => ktr_room); (case k8 => ktr_units); intro t9Zz h9Zz tk9Zz F9Zz N9Zz; (try dsimp only); (try k_fold)))))) | with_reducible (((with_reducible show wpAny _ _ (call (Value.ref 827) _) _ _ _); k_dflt (refine' Says.use (strewn_ok _ _ _ _ _ (by assumption) (by omega)) ?k1 ?k2 ?k3 ?k4 ?k5 ?k6 ?k7 ?k8 ?_; (((case k1 => k_asm); (case k2 => k_asm); (case k3 => k_asm); (case k4 => k_asm); (case k5 => k_asm); (case k6 => first | exact rfl | assumption); (case k7 => ktr_room); (case k8 => ktr_units); intro t9Zz h9Zz tk9Zz F9Zz N9Zz; (try dsimp only); (try k_fold))))))) | ((with_reducible show wpAny _ _ (compareOp CmpOp.NotEq (Value.bytes _ _) (Value.bytes _ _)) _ _ _); first | with_reducible ((refine r_neBB ?_))) | with_reducible ((first | (with_reducible refine GM.index ?_) | (with_reducible refine GM.rindex ?_))) | with_reducible (((with_reducible refine gm_encode ?_))) | ((with_reducible show wpAny _ _ (subscriptTail _ _ _ _) _ _ _); first | with_reducible (((with_reducible show wpAny _ _ (subscriptTail _ (Expr.Slice _ _ none _) (Value.str (strArr (sheetL _ _)) _) (Value.ref _)) _ _ _); (rename Fr _ _ _ _ => F'Zz); (rename News _ _ _ _ => N'Zz); (refine r_cutMid (s := ⟨_, _, _, _, _⟩) F'Zz N'Zz (by omega) (by omega) (by omega) ?_); intro _ _ _ _ _)) | with_reducible (((with_reducible show wpAny _ _ (subscriptTail _ _ (Value.bytes _ _) (Value.int _ _)) _ _ _); k_dflt (refine r_b64 (by omega) (by omega) ?_)))) | walk1 | (dsimp only; first | ((with_reducible show wpAny _ _ (call (Value.builtin "str.encode") _) _ _ _); first | with_reducible ((first | ((with_reducible show wpAny _ _ (call (Value.builtin "str.encode") [Value.str _ _, Value.str (PySem.Str.ofString "utf-8") _]) _ _ _); refine r_enc8 (by assumption) (by omega) ?_; intro _ _) | ((with_reducible show wpAny _ _ (call (Value.builtin "str.encode") [Value.str _ _, Value.str (PySem.Str.ofString "ascii") _]) _ _ _); refine r_encA (by assumption) (by omega) ?_; intro _ _)))) | ((with_reducible show wpAny _ _ (call (Value.builtin "str.index") _) _ _ _); first | with_reducible ((refine r_index (by assumption) ?_))) | ((with_reducible show wpAny _ _ (call (Value.builtin "str.rindex") _) _ _ _); first | with_reducible ((refine r_rindex ?_))) | ((with_reducible show wpAny _ _ (call (Value.ref _) _) _ _ _); first | with_reducible (((with_reducible show wpAny _ _ (call (Value.ref 445) _) _ _ _); (rename Fr _ _ _ _ => F'Zz); (rename News _ _ _ _ => N'Zz); k_dflt ((refine' SaysG.use (getvalue_ok _ _ _ _ _ _ _ _ _ (by omega)) ?k1 F'Zz ?k3 N'Zz ?k5 ?k6 ?k7 ?k8 ⟨List.Mem.head _, List.Mem.tail _ (List.Mem.head _), List.Mem.tail _ (List.Mem.tail _ (List.Mem.head _))⟩ ?_); (case k1 => k_asm); (case k3 => k_asm); (case k5 => k_asm); (case k6 => first | exact rfl | assumption); (case k7 => ktr_room); (case k8 => ktr_units); (rintro v9Zz n9Zz h9Zz tk9Zz ⟨⟨tv9Zz, w9Zz⟩, f9Zz⟩ F9Zz N9Zz); subst w9Zz; subst n9Zz; (try dsimp only); (try k_fold)))) | with_reducible (((with_reducible show wpAny _ _ (call (Value.ref 256) _) _ _ _); (rename Fr _ _ _ _ => F'Zz); (rename News _ _ _ _ => N'Zz); k_dflt ((refine' SaysG.use (plist_ok _ _ _ _ _ _ _) ?k1 F'Zz ?k3 N'Zz ?k5 ?k6 ?k7 ?k8 trivial ?_); (case k1 => k_asm); (case k3 => k_asm); (case k5 => k_asm); (case k6 => first | exact rfl | assumption); (case k7 => ktr_room); (case k8 => ktr_units); (rintro v9Zz n9Zz h9Zz tk9Zz ⟨W9Zz, dW9Zz, S9Zz, q1Zz, q2Zz, q3Zz, q4Zz, q5Zz, q6Zz, q7Zz, q8Zz, q9Zz, w9Zz, f9Zz, l1Zz, l2Zz, l3Zz⟩ F9Zz N9Zz); (have l4Zz := allLt_head l3Zz); subst w9Zz; subst n9Zz; (try dsimp only); (try k_fold)))) | with_reducible (((with_reducible show wpAny _ _ (call (Value.ref 138) [Value.bytes _ _]) _ _ _); (rename Reads _ _ => hR9Zz); (rename KBa.In _ => hI9Zz); k_dflt (refine' Says.use (decode_bytesR _ _ hR9Zz hI9Zz (by assumption) (by omega)) ?k1 ?k2 ?k3 ?k4 ?k5 ?k6 ?k7 ?k8 ?_; (((case k1 => k_asm); (case k2 => k_asm); (case k3 => k_asm); (case k4 => k_asm); (case k5 => k_asm); (case k6 => first | exact rfl | assumption); (case k7 => ktr_room); (case k8 => ktr_units); intro t9Zz h9Zz tk9Zz F9Zz N9Zz; (try dsimp only); (try k_fold)))))) | with_reducible (((with_reducible show wpAny _ _ (call (Value.ref 138) [Value.str _ _]) _ _ _); (rename Reads _ _ => hR9Zz); (rename KBa.In _ => hI9Zz); k_dflt (refine' Says.use (decode_strR _ _ hR9Zz hI9Zz (by assumption) (by omega)) ?k1 ?k2 ?k3 ?k4 ?k5 ?k6 ?k7 ?k8 ?_; (((case k1 => k_asm); (case k2 => k_asm); (case k3 => k_asm); (case k4 => k_asm); (case k5 => k_asm); (case k6 => first | exact rfl | assumption); (case k7 => ktr_room); (case k8 => ktr_units); intro t9Zz h9Zz tk9Zz F9Zz N9Zz; (try dsimp only); (try k_fold)))))) | with_reducible (((with_reducible show wpAny _ _ (call (Value.ref 827) _) _ _ _); k_dflt (refine' Says.use (strewn_ok _ _ _ _ _ (by assumption) (by omega)) ?k1 ?k2 ?k3 ?k4 ?k5 ?k6 ?k7 ?k8 ?_; (((case k1 => k_asm); (case k2 => k_asm); (case k3 => k_asm); (case k4 => k_asm); (case k5 => k_asm); (case k6 => first | exact rfl | assumption); (case k7 => ktr_room); (case k8 => ktr_units); intro t9Zz h9Zz tk9Zz F9Zz N9Zz; (try dsimp only); (try k_fold))))))) | ((with_reducible show wpAny _ _ (compareOp CmpOp.NotEq (Value.bytes _ _) (Value.bytes _ _)) _ _ _); first | with_reducible ((refine r_neBB ?_))) | with_reducible ((first | (with_reducible refine GM.index ?_) | (with_reducible refine GM.rindex ?_))) | with_reducible (((with_reducible refine gm_encode ?_))) | ((with_reducible show wpAny _ _ (subscriptTail _ _ _ _) _ _ _); first | with_reducible (((with_reducible show wpAny _ _ (subscriptTail _ (Expr.Slice _ _ none _) (Value.str (strArr (sheetL _ _)) _) (Value.ref _)) _ _ _); (rename Fr _ _ _ _ => F'Zz); (rename News _ _ _ _ => N'Zz); (refine r_cutMid (s := ⟨_, _, _, _, _⟩) F'Zz N'Zz (by omega) (by omega) (by omega) ?_); intro _ _ _ _ _)) | with_reducible (((with_reducible show wpAny _ _ (subscriptTail _ _ (Value.bytes _ _) (Value.int _ _)) _ _ _); k_dflt (refine r_b64 (by omega) (by omega) ?_)))) | walk1) | (leave1; (try dsimp only)) | fail "no step"))
  rename Fr _ _ _ _ => F8
  rename News _ _ _ _ => N9
  rw [List.push_toArray] at N9
  have k1 := hg.same (k := Str.ofString "indent") hg.2.2.1
  have k2 := k1.same (k := Str.ofString "level") k1.2.2.2.1
  have F9 := fr_put F8 (Str.ofString "octets") (.bytes (byteArr ns) t0) (by repeat (first | exact if_pos rfl | refine (if_neg (by decide)).trans ?_))
  have F10 := fr_put F9 (Str.ofString "mood") (.int md t1) (by repeat (first | exact hg.1 | refine (if_neg (by decide)).trans ?_))
  have F11 := fr_put F10 (Str.ofString "pages") (.ref Pg) (by repeat (first | exact if_pos rfl | refine (if_neg (by decide)).trans ?_))
  have hbl : Blank R := fun c hc => by
    rw [hR] at hc
    rcases rep_mem h9 lv.toNat c hc with rfl | rfl <;> decide
  have hrp : Reads PG ns := by rw [hPG]; exact reads_page hin (by omega) hbl
  refine stageE rfl ns (pgs ++ [10 :: (PG ++ R)]) _ _ Pg led _ md wd lv col ind t0 t1 t2 t3 t4 t5 hin hns hmd hmd2 hv.snoc (fun T9 hT => ?_) (((((k2.put (by decide)).put (by decide)).put (by decide)).put (by decide)).put (by decide)) (by assumption) T K0 F11 N9 hE (fun h' tk m' c1 c2 c3 => hQ h' tk m' c1 c2 c3)
  rcases List.mem_append.mp hT with hT | hT
  · exact hpg _ hT
  · rw [List.mem_singleton.mp hT]
    refine ⟨reads_mid hrp hbl, fun c hc => ?_, by simp only [List.length_cons, List.length_append]; omega⟩
    rcases List.mem_cons.mp hc with rfl | hc
    · decide
    · rcases List.mem_append.mp hc with hc | hc
      · exact haP c hc
      · exact haR c hc
end
section
set_option maxHeartbeats 8000000
theorem SaysL.use {w : World} {d u : Nat} {f : Addr} {vs : List Value} {xs : List (List Int)} (C : SaysL w d u f vs xs) {p : Program} {loose : List PySem.Str} {mean : ExcName → Option Value} {mg mb : PySem.Str → Option Value}
  {dp un : Nat} {gd : Option (List Code)} {cn : PySem.Str} {cs : Scope} {a : Addr} {ccd : Value} {cl : List (PySem.Str × Addr)} {outer : List Env} {A₀ : Around} {base h₀ : Heap} {L : Addr} {m : PySem.Str → Option Value} {news : List (Addr × Obj)} {s : Shared}
    {Q E : Value → Shared → Prop}
    (B : Below A₀ base outer h₀) (F : Fr h₀ L s.heap m) (X : (KH w.params).In h₀) (N : News h₀ L s.heap news) (T : Top p loose mean mg mb h₀) (hk : cs.kind = .function) (hd : dp + d < recursionLimit) (hu : un + u < cLine)
    (hr : RetL h₀ L m news s Q xs) :
    wpAny (model PySem.Challenge.rw_kl0275_01.prog w) (ktrTop dp un gd cn cs L a ccd cl outer) (call (.ref f) vs) Q E s := C _ _ _ _ _ _ _ _ _ _ _ _ _ _ _ _ _ _ _ _ _ _ _ B F X N T hk hd hu hr
theorem SaysP.use {w : World} {d u : Nat} {f : Addr} {vs : List Value} {P : List (Addr × Obj) → Prop} {r : Tok → Value} (C : SaysP w d u f vs P r) {p : Program} {loose : List PySem.Str} {mean : ExcName → Option Value} {mg mb : PySem.Str → Option Value}
  {dp un : Nat} {gd : Option (List Code)} {cn : PySem.Str} {cs : Scope} {a : Addr} {ccd : Value} {cl : List (PySem.Str × Addr)} {outer : List Env} {A₀ : Around} {base h₀ : Heap} {L : Addr} {m : PySem.Str → Option Value} {news : List (Addr × Obj)} {s : Shared}
    {Q E : Value → Shared → Prop}
    (B : Below A₀ base outer h₀) (F : Fr h₀ L s.heap m) (X : (KH w.params).In h₀) (N : News h₀ L s.heap news) (T : Top p loose mean mg mb h₀) (hk : cs.kind = .function) (hd : dp + d < recursionLimit) (hu : un + u < cLine) (hP : P news)
    (hr : RetV h₀ L m news s Q r) :
    wpAny (model PySem.Challenge.rw_kl0275_01.prog w) (ktrTop dp un gd cn cs L a ccd cl outer) (call (.ref f) vs) Q E s := C _ _ _ _ _ _ _ _ _ _ _ _ _ _ _ _ _ _ _ _ _ _ _ B F X N T hk hd hu hP hr
theorem tsApp : ∀ {vs ws : List Value} {xs ys : List (List Int)}, TsAre vs xs → TsAre ws ys → TsAre (vs ++ ws) (xs ++ ys)
  | [], _, [], _, _, h => h
  | v :: vs, _, x :: xs, _, h, h' => by
    cases h with
    | cons _ _ q => exact .cons _ _ (tsApp q h')
theorem r_cat {prog : Program} {w : World} {A : Around} {E : Value → Shared → Prop} {s : Shared} {h₀ : Heap} {L : Addr} {m : PySem.Str → Option Value} {news : List (Addr × Obj)} {l b : Addr} {vs ws : List Value} {n1 n2 : Nat} {xs ys : List (List Int)} {Q : Value → Shared → Prop} (F : Fr h₀ L s.heap m) (N : News h₀ L s.heap news)
    (hl : (l, listOf vs.toArray n1) ∈ news) (hb : (b, listOf ws.toArray n2) ∈ news) (hv : TsAre vs xs) (hw : TsAre ws ys) (hz : xs.length + ys.length ≤ 1000)
    (h : ∀ D h', Fr h₀ L h' m → News h₀ L h' ((D, listOf (vs ++ ws).toArray 0) :: news) → TsAre (vs ++ ws) (xs ++ ys) → AllLt D news → Q (.ref D) { s with heap := h' }) :
    wpAny (model prog w) A (binaryOp .Add (.ref l) (.ref b)) Q E s :=
  add_lists F N ⟨_, (N _ hl).1, rfl, _, rfl⟩ ⟨_, (N _ hb).1, rfl, _, rfl⟩ (fun h' F' N' => h _ h' F' N' (tsApp hv hw) (allLt_of fun p hp => Heap.lt_size (N p hp).1)) (by rw [hv.length, hw.length, sizeLine_eq]; omega)
theorem str_dopen : Str.ofString "<data>" = strArr [60, 100, 97, 116, 97, 62] := by decide +kernel
theorem str_dshut : Str.ofString "</data>" = strArr [60, 47, 100, 97, 116, 97, 62] := by decide +kernel
theorem tsOpen {t : Tok} : TsAre [.str (Str.ofString "<data>") t] [[60, 100, 97, 116, 97, 62]] := by rw [str_dopen]; exact .cons _ _ .nil
theorem tsShut {t : Tok} : TsAre [.str (Str.ofString "</data>") t] [[60, 47, 100, 97, 116, 97, 62]] := by rw [str_dshut]; exact .cons _ _ .nil
theorem page2 (w : World) (D : Addr) (vs : List Value) (nn : Nat) (tk : Tok) (ind ns R PG : List Int) (lv : Int) (hR : R = (List.replicate lv.toNat ind).flatten) (hPG : PG = pageL (rowsL ns (3 * (max 16 (76 - colL R) / 4))) R)
    (hRl : R.length ≤ 22) (hin : KBa.In ns) (hns : ns.length ≤ 64) (hc : 4 ≤ max 16 (76 - colL R) / 4)
    (hv : TsAre vs ([[60, 100, 97, 116, 97, 62]] ++ rowsL ns (3 * (max 16 (76 - colL R) / 4)) ++ [[60, 47, 100, 97, 116, 97, 62]])) :
    SaysP w 3 80 820 [.ref D, .str (strArr (List.replicate lv.toNat ind).flatten) tk] (fun news => (D, listOf vs.toArray nn) ∈ news) (fun t => .str (strArr (sheetL R PG)) t) := by
  have hs := rows_short hin hns (fo := max 16 (76 - colL R) / 4) (by omega)
  have hf := (rows_few hns (m := 3 * (max 16 (76 - colL R) / 4)) (by omega)).1
  have h := page_ok w D _ vs nn R tk hv (by omega) (fun x hx => by
    rcases List.mem_append.mp hx with hx | hx
    · rcases List.mem_append.mp hx with hx | hx
      · rw [List.mem_singleton.mp hx]; decide
      · exact Nat.le_trans (hs x hx) (by decide)
    · rw [List.mem_singleton.mp hx]; decide) (by simp only [List.length_append, List.length_cons, List.length_nil]; omega)
  rw [sheet_page, ← hPG, hR] at h
  rw [hR]
  exact h
theorem stageC {w : World} {scope : Scope} {cdv : Value} {b : List Stmt} (hb : lawParts (KH w.params) = some (scope, cdv, b)) (ns : List Int) (pgs : List (List Int)) (vsP : List Value) (nP : Nat) (Pg : Addr) (led : List (Addr × Obj)) (g : PySem.Str → Option Value)
    (md wd lv col : Int) (ind R PG : List Int) (t0 t1 t2 t3 t4 t5 : Tok) (hin : KBa.In ns) (hns : ns.length ≤ 64) (hmd : 0 ≤ md) (hmd2 : md < 10007) (hl0 : 0 ≤ lv) (hl1 : lv ≤ 11) (hli : ind.length ≤ 2) (h9 : ∀ n ∈ ind, n = 9 ∨ n = 32)
    (hR : R = (List.replicate lv.toNat ind).flatten) (hcR : col = colL R) (hPG : PG = pageL (rowsL ns (3 * (max 16 (76 - colL R) / 4))) R)
    (hv : TsAre vsP pgs) (hpg : ∀ T ∈ pgs, Reads T ns ∧ Asc T ∧ T.length ≤ 1000) (hg : Kp md wd lv col ind t1 t2 t3 t4 t5 g)
    {p : Program} {loose : List PySem.Str} {mean : ExcName → Option Value} {mg mb : PySem.Str → Option Value} {h₀ : Heap} {L : Addr} {s : Shared} {Q : Flow → Shared → Prop} {E : Value → Shared → Prop}
    (X : (KH w.params).In h₀) (T : Top p loose mean mg mb h₀) (K0 : Below callerA h₀ [] h₀)
    (F : Fr h₀ L s.heap (fun y => if y = Str.ofString "octets" then some (.bytes (byteArr ns) t0) else if y = Str.ofString "pages" then some (.ref Pg) else if y = Str.ofString "column" then some (.int col t5) else if y = Str.ofString "level" then some (.int lv t4) else if y = Str.ofString "indent" then some (.str (strArr ind) t3) else g y))
    (hpn : pgs.length ≤ 2) (hPl : ∀ p ∈ led, p.1 ≠ Pg) (N : News h₀ L s.heap ((Pg, listOf vsP.toArray nP) :: led)) (hE : PassesOwn (model PySem.Challenge.rw_kl0275_01.prog w) (callerA.deeper (envOf (Str.ofString "law") scope L 841 cdv)) (envOf (Str.ofString "law") scope L 841 cdv) E)
    (hQ : ∀ h' tk m', Kp md wd lv col ind t1 t2 t3 t4 t5 m' → Fr h₀ L h' m' → News h₀ L h' led → Q .next { s with heap := h', toks := tk }) :
    wpC (model PySem.Challenge.rw_kl0275_01.prog w) (callerA.deeper (envOf (Str.ofString "law") scope L 841 cdv)) (execs (b.drop 4) (envOf (Str.ofString "law") scope L 841 cdv)) Q E s := by
  revert hb
  k_fill
  intro hb
  cases hb.symm.trans (rfl : lawParts (KH w.params) = some (_, _, _))
  clear hb
  simp only [List.drop]
  have hI0 : IntsAre ([] : List Value) [] := IntsAre.nil
  have hRl : R.length ≤ 22 := by
    have hmul : lv.toNat * ind.length ≤ 11 * 2 := Nat.mul_le_mul (by omega) hli
    rw [hR, rep_len]; omega
  have hcol0 : 0 ≤ colL R := (col_le R 0 (by decide)).1
  have hfo : 4 ≤ max 16 (76 - colL R) / 4 := by omega
  have hfew := (rows_few hns (m := 3 * (max 16 (76 - colL R) / 4)) (by omega)).1
  subst hcR
  repeat' (first | (k_unfold; (try dsimp only)) | ((fail_if_success (with_reducible show Q _ _)); (fail_if_success (with_reducible show wpC _ _ (execs (Stmt.Assign [Expr.Name (PySem.Str.ofString "paper") _] _ _ :: _) _) _ _ _)); first | ((first | (((with_reducible show wpC _ _ (call (Value.ref 239) _) _ _ _); (rename Fr _ _ _ _ => F'Zz); (rename News _ _ _ _ => N'Zz); k_dflt ((refine' SaysC.use (wbytes2 _ _ _ _ _ _ _ _ _ _ _ _ _ _ _ _ _ _ _ _ _ _ _ _ _ _ (by assumption) (by assumption) (by assumption) (by assumption) (by assumption) (by assumption) (by assumption) (by assumption) (by assumption) (by assumption) (by assumption) (by assumption) (by assumption) (allLt_all (by assumption))) ?k1 F'Zz ?k3 (news_six N'Zz) ?k5 ?k6 ?k7 ?k8 rfl ?_); (case k1 => k_asm); (case k3 => k_asm); (case k5 => k_asm); (case k6 => first | exact rfl | assumption); (case k7 => ktr_room); (case k8 => ktr_units); (rintro v9Zz n9Zz h9Zz tk9Zz ⟨w9Zz, t9Zz, tl9Zz, m9Zz, f9Zz⟩ F9Zz N9Zz); subst w9Zz; subst n9Zz; (try dsimp only); (try k_fold)))) | (((with_reducible show wpC _ _ (call (Value.ref 559) _) _ _ _); (rename Fr _ _ _ _ => F'Zz); (rename News _ _ _ _ => N'Zz); k_dflt ((refine' SaysC.use (bio_ok _) ?k1 F'Zz ?k3 N'Zz ?k5 ?k6 ?k7 ?k8 trivial ?_); (case k1 => k_asm); (case k3 => k_asm); (case k5 => k_asm); (case k6 => first | exact rfl | assumption); (case k7 => ktr_room); (case k8 => ktr_units); (rintro v9Zz n9Zz h9Zz tk9Zz ⟨x9Zz, dx9Zz, B9Zz, q1Zz, q2Zz, q3Zz, w9Zz, f9Zz, l1Zz, l2Zz, l3Zz⟩ F9Zz N9Zz); subst w9Zz; subst n9Zz; (try dsimp only); (try k_fold)))) | ((first | ((with_reducible show wpC _ _ (execs (Stmt.Assign [Expr.Name _ _] (Expr.Call (Expr.Name _ _) [] [] _) _ :: _) _) _ _ _); k_dflt (refine wpC_execs_cons (wpC_Assign_Name ?_))) | ((with_reducible show wpC _ _ (callWith _ (Value.ref _) _ (backTo _ (starEach [] _)) _) _ _ _); (rename Fr _ _ _ _ => F'Zz); (rename Frag.In _ _ => X'Zz); k_dflt (refine' wpC_callWith0 (X'Zz.keeps F'Zz.keep) ?k2 ?_; (case k2 => k_is))))) | (((first | (with_reducible show wpC _ _ (execs (Stmt.Expr (Expr.Call (Expr.Attribute _ (PySem.Str.ofString "append") _) _ _ _) _ :: _) _) _ _ _) | (with_reducible show wpC _ _ (execs (Stmt.AugAssign _ _ _ _ :: _) _) _ _ _)); refine wpC_execs_leaf ?_)) | ((first | ((with_reducible show wpC _ _ (execs (Stmt.If _ _ _ _ :: _) _) _ _ _); k_dflt (refine wpC_execs_cons (wpC_If ?_))) | ((with_reducible show wpC _ _ (execs (Stmt.Expr (Expr.Call (Expr.Attribute _ _ _) _ _ _) _ :: _) _) _ _ _); k_dflt (refine wpC_execs_cons (wpC_Expr (wpC_methodCall ?_)))) | ((with_reducible show wpC _ _ (callWith _ (Value.ref _) _ (backTo _ (starEach (_ :: _) _)) _) _ _ _); k_dflt (refine' wpC_callWith ?k1 ?k2 ?_; (case k1 => k_asm); (case k2 => k_is))))) | ((first | ((with_reducible show wpC _ _ (execs [] _) _ _ _); refine wpC_execs_nil ?_) | ((with_reducible show wpC _ _ (execs (Stmt.Assign [Expr.Attribute _ _ _] (Expr.IfExp _ _ _ _) _ :: _) _) _ _ _); k_dflt (refine wpC_execs_cons (wpC_Assign_Attribute ?_))) | ((with_reducible show wpC _ _ (execs (Stmt.Assign [Expr.Subscript _ _ _] _ _ :: _) _) _ _ _); k_dflt (refine wpC_execs_cons (wpC_Assign_Subscript ?_))) | ((with_reducible show wpC _ _ (execs (_ :: _) _) _ _ _); refine wpC_execs_leaf ?_) | ((with_reducible show wpC _ _ (eval (Expr.IfExp _ _ _ _) _) _ _ _); refine wpC_IfExp ?_) | ((with_reducible show wpC _ _ (eval (Expr.Call (Expr.Name _ _) [] [] _) _) _ _ _); refine wpC_callName ?_) | ((with_reducible show wpC _ _ (callWith _ (Value.type _) _ (backTo _ (starEach [] _)) _) _ _ _); refine wpC_callType0 ?_) | ((with_reducible show wpC _ _ (call (Value.type "bytearray") _) _ _ _); (rename Fr _ _ _ _ => F'Zz); (rename News _ _ _ _ => N'Zz); k_dflt (refine k_baNew0 F'Zz N'Zz ?_); intro B9Zz h9Zz F9Zz N9Zz l9Zz; k_lt l9Zz)))); (try dsimp only)) | (k_end; kc_close) | ((with_reducible show wpAny _ _ (binaryOp Operator.Add (Value.ref _) (Value.ref _)) _ _ _); first | with_reducible (((rename Fr _ _ _ _ => F'Zz); (rename News _ _ _ _ => N'Zz); (fail_if_success (rename TsAre _ (_ ++ rowsL _ _) => hT'Zz)); (rename TsAre _ (rowsL _ _) => hT'Zz); k_dflt (refine r_cat F'Zz N'Zz (List.Mem.tail _ (List.Mem.head _)) (List.Mem.head _) tsOpen hT'Zz (by simp only [List.length_append, List.length_cons, List.length_nil]; omega) ?_); intro D9Zz h9Zz F9Zz N9Zz T9Zz l9Zz; clear F'Zz N'Zz)) | with_reducible (((rename Fr _ _ _ _ => F'Zz); (rename News _ _ _ _ => N'Zz); (rename TsAre _ (_ ++ rowsL _ _) => hT'Zz); k_dflt (refine r_cat F'Zz N'Zz (List.Mem.tail _ (List.Mem.head _)) (List.Mem.head _) hT'Zz tsShut (by simp only [List.length_append, List.length_cons, List.length_nil]; omega) ?_); intro D9Zz h9Zz F9Zz N9Zz T9Zz l9Zz; clear F'Zz N'Zz))) | ((with_reducible show wpAny _ _ (binaryOp Operator.FloorDiv (Value.int _ _) (Value.int _ _)) _ _ _); first | with_reducible (((with_reducible show wpAny _ _ (binaryOp Operator.FloorDiv (Value.int _ _) (Value.int _ _)) _ _ _); refine r_fdiv (by omega) (by omega) ?_))) | ((with_reducible show wpAny _ _ (binaryOp Operator.Mult (Value.str _ _) (Value.int _ _)) _ _ _); first | with_reducible (((with_reducible show wpAny _ _ (binaryOp Operator.Mult (Value.str (strArr _) _) (Value.int _ _)) _ _ _); refine r_mulS (by omega) (by omega) (by omega) ?_; intro _ _))) | ((with_reducible show wpAny _ _ (call (Value.builtin "max") _) _ _ _); first | with_reducible (((rename Fr _ _ _ _ => F'Zz); (rename News _ _ _ _ => N'Zz); refine r_max rfl F'Zz N'Zz ?_; clear F'Zz N'Zz; intro _ _ _ _ _))) | ((with_reducible show wpAny _ _ (call (Value.ref _) _) _ _ _); first | with_reducible (((with_reducible show wpAny _ _ (call (Value.ref 815) _) _ _ _); (rename Fr _ _ _ _ => F'Zz); (rename News _ _ _ _ => N'Zz); k_dflt ((refine' SaysL.use (rows_ok _ _ _ _ _ (by assumption) (by assumption) (by omega) (by omega)) ?k1 F'Zz ?k3 N'Zz ?k5 ?k6 ?k7 ?k8 ?_); (case k1 => k_asm); (case k3 => k_asm); (case k5 => k_asm); (case k6 => first | exact rfl | assumption); (case k7 => ktr_room); (case k8 => ktr_units); intro D9Zz vs9Zz m9Zz h9Zz tk9Zz hv9Zz hl9Zz F9Zz N9Zz; (try dsimp only); (try k_fold)))) | with_reducible (((with_reducible show wpAny _ _ (call (Value.ref 820) _) _ _ _); (rename Fr _ _ _ _ => F'Zz); (rename News _ _ _ _ => N'Zz); (rename TsAre _ (_ ++ rowsL _ _ ++ _) => hT'Zz); k_dflt ((refine' SaysP.use (page2 _ _ _ _ _ _ _ _ _ _ (by assumption) (by assumption) (by assumption) (by assumption) (by assumption) (by assumption) hT'Zz) ?k1 F'Zz ?k3 N'Zz ?k5 ?k6 ?k7 ?k8 (List.Mem.head _) ?_); (case k1 => k_asm); (case k3 => k_asm); (case k5 => k_asm); (case k6 => first | exact rfl | assumption); (case k7 => ktr_room); (case k8 => ktr_units); (intro t9Zz h9Zz tk9Zz F9Zz N9Zz; (try dsimp only); (try k_fold))))) | with_reducible (((with_reducible show wpAny _ _ (call (Value.ref 445) _) _ _ _); (rename Fr _ _ _ _ => F'Zz); (rename News _ _ _ _ => N'Zz); k_dflt ((refine' SaysG.use (getvalue_ok _ _ _ _ _ _ _ _ _ (by omega)) ?k1 F'Zz ?k3 N'Zz ?k5 ?k6 ?k7 ?k8 ⟨List.Mem.head _, List.Mem.tail _ (List.Mem.head _), List.Mem.tail _ (List.Mem.tail _ (List.Mem.head _))⟩ ?_); (case k1 => k_asm); (case k3 => k_asm); (case k5 => k_asm); (case k6 => first | exact rfl | assumption); (case k7 => ktr_room); (case k8 => ktr_units); (rintro v9Zz n9Zz h9Zz tk9Zz ⟨⟨tv9Zz, w9Zz⟩, f9Zz⟩ F9Zz N9Zz); subst w9Zz; subst n9Zz; (try dsimp only); (try k_fold)))) | with_reducible (((with_reducible show wpAny _ _ (call (Value.ref 256) _) _ _ _); (rename Fr _ _ _ _ => F'Zz); (rename News _ _ _ _ => N'Zz); k_dflt ((refine' SaysG.use (plist_ok _ _ _ _ _ _ _) ?k1 F'Zz ?k3 N'Zz ?k5 ?k6 ?k7 ?k8 trivial ?_); (case k1 => k_asm); (case k3 => k_asm); (case k5 => k_asm); (case k6 => first | exact rfl | assumption); (case k7 => ktr_room); (case k8 => ktr_units); (rintro v9Zz n9Zz h9Zz tk9Zz ⟨W9Zz, dW9Zz, S9Zz, q1Zz, q2Zz, q3Zz, q4Zz, q5Zz, q6Zz, q7Zz, q8Zz, q9Zz, w9Zz, f9Zz, l1Zz, l2Zz, l3Zz⟩ F9Zz N9Zz); (have l4Zz := allLt_head l3Zz); subst w9Zz; subst n9Zz; (try dsimp only); (try k_fold)))) | with_reducible (((with_reducible show wpAny _ _ (call (Value.ref 138) [Value.bytes _ _]) _ _ _); (rename Reads _ _ => hR9Zz); (rename KBa.In _ => hI9Zz); k_dflt (refine' Says.use (decode_bytesR _ _ hR9Zz hI9Zz (by assumption) (by omega)) ?k1 ?k2 ?k3 ?k4 ?k5 ?k6 ?k7 ?k8 ?_; (((case k1 => k_asm); (case k2 => k_asm); (case k3 => k_asm); (case k4 => k_asm); (case k5 => k_asm); (case k6 => first | exact rfl | assumption); (case k7 => ktr_room); (case k8 => ktr_units); intro t9Zz h9Zz tk9Zz F9Zz N9Zz; (try dsimp only); (try k_fold)))))) | with_reducible (((with_reducible show wpAny _ _ (call (Value.ref 138) [Value.str _ _]) _ _ _); (rename Reads _ _ => hR9Zz); (rename KBa.In _ => hI9Zz); k_dflt (refine' Says.use (decode_strR _ _ hR9Zz hI9Zz (by assumption) (by omega)) ?k1 ?k2 ?k3 ?k4 ?k5 ?k6 ?k7 ?k8 ?_; (((case k1 => k_asm); (case k2 => k_asm); (case k3 => k_asm); (case k4 => k_asm); (case k5 => k_asm); (case k6 => first | exact rfl | assumption); (case k7 => ktr_room); (case k8 => ktr_units); intro t9Zz h9Zz tk9Zz F9Zz N9Zz; (try dsimp only); (try k_fold)))))) | with_reducible (((with_reducible show wpAny _ _ (call (Value.ref 827) _) _ _ _); k_dflt (refine' Says.use (strewn_ok _ _ _ _ _ (by assumption) (by omega)) ?k1 ?k2 ?k3 ?k4 ?k5 ?k6 ?k7 ?k8 ?_; (((case k1 => k_asm); (case k2 => k_asm); (case k3 => k_asm); (case k4 => k_asm); (case k5 => k_asm); (case k6 => first | exact rfl | assumption); (case k7 => ktr_room); (case k8 => ktr_units); intro t9Zz h9Zz tk9Zz F9Zz N9Zz; (try dsimp only); (try k_fold))))))) | walk1 | (dsimp only; first | ((with_reducible show wpAny _ _ (binaryOp Operator.Add (Value.ref _) (Value.ref _)) _ _ _); first | with_reducible (((rename Fr _ _ _ _ => F'Zz); (rename News _ _ _ _ => N'Zz); (fail_if_success (rename TsAre _ (_ ++ rowsL _ _) => hT'Zz)); (rename TsAre _ (rowsL _ _) => hT'Zz); k_dflt (refine r_cat F'Zz N'Zz (List.Mem.tail _ (List.Mem.head _)) (List.Mem.head _) tsOpen hT'Zz (by simp only [List.length_append, List.length_cons, List.length_nil]; omega) ?_); intro D9Zz h9Zz F9Zz N9Zz T9Zz l9Zz; clear F'Zz N'Zz)) | with_reducible (((rename Fr _ _ _ _ => F'Zz); (rename News _ _ _ _ => N'Zz); (rename TsAre _ (_ ++ rowsL _ _) => hT'Zz); k_dflt (refine r_cat F'Zz N'Zz (List.Mem.tail _ (List.Mem.head _)) (List.Mem.head _) hT'Zz tsShut (by simp only [List.length_append, List.length_cons, List.length_nil]; omega) ?_); intro D9Zz h9Zz F9Zz N9Zz T9Zz l9Zz; clear F'Zz N'Zz))) | ((with_reducible show wpAny _ _ (binaryOp Operator.FloorDiv (Value.int _ _) (Value.int _ _)) _ _ _); first | with_reducible (((with_reducible show wpAny _ _ (binaryOp Operator.FloorDiv (Value.int _ _) (Value.int _ _)) _ _ _); refine r_fdiv (by omega) (by omega) ?_))) | ((with_reducible show wpAny _ _ (binaryOp Operator.Mult (Value.str _ _) (Value.int _ _)) _ _ _); first | with_reducible (((with_reducible show wpAny _ _ (binaryOp Operator.Mult (Value.str (strArr _) _) (Value.int _ _)) _ _ _); refine r_mulS (by omega) (by omega) (by omega) ?_; intro _ _))) | ((with_reducible show wpAny _ _ (call (Value.builtin "max") _) _ _ _); first | with_reducible (((rename Fr _ _ _ _ => F'Zz); (rename News _ _ _ _ => N'Zz); refine r_max rfl F'Zz N'Zz ?_; clear F'Zz N'Zz; intro _ _ _ _ _))) | ((with_reducible show wpAny _ _ (call (Value.ref _) _) _ _ _); first | with_reducible (((with_reducible show wpAny _ _ (call (Value.ref 815) _) _ _ _); (rename Fr _ _ _ _ => F'Zz); (rename News _ _ _ _ => N'Zz); k_dflt ((refine' SaysL.use (rows_ok _ _ _ _ _ (by assumption) (by assumption) (by omega) (by omega)) ?k1 F'Zz ?k3 N'Zz ?k5 ?k6 ?k7 ?k8 ?_); (case k1 => k_asm); (case k3 => k_asm); (case k5 => k_asm); (case k6 => first | exact rfl | assumption); (case k7 => ktr_room); (case k8 => ktr_units); intro D9Zz vs9Zz m9Zz h9Zz tk9Zz hv9Zz hl9Zz F9Zz N9Zz; (try dsimp only); (try k_fold)))) | with_reducible (((with_reducible show wpAny _ _ (call (Value.ref 820) _) _ _ _); (rename Fr _ _ _ _ => F'Zz); (rename News _ _ _ _ => N'Zz); (rename TsAre _ (_ ++ rowsL _ _ ++ _) => hT'Zz); k_dflt ((refine' SaysP.use (page2 _ _ _ _ _ _ _ _ _ _ (by assumption) (by assumption) (by assumption) (by assumption) (by assumption) (by assumption) hT'Zz) ?k1 F'Zz ?k3 N'Zz ?k5 ?k6 ?k7 ?k8 (List.Mem.head _) ?_); (case k1 => k_asm); (case k3 => k_asm); (case k5 => k_asm); (case k6 => first | exact rfl | assumption); (case k7 => ktr_room); (case k8 => ktr_units); (intro t9Zz h9Zz tk9Zz F9Zz N9Zz; (try dsimp only); (try k_fold))))) | with_reducible (((with_reducible show wpAny _ _ (call (Value.ref 445) _) _ _ _); (rename Fr _ _ _ _ => F'Zz); (rename News _ _ _ _ => N'Zz); k_dflt ((refine' SaysG.use (getvalue_ok _ _ _ _ _ _ _ _ _ (by omega)) ?k1 F'Zz ?k3 N'Zz ?k5 ?k6 ?k7 ?k8 ⟨List.Mem.head _, List.Mem.tail _ (List.Mem.head _), List.Mem.tail _ (List.Mem.tail _ (List.Mem.head _))⟩ ?_); (case k1 => k_asm); (case k3 => k_asm); (case k5 => k_asm); (case k6 => first | exact rfl | assumption); (case k7 => ktr_room); (case k8 => ktr_units); (rintro v9Zz n9Zz h9Zz tk9Zz ⟨⟨tv9Zz, w9Zz⟩, f9Zz⟩ F9Zz N9Zz); subst w9Zz; subst n9Zz; (try dsimp only); (try k_fold)))) | with_reducible (((with_reducible show wpAny _ _ (call (Value.ref 256) _) _ _ _); (rename Fr _ _ _ _ => F'Zz); (rename News _ _ _ _ => N'Zz); k_dflt ((refine' SaysG.use (plist_ok _ _ _ _ _ _ _) ?k1 F'Zz ?k3 N'Zz ?k5 ?k6 ?k7 ?k8 trivial ?_); (case k1 => k_asm); (case k3 => k_asm); (case k5 => k_asm); (case k6 => first | exact rfl | assumption); (case k7 => ktr_room); (case k8 => ktr_units); (rintro v9Zz n9Zz h9Zz tk9Zz ⟨W9Zz, dW9Zz, S9Zz, q1Zz, q2Zz, q3Zz, q4Zz, q5Zz, q6Zz, q7Zz, q8Zz, q9Zz, w9Zz, f9Zz, l1Zz, l2Zz, l3Zz⟩ F9Zz N9Zz); (have l4Zz := allLt_head l3Zz); subst w9Zz; subst n9Zz; (try dsimp only); (try k_fold)))) | with_reducible (((with_reducible show wpAny _ _ (call (Value.ref 138) [Value.bytes _ _]) _ _ _); (rename Reads _ _ => hR9Zz); (rename KBa.In _ => hI9Zz); k_dflt (refine' Says.use (decode_bytesR _ _ hR9Zz hI9Zz (by assumption) (by omega)) ?k1 ?k2 ?k3 ?k4 ?k5 ?k6 ?k7 ?k8 ?_; (((case k1 => k_asm); (case k2 => k_asm); (case k3 => k_asm); (case k4 => k_asm); (case k5 => k_asm); (case k6 => first | exact rfl | assumption); (case k7 => ktr_room); (case k8 => ktr_units); intro t9Zz h9Zz tk9Zz F9Zz N9Zz; (try dsimp only); (try k_fold)))))) | with_reducible (((with_reducible show wpAny _ _ (call (Value.ref 138) [Value.str _ _]) _ _ _); (rename Reads _ _ => hR9Zz); (rename KBa.In _ => hI9Zz); k_dflt (refine' Says.use (decode_strR _ _ hR9Zz hI9Zz (by assumption) (by omega)) ?k1 ?k2 ?k3 ?k4 ?k5 ?k6 ?k7 ?k8 ?_; (((case k1 => k_asm); (case k2 => k_asm); (case k3 => k_asm); (case k4 => k_asm); (case k5 => k_asm); (case k6 => first | exact rfl | assumption); (case k7 => ktr_room); (case k8 => ktr_units); intro t9Zz h9Zz tk9Zz F9Zz N9Zz; (try dsimp only); (try k_fold)))))) | with_reducible (((with_reducible show wpAny _ _ (call (Value.ref 827) _) _ _ _); k_dflt (refine' Says.use (strewn_ok _ _ _ _ _ (by assumption) (by omega)) ?k1 ?k2 ?k3 ?k4 ?k5 ?k6 ?k7 ?k8 ?_; (((case k1 => k_asm); (case k2 => k_asm); (case k3 => k_asm); (case k4 => k_asm); (case k5 => k_asm); (case k6 => first | exact rfl | assumption); (case k7 => ktr_room); (case k8 => ktr_units); intro t9Zz h9Zz tk9Zz F9Zz N9Zz; (try dsimp only); (try k_fold))))))) | walk1) | (leave1; (try dsimp only)) | fail "no step"))
  rename Fr _ _ _ _ => F8
  rename News _ _ _ _ => N9
  have k1 := hg.same (k := Str.ofString "indent") hg.2.2.1
  have k2 := k1.same (k := Str.ofString "level") k1.2.2.2.1
  have k3 := k2.same (k := Str.ofString "column") k2.2.2.2.2
  have F9 := fr_put F8 (Str.ofString "indent") (.str (strArr ind) t3) (by repeat (first | exact if_pos rfl | refine (if_neg (by decide)).trans ?_))
  have F10 := fr_put F9 (Str.ofString "level") (.int lv t4) (by repeat (first | exact if_pos rfl | refine (if_neg (by decide)).trans ?_))
  have F11 := fr_put F10 (Str.ofString "octets") (.bytes (byteArr ns) t0) (by repeat (first | exact if_pos rfl | refine (if_neg (by decide)).trans ?_))
  have F12 := fr_put F11 (Str.ofString "pages") (.ref Pg) (by repeat (first | exact if_pos rfl | refine (if_neg (by decide)).trans ?_))
  have F13 := fr_put F12 (Str.ofString "sheet") _ (by repeat (first | exact if_pos rfl | refine (if_neg (by decide)).trans ?_))
  exact stageD rfl ns pgs vsP nP Pg led _ md wd lv (colL R) ind R PG t0 t1 t2 t3 t4 t5 _ hin hns hmd hmd2 hl0 hl1 hli h9 hR hPG hv hpg ((((k3.put (by decide)).put (by decide)).put (by decide)).put (by decide)) X T K0 F13 hpn hPl (fun p hp => N9 p (.tail _ (.tail _ (.tail _ (.tail _ (.tail _ hp)))))) hE (fun h' tk m' c1 c2 c3 => hQ h' tk m' c1 c2 c3)
end
section
set_option maxHeartbeats 8000000
theorem encode1_ok (w : World) (ns : List Int) (tk : Tok) (hin : KBa.In ns) (hlen : ns.length ≤ 64) : Says w 3 80 131 [.bytes (byteArr ns) tk] (fun t => .bytes (byteArr (encL ns (76 / 4 * 3))) t) := by
  unfold Says; k_fill; intro p loose mean mg mb dp un gd cn cs a ccd cl outer A₀ base h₀ L m news s Q E B F X N T hk hd hu hret; refine wpAny_call ?_; k_dflt (refine' code_def (binds := [(Str.ofString "s", .bytes (byteArr ns) tk), (Str.ofString "maxlinelength", .int 76 522)]) ?k1 ?k2 ?k3 ?k4 ?k5 ?kA ?kF ?kK ?k6 ?k7 ?k8 ?k9 ?kB ?_ ?c2 ?c3 ?c4 ?c5; (case kA => exact rfl); (case kF => exact rfl); (case kK => assumption); (case k1 => k_asm); (case k2 => k_asm); (case k3 => k_asm); (case k4 => k_asm); (case k5 => k_asm); (case k6 => k_is); (case k7 => k_is); (case k8 => ktr_room); (case k9 => exact binds_peek (by k_in) (fun _ => by kernel_rfl)); (case c5 => decide); (case kB => exact locs rfl); (case c2 => exact rfl); (case c3 => exact rfl); (case c4 => exact rfl); k_whole; intro g' L' h' FG' F' N' B' X' T'; (try dsimp only); (try k_lift B'); (try k_fold))
  have hI0 : IntsAre ([] : List Value) [] := IntsAre.nil
  obtain ⟨k, hk1, hk2, hk⟩ : ∃ k : Int, 4 ≤ k ∧ k ≤ 100 ∧ k = 76 := ⟨76, by decide, by decide, rfl⟩
  rw [← hk] at F' hret
  clear hk
  have hk3 : 0 < k / 4 * 3 := by omega
  have hk4 : k / 4 * 3 < 1000 := by omega
  (k_with "state" => exact encPs_snoc (by assumption))
  (k_with "pyIter ref" => (k_dflt ((rename Fr _ _ _ _ => lF'); (rename News _ _ _ _ => lN'); (rename IsRange _ _ _ _ _ _ _ _ => rgX); (refine loop_one [Str.ofString "chunk"] (fun pre vs => BsAre vs (encPs ns (k / 4 * 3) pre)) (by rfl) rgX (by omega) (by omega) (by omega) (by omega) lF' lN' (by exact trivial) ?_ ?_); (intro vs n₁ pre k1 t1 u1 h1 tk1 own hk9 hpre h0k hkb hoff hP hmark hF hN); (have hvl := hP.length); (simp only [encPs, List.length_map] at hvl); (try simp only [List.nil_append, List.cons_append, List.append_nil] at hN); rotate_left; (intro vs n₁ u1 h1 tk1 hP hmark hF hN); all_goals (clear lF' lN'))))
  repeat' (first | (k_unfold; (try dsimp only)) | ((fail_if_success (with_reducible show Q _ _)); first | (k_end; kc_close) | ((with_reducible show wpAny _ _ (binaryOp Operator.FloorDiv (Value.int _ _) (Value.int _ _)) _ _ _); first | with_reducible (((with_reducible show wpAny _ _ (binaryOp Operator.FloorDiv (Value.int _ _) (Value.int _ _)) _ _ _); refine r_fdiv (by omega) (by omega) ?_))) | ((with_reducible show wpAny _ _ (call (Value.builtin "bytes.join") _) _ _ _); first | with_reducible (((rename News _ _ _ _ => nE'Zz); (try simp only [List.push_toArray] at nE'Zz); k_dflt (refine r_bjoin (News.isList nE'Zz (by k_mem)) (by assumption) (Nat.le_trans (encL_len (by omega) (by omega)) (by decide)) ?_); intro _ _))) | ((with_reducible show wpAny _ _ (call (Value.ref _) _) _ _ _); first | with_reducible ((k_dflt (refine' Says.use (b2a_ok _ _ _ (cutL_in (by assumption)) (cutL_len (by omega))) ?k1 ?k2 ?k3 ?k4 ?k5 ?k6 ?k7 ?k8 ?_; (((case k1 => k_asm); (case k2 => k_asm); (case k3 => k_asm); (case k4 => k_asm); (case k5 => k_asm); (case k6 => first | exact rfl | assumption); (case k7 => ktr_room); (case k8 => ktr_units); intro t9Zz h9Zz tk9Zz F9Zz N9Zz; (try dsimp only); (try k_fold))))))) | ((with_reducible show wpAny _ _ (call (Value.type "range") _) _ _ _); first | with_reducible (((with_reducible show wpAny _ _ (call (Value.type "range") [Value.int _ _, Value.int _ _, Value.int _ _]) _ _ _); (rename Fr _ _ _ _ => F'Zz); (rename News _ _ _ _ => N'Zz); (refine range3_rows F'Zz N'Zz (by omega) ?_ (Or.inl (PyProof.noPylong_small (by omega)))); intro _ _ _ _ _ rgXZz _ _ _))) | ((with_reducible show wpAny _ _ (execs (_ :: _) _) _ _ _); first | with_reducible ((dsimp only; k_gentoks))) | ((with_reducible show wpAny _ _ (execs [] _) _ _ _); first | with_reducible (((with_reducible show wpAny _ _ (execs [] _) _ _ _); dsimp only; (try k_gentoks); refine wpAny_execs_nil ?_))) | with_reducible (((with_reducible refine gm_bjoin ?_))) | ((with_reducible show wpAny _ _ (pyIter (Value.ref _)) _ _ _); first | with_reducible ((k_extra "pyIter ref"))) | ((with_reducible show wpAny _ _ (subscriptTail _ _ _ _) _ _ _); first | with_reducible (((with_reducible show wpAny _ _ (subscriptTail _ (Expr.Slice _ _ none _) (Value.bytes (byteArr _) _) (Value.ref _)) _ _ _); (rename Fr _ _ _ _ => F'Zz); (rename News _ _ _ _ => N'Zz); (refine r_cutP (s := ⟨_, _, _, _, _⟩) F'Zz N'Zz (by omega) (by omega) (by omega) ?_); intro _ _ _ _ _)) | with_reducible (((with_reducible show wpAny _ _ (subscriptTail _ _ (Value.bytes _ _) (Value.int _ _)) _ _ _); k_dflt (refine r_b64 (by omega) (by omega) ?_)))) | walk1 | (dsimp only; first | ((with_reducible show wpAny _ _ (binaryOp Operator.FloorDiv (Value.int _ _) (Value.int _ _)) _ _ _); first | with_reducible (((with_reducible show wpAny _ _ (binaryOp Operator.FloorDiv (Value.int _ _) (Value.int _ _)) _ _ _); refine r_fdiv (by omega) (by omega) ?_))) | ((with_reducible show wpAny _ _ (call (Value.builtin "bytes.join") _) _ _ _); first | with_reducible (((rename News _ _ _ _ => nE'Zz); (try simp only [List.push_toArray] at nE'Zz); k_dflt (refine r_bjoin (News.isList nE'Zz (by k_mem)) (by assumption) (Nat.le_trans (encL_len (by omega) (by omega)) (by decide)) ?_); intro _ _))) | ((with_reducible show wpAny _ _ (call (Value.ref _) _) _ _ _); first | with_reducible ((k_dflt (refine' Says.use (b2a_ok _ _ _ (cutL_in (by assumption)) (cutL_len (by omega))) ?k1 ?k2 ?k3 ?k4 ?k5 ?k6 ?k7 ?k8 ?_; (((case k1 => k_asm); (case k2 => k_asm); (case k3 => k_asm); (case k4 => k_asm); (case k5 => k_asm); (case k6 => first | exact rfl | assumption); (case k7 => ktr_room); (case k8 => ktr_units); intro t9Zz h9Zz tk9Zz F9Zz N9Zz; (try dsimp only); (try k_fold))))))) | ((with_reducible show wpAny _ _ (call (Value.type "range") _) _ _ _); first | with_reducible (((with_reducible show wpAny _ _ (call (Value.type "range") [Value.int _ _, Value.int _ _, Value.int _ _]) _ _ _); (rename Fr _ _ _ _ => F'Zz); (rename News _ _ _ _ => N'Zz); (refine range3_rows F'Zz N'Zz (by omega) ?_ (Or.inl (PyProof.noPylong_small (by omega)))); intro _ _ _ _ _ rgXZz _ _ _))) | ((with_reducible show wpAny _ _ (execs (_ :: _) _) _ _ _); first | with_reducible ((dsimp only; k_gentoks))) | ((with_reducible show wpAny _ _ (execs [] _) _ _ _); first | with_reducible (((with_reducible show wpAny _ _ (execs [] _) _ _ _); dsimp only; (try k_gentoks); refine wpAny_execs_nil ?_))) | with_reducible (((with_reducible refine gm_bjoin ?_))) | ((with_reducible show wpAny _ _ (pyIter (Value.ref _)) _ _ _); first | with_reducible ((k_extra "pyIter ref"))) | ((with_reducible show wpAny _ _ (subscriptTail _ _ _ _) _ _ _); first | with_reducible (((with_reducible show wpAny _ _ (subscriptTail _ (Expr.Slice _ _ none _) (Value.bytes (byteArr _) _) (Value.ref _)) _ _ _); (rename Fr _ _ _ _ => F'Zz); (rename News _ _ _ _ => N'Zz); (refine r_cutP (s := ⟨_, _, _, _, _⟩) F'Zz N'Zz (by omega) (by omega) (by omega) ?_); intro _ _ _ _ _)) | with_reducible (((with_reducible show wpAny _ _ (subscriptTail _ _ (Value.bytes _ _) (Value.int _ _)) _ _ _); k_dflt (refine r_b64 (by omega) (by omega) ?_)))) | walk1) | (leave1; (try dsimp only)) | fail "no step"))
  exact hret _ _ _ (by k_asm) (by ((first | k_asm | (refine' cb_drop ?cbN ?cbS; (case cbN => assumption); (case cbS => kcj_all)))))
end
section
set_option maxHeartbeats 8000000
theorem encP1 (w : World) (ns : List Int) (tk : Tok) (hin : KBa.In ns) (hlen : ns.length ≤ 64) : Says w 3 80 131 [.bytes (byteArr ns) tk] (fun t => .bytes (byteArr (pageL (rowsL ns (3 * 19)) [])) t) := by
  have h := encode1_ok w ns tk hin hlen
  rw [encL_page hin] at h
  exact h
theorem lawP (w : World) (ns : List Int) (tk tk' : Tok) (k : Int) (hin : KBa.In ns) (hlen : ns.length ≤ 64) (hk1 : 4 ≤ k) (hk2 : k ≤ 100) : Says w 4 120 834 [.bytes (byteArr ns) tk, .int k tk'] (fun t => .bytes (byteArr (pageL (rowsL ns (3 * (k / 4))) [])) t) := by
  have h := lawenc_ok w ns tk tk' k hin hlen hk1 hk2
  rw [encL_page hin] at h
  exact h
theorem SaysO.use {w : World} {d u : Nat} {f : Addr} {vs : List Value} {r : Tok → Value} (C : SaysO w d u f vs r) {p : Program} {loose : List PySem.Str} {mean : ExcName → Option Value} {mg mb : PySem.Str → Option Value}
  {dp un : Nat} {gd : Option (List Code)} {cn : PySem.Str} {cs : Scope} {a : Addr} {ccd : Value} {A₀ : Around} {base h₀ : Heap} {L : Addr} {m : PySem.Str → Option Value} {news : List (Addr × Obj)} {s : Shared}
    {Q E : Value → Shared → Prop}
    (B : Below A₀ base [] h₀) (F : Fr h₀ L s.heap m) (X : (KH w.params).In h₀) (N : News h₀ L s.heap news) (T : Top p loose mean mg mb h₀) (XB : (KH w.params).In base) (TB : Top p loose mean mg mb base) (hk : cs.kind = .function) (hd : dp + d < recursionLimit) (hu : un + u < cLine)
    (hr : RetV h₀ L m news s Q r) :
    wpAny (model PySem.Challenge.rw_kl0275_01.prog w) (ktrTop dp un gd cn cs L a ccd [] []) (call (.ref f) vs) Q E s := C _ _ _ _ _ _ _ _ _ _ _ _ _ _ _ _ _ _ _ _ _ B F X N T XB TB hk hd hu hr
theorem stageB {w : World} {scope : Scope} {cdv : Value} {b : List Stmt} (hb : lawParts (KH w.params) = some (scope, cdv, b)) (ns : List Int) (pgs : List (List Int)) (vsR : List Value) (tv : Value) (nP : Nat) (Pg : Addr) (led : List (Addr × Obj)) (g : PySem.Str → Option Value)
    (md wd lv col : Int) (ind R PG : List Int) (t0 t1 t2 t3 t4 t5 t7 : Tok) (hin : KBa.In ns) (hns : ns.length ≤ 64) (hmd : 0 ≤ md) (hmd2 : md < 10007) (hl0 : 0 ≤ lv) (hl1 : lv ≤ 11) (hli : ind.length ≤ 2) (h9 : ∀ n ∈ ind, n = 9 ∨ n = 32)
    (hR : R = (List.replicate lv.toNat ind).flatten) (hcR : col = colL R) (hPG : PG = pageL (rowsL ns (3 * (max 16 (76 - colL R) / 4))) R)
    (hv : TsAre (.str (strArr (pageL (rowsL ns (3 * 19)) [])) t7 :: vsR) pgs) (hpg : ∀ T ∈ pgs, Reads T ns ∧ Asc T ∧ T.length ≤ 1000) (hg : Kp md wd lv col ind t1 t2 t3 t4 t5 g)
    (hcase : (-100 < wd ∧ wd < 0 ∧ vsR = [] ∧ ∃ t, tv = .bytes (byteArr []) t) ∨ (0 ≤ wd ∧ wd ≤ 3 ∧ vsR = [] ∧ tv = .none) ∨ (4 ≤ wd ∧ wd ≤ 100 ∧ (∃ v1, vsR = [v1]) ∧ ∃ t, tv = .bytes (byteArr (pageL (rowsL ns (3 * (wd / 4))) [])) t))
    {p : Program} {loose : List PySem.Str} {mean : ExcName → Option Value} {mg mb : PySem.Str → Option Value} {h₀ : Heap} {L : Addr} {s : Shared} {Q : Flow → Shared → Prop} {E : Value → Shared → Prop}
    (X : (KH w.params).In h₀) (T : Top p loose mean mg mb h₀) (K0 : Below callerA h₀ [] h₀)
    (F : Fr h₀ L s.heap (fun y => if y = Str.ofString "told" then some (tv) else if y = Str.ofString "pages" then some (.ref Pg) else if y = Str.ofString "octets" then some (.bytes (byteArr ns) t0) else if y = Str.ofString "width" then some (.int wd t2) else g y))
    (hpn : pgs.length ≤ 2) (hPl : ∀ p ∈ led, p.1 ≠ Pg) (N : News h₀ L s.heap ((Pg, listOf (Value.str (strArr (pageL (rowsL ns (3 * 19)) [])) t7 :: vsR).toArray nP) :: led)) (hE : PassesOwn (model PySem.Challenge.rw_kl0275_01.prog w) (callerA.deeper (envOf (Str.ofString "law") scope L 841 cdv)) (envOf (Str.ofString "law") scope L 841 cdv) E)
    (hQ : ∀ h' tk m', Kp md wd lv col ind t1 t2 t3 t4 t5 m' → Fr h₀ L h' m' → News h₀ L h' led → Q .next { s with heap := h', toks := tk }) :
    wpC (model PySem.Challenge.rw_kl0275_01.prog w) (callerA.deeper (envOf (Str.ofString "law") scope L 841 cdv)) (execs (b.drop 3) (envOf (Str.ofString "law") scope L 841 cdv)) Q E s := by
  revert hb
  k_fill
  intro hb
  cases hb.symm.trans (rfl : lawParts (KH w.params) = some (_, _, _))
  clear hb
  simp only [List.drop]
  have hI0 : IntsAre ([] : List Value) [] := IntsAre.nil
  have hbare := page_bare hin hns (fo := 19) (by decide)
  have hasc : Asc (pageL (rowsL ns (3 * 19)) []) := page_asc (fun _ h => nomatch h) (rows_asc hin _)
  have k1 := hg.same (k := Str.ofString "width") hg.2.1
  obtain ⟨hwd1, hwd2, rfl, tt, rfl⟩ | ⟨hwd1, hwd2, rfl, rfl⟩ | ⟨hwd1, hwd2, ⟨v1, rfl⟩, tt, rfl⟩ := hcase
  all_goals (
  repeat' (first | (k_unfold; (try dsimp only)) | ((fail_if_success (with_reducible show Q _ _)); (fail_if_success (with_reducible show wpC _ _ (execs (Stmt.Assign [Expr.Name (PySem.Str.ofString "rows") _] _ _ :: _) _) _ _ _)); first | ((first | (((with_reducible show wpC _ _ (call (Value.ref 239) _) _ _ _); (rename Fr _ _ _ _ => F'Zz); (rename News _ _ _ _ => N'Zz); k_dflt ((refine' SaysC.use (wbytes2 _ _ _ _ _ _ _ _ _ _ _ _ _ _ _ _ _ _ _ _ _ _ _ _ _ _ (by assumption) (by assumption) (by assumption) (by assumption) (by assumption) (by assumption) (by assumption) (by assumption) (by assumption) (by assumption) (by assumption) (by assumption) (by assumption) (allLt_all (by assumption))) ?k1 F'Zz ?k3 (news_six N'Zz) ?k5 ?k6 ?k7 ?k8 rfl ?_); (case k1 => k_asm); (case k3 => k_asm); (case k5 => k_asm); (case k6 => first | exact rfl | assumption); (case k7 => ktr_room); (case k8 => ktr_units); (rintro v9Zz n9Zz h9Zz tk9Zz ⟨w9Zz, t9Zz, tl9Zz, m9Zz, f9Zz⟩ F9Zz N9Zz); subst w9Zz; subst n9Zz; (try dsimp only); (try k_fold)))) | (((with_reducible show wpC _ _ (call (Value.ref 559) _) _ _ _); (rename Fr _ _ _ _ => F'Zz); (rename News _ _ _ _ => N'Zz); k_dflt ((refine' SaysC.use (bio_ok _) ?k1 F'Zz ?k3 N'Zz ?k5 ?k6 ?k7 ?k8 trivial ?_); (case k1 => k_asm); (case k3 => k_asm); (case k5 => k_asm); (case k6 => first | exact rfl | assumption); (case k7 => ktr_room); (case k8 => ktr_units); (rintro v9Zz n9Zz h9Zz tk9Zz ⟨x9Zz, dx9Zz, B9Zz, q1Zz, q2Zz, q3Zz, w9Zz, f9Zz, l1Zz, l2Zz, l3Zz⟩ F9Zz N9Zz); subst w9Zz; subst n9Zz; (try dsimp only); (try k_fold)))) | ((first | ((with_reducible show wpC _ _ (execs (Stmt.Assign [Expr.Name _ _] (Expr.Call (Expr.Name _ _) [] [] _) _ :: _) _) _ _ _); k_dflt (refine wpC_execs_cons (wpC_Assign_Name ?_))) | ((with_reducible show wpC _ _ (callWith _ (Value.ref _) _ (backTo _ (starEach [] _)) _) _ _ _); (rename Fr _ _ _ _ => F'Zz); (rename Frag.In _ _ => X'Zz); k_dflt (refine' wpC_callWith0 (X'Zz.keeps F'Zz.keep) ?k2 ?_; (case k2 => k_is))))) | (((first | (with_reducible show wpC _ _ (execs (Stmt.Expr (Expr.Call (Expr.Attribute _ (PySem.Str.ofString "append") _) _ _ _) _ :: _) _) _ _ _) | (with_reducible show wpC _ _ (execs (Stmt.AugAssign _ _ _ _ :: _) _) _ _ _)); refine wpC_execs_leaf ?_)) | ((first | ((with_reducible show wpC _ _ (execs (Stmt.If _ _ _ _ :: _) _) _ _ _); k_dflt (refine wpC_execs_cons (wpC_If ?_))) | ((with_reducible show wpC _ _ (execs (Stmt.Expr (Expr.Call (Expr.Attribute _ _ _) _ _ _) _ :: _) _) _ _ _); k_dflt (refine wpC_execs_cons (wpC_Expr (wpC_methodCall ?_)))) | ((with_reducible show wpC _ _ (callWith _ (Value.ref _) _ (backTo _ (starEach (_ :: _) _)) _) _ _ _); k_dflt (refine' wpC_callWith ?k1 ?k2 ?_; (case k1 => k_asm); (case k2 => k_is))))) | ((first | ((with_reducible show wpC _ _ (execs [] _) _ _ _); refine wpC_execs_nil ?_) | ((with_reducible show wpC _ _ (execs (Stmt.Assign [Expr.Attribute _ _ _] (Expr.IfExp _ _ _ _) _ :: _) _) _ _ _); k_dflt (refine wpC_execs_cons (wpC_Assign_Attribute ?_))) | ((with_reducible show wpC _ _ (execs (Stmt.Assign [Expr.Subscript _ _ _] _ _ :: _) _) _ _ _); k_dflt (refine wpC_execs_cons (wpC_Assign_Subscript ?_))) | ((with_reducible show wpC _ _ (execs (_ :: _) _) _ _ _); refine wpC_execs_leaf ?_) | ((with_reducible show wpC _ _ (eval (Expr.IfExp _ _ _ _) _) _ _ _); refine wpC_IfExp ?_) | ((with_reducible show wpC _ _ (eval (Expr.Call (Expr.Name _ _) [] [] _) _) _ _ _); refine wpC_callName ?_) | ((with_reducible show wpC _ _ (callWith _ (Value.type _) _ (backTo _ (starEach [] _)) _) _ _ _); refine wpC_callType0 ?_) | ((with_reducible show wpC _ _ (call (Value.type "bytearray") _) _ _ _); (rename Fr _ _ _ _ => F'Zz); (rename News _ _ _ _ => N'Zz); k_dflt (refine k_baNew0 F'Zz N'Zz ?_); intro B9Zz h9Zz F9Zz N9Zz l9Zz; k_lt l9Zz)))); (try dsimp only)) | (k_end; kc_close) | ((with_reducible show wpAny _ _ (call (Value.builtin "str.encode") _) _ _ _); first | with_reducible ((first | ((with_reducible show wpAny _ _ (call (Value.builtin "str.encode") [Value.str _ _, Value.str (PySem.Str.ofString "utf-8") _]) _ _ _); refine r_enc8 (by assumption) (by omega) ?_; intro _ _) | ((with_reducible show wpAny _ _ (call (Value.builtin "str.encode") [Value.str _ _, Value.str (PySem.Str.ofString "ascii") _]) _ _ _); refine r_encA (by assumption) (by omega) ?_; intro _ _)))) | ((with_reducible show wpAny _ _ (call (Value.ref _) _) _ _ _); first | with_reducible (((with_reducible show wpAny _ _ (call (Value.ref 834) _) _ _ _); (rename Fr _ _ _ _ => F'Zz); (rename News _ _ _ _ => N'Zz); k_dflt ((refine' SaysO.use (lawenc0_ok _ _ _ _ (by assumption) (by assumption) _ (by assumption) (by assumption)) ?k1 F'Zz ?k3 N'Zz ?k5 ?k3b ?k5b ?k6 ?k7 ?k8 ?_); (case k1 => k_asm); (case k3 => k_asm); (case k5 => k_asm); (case k3b => k_asm); (case k5b => k_asm); (case k6 => first | exact rfl | assumption); (case k7 => ktr_room); (case k8 => ktr_units); (intro t9Zz h9Zz tk9Zz F9Zz N9Zz; (try dsimp only); (try k_fold))))) | with_reducible (((with_reducible show wpAny _ _ (call (Value.ref 834) _) _ _ _); k_dflt (refine' Says.use (lawencN_ok _ _ _ _ _ (by assumption) (by assumption) (by assumption) (by assumption)) ?k1 ?k2 ?k3 ?k4 ?k5 ?k6 ?k7 ?k8 ?_; (((case k1 => k_asm); (case k2 => k_asm); (case k3 => k_asm); (case k4 => k_asm); (case k5 => k_asm); (case k6 => first | exact rfl | assumption); (case k7 => ktr_room); (case k8 => ktr_units); intro t9Zz h9Zz tk9Zz F9Zz N9Zz; (try dsimp only); (try k_fold)))))) | with_reducible (((with_reducible show wpAny _ _ (call (Value.ref 834) _) _ _ _); k_dflt (refine' Says.use (lawP _ _ _ _ _ (by assumption) (by assumption) (by assumption) (by assumption)) ?k1 ?k2 ?k3 ?k4 ?k5 ?k6 ?k7 ?k8 ?_; (((case k1 => k_asm); (case k2 => k_asm); (case k3 => k_asm); (case k4 => k_asm); (case k5 => k_asm); (case k6 => first | exact rfl | assumption); (case k7 => ktr_room); (case k8 => ktr_units); intro t9Zz h9Zz tk9Zz F9Zz N9Zz; (try dsimp only); (try k_fold)))))) | with_reducible (((with_reducible show wpAny _ _ (call (Value.ref 131) _) _ _ _); k_dflt (refine' Says.use (encP1 _ _ _ (by assumption) (by assumption)) ?k1 ?k2 ?k3 ?k4 ?k5 ?k6 ?k7 ?k8 ?_; (((case k1 => k_asm); (case k2 => k_asm); (case k3 => k_asm); (case k4 => k_asm); (case k5 => k_asm); (case k6 => first | exact rfl | assumption); (case k7 => ktr_room); (case k8 => ktr_units); intro t9Zz h9Zz tk9Zz F9Zz N9Zz; (try dsimp only); (try k_fold)))))) | with_reducible (((with_reducible show wpAny _ _ (call (Value.ref 445) _) _ _ _); (rename Fr _ _ _ _ => F'Zz); (rename News _ _ _ _ => N'Zz); k_dflt ((refine' SaysG.use (getvalue_ok _ _ _ _ _ _ _ _ _ (by omega)) ?k1 F'Zz ?k3 N'Zz ?k5 ?k6 ?k7 ?k8 ⟨List.Mem.head _, List.Mem.tail _ (List.Mem.head _), List.Mem.tail _ (List.Mem.tail _ (List.Mem.head _))⟩ ?_); (case k1 => k_asm); (case k3 => k_asm); (case k5 => k_asm); (case k6 => first | exact rfl | assumption); (case k7 => ktr_room); (case k8 => ktr_units); (rintro v9Zz n9Zz h9Zz tk9Zz ⟨⟨tv9Zz, w9Zz⟩, f9Zz⟩ F9Zz N9Zz); subst w9Zz; subst n9Zz; (try dsimp only); (try k_fold)))) | with_reducible (((with_reducible show wpAny _ _ (call (Value.ref 256) _) _ _ _); (rename Fr _ _ _ _ => F'Zz); (rename News _ _ _ _ => N'Zz); k_dflt ((refine' SaysG.use (plist_ok _ _ _ _ _ _ _) ?k1 F'Zz ?k3 N'Zz ?k5 ?k6 ?k7 ?k8 trivial ?_); (case k1 => k_asm); (case k3 => k_asm); (case k5 => k_asm); (case k6 => first | exact rfl | assumption); (case k7 => ktr_room); (case k8 => ktr_units); (rintro v9Zz n9Zz h9Zz tk9Zz ⟨W9Zz, dW9Zz, S9Zz, q1Zz, q2Zz, q3Zz, q4Zz, q5Zz, q6Zz, q7Zz, q8Zz, q9Zz, w9Zz, f9Zz, l1Zz, l2Zz, l3Zz⟩ F9Zz N9Zz); (have l4Zz := allLt_head l3Zz); subst w9Zz; subst n9Zz; (try dsimp only); (try k_fold)))) | with_reducible (((with_reducible show wpAny _ _ (call (Value.ref 138) [Value.bytes _ _]) _ _ _); (rename Reads _ _ => hR9Zz); (rename KBa.In _ => hI9Zz); k_dflt (refine' Says.use (decode_bytesR _ _ hR9Zz hI9Zz (by assumption) (by omega)) ?k1 ?k2 ?k3 ?k4 ?k5 ?k6 ?k7 ?k8 ?_; (((case k1 => k_asm); (case k2 => k_asm); (case k3 => k_asm); (case k4 => k_asm); (case k5 => k_asm); (case k6 => first | exact rfl | assumption); (case k7 => ktr_room); (case k8 => ktr_units); intro t9Zz h9Zz tk9Zz F9Zz N9Zz; (try dsimp only); (try k_fold)))))) | with_reducible (((with_reducible show wpAny _ _ (call (Value.ref 138) [Value.str _ _]) _ _ _); (rename Reads _ _ => hR9Zz); (rename KBa.In _ => hI9Zz); k_dflt (refine' Says.use (decode_strR _ _ hR9Zz hI9Zz (by assumption) (by omega)) ?k1 ?k2 ?k3 ?k4 ?k5 ?k6 ?k7 ?k8 ?_; (((case k1 => k_asm); (case k2 => k_asm); (case k3 => k_asm); (case k4 => k_asm); (case k5 => k_asm); (case k6 => first | exact rfl | assumption); (case k7 => ktr_room); (case k8 => ktr_units); intro t9Zz h9Zz tk9Zz F9Zz N9Zz; (try dsimp only); (try k_fold)))))) | with_reducible (((with_reducible show wpAny _ _ (call (Value.ref 827) _) _ _ _); k_dflt (refine' Says.use (strewn_ok _ _ _ _ _ (by assumption) (by omega)) ?k1 ?k2 ?k3 ?k4 ?k5 ?k6 ?k7 ?k8 ?_; (((case k1 => k_asm); (case k2 => k_asm); (case k3 => k_asm); (case k4 => k_asm); (case k5 => k_asm); (case k6 => first | exact rfl | assumption); (case k7 => ktr_room); (case k8 => ktr_units); intro t9Zz h9Zz tk9Zz F9Zz N9Zz; (try dsimp only); (try k_fold))))))) | ((with_reducible show wpAny _ _ (compareOp CmpOp.NotEq (Value.bytes _ _) (Value.bytes _ _)) _ _ _); first | with_reducible ((refine r_neBB ?_))) | with_reducible ((first | (with_reducible refine GM.index ?_) | (with_reducible refine GM.rindex ?_))) | with_reducible (((with_reducible refine gm_encode ?_))) | walk1 | (dsimp only; first | ((with_reducible show wpAny _ _ (call (Value.builtin "str.encode") _) _ _ _); first | with_reducible ((first | ((with_reducible show wpAny _ _ (call (Value.builtin "str.encode") [Value.str _ _, Value.str (PySem.Str.ofString "utf-8") _]) _ _ _); refine r_enc8 (by assumption) (by omega) ?_; intro _ _) | ((with_reducible show wpAny _ _ (call (Value.builtin "str.encode") [Value.str _ _, Value.str (PySem.Str.ofString "ascii") _]) _ _ _); refine r_encA (by assumption) (by omega) ?_; intro _ _)))) | ((with_reducible show wpAny _ _ (call (Value.ref _) _) _ _ _); first | with_reducible (((with_reducible show wpAny _ _ (call (Value.ref 834) _) _ _ _); (rename Fr _ _ _ _ => F'Zz); (rename News _ _ _ _ => N'Zz); k_dflt ((refine' SaysO.use (lawenc0_ok _ _ _ _ (by assumption) (by assumption) _ (by assumption) (by assumption)) ?k1 F'Zz ?k3 N'Zz ?k5 ?k3b ?k5b ?k6 ?k7 ?k8 ?_); (case k1 => k_asm); (case k3 => k_asm); (case k5 => k_asm); (case k3b => k_asm); (case k5b => k_asm); (case k6 => first | exact rfl | assumption); (case k7 => ktr_room); (case k8 => ktr_units); (intro t9Zz h9Zz tk9Zz F9Zz N9Zz; (try dsimp only); (try k_fold))))) | with_reducible (((with_reducible show wpAny _ _ (call (Value.ref 834) _) _ _ _); k_dflt (refine' Says.use (lawencN_ok _ _ _ _ _ (by assumption) (by assumption) (by assumption) (by assumption)) ?k1 ?k2 ?k3 ?k4 ?k5 ?k6 ?k7 ?k8 ?_; (((case k1 => k_asm); (case k2 => k_asm); (case k3 => k_asm); (case k4 => k_asm); (case k5 => k_asm); (case k6 => first | exact rfl | assumption); (case k7 => ktr_room); (case k8 => ktr_units); intro t9Zz h9Zz tk9Zz F9Zz N9Zz; (try dsimp only); (try k_fold)))))) | with_reducible (((with_reducible show wpAny _ _ (call (Value.ref 834) _) _ _ _); k_dflt (refine' Says.use (lawP _ _ _ _ _ (by assumption) (by assumption) (by assumption) (by assumption)) ?k1 ?k2 ?k3 ?k4 ?k5 ?k6 ?k7 ?k8 ?_; (((case k1 => k_asm); (case k2 => k_asm); (case k3 => k_asm); (case k4 => k_asm); (case k5 => k_asm); (case k6 => first | exact rfl | assumption); (case k7 => ktr_room); (case k8 => ktr_units); intro t9Zz h9Zz tk9Zz F9Zz N9Zz; (try dsimp only); (try k_fold)))))) | with_reducible (((with_reducible show wpAny _ _ (call (Value.ref 131) _) _ _ _); k_dflt (refine' Says.use (encP1 _ _ _ (by assumption) (by assumption)) ?k1 ?k2 ?k3 ?k4 ?k5 ?k6 ?k7 ?k8 ?_; (((case k1 => k_asm); (case k2 => k_asm); (case k3 => k_asm); (case k4 => k_asm); (case k5 => k_asm); (case k6 => first | exact rfl | assumption); (case k7 => ktr_room); (case k8 => ktr_units); intro t9Zz h9Zz tk9Zz F9Zz N9Zz; (try dsimp only); (try k_fold)))))) | with_reducible (((with_reducible show wpAny _ _ (call (Value.ref 445) _) _ _ _); (rename Fr _ _ _ _ => F'Zz); (rename News _ _ _ _ => N'Zz); k_dflt ((refine' SaysG.use (getvalue_ok _ _ _ _ _ _ _ _ _ (by omega)) ?k1 F'Zz ?k3 N'Zz ?k5 ?k6 ?k7 ?k8 ⟨List.Mem.head _, List.Mem.tail _ (List.Mem.head _), List.Mem.tail _ (List.Mem.tail _ (List.Mem.head _))⟩ ?_); (case k1 => k_asm); (case k3 => k_asm); (case k5 => k_asm); (case k6 => first | exact rfl | assumption); (case k7 => ktr_room); (case k8 => ktr_units); (rintro v9Zz n9Zz h9Zz tk9Zz ⟨⟨tv9Zz, w9Zz⟩, f9Zz⟩ F9Zz N9Zz); subst w9Zz; subst n9Zz; (try dsimp only); (try k_fold)))) | with_reducible (((with_reducible show wpAny _ _ (call (Value.ref 256) _) _ _ _); (rename Fr _ _ _ _ => F'Zz); (rename News _ _ _ _ => N'Zz); k_dflt ((refine' SaysG.use (plist_ok _ _ _ _ _ _ _) ?k1 F'Zz ?k3 N'Zz ?k5 ?k6 ?k7 ?k8 trivial ?_); (case k1 => k_asm); (case k3 => k_asm); (case k5 => k_asm); (case k6 => first | exact rfl | assumption); (case k7 => ktr_room); (case k8 => ktr_units); (rintro v9Zz n9Zz h9Zz tk9Zz ⟨W9Zz, dW9Zz, S9Zz, q1Zz, q2Zz, q3Zz, q4Zz, q5Zz, q6Zz, q7Zz, q8Zz, q9Zz, w9Zz, f9Zz, l1Zz, l2Zz, l3Zz⟩ F9Zz N9Zz); (have l4Zz := allLt_head l3Zz); subst w9Zz; subst n9Zz; (try dsimp only); (try k_fold)))) | with_reducible (((with_reducible show wpAny _ _ (call (Value.ref 138) [Value.bytes _ _]) _ _ _); (rename Reads _ _ => hR9Zz); (rename KBa.In _ => hI9Zz); k_dflt (refine' Says.use (decode_bytesR _ _ hR9Zz hI9Zz (by assumption) (by omega)) ?k1 ?k2 ?k3 ?k4 ?k5 ?k6 ?k7 ?k8 ?_; (((case k1 => k_asm); (case k2 => k_asm); (case k3 => k_asm); (case k4 => k_asm); (case k5 => k_asm); (case k6 => first | exact rfl | assumption); (case k7 => ktr_room); (case k8 => ktr_units); intro t9Zz h9Zz tk9Zz F9Zz N9Zz; (try dsimp only); (try k_fold)))))) | with_reducible (((with_reducible show wpAny _ _ (call (Value.ref 138) [Value.str _ _]) _ _ _); (rename Reads _ _ => hR9Zz); (rename KBa.In _ => hI9Zz); k_dflt (refine' Says.use (decode_strR _ _ hR9Zz hI9Zz (by assumption) (by omega)) ?k1 ?k2 ?k3 ?k4 ?k5 ?k6 ?k7 ?k8 ?_; (((case k1 => k_asm); (case k2 => k_asm); (case k3 => k_asm); (case k4 => k_asm); (case k5 => k_asm); (case k6 => first | exact rfl | assumption); (case k7 => ktr_room); (case k8 => ktr_units); intro t9Zz h9Zz tk9Zz F9Zz N9Zz; (try dsimp only); (try k_fold)))))) | with_reducible (((with_reducible show wpAny _ _ (call (Value.ref 827) _) _ _ _); k_dflt (refine' Says.use (strewn_ok _ _ _ _ _ (by assumption) (by omega)) ?k1 ?k2 ?k3 ?k4 ?k5 ?k6 ?k7 ?k8 ?_; (((case k1 => k_asm); (case k2 => k_asm); (case k3 => k_asm); (case k4 => k_asm); (case k5 => k_asm); (case k6 => first | exact rfl | assumption); (case k7 => ktr_room); (case k8 => ktr_units); intro t9Zz h9Zz tk9Zz F9Zz N9Zz; (try dsimp only); (try k_fold))))))) | ((with_reducible show wpAny _ _ (compareOp CmpOp.NotEq (Value.bytes _ _) (Value.bytes _ _)) _ _ _); first | with_reducible ((refine r_neBB ?_))) | with_reducible ((first | (with_reducible refine GM.index ?_) | (with_reducible refine GM.rindex ?_))) | with_reducible (((with_reducible refine gm_encode ?_))) | walk1) | (leave1; (try dsimp only)) | fail "no step"))
  )
  all_goals (
    rename Fr _ _ _ _ => F8
    rename News _ _ _ _ => N9
    have F9 := fr_put F8 (Str.ofString "indent") (.str (strArr ind) t3) (by repeat (first | exact hg.2.2.1 | refine (if_neg (by decide)).trans ?_))
    have F10 := fr_put F9 (Str.ofString "level") (.int lv t4) (by repeat (first | exact hg.2.2.2.1 | refine (if_neg (by decide)).trans ?_))
    have F11 := fr_put F10 (Str.ofString "column") (.int col t5) (by repeat (first | exact hg.2.2.2.2 | refine (if_neg (by decide)).trans ?_))
    have F12 := fr_put F11 (Str.ofString "pages") (.ref Pg) (by repeat (first | exact if_pos rfl | refine (if_neg (by decide)).trans ?_))
    have F13 := fr_put F12 (Str.ofString "octets") (.bytes (byteArr ns) t0) (by repeat (first | exact if_pos rfl | refine (if_neg (by decide)).trans ?_))
    exact stageC rfl ns pgs _ nP Pg led _ md wd lv col ind R PG t0 t1 t2 t3 t4 t5 hin hns hmd hmd2 hl0 hl1 hli h9 hR hcR hPG hv hpg (((k1.put (by decide)).put (by decide)).put (by decide)) X T K0 F13 hpn hPl N9 hE (fun h' tk m' c1 c2 c3 => hQ h' tk m' c1 c2 c3))
end
section
set_option maxHeartbeats 8000000
theorem page0 (w : World) (D : Addr) (xs : List (List Int)) (vs : List Value) (nn : Nat) (tk : Tok) (hv : TsAre vs xs) (hx : ∀ x ∈ xs, x.length ≤ 1000) (hn : xs.length ≤ 100) :
    SaysP w 3 80 820 [.ref D, .str (Str.ofString "") tk] (fun news => (D, listOf vs.toArray nn) ∈ news) (fun t => .str (strArr (pageL xs [])) t) := by
  rw [emptyS]; exact page_ok w D xs vs nn [] tk hv (by decide) hx hn
theorem rows_cap {ns : List Int} (hin : KBa.In ns) (hns : ns.length ≤ 64) {fo : Int} (hf : 1 ≤ fo) : (∀ r ∈ rowsL ns (3 * fo), r.length ≤ 1000) ∧ (rowsL ns (3 * fo)).length ≤ 100 :=
  ⟨fun r hr => Nat.le_trans (rows_short hin hns hf r hr) (by decide), Nat.le_trans (rows_few hns (by omega)).1 (by decide)⟩
theorem news_pick2 {h₀ h : Heap} {L : Addr} {a b c : Addr × Obj} {r : List (Addr × Obj)} (N : News h₀ L h (a :: b :: c :: r)) : News h₀ L h (b :: r) := fun p hp => N p (by
  simp only [List.mem_cons] at hp ⊢
  rcases hp with h | h <;> simp [h])
theorem news_skip {h₀ h : Heap} {L : Addr} {a c : Addr × Obj} {r : List (Addr × Obj)} (N : News h₀ L h (a :: c :: r)) : News h₀ L h (a :: r) := fun p hp => N p (by
  simp only [List.mem_cons] at hp ⊢
  rcases hp with h | h <;> simp [h])
theorem stageA {w : World} {scope : Scope} {cdv : Value} {b : List Stmt} (hb : lawParts (KH w.params) = some (scope, cdv, b)) (ns : List Int) (led : List (Addr × Obj)) (g : PySem.Str → Option Value)
    (md wd lv col : Int) (ind R : List Int) (t0 t1 t2 t3 t4 t5 : Tok) (hin : KBa.In ns) (hns : ns.length ≤ 64) (hmd : 0 ≤ md) (hmd2 : md < 10007) (hl0 : 0 ≤ lv) (hl1 : lv ≤ 11) (hli : ind.length ≤ 2) (h9 : ∀ n ∈ ind, n = 9 ∨ n = 32)
    (hR : R = (List.replicate lv.toNat ind).flatten) (hcR : col = colL R) (hwd1 : -100 < wd) (hwd2 : wd ≤ 100) (hg : Kp md wd lv col ind t1 t2 t3 t4 t5 g)
    {p : Program} {loose : List PySem.Str} {mean : ExcName → Option Value} {mg mb : PySem.Str → Option Value} {h₀ : Heap} {L : Addr} {s : Shared} {Q : Flow → Shared → Prop} {E : Value → Shared → Prop}
    (X : (KH w.params).In h₀) (T : Top p loose mean mg mb h₀) (K0 : Below callerA h₀ [] h₀)
    (F : Fr h₀ L s.heap (fun y => if y = Str.ofString "octets" then some (.bytes (byteArr ns) t0) else if y = Str.ofString "width" then some (.int wd t2) else g y))
    (N : News h₀ L s.heap led) (hE : PassesOwn (model PySem.Challenge.rw_kl0275_01.prog w) (callerA.deeper (envOf (Str.ofString "law") scope L 841 cdv)) (envOf (Str.ofString "law") scope L 841 cdv) E)
    (hQ : ∀ h' tk m', Kp md wd lv col ind t1 t2 t3 t4 t5 m' → Fr h₀ L h' m' → News h₀ L h' led → Q .next { s with heap := h', toks := tk }) :
    wpC (model PySem.Challenge.rw_kl0275_01.prog w) (callerA.deeper (envOf (Str.ofString "law") scope L 841 cdv)) (execs (b.drop 0) (envOf (Str.ofString "law") scope L 841 cdv)) Q E s := by
  revert hb
  k_fill
  intro hb
  cases hb.symm.trans (rfl : lawParts (KH w.params) = some (_, _, _))
  clear hb
  simp only [List.drop]
  have hI0 : IntsAre ([] : List Value) [] := IntsAre.nil
  have k1 := hg.same (k := Str.ofString "width") hg.2.1
  have hr1 := reads_page hin (fo := 19) (by decide) (bs := []) (fun _ h => nomatch h)
  have ha1 : Asc (pageL (rowsL ns (3 * 19)) []) := page_asc (fun _ h => nomatch h) (rows_asc hin _)
  have hb1 := page_bare hin hns (fo := 19) (by decide)
  repeat' (first | (k_unfold; (try dsimp only)) | ((fail_if_success (with_reducible show Q _ _)); (fail_if_success (with_reducible show wpC _ _ (execs (Stmt.If (Expr.BoolOp _ _ _) _ _ _ :: _) _) _ _ _)); (fail_if_success (with_reducible show wpAny _ _ (call (Value.builtin "list.append") _) _ _ _)); first | ((first | (((with_reducible show wpC _ _ (call (Value.ref 239) _) _ _ _); (rename Fr _ _ _ _ => F'Zz); (rename News _ _ _ _ => N'Zz); k_dflt ((refine' SaysC.use (wbytes2 _ _ _ _ _ _ _ _ _ _ _ _ _ _ _ _ _ _ _ _ _ _ _ _ _ _ (by assumption) (by assumption) (by assumption) (by assumption) (by assumption) (by assumption) (by assumption) (by assumption) (by assumption) (by assumption) (by assumption) (by assumption) (by assumption) (allLt_all (by assumption))) ?k1 F'Zz ?k3 (news_six N'Zz) ?k5 ?k6 ?k7 ?k8 rfl ?_); (case k1 => k_asm); (case k3 => k_asm); (case k5 => k_asm); (case k6 => first | exact rfl | assumption); (case k7 => ktr_room); (case k8 => ktr_units); (rintro v9Zz n9Zz h9Zz tk9Zz ⟨w9Zz, t9Zz, tl9Zz, m9Zz, f9Zz⟩ F9Zz N9Zz); subst w9Zz; subst n9Zz; (try dsimp only); (try k_fold)))) | (((with_reducible show wpC _ _ (call (Value.ref 559) _) _ _ _); (rename Fr _ _ _ _ => F'Zz); (rename News _ _ _ _ => N'Zz); k_dflt ((refine' SaysC.use (bio_ok _) ?k1 F'Zz ?k3 N'Zz ?k5 ?k6 ?k7 ?k8 trivial ?_); (case k1 => k_asm); (case k3 => k_asm); (case k5 => k_asm); (case k6 => first | exact rfl | assumption); (case k7 => ktr_room); (case k8 => ktr_units); (rintro v9Zz n9Zz h9Zz tk9Zz ⟨x9Zz, dx9Zz, B9Zz, q1Zz, q2Zz, q3Zz, w9Zz, f9Zz, l1Zz, l2Zz, l3Zz⟩ F9Zz N9Zz); subst w9Zz; subst n9Zz; (try dsimp only); (try k_fold)))) | ((first | ((with_reducible show wpC _ _ (execs (Stmt.Assign [Expr.Name _ _] (Expr.Call (Expr.Name _ _) [] [] _) _ :: _) _) _ _ _); k_dflt (refine wpC_execs_cons (wpC_Assign_Name ?_))) | ((with_reducible show wpC _ _ (callWith _ (Value.ref _) _ (backTo _ (starEach [] _)) _) _ _ _); (rename Fr _ _ _ _ => F'Zz); (rename Frag.In _ _ => X'Zz); k_dflt (refine' wpC_callWith0 (X'Zz.keeps F'Zz.keep) ?k2 ?_; (case k2 => k_is))))) | (((first | (with_reducible show wpC _ _ (execs (Stmt.Expr (Expr.Call (Expr.Attribute _ (PySem.Str.ofString "append") _) _ _ _) _ :: _) _) _ _ _) | (with_reducible show wpC _ _ (execs (Stmt.AugAssign _ _ _ _ :: _) _) _ _ _)); refine wpC_execs_leaf ?_)) | ((first | ((with_reducible show wpC _ _ (execs (Stmt.If _ _ _ _ :: _) _) _ _ _); k_dflt (refine wpC_execs_cons (wpC_If ?_))) | ((with_reducible show wpC _ _ (execs (Stmt.Expr (Expr.Call (Expr.Attribute _ _ _) _ _ _) _ :: _) _) _ _ _); k_dflt (refine wpC_execs_cons (wpC_Expr (wpC_methodCall ?_)))) | ((with_reducible show wpC _ _ (callWith _ (Value.ref _) _ (backTo _ (starEach (_ :: _) _)) _) _ _ _); k_dflt (refine' wpC_callWith ?k1 ?k2 ?_; (case k1 => k_asm); (case k2 => k_is))))) | ((first | ((with_reducible show wpC _ _ (execs [] _) _ _ _); refine wpC_execs_nil ?_) | ((with_reducible show wpC _ _ (execs (Stmt.Assign [Expr.Attribute _ _ _] (Expr.IfExp _ _ _ _) _ :: _) _) _ _ _); k_dflt (refine wpC_execs_cons (wpC_Assign_Attribute ?_))) | ((with_reducible show wpC _ _ (execs (Stmt.Assign [Expr.Subscript _ _ _] _ _ :: _) _) _ _ _); k_dflt (refine wpC_execs_cons (wpC_Assign_Subscript ?_))) | ((with_reducible show wpC _ _ (execs (_ :: _) _) _ _ _); refine wpC_execs_leaf ?_) | ((with_reducible show wpC _ _ (eval (Expr.IfExp _ _ _ _) _) _ _ _); refine wpC_IfExp ?_) | ((with_reducible show wpC _ _ (eval (Expr.Call (Expr.Name _ _) [] [] _) _) _ _ _); refine wpC_callName ?_) | ((with_reducible show wpC _ _ (callWith _ (Value.type _) _ (backTo _ (starEach [] _)) _) _ _ _); refine wpC_callType0 ?_) | ((with_reducible show wpC _ _ (call (Value.type "bytearray") _) _ _ _); (rename Fr _ _ _ _ => F'Zz); (rename News _ _ _ _ => N'Zz); k_dflt (refine k_baNew0 F'Zz N'Zz ?_); intro B9Zz h9Zz F9Zz N9Zz l9Zz; k_lt l9Zz)))); (try dsimp only)) | (k_end; kc_close) | ((with_reducible show wpAny _ _ (binaryOp Operator.FloorDiv (Value.int _ _) (Value.int _ _)) _ _ _); first | with_reducible (((with_reducible show wpAny _ _ (binaryOp Operator.FloorDiv (Value.int _ _) (Value.int _ _)) _ _ _); refine r_fdiv (by omega) (by omega) ?_))) | ((with_reducible show wpAny _ _ (call (Value.builtin "str.encode") _) _ _ _); first | with_reducible ((first | ((with_reducible show wpAny _ _ (call (Value.builtin "str.encode") [Value.str _ _, Value.str (PySem.Str.ofString "utf-8") _]) _ _ _); refine r_enc8 (by assumption) (by omega) ?_; intro _ _) | ((with_reducible show wpAny _ _ (call (Value.builtin "str.encode") [Value.str _ _, Value.str (PySem.Str.ofString "ascii") _]) _ _ _); refine r_encA (by assumption) (by omega) ?_; intro _ _)))) | ((with_reducible show wpAny _ _ (call (Value.ref _) _) _ _ _); first | with_reducible (((with_reducible show wpAny _ _ (call (Value.ref 820) _) _ _ _); (rename Fr _ _ _ _ => F'Zz); (rename News _ _ _ _ => N'Zz); (rename TsAre _ (rowsL _ _) => hT'Zz); k_dflt ((refine' SaysP.use (page0 _ _ _ _ _ _ hT'Zz (rows_cap (by assumption) (by assumption) (by omega)).1 (rows_cap (by assumption) (by assumption) (by omega)).2) ?k1 F'Zz ?k3 N'Zz ?k5 ?k6 ?k7 ?k8 (List.Mem.head _) ?_); (case k1 => k_asm); (case k3 => k_asm); (case k5 => k_asm); (case k6 => first | exact rfl | assumption); (case k7 => ktr_room); (case k8 => ktr_units); (intro t9Zz h9Zz tk9Zz F9Zz N9Zz; (try dsimp only); (try k_fold))))) | with_reducible (((with_reducible show wpAny _ _ (call (Value.ref 815) _) _ _ _); (rename Fr _ _ _ _ => F'Zz); (rename News _ _ _ _ => N'Zz); k_dflt ((refine' SaysL.use (rows_ok _ _ _ _ _ (by assumption) (by assumption) (by omega) (by omega)) ?k1 F'Zz ?k3 N'Zz ?k5 ?k6 ?k7 ?k8 ?_); (case k1 => k_asm); (case k3 => k_asm); (case k5 => k_asm); (case k6 => first | exact rfl | assumption); (case k7 => ktr_room); (case k8 => ktr_units); intro D9Zz vs9Zz m9Zz h9Zz tk9Zz hv9Zz hl9Zz F9Zz N9Zz; (try dsimp only); (try k_fold)))) | with_reducible (((with_reducible show wpAny _ _ (call (Value.ref 820) _) _ _ _); (rename Fr _ _ _ _ => F'Zz); (rename News _ _ _ _ => N'Zz); (rename TsAre _ (_ ++ rowsL _ _ ++ _) => hT'Zz); k_dflt ((refine' SaysP.use (page2 _ _ _ _ _ _ _ _ _ _ (by assumption) (by assumption) (by assumption) (by assumption) (by assumption) (by assumption) hT'Zz) ?k1 F'Zz ?k3 N'Zz ?k5 ?k6 ?k7 ?k8 (List.Mem.head _) ?_); (case k1 => k_asm); (case k3 => k_asm); (case k5 => k_asm); (case k6 => first | exact rfl | assumption); (case k7 => ktr_room); (case k8 => ktr_units); (intro t9Zz h9Zz tk9Zz F9Zz N9Zz; (try dsimp only); (try k_fold))))) | with_reducible (((with_reducible show wpAny _ _ (call (Value.ref 445) _) _ _ _); (rename Fr _ _ _ _ => F'Zz); (rename News _ _ _ _ => N'Zz); k_dflt ((refine' SaysG.use (getvalue_ok _ _ _ _ _ _ _ _ _ (by omega)) ?k1 F'Zz ?k3 N'Zz ?k5 ?k6 ?k7 ?k8 ⟨List.Mem.head _, List.Mem.tail _ (List.Mem.head _), List.Mem.tail _ (List.Mem.tail _ (List.Mem.head _))⟩ ?_); (case k1 => k_asm); (case k3 => k_asm); (case k5 => k_asm); (case k6 => first | exact rfl | assumption); (case k7 => ktr_room); (case k8 => ktr_units); (rintro v9Zz n9Zz h9Zz tk9Zz ⟨⟨tv9Zz, w9Zz⟩, f9Zz⟩ F9Zz N9Zz); subst w9Zz; subst n9Zz; (try dsimp only); (try k_fold)))) | with_reducible (((with_reducible show wpAny _ _ (call (Value.ref 256) _) _ _ _); (rename Fr _ _ _ _ => F'Zz); (rename News _ _ _ _ => N'Zz); k_dflt ((refine' SaysG.use (plist_ok _ _ _ _ _ _ _) ?k1 F'Zz ?k3 N'Zz ?k5 ?k6 ?k7 ?k8 trivial ?_); (case k1 => k_asm); (case k3 => k_asm); (case k5 => k_asm); (case k6 => first | exact rfl | assumption); (case k7 => ktr_room); (case k8 => ktr_units); (rintro v9Zz n9Zz h9Zz tk9Zz ⟨W9Zz, dW9Zz, S9Zz, q1Zz, q2Zz, q3Zz, q4Zz, q5Zz, q6Zz, q7Zz, q8Zz, q9Zz, w9Zz, f9Zz, l1Zz, l2Zz, l3Zz⟩ F9Zz N9Zz); (have l4Zz := allLt_head l3Zz); subst w9Zz; subst n9Zz; (try dsimp only); (try k_fold)))) | with_reducible (((with_reducible show wpAny _ _ (call (Value.ref 138) [Value.bytes _ _]) _ _ _); (rename Reads _ _ => hR9Zz); (rename KBa.In _ => hI9Zz); k_dflt (refine' Says.use (decode_bytesR _ _ hR9Zz hI9Zz (by assumption) (by omega)) ?k1 ?k2 ?k3 ?k4 ?k5 ?k6 ?k7 ?k8 ?_; (((case k1 => k_asm); (case k2 => k_asm); (case k3 => k_asm); (case k4 => k_asm); (case k5 => k_asm); (case k6 => first | exact rfl | assumption); (case k7 => ktr_room); (case k8 => ktr_units); intro t9Zz h9Zz tk9Zz F9Zz N9Zz; (try dsimp only); (try k_fold)))))) | with_reducible (((with_reducible show wpAny _ _ (call (Value.ref 138) [Value.str _ _]) _ _ _); (rename Reads _ _ => hR9Zz); (rename KBa.In _ => hI9Zz); k_dflt (refine' Says.use (decode_strR _ _ hR9Zz hI9Zz (by assumption) (by omega)) ?k1 ?k2 ?k3 ?k4 ?k5 ?k6 ?k7 ?k8 ?_; (((case k1 => k_asm); (case k2 => k_asm); (case k3 => k_asm); (case k4 => k_asm); (case k5 => k_asm); (case k6 => first | exact rfl | assumption); (case k7 => ktr_room); (case k8 => ktr_units); intro t9Zz h9Zz tk9Zz F9Zz N9Zz; (try dsimp only); (try k_fold)))))) | with_reducible (((with_reducible show wpAny _ _ (call (Value.ref 827) _) _ _ _); k_dflt (refine' Says.use (strewn_ok _ _ _ _ _ (by assumption) (by omega)) ?k1 ?k2 ?k3 ?k4 ?k5 ?k6 ?k7 ?k8 ?_; (((case k1 => k_asm); (case k2 => k_asm); (case k3 => k_asm); (case k4 => k_asm); (case k5 => k_asm); (case k6 => first | exact rfl | assumption); (case k7 => ktr_room); (case k8 => ktr_units); intro t9Zz h9Zz tk9Zz F9Zz N9Zz; (try dsimp only); (try k_fold))))))) | with_reducible ((first | (with_reducible refine GM.index ?_) | (with_reducible refine GM.rindex ?_))) | with_reducible (((with_reducible refine gm_encode ?_))) | walk1 | (dsimp only; first | ((with_reducible show wpAny _ _ (binaryOp Operator.FloorDiv (Value.int _ _) (Value.int _ _)) _ _ _); first | with_reducible (((with_reducible show wpAny _ _ (binaryOp Operator.FloorDiv (Value.int _ _) (Value.int _ _)) _ _ _); refine r_fdiv (by omega) (by omega) ?_))) | ((with_reducible show wpAny _ _ (call (Value.builtin "str.encode") _) _ _ _); first | with_reducible ((first | ((with_reducible show wpAny _ _ (call (Value.builtin "str.encode") [Value.str _ _, Value.str (PySem.Str.ofString "utf-8") _]) _ _ _); refine r_enc8 (by assumption) (by omega) ?_; intro _ _) | ((with_reducible show wpAny _ _ (call (Value.builtin "str.encode") [Value.str _ _, Value.str (PySem.Str.ofString "ascii") _]) _ _ _); refine r_encA (by assumption) (by omega) ?_; intro _ _)))) | ((with_reducible show wpAny _ _ (call (Value.ref _) _) _ _ _); first | with_reducible (((with_reducible show wpAny _ _ (call (Value.ref 820) _) _ _ _); (rename Fr _ _ _ _ => F'Zz); (rename News _ _ _ _ => N'Zz); (rename TsAre _ (rowsL _ _) => hT'Zz); k_dflt ((refine' SaysP.use (page0 _ _ _ _ _ _ hT'Zz (rows_cap (by assumption) (by assumption) (by omega)).1 (rows_cap (by assumption) (by assumption) (by omega)).2) ?k1 F'Zz ?k3 N'Zz ?k5 ?k6 ?k7 ?k8 (List.Mem.head _) ?_); (case k1 => k_asm); (case k3 => k_asm); (case k5 => k_asm); (case k6 => first | exact rfl | assumption); (case k7 => ktr_room); (case k8 => ktr_units); (intro t9Zz h9Zz tk9Zz F9Zz N9Zz; (try dsimp only); (try k_fold))))) | with_reducible (((with_reducible show wpAny _ _ (call (Value.ref 815) _) _ _ _); (rename Fr _ _ _ _ => F'Zz); (rename News _ _ _ _ => N'Zz); k_dflt ((refine' SaysL.use (rows_ok _ _ _ _ _ (by assumption) (by assumption) (by omega) (by omega)) ?k1 F'Zz ?k3 N'Zz ?k5 ?k6 ?k7 ?k8 ?_); (case k1 => k_asm); (case k3 => k_asm); (case k5 => k_asm); (case k6 => first | exact rfl | assumption); (case k7 => ktr_room); (case k8 => ktr_units); intro D9Zz vs9Zz m9Zz h9Zz tk9Zz hv9Zz hl9Zz F9Zz N9Zz; (try dsimp only); (try k_fold)))) | with_reducible (((with_reducible show wpAny _ _ (call (Value.ref 820) _) _ _ _); (rename Fr _ _ _ _ => F'Zz); (rename News _ _ _ _ => N'Zz); (rename TsAre _ (_ ++ rowsL _ _ ++ _) => hT'Zz); k_dflt ((refine' SaysP.use (page2 _ _ _ _ _ _ _ _ _ _ (by assumption) (by assumption) (by assumption) (by assumption) (by assumption) (by assumption) hT'Zz) ?k1 F'Zz ?k3 N'Zz ?k5 ?k6 ?k7 ?k8 (List.Mem.head _) ?_); (case k1 => k_asm); (case k3 => k_asm); (case k5 => k_asm); (case k6 => first | exact rfl | assumption); (case k7 => ktr_room); (case k8 => ktr_units); (intro t9Zz h9Zz tk9Zz F9Zz N9Zz; (try dsimp only); (try k_fold))))) | with_reducible (((with_reducible show wpAny _ _ (call (Value.ref 445) _) _ _ _); (rename Fr _ _ _ _ => F'Zz); (rename News _ _ _ _ => N'Zz); k_dflt ((refine' SaysG.use (getvalue_ok _ _ _ _ _ _ _ _ _ (by omega)) ?k1 F'Zz ?k3 N'Zz ?k5 ?k6 ?k7 ?k8 ⟨List.Mem.head _, List.Mem.tail _ (List.Mem.head _), List.Mem.tail _ (List.Mem.tail _ (List.Mem.head _))⟩ ?_); (case k1 => k_asm); (case k3 => k_asm); (case k5 => k_asm); (case k6 => first | exact rfl | assumption); (case k7 => ktr_room); (case k8 => ktr_units); (rintro v9Zz n9Zz h9Zz tk9Zz ⟨⟨tv9Zz, w9Zz⟩, f9Zz⟩ F9Zz N9Zz); subst w9Zz; subst n9Zz; (try dsimp only); (try k_fold)))) | with_reducible (((with_reducible show wpAny _ _ (call (Value.ref 256) _) _ _ _); (rename Fr _ _ _ _ => F'Zz); (rename News _ _ _ _ => N'Zz); k_dflt ((refine' SaysG.use (plist_ok _ _ _ _ _ _ _) ?k1 F'Zz ?k3 N'Zz ?k5 ?k6 ?k7 ?k8 trivial ?_); (case k1 => k_asm); (case k3 => k_asm); (case k5 => k_asm); (case k6 => first | exact rfl | assumption); (case k7 => ktr_room); (case k8 => ktr_units); (rintro v9Zz n9Zz h9Zz tk9Zz ⟨W9Zz, dW9Zz, S9Zz, q1Zz, q2Zz, q3Zz, q4Zz, q5Zz, q6Zz, q7Zz, q8Zz, q9Zz, w9Zz, f9Zz, l1Zz, l2Zz, l3Zz⟩ F9Zz N9Zz); (have l4Zz := allLt_head l3Zz); subst w9Zz; subst n9Zz; (try dsimp only); (try k_fold)))) | with_reducible (((with_reducible show wpAny _ _ (call (Value.ref 138) [Value.bytes _ _]) _ _ _); (rename Reads _ _ => hR9Zz); (rename KBa.In _ => hI9Zz); k_dflt (refine' Says.use (decode_bytesR _ _ hR9Zz hI9Zz (by assumption) (by omega)) ?k1 ?k2 ?k3 ?k4 ?k5 ?k6 ?k7 ?k8 ?_; (((case k1 => k_asm); (case k2 => k_asm); (case k3 => k_asm); (case k4 => k_asm); (case k5 => k_asm); (case k6 => first | exact rfl | assumption); (case k7 => ktr_room); (case k8 => ktr_units); intro t9Zz h9Zz tk9Zz F9Zz N9Zz; (try dsimp only); (try k_fold)))))) | with_reducible (((with_reducible show wpAny _ _ (call (Value.ref 138) [Value.str _ _]) _ _ _); (rename Reads _ _ => hR9Zz); (rename KBa.In _ => hI9Zz); k_dflt (refine' Says.use (decode_strR _ _ hR9Zz hI9Zz (by assumption) (by omega)) ?k1 ?k2 ?k3 ?k4 ?k5 ?k6 ?k7 ?k8 ?_; (((case k1 => k_asm); (case k2 => k_asm); (case k3 => k_asm); (case k4 => k_asm); (case k5 => k_asm); (case k6 => first | exact rfl | assumption); (case k7 => ktr_room); (case k8 => ktr_units); intro t9Zz h9Zz tk9Zz F9Zz N9Zz; (try dsimp only); (try k_fold)))))) | with_reducible (((with_reducible show wpAny _ _ (call (Value.ref 827) _) _ _ _); k_dflt (refine' Says.use (strewn_ok _ _ _ _ _ (by assumption) (by omega)) ?k1 ?k2 ?k3 ?k4 ?k5 ?k6 ?k7 ?k8 ?_; (((case k1 => k_asm); (case k2 => k_asm); (case k3 => k_asm); (case k4 => k_asm); (case k5 => k_asm); (case k6 => first | exact rfl | assumption); (case k7 => ktr_room); (case k8 => ktr_units); intro t9Zz h9Zz tk9Zz F9Zz N9Zz; (try dsimp only); (try k_fold))))))) | with_reducible ((first | (with_reducible refine GM.index ?_) | (with_reducible refine GM.rindex ?_))) | with_reducible (((with_reducible refine gm_encode ?_))) | walk1) | (leave1; (try dsimp only)) | fail "no step"))
  rotate_left
  rename News _ _ _ _ => N8
  replace N8 := news_pick2 N8
  rename (_ ∧ AllLt _ led) => l5
  have hPl := fun p hp => (Nat.ne_of_lt (allLt_all l5.2 p hp))
  have hr2 := reads_page hin (fo := wd / 4) (by omega) (bs := []) (fun _ h => nomatch h)
  have ha2 : Asc (pageL (rowsL ns (3 * (wd / 4))) []) := page_asc (fun _ h => nomatch h) (rows_asc hin _)
  have hb2 := page_bare hin hns (fo := wd / 4) (by omega)
  repeat' (first | (k_unfold; (try dsimp only)) | ((fail_if_success (with_reducible show Q _ _)); (fail_if_success (with_reducible show wpC _ _ (execs (Stmt.If (Expr.BoolOp _ _ _) _ _ _ :: _) _) _ _ _)); first | ((first | (((with_reducible show wpC _ _ (call (Value.ref 239) _) _ _ _); (rename Fr _ _ _ _ => F'Zz); (rename News _ _ _ _ => N'Zz); k_dflt ((refine' SaysC.use (wbytes2 _ _ _ _ _ _ _ _ _ _ _ _ _ _ _ _ _ _ _ _ _ _ _ _ _ _ (by assumption) (by assumption) (by assumption) (by assumption) (by assumption) (by assumption) (by assumption) (by assumption) (by assumption) (by assumption) (by assumption) (by assumption) (by assumption) (allLt_all (by assumption))) ?k1 F'Zz ?k3 (news_six N'Zz) ?k5 ?k6 ?k7 ?k8 rfl ?_); (case k1 => k_asm); (case k3 => k_asm); (case k5 => k_asm); (case k6 => first | exact rfl | assumption); (case k7 => ktr_room); (case k8 => ktr_units); (rintro v9Zz n9Zz h9Zz tk9Zz ⟨w9Zz, t9Zz, tl9Zz, m9Zz, f9Zz⟩ F9Zz N9Zz); subst w9Zz; subst n9Zz; (try dsimp only); (try k_fold)))) | (((with_reducible show wpC _ _ (call (Value.ref 559) _) _ _ _); (rename Fr _ _ _ _ => F'Zz); (rename News _ _ _ _ => N'Zz); k_dflt ((refine' SaysC.use (bio_ok _) ?k1 F'Zz ?k3 N'Zz ?k5 ?k6 ?k7 ?k8 trivial ?_); (case k1 => k_asm); (case k3 => k_asm); (case k5 => k_asm); (case k6 => first | exact rfl | assumption); (case k7 => ktr_room); (case k8 => ktr_units); (rintro v9Zz n9Zz h9Zz tk9Zz ⟨x9Zz, dx9Zz, B9Zz, q1Zz, q2Zz, q3Zz, w9Zz, f9Zz, l1Zz, l2Zz, l3Zz⟩ F9Zz N9Zz); subst w9Zz; subst n9Zz; (try dsimp only); (try k_fold)))) | ((first | ((with_reducible show wpC _ _ (execs (Stmt.Assign [Expr.Name _ _] (Expr.Call (Expr.Name _ _) [] [] _) _ :: _) _) _ _ _); k_dflt (refine wpC_execs_cons (wpC_Assign_Name ?_))) | ((with_reducible show wpC _ _ (callWith _ (Value.ref _) _ (backTo _ (starEach [] _)) _) _ _ _); (rename Fr _ _ _ _ => F'Zz); (rename Frag.In _ _ => X'Zz); k_dflt (refine' wpC_callWith0 (X'Zz.keeps F'Zz.keep) ?k2 ?_; (case k2 => k_is))))) | (((first | (with_reducible show wpC _ _ (execs (Stmt.Expr (Expr.Call (Expr.Attribute _ (PySem.Str.ofString "append") _) _ _ _) _ :: _) _) _ _ _) | (with_reducible show wpC _ _ (execs (Stmt.AugAssign _ _ _ _ :: _) _) _ _ _)); refine wpC_execs_leaf ?_)) | ((first | ((with_reducible show wpC _ _ (execs (Stmt.If _ _ _ _ :: _) _) _ _ _); k_dflt (refine wpC_execs_cons (wpC_If ?_))) | ((with_reducible show wpC _ _ (execs (Stmt.Expr (Expr.Call (Expr.Attribute _ _ _) _ _ _) _ :: _) _) _ _ _); k_dflt (refine wpC_execs_cons (wpC_Expr (wpC_methodCall ?_)))) | ((with_reducible show wpC _ _ (callWith _ (Value.ref _) _ (backTo _ (starEach (_ :: _) _)) _) _ _ _); k_dflt (refine' wpC_callWith ?k1 ?k2 ?_; (case k1 => k_asm); (case k2 => k_is))))) | ((first | ((with_reducible show wpC _ _ (execs [] _) _ _ _); refine wpC_execs_nil ?_) | ((with_reducible show wpC _ _ (execs (Stmt.Assign [Expr.Attribute _ _ _] (Expr.IfExp _ _ _ _) _ :: _) _) _ _ _); k_dflt (refine wpC_execs_cons (wpC_Assign_Attribute ?_))) | ((with_reducible show wpC _ _ (execs (Stmt.Assign [Expr.Subscript _ _ _] _ _ :: _) _) _ _ _); k_dflt (refine wpC_execs_cons (wpC_Assign_Subscript ?_))) | ((with_reducible show wpC _ _ (execs (_ :: _) _) _ _ _); refine wpC_execs_leaf ?_) | ((with_reducible show wpC _ _ (eval (Expr.IfExp _ _ _ _) _) _ _ _); refine wpC_IfExp ?_) | ((with_reducible show wpC _ _ (eval (Expr.Call (Expr.Name _ _) [] [] _) _) _ _ _); refine wpC_callName ?_) | ((with_reducible show wpC _ _ (callWith _ (Value.type _) _ (backTo _ (starEach [] _)) _) _ _ _); refine wpC_callType0 ?_) | ((with_reducible show wpC _ _ (call (Value.type "bytearray") _) _ _ _); (rename Fr _ _ _ _ => F'Zz); (rename News _ _ _ _ => N'Zz); k_dflt (refine k_baNew0 F'Zz N'Zz ?_); intro B9Zz h9Zz F9Zz N9Zz l9Zz; k_lt l9Zz)))); (try dsimp only)) | (k_end; kc_close) | ((with_reducible show wpAny _ _ (binaryOp Operator.FloorDiv (Value.int _ _) (Value.int _ _)) _ _ _); first | with_reducible (((with_reducible show wpAny _ _ (binaryOp Operator.FloorDiv (Value.int _ _) (Value.int _ _)) _ _ _); refine r_fdiv (by omega) (by omega) ?_))) | ((with_reducible show wpAny _ _ (call (Value.builtin "str.encode") _) _ _ _); first | with_reducible ((first | ((with_reducible show wpAny _ _ (call (Value.builtin "str.encode") [Value.str _ _, Value.str (PySem.Str.ofString "utf-8") _]) _ _ _); refine r_enc8 (by assumption) (by omega) ?_; intro _ _) | ((with_reducible show wpAny _ _ (call (Value.builtin "str.encode") [Value.str _ _, Value.str (PySem.Str.ofString "ascii") _]) _ _ _); refine r_encA (by assumption) (by omega) ?_; intro _ _)))) | ((with_reducible show wpAny _ _ (call (Value.ref _) _) _ _ _); first | with_reducible (((with_reducible show wpAny _ _ (call (Value.ref 820) _) _ _ _); (rename Fr _ _ _ _ => F'Zz); (rename News _ _ _ _ => N'Zz); (rename TsAre _ (rowsL _ _) => hT'Zz); k_dflt ((refine' SaysP.use (page0 _ _ _ _ _ _ hT'Zz (rows_cap (by assumption) (by assumption) (by omega)).1 (rows_cap (by assumption) (by assumption) (by omega)).2) ?k1 F'Zz ?k3 N'Zz ?k5 ?k6 ?k7 ?k8 (List.Mem.head _) ?_); (case k1 => k_asm); (case k3 => k_asm); (case k5 => k_asm); (case k6 => first | exact rfl | assumption); (case k7 => ktr_room); (case k8 => ktr_units); (intro t9Zz h9Zz tk9Zz F9Zz N9Zz; (try dsimp only); (try k_fold))))) | with_reducible (((with_reducible show wpAny _ _ (call (Value.ref 815) _) _ _ _); (rename Fr _ _ _ _ => F'Zz); (rename News _ _ _ _ => N'Zz); k_dflt ((refine' SaysL.use (rows_ok _ _ _ _ _ (by assumption) (by assumption) (by omega) (by omega)) ?k1 F'Zz ?k3 N'Zz ?k5 ?k6 ?k7 ?k8 ?_); (case k1 => k_asm); (case k3 => k_asm); (case k5 => k_asm); (case k6 => first | exact rfl | assumption); (case k7 => ktr_room); (case k8 => ktr_units); intro D9Zz vs9Zz m9Zz h9Zz tk9Zz hv9Zz hl9Zz F9Zz N9Zz; (try dsimp only); (try k_fold)))) | with_reducible (((with_reducible show wpAny _ _ (call (Value.ref 820) _) _ _ _); (rename Fr _ _ _ _ => F'Zz); (rename News _ _ _ _ => N'Zz); (rename TsAre _ (_ ++ rowsL _ _ ++ _) => hT'Zz); k_dflt ((refine' SaysP.use (page2 _ _ _ _ _ _ _ _ _ _ (by assumption) (by assumption) (by assumption) (by assumption) (by assumption) (by assumption) hT'Zz) ?k1 F'Zz ?k3 N'Zz ?k5 ?k6 ?k7 ?k8 (List.Mem.head _) ?_); (case k1 => k_asm); (case k3 => k_asm); (case k5 => k_asm); (case k6 => first | exact rfl | assumption); (case k7 => ktr_room); (case k8 => ktr_units); (intro t9Zz h9Zz tk9Zz F9Zz N9Zz; (try dsimp only); (try k_fold))))) | with_reducible (((with_reducible show wpAny _ _ (call (Value.ref 445) _) _ _ _); (rename Fr _ _ _ _ => F'Zz); (rename News _ _ _ _ => N'Zz); k_dflt ((refine' SaysG.use (getvalue_ok _ _ _ _ _ _ _ _ _ (by omega)) ?k1 F'Zz ?k3 N'Zz ?k5 ?k6 ?k7 ?k8 ⟨List.Mem.head _, List.Mem.tail _ (List.Mem.head _), List.Mem.tail _ (List.Mem.tail _ (List.Mem.head _))⟩ ?_); (case k1 => k_asm); (case k3 => k_asm); (case k5 => k_asm); (case k6 => first | exact rfl | assumption); (case k7 => ktr_room); (case k8 => ktr_units); (rintro v9Zz n9Zz h9Zz tk9Zz ⟨⟨tv9Zz, w9Zz⟩, f9Zz⟩ F9Zz N9Zz); subst w9Zz; subst n9Zz; (try dsimp only); (try k_fold)))) | with_reducible (((with_reducible show wpAny _ _ (call (Value.ref 256) _) _ _ _); (rename Fr _ _ _ _ => F'Zz); (rename News _ _ _ _ => N'Zz); k_dflt ((refine' SaysG.use (plist_ok _ _ _ _ _ _ _) ?k1 F'Zz ?k3 N'Zz ?k5 ?k6 ?k7 ?k8 trivial ?_); (case k1 => k_asm); (case k3 => k_asm); (case k5 => k_asm); (case k6 => first | exact rfl | assumption); (case k7 => ktr_room); (case k8 => ktr_units); (rintro v9Zz n9Zz h9Zz tk9Zz ⟨W9Zz, dW9Zz, S9Zz, q1Zz, q2Zz, q3Zz, q4Zz, q5Zz, q6Zz, q7Zz, q8Zz, q9Zz, w9Zz, f9Zz, l1Zz, l2Zz, l3Zz⟩ F9Zz N9Zz); (have l4Zz := allLt_head l3Zz); subst w9Zz; subst n9Zz; (try dsimp only); (try k_fold)))) | with_reducible (((with_reducible show wpAny _ _ (call (Value.ref 138) [Value.bytes _ _]) _ _ _); (rename Reads _ _ => hR9Zz); (rename KBa.In _ => hI9Zz); k_dflt (refine' Says.use (decode_bytesR _ _ hR9Zz hI9Zz (by assumption) (by omega)) ?k1 ?k2 ?k3 ?k4 ?k5 ?k6 ?k7 ?k8 ?_; (((case k1 => k_asm); (case k2 => k_asm); (case k3 => k_asm); (case k4 => k_asm); (case k5 => k_asm); (case k6 => first | exact rfl | assumption); (case k7 => ktr_room); (case k8 => ktr_units); intro t9Zz h9Zz tk9Zz F9Zz N9Zz; (try dsimp only); (try k_fold)))))) | with_reducible (((with_reducible show wpAny _ _ (call (Value.ref 138) [Value.str _ _]) _ _ _); (rename Reads _ _ => hR9Zz); (rename KBa.In _ => hI9Zz); k_dflt (refine' Says.use (decode_strR _ _ hR9Zz hI9Zz (by assumption) (by omega)) ?k1 ?k2 ?k3 ?k4 ?k5 ?k6 ?k7 ?k8 ?_; (((case k1 => k_asm); (case k2 => k_asm); (case k3 => k_asm); (case k4 => k_asm); (case k5 => k_asm); (case k6 => first | exact rfl | assumption); (case k7 => ktr_room); (case k8 => ktr_units); intro t9Zz h9Zz tk9Zz F9Zz N9Zz; (try dsimp only); (try k_fold)))))) | with_reducible (((with_reducible show wpAny _ _ (call (Value.ref 827) _) _ _ _); k_dflt (refine' Says.use (strewn_ok _ _ _ _ _ (by assumption) (by omega)) ?k1 ?k2 ?k3 ?k4 ?k5 ?k6 ?k7 ?k8 ?_; (((case k1 => k_asm); (case k2 => k_asm); (case k3 => k_asm); (case k4 => k_asm); (case k5 => k_asm); (case k6 => first | exact rfl | assumption); (case k7 => ktr_room); (case k8 => ktr_units); intro t9Zz h9Zz tk9Zz F9Zz N9Zz; (try dsimp only); (try k_fold))))))) | with_reducible ((first | (with_reducible refine GM.index ?_) | (with_reducible refine GM.rindex ?_))) | with_reducible (((with_reducible refine gm_encode ?_))) | walk1 | (dsimp only; first | ((with_reducible show wpAny _ _ (binaryOp Operator.FloorDiv (Value.int _ _) (Value.int _ _)) _ _ _); first | with_reducible (((with_reducible show wpAny _ _ (binaryOp Operator.FloorDiv (Value.int _ _) (Value.int _ _)) _ _ _); refine r_fdiv (by omega) (by omega) ?_))) | ((with_reducible show wpAny _ _ (call (Value.builtin "str.encode") _) _ _ _); first | with_reducible ((first | ((with_reducible show wpAny _ _ (call (Value.builtin "str.encode") [Value.str _ _, Value.str (PySem.Str.ofString "utf-8") _]) _ _ _); refine r_enc8 (by assumption) (by omega) ?_; intro _ _) | ((with_reducible show wpAny _ _ (call (Value.builtin "str.encode") [Value.str _ _, Value.str (PySem.Str.ofString "ascii") _]) _ _ _); refine r_encA (by assumption) (by omega) ?_; intro _ _)))) | ((with_reducible show wpAny _ _ (call (Value.ref _) _) _ _ _); first | with_reducible (((with_reducible show wpAny _ _ (call (Value.ref 820) _) _ _ _); (rename Fr _ _ _ _ => F'Zz); (rename News _ _ _ _ => N'Zz); (rename TsAre _ (rowsL _ _) => hT'Zz); k_dflt ((refine' SaysP.use (page0 _ _ _ _ _ _ hT'Zz (rows_cap (by assumption) (by assumption) (by omega)).1 (rows_cap (by assumption) (by assumption) (by omega)).2) ?k1 F'Zz ?k3 N'Zz ?k5 ?k6 ?k7 ?k8 (List.Mem.head _) ?_); (case k1 => k_asm); (case k3 => k_asm); (case k5 => k_asm); (case k6 => first | exact rfl | assumption); (case k7 => ktr_room); (case k8 => ktr_units); (intro t9Zz h9Zz tk9Zz F9Zz N9Zz; (try dsimp only); (try k_fold))))) | with_reducible (((with_reducible show wpAny _ _ (call (Value.ref 815) _) _ _ _); (rename Fr _ _ _ _ => F'Zz); (rename News _ _ _ _ => N'Zz); k_dflt ((refine' SaysL.use (rows_ok _ _ _ _ _ (by assumption) (by assumption) (by omega) (by omega)) ?k1 F'Zz ?k3 N'Zz ?k5 ?k6 ?k7 ?k8 ?_); (case k1 => k_asm); (case k3 => k_asm); (case k5 => k_asm); (case k6 => first | exact rfl | assumption); (case k7 => ktr_room); (case k8 => ktr_units); intro D9Zz vs9Zz m9Zz h9Zz tk9Zz hv9Zz hl9Zz F9Zz N9Zz; (try dsimp only); (try k_fold)))) | with_reducible (((with_reducible show wpAny _ _ (call (Value.ref 820) _) _ _ _); (rename Fr _ _ _ _ => F'Zz); (rename News _ _ _ _ => N'Zz); (rename TsAre _ (_ ++ rowsL _ _ ++ _) => hT'Zz); k_dflt ((refine' SaysP.use (page2 _ _ _ _ _ _ _ _ _ _ (by assumption) (by assumption) (by assumption) (by assumption) (by assumption) (by assumption) hT'Zz) ?k1 F'Zz ?k3 N'Zz ?k5 ?k6 ?k7 ?k8 (List.Mem.head _) ?_); (case k1 => k_asm); (case k3 => k_asm); (case k5 => k_asm); (case k6 => first | exact rfl | assumption); (case k7 => ktr_room); (case k8 => ktr_units); (intro t9Zz h9Zz tk9Zz F9Zz N9Zz; (try dsimp only); (try k_fold))))) | with_reducible (((with_reducible show wpAny _ _ (call (Value.ref 445) _) _ _ _); (rename Fr _ _ _ _ => F'Zz); (rename News _ _ _ _ => N'Zz); k_dflt ((refine' SaysG.use (getvalue_ok _ _ _ _ _ _ _ _ _ (by omega)) ?k1 F'Zz ?k3 N'Zz ?k5 ?k6 ?k7 ?k8 ⟨List.Mem.head _, List.Mem.tail _ (List.Mem.head _), List.Mem.tail _ (List.Mem.tail _ (List.Mem.head _))⟩ ?_); (case k1 => k_asm); (case k3 => k_asm); (case k5 => k_asm); (case k6 => first | exact rfl | assumption); (case k7 => ktr_room); (case k8 => ktr_units); (rintro v9Zz n9Zz h9Zz tk9Zz ⟨⟨tv9Zz, w9Zz⟩, f9Zz⟩ F9Zz N9Zz); subst w9Zz; subst n9Zz; (try dsimp only); (try k_fold)))) | with_reducible (((with_reducible show wpAny _ _ (call (Value.ref 256) _) _ _ _); (rename Fr _ _ _ _ => F'Zz); (rename News _ _ _ _ => N'Zz); k_dflt ((refine' SaysG.use (plist_ok _ _ _ _ _ _ _) ?k1 F'Zz ?k3 N'Zz ?k5 ?k6 ?k7 ?k8 trivial ?_); (case k1 => k_asm); (case k3 => k_asm); (case k5 => k_asm); (case k6 => first | exact rfl | assumption); (case k7 => ktr_room); (case k8 => ktr_units); (rintro v9Zz n9Zz h9Zz tk9Zz ⟨W9Zz, dW9Zz, S9Zz, q1Zz, q2Zz, q3Zz, q4Zz, q5Zz, q6Zz, q7Zz, q8Zz, q9Zz, w9Zz, f9Zz, l1Zz, l2Zz, l3Zz⟩ F9Zz N9Zz); (have l4Zz := allLt_head l3Zz); subst w9Zz; subst n9Zz; (try dsimp only); (try k_fold)))) | with_reducible (((with_reducible show wpAny _ _ (call (Value.ref 138) [Value.bytes _ _]) _ _ _); (rename Reads _ _ => hR9Zz); (rename KBa.In _ => hI9Zz); k_dflt (refine' Says.use (decode_bytesR _ _ hR9Zz hI9Zz (by assumption) (by omega)) ?k1 ?k2 ?k3 ?k4 ?k5 ?k6 ?k7 ?k8 ?_; (((case k1 => k_asm); (case k2 => k_asm); (case k3 => k_asm); (case k4 => k_asm); (case k5 => k_asm); (case k6 => first | exact rfl | assumption); (case k7 => ktr_room); (case k8 => ktr_units); intro t9Zz h9Zz tk9Zz F9Zz N9Zz; (try dsimp only); (try k_fold)))))) | with_reducible (((with_reducible show wpAny _ _ (call (Value.ref 138) [Value.str _ _]) _ _ _); (rename Reads _ _ => hR9Zz); (rename KBa.In _ => hI9Zz); k_dflt (refine' Says.use (decode_strR _ _ hR9Zz hI9Zz (by assumption) (by omega)) ?k1 ?k2 ?k3 ?k4 ?k5 ?k6 ?k7 ?k8 ?_; (((case k1 => k_asm); (case k2 => k_asm); (case k3 => k_asm); (case k4 => k_asm); (case k5 => k_asm); (case k6 => first | exact rfl | assumption); (case k7 => ktr_room); (case k8 => ktr_units); intro t9Zz h9Zz tk9Zz F9Zz N9Zz; (try dsimp only); (try k_fold)))))) | with_reducible (((with_reducible show wpAny _ _ (call (Value.ref 827) _) _ _ _); k_dflt (refine' Says.use (strewn_ok _ _ _ _ _ (by assumption) (by omega)) ?k1 ?k2 ?k3 ?k4 ?k5 ?k6 ?k7 ?k8 ?_; (((case k1 => k_asm); (case k2 => k_asm); (case k3 => k_asm); (case k4 => k_asm); (case k5 => k_asm); (case k6 => first | exact rfl | assumption); (case k7 => ktr_room); (case k8 => ktr_units); intro t9Zz h9Zz tk9Zz F9Zz N9Zz; (try dsimp only); (try k_fold))))))) | with_reducible ((first | (with_reducible refine GM.index ?_) | (with_reducible refine GM.rindex ?_))) | with_reducible (((with_reducible refine gm_encode ?_))) | walk1) | (leave1; (try dsimp only)) | fail "no step"))
  skip
  rename News _ _ _ _ => N9
  rename Fr _ _ _ _ => F8
  have F9 := fr_put F8 (Str.ofString "width") (.int wd t2) (by repeat (first | exact if_pos rfl | refine (if_neg (by decide)).trans ?_))
  have F10 := fr_put F9 (Str.ofString "octets") (.bytes (byteArr ns) t0) (by repeat (first | exact if_pos rfl | refine (if_neg (by decide)).trans ?_))
  have F11 := fr_put F10 (Str.ofString "pages") _ (by repeat (first | exact if_pos rfl | refine (if_neg (by decide)).trans ?_))
  have F12 := fr_put F11 (Str.ofString "told") _ (by repeat (first | exact if_pos rfl | refine (if_neg (by decide)).trans ?_))
  exact stageB rfl ns [pageL (rowsL ns (3 * 19)) [], pageL (rowsL ns (3 * (wd / 4))) []] [_] _ _ _ led _ md wd lv col ind R _ t0 t1 t2 t3 t4 t5 _ hin hns hmd hmd2 hl0 hl1 hli h9 hR hcR rfl (.cons _ _ (.cons _ _ .nil)) (fun T9 hT => by rcases List.mem_cons.mp hT with rfl | hT; exact ⟨hr1, ha1, by omega⟩; rw [List.mem_singleton.mp hT]; exact ⟨hr2, ha2, by omega⟩) (((((k1.put (by decide)).put (by decide)).put (by decide)).put (by decide))) (Or.inr (Or.inr ⟨by omega, by omega, ⟨_, rfl⟩, _, rfl⟩)) X T K0 F12 (by simp) hPl N9 hE (fun h' tk m' c1 c2 c3 => hQ h' tk m' c1 c2 c3)
  rename News _ _ _ _ => N8
  have N9 := news_skip N8
  rename (_ ∧ AllLt _ led) => l5
  have hPl := fun p hp => (Nat.ne_of_lt (allLt_all l5.2 p hp))
  rename Fr _ _ _ _ => F8
  have F9 := fr_put F8 (Str.ofString "width") (.int wd t2) (by repeat (first | exact if_pos rfl | refine (if_neg (by decide)).trans ?_))
  have F10 := fr_put F9 (Str.ofString "octets") (.bytes (byteArr ns) t0) (by repeat (first | exact if_pos rfl | refine (if_neg (by decide)).trans ?_))
  have F11 := fr_put F10 (Str.ofString "pages") _ (by repeat (first | exact if_pos rfl | refine (if_neg (by decide)).trans ?_))
  have F12 := fr_put F11 (Str.ofString "told") _ (by repeat (first | exact if_pos rfl | refine (if_neg (by decide)).trans ?_))
  exact stageB rfl ns [pageL (rowsL ns (3 * 19)) []] [] _ _ _ led _ md wd lv col ind R _ t0 t1 t2 t3 t4 t5 _ hin hns hmd hmd2 hl0 hl1 hli h9 hR hcR rfl (.cons _ _ .nil) (fun T9 hT => by rw [List.mem_singleton.mp hT]; exact ⟨hr1, ha1, by omega⟩) ((((k1.put (by decide)).put (by decide)).put (by decide))) (Or.inr (Or.inl ⟨by omega, by omega, rfl, rfl⟩)) X T K0 F12 (by simp) hPl N9 hE (fun h' tk m' c1 c2 c3 => hQ h' tk m' c1 c2 c3)
  rename News _ _ _ _ => N8
  have N9 := news_skip N8
  rename (_ ∧ AllLt _ led) => l5
  have hPl := fun p hp => (Nat.ne_of_lt (allLt_all l5.2 p hp))
  rename Fr _ _ _ _ => F8
  have F9 := fr_put F8 (Str.ofString "width") (.int wd t2) (by repeat (first | exact if_pos rfl | refine (if_neg (by decide)).trans ?_))
  have F10 := fr_put F9 (Str.ofString "octets") (.bytes (byteArr ns) t0) (by repeat (first | exact if_pos rfl | refine (if_neg (by decide)).trans ?_))
  have F11 := fr_put F10 (Str.ofString "pages") _ (by repeat (first | exact if_pos rfl | refine (if_neg (by decide)).trans ?_))
  have F12 := fr_put F11 (Str.ofString "told") _ (by repeat (first | exact if_pos rfl | refine (if_neg (by decide)).trans ?_))
  exact stageB rfl ns [pageL (rowsL ns (3 * 19)) []] [] _ _ _ led _ md wd lv col ind R _ t0 t1 t2 t3 t4 t5 _ hin hns hmd hmd2 hl0 hl1 hli h9 hR hcR rfl (.cons _ _ .nil) (fun T9 hT => by rw [List.mem_singleton.mp hT]; exact ⟨hr1, ha1, by omega⟩) (((((k1.put (by decide)).put (by decide)).put (by decide)).put (by decide))) (Or.inl ⟨by omega, by assumption, rfl, _, rfl⟩) X T K0 F12 (by simp) hPl N9 hE (fun h' tk m' c1 c2 c3 => hQ h' tk m' c1 c2 c3)
end
section
set_option maxHeartbeats 8000000
theorem news_keep1 {h₀ h : Heap} {L : Addr} {a b c d e f : Addr × Obj} {r : List (Addr × Obj)} (N : News h₀ L h (a :: b :: c :: d :: e :: f :: r)) : News h₀ L h (a :: r) := fun p hp => N p (by
  simp only [List.mem_cons] at hp ⊢
  rcases hp with h | h <;> simp [h])
theorem stageL9 {w : World} {scope : Scope} {cdv : Value} {b : List Stmt} (hb : lawOf (KH w.params) = some (scope, cdv, b)) (ds : List Int) (vsD : List Value) (nD : Nat) (Dr : Addr) (led : List (Addr × Obj)) (g : PySem.Str → Option Value)
    (md wd lv col : Int) (ind R : List Int) (t1 t2 t3 t4 t5 : Tok) (hI : IntsAre vsD ds) (hin : KBa.In ds) (hds : ds.length ≤ 60) (hmd : 0 ≤ md) (hmd2 : md < 10007) (hl0 : 0 ≤ lv) (hl1 : lv ≤ 11) (hli : ind.length ≤ 2) (h9 : ∀ n ∈ ind, n = 9 ∨ n = 32)
    (hR : R = (List.replicate lv.toNat ind).flatten) (hcR : col = colL R) (hwd1 : -100 < wd) (hwd2 : wd ≤ 100) (hg : Kp md wd lv col ind t1 t2 t3 t4 t5 g)
    {p : Program} {loose : List PySem.Str} {mean : ExcName → Option Value} {mg mb : PySem.Str → Option Value} {h₀ : Heap} {L : Addr} {s : Shared} {Q : Flow → Shared → Prop} {E : Value → Shared → Prop}
    (X : (KH w.params).In h₀) (T : Top p loose mean mg mb h₀) (K0 : Below callerA h₀ [] h₀)
    (F : Fr h₀ L s.heap (fun y => if y = Str.ofString "drawn" then some (.ref Dr) else if y = Str.ofString "mood" then some (.int md t1) else g y))
    (N : News h₀ L s.heap ((Dr, listOf vsD.toArray nD) :: led)) (hE : PassesOwn (model PySem.Challenge.rw_kl0275_01.prog w) (callerA.deeper (envOf (Str.ofString "law") scope L 841 cdv)) (envOf (Str.ofString "law") scope L 841 cdv) E)
    (hQ : ∀ h' tk m', Fr h₀ L h' m' → Q (.ret (.bool true)) { s with heap := h', toks := tk }) :
    wpC (model PySem.Challenge.rw_kl0275_01.prog w) (callerA.deeper (envOf (Str.ofString "law") scope L 841 cdv)) (execs (b.drop 9) (envOf (Str.ofString "law") scope L 841 cdv)) Q E s := by
  revert hb
  k_fill
  intro hb
  cases hb.symm.trans (rfl : lawOf (KH w.params) = some (_, _, _))
  clear hb
  simp only [List.drop]
  have hI0 : IntsAre ([] : List Value) [] := IntsAre.nil
  have hin2 : KBa.In ([251, 255, 62] ++ ds ++ [md % 256]) := fun n hn => by
    rcases List.mem_append.mp hn with hn | hn
    · rcases List.mem_append.mp hn with hn | hn
      · simp only [List.mem_cons, List.not_mem_nil, or_false] at hn; omega
      · exact hin n hn
    · rw [List.mem_singleton.mp hn]; omega
  refine wpC_execs_cons (wpC_ForM F rfl rfl rfl ?_ (by intro _; rfl) hE)
  repeat' (first | (k_unfold; (try dsimp only)) | ((fail_if_success (with_reducible show Q _ _)); first | ((first | (((with_reducible show wpC _ _ (call (Value.ref 239) _) _ _ _); (rename Fr _ _ _ _ => F'Zz); (rename News _ _ _ _ => N'Zz); k_dflt ((refine' SaysC.use (wbytes2 _ _ _ _ _ _ _ _ _ _ _ _ _ _ _ _ _ _ _ _ _ _ _ _ _ _ (by assumption) (by assumption) (by assumption) (by assumption) (by assumption) (by assumption) (by assumption) (by assumption) (by assumption) (by assumption) (by assumption) (by assumption) (by assumption) (allLt_all (by assumption))) ?k1 F'Zz ?k3 (news_six N'Zz) ?k5 ?k6 ?k7 ?k8 rfl ?_); (case k1 => k_asm); (case k3 => k_asm); (case k5 => k_asm); (case k6 => first | exact rfl | assumption); (case k7 => ktr_room); (case k8 => ktr_units); (rintro v9Zz n9Zz h9Zz tk9Zz ⟨w9Zz, t9Zz, tl9Zz, m9Zz, f9Zz⟩ F9Zz N9Zz); subst w9Zz; subst n9Zz; (try dsimp only); (try k_fold)))) | (((with_reducible show wpC _ _ (call (Value.ref 559) _) _ _ _); (rename Fr _ _ _ _ => F'Zz); (rename News _ _ _ _ => N'Zz); k_dflt ((refine' SaysC.use (bio_ok _) ?k1 F'Zz ?k3 N'Zz ?k5 ?k6 ?k7 ?k8 trivial ?_); (case k1 => k_asm); (case k3 => k_asm); (case k5 => k_asm); (case k6 => first | exact rfl | assumption); (case k7 => ktr_room); (case k8 => ktr_units); (rintro v9Zz n9Zz h9Zz tk9Zz ⟨x9Zz, dx9Zz, B9Zz, q1Zz, q2Zz, q3Zz, w9Zz, f9Zz, l1Zz, l2Zz, l3Zz⟩ F9Zz N9Zz); subst w9Zz; subst n9Zz; (try dsimp only); (try k_fold)))) | ((first | ((with_reducible show wpC _ _ (execs (Stmt.Assign [Expr.Name _ _] (Expr.Call (Expr.Name _ _) [] [] _) _ :: _) _) _ _ _); k_dflt (refine wpC_execs_cons (wpC_Assign_Name ?_))) | ((with_reducible show wpC _ _ (callWith _ (Value.ref _) _ (backTo _ (starEach [] _)) _) _ _ _); (rename Fr _ _ _ _ => F'Zz); (rename Frag.In _ _ => X'Zz); k_dflt (refine' wpC_callWith0 (X'Zz.keeps F'Zz.keep) ?k2 ?_; (case k2 => k_is))))) | (((first | (with_reducible show wpC _ _ (execs (Stmt.Expr (Expr.Call (Expr.Attribute _ (PySem.Str.ofString "append") _) _ _ _) _ :: _) _) _ _ _) | (with_reducible show wpC _ _ (execs (Stmt.AugAssign _ _ _ _ :: _) _) _ _ _)); refine wpC_execs_leaf ?_)) | ((first | ((with_reducible show wpC _ _ (execs (Stmt.If _ _ _ _ :: _) _) _ _ _); k_dflt (refine wpC_execs_cons (wpC_If ?_))) | ((with_reducible show wpC _ _ (execs (Stmt.Expr (Expr.Call (Expr.Attribute _ _ _) _ _ _) _ :: _) _) _ _ _); k_dflt (refine wpC_execs_cons (wpC_Expr (wpC_methodCall ?_)))) | ((with_reducible show wpC _ _ (callWith _ (Value.ref _) _ (backTo _ (starEach (_ :: _) _)) _) _ _ _); k_dflt (refine' wpC_callWith ?k1 ?k2 ?_; (case k1 => k_asm); (case k2 => k_is))))) | ((first | ((with_reducible show wpC _ _ (execs [] _) _ _ _); refine wpC_execs_nil ?_) | ((with_reducible show wpC _ _ (execs (Stmt.Assign [Expr.Attribute _ _ _] (Expr.IfExp _ _ _ _) _ :: _) _) _ _ _); k_dflt (refine wpC_execs_cons (wpC_Assign_Attribute ?_))) | ((with_reducible show wpC _ _ (execs (Stmt.Assign [Expr.Subscript _ _ _] _ _ :: _) _) _ _ _); k_dflt (refine wpC_execs_cons (wpC_Assign_Subscript ?_))) | ((with_reducible show wpC _ _ (execs (_ :: _) _) _ _ _); refine wpC_execs_leaf ?_) | ((with_reducible show wpC _ _ (eval (Expr.IfExp _ _ _ _) _) _ _ _); refine wpC_IfExp ?_) | ((with_reducible show wpC _ _ (eval (Expr.Call (Expr.Name _ _) [] [] _) _) _ _ _); refine wpC_callName ?_) | ((with_reducible show wpC _ _ (callWith _ (Value.type _) _ (backTo _ (starEach [] _)) _) _ _ _); refine wpC_callType0 ?_) | ((with_reducible show wpC _ _ (call (Value.type "bytearray") _) _ _ _); (rename Fr _ _ _ _ => F'Zz); (rename News _ _ _ _ => N'Zz); k_dflt (refine k_baNew0 F'Zz N'Zz ?_); intro B9Zz h9Zz F9Zz N9Zz l9Zz; k_lt l9Zz)))); (try dsimp only)) | (k_end; kc_close) | ((with_reducible show wpAny _ _ (binaryOp Operator.Mod (Value.int _ _) (Value.int _ _)) _ _ _); first | with_reducible (((with_reducible show wpAny _ _ (binaryOp Operator.Mod (Value.int _ _) (Value.int _ _)) _ _ _); refine r_mod (by omega) (by omega) ?_))) | ((with_reducible show wpAny _ _ (call (Value.type "bytes") _) _ _ _); first | with_reducible (((with_reducible show wpAny _ _ (call (Value.type "bytes") [Value.ref _]) _ _ _); (rename News _ _ _ _ => nE'Zz); (try simp only [List.push_toArray] at nE'Zz); k_dflt (refine' KBa.make_K ?kbaF nE'Zz ?kbah ?kbal ?kbai ?kbar ?kban ?_; (case kbaF => k_asm); (case kbah => rfl); (case kbal => exact News.isList nE'Zz (by k_mem)); (case kbai => l_ints); (case kbar => (first | assumption | (((repeat (first | assumption | exact c64_lo _ | exact c64_hi _ | refine in_snoc ?_ ?_ ?_ | omega)))))); (case kban => (simp only [List.length_append, List.length_cons, List.length_nil]; omega))); intro h'Zz t'Zz k'Zz F'Zz N'Zz hIn'Zz))) | walk1 | (dsimp only; first | ((with_reducible show wpAny _ _ (binaryOp Operator.Mod (Value.int _ _) (Value.int _ _)) _ _ _); first | with_reducible (((with_reducible show wpAny _ _ (binaryOp Operator.Mod (Value.int _ _) (Value.int _ _)) _ _ _); refine r_mod (by omega) (by omega) ?_))) | ((with_reducible show wpAny _ _ (call (Value.type "bytes") _) _ _ _); first | with_reducible (((with_reducible show wpAny _ _ (call (Value.type "bytes") [Value.ref _]) _ _ _); (rename News _ _ _ _ => nE'Zz); (try simp only [List.push_toArray] at nE'Zz); k_dflt (refine' KBa.make_K ?kbaF nE'Zz ?kbah ?kbal ?kbai ?kbar ?kban ?_; (case kbaF => k_asm); (case kbah => rfl); (case kbal => exact News.isList nE'Zz (by k_mem)); (case kbai => l_ints); (case kbar => (first | assumption | (((repeat (first | assumption | exact c64_lo _ | exact c64_hi _ | refine in_snoc ?_ ?_ ?_ | omega)))))); (case kban => (simp only [List.length_append, List.length_cons, List.length_nil]; omega))); intro h'Zz t'Zz k'Zz F'Zz N'Zz hIn'Zz))) | walk1) | (leave1; (try dsimp only)) | fail "no step"))
  rename_i O9 h9' F9 N9 l9
  obtain ⟨ta, N8⟩ : ∃ ta, News h₀ L h9' ((O9, listOf #[Value.bytes (byteArr ds) ta, Value.bytes (byteArr (251 :: 255 :: 62 :: (ds ++ [md % 256]))) t'Zz] 0) :: led) := ⟨_, news_keep1 N9⟩
  clear N9
  refine ⟨O9, [Value.bytes (byteArr ds) ta, Value.bytes (byteArr (251 :: 255 :: 62 :: (ds ++ [md % 256]))) t'Zz], 0, _, _, fun I i m' news' => news' = (O9, listOf #[Value.bytes (byteArr ds) ta, Value.bytes (byteArr (251 :: 255 :: 62 :: (ds ++ [md % 256]))) t'Zz] 0) :: led ∧ Kp md wd lv col ind t1 t2 t3 t4 t5 m', rfl, .head _, F9, N8, fun I hI => ⟨⟨rfl, (hg.same hg.1).put (by decide)⟩, ?_, ?_, ?_⟩⟩
  · rintro i m' n8 ⟨rfl, _⟩
    exact ⟨.head _, fun p hp => Nat.ne_of_lt (hI p hp)⟩
  · rintro i v m₁ n8 h tk o hv9 ⟨rfl, hk⟩ F1 N1
    obtain ⟨ns, tn, rfl, hn1, hn2⟩ : ∃ ns tn, v = .bytes (byteArr ns) tn ∧ KBa.In ns ∧ ns.length ≤ 64 := by
      rcases i with _ | _ | i
      · simp only [List.getElem?_cons_zero, Option.some.injEq] at hv9
        exact ⟨_, _, hv9.symm, hin, by omega⟩
      · simp only [List.getElem?_cons_succ, List.getElem?_cons_zero, Option.some.injEq] at hv9
        exact ⟨_, _, hv9.symm, hin2, by simp only [List.length_cons, List.length_append, List.length_nil]; omega⟩
      · simp at hv9
    have F2 := fr_put F1 (Str.ofString "width") (.int wd t2) ((if_neg (by decide)).trans hk.2.1)
    have F3 := fr_put F2 (Str.ofString "octets") (.bytes (byteArr ns) tn) ((if_neg (by decide)).trans (if_pos rfl))
    exact stageA rfl ns _ _ md wd lv col ind R tn t1 t2 t3 t4 t5 hn1 hn2 hmd hmd2 hl0 hl1 hli h9 hR hcR hwd1 hwd2 (hk.put (by decide)) X T K0 F3 N1 hE (fun h' tk' m' c1 c2 c3 => ⟨rfl, _, _, _, _, rfl, c2, c3, rfl, c1⟩)
  · rintro m' n8 h tk ⟨rfl, hk⟩ F1 N1
    replace F1 : Fr h₀ L h _ := F1
    replace N1 : News h₀ L h _ := N1
    show wpC _ _ (execs [_] _) _ _ _
    repeat' (first | (k_unfold; (try dsimp only)) | ((fail_if_success (with_reducible show Q _ _)); first | ((first | (((with_reducible show wpC _ _ (call (Value.ref 239) _) _ _ _); (rename Fr _ _ _ _ => F'Zz); (rename News _ _ _ _ => N'Zz); k_dflt ((refine' SaysC.use (wbytes2 _ _ _ _ _ _ _ _ _ _ _ _ _ _ _ _ _ _ _ _ _ _ _ _ _ _ (by assumption) (by assumption) (by assumption) (by assumption) (by assumption) (by assumption) (by assumption) (by assumption) (by assumption) (by assumption) (by assumption) (by assumption) (by assumption) (allLt_all (by assumption))) ?k1 F'Zz ?k3 (news_six N'Zz) ?k5 ?k6 ?k7 ?k'Zz rfl ?_); (case k1 => k_asm); (case k3 => k_asm); (case k5 => k_asm); (case k6 => first | exact rfl | assumption); (case k7 => ktr_room); (case k'Zz => ktr_units); (rintro v9Zz n9Zz h9Zz tk9Zz ⟨w9Zz, t9Zz, tl9Zz, m9Zz, f9Zz⟩ F9Zz N9Zz); subst w9Zz; subst n9Zz; (try dsimp only); (try k_fold)))) | (((with_reducible show wpC _ _ (call (Value.ref 559) _) _ _ _); (rename Fr _ _ _ _ => F'Zz); (rename News _ _ _ _ => N'Zz); k_dflt ((refine' SaysC.use (bio_ok _) ?k1 F'Zz ?k3 N'Zz ?k5 ?k6 ?k7 ?k'Zz trivial ?_); (case k1 => k_asm); (case k3 => k_asm); (case k5 => k_asm); (case k6 => first | exact rfl | assumption); (case k7 => ktr_room); (case k'Zz => ktr_units); (rintro v9Zz n9Zz h9Zz tk9Zz ⟨x9Zz, dx9Zz, B9Zz, q1Zz, q2Zz, q3Zz, w9Zz, f9Zz, l1Zz, l2Zz, l3Zz⟩ F9Zz N9Zz); subst w9Zz; subst n9Zz; (try dsimp only); (try k_fold)))) | ((first | ((with_reducible show wpC _ _ (execs (Stmt.Assign [Expr.Name _ _] (Expr.Call (Expr.Name _ _) [] [] _) _ :: _) _) _ _ _); k_dflt (refine wpC_execs_cons (wpC_Assign_Name ?_))) | ((with_reducible show wpC _ _ (callWith _ (Value.ref _) _ (backTo _ (starEach [] _)) _) _ _ _); (rename Fr _ _ _ _ => F'Zz); (rename Frag.In _ _ => X'Zz); k_dflt (refine' wpC_callWith0 (X'Zz.keeps F'Zz.keep) ?k2 ?_; (case k2 => k_is))))) | (((first | (with_reducible show wpC _ _ (execs (Stmt.Expr (Expr.Call (Expr.Attribute _ (PySem.Str.ofString "append") _) _ _ _) _ :: _) _) _ _ _) | (with_reducible show wpC _ _ (execs (Stmt.AugAssign _ _ _ _ :: _) _) _ _ _)); refine wpC_execs_leaf ?_)) | ((first | ((with_reducible show wpC _ _ (execs (Stmt.If _ _ _ _ :: _) _) _ _ _); k_dflt (refine wpC_execs_cons (wpC_If ?_))) | ((with_reducible show wpC _ _ (execs (Stmt.Expr (Expr.Call (Expr.Attribute _ _ _) _ _ _) _ :: _) _) _ _ _); k_dflt (refine wpC_execs_cons (wpC_Expr (wpC_methodCall ?_)))) | ((with_reducible show wpC _ _ (callWith _ (Value.ref _) _ (backTo _ (starEach (_ :: _) _)) _) _ _ _); k_dflt (refine' wpC_callWith ?k1 ?k2 ?_; (case k1 => k_asm); (case k2 => k_is))))) | ((first | ((with_reducible show wpC _ _ (execs [] _) _ _ _); refine wpC_execs_nil ?_) | ((with_reducible show wpC _ _ (execs (Stmt.Assign [Expr.Attribute _ _ _] (Expr.IfExp _ _ _ _) _ :: _) _) _ _ _); k_dflt (refine wpC_execs_cons (wpC_Assign_Attribute ?_))) | ((with_reducible show wpC _ _ (execs (Stmt.Assign [Expr.Subscript _ _ _] _ _ :: _) _) _ _ _); k_dflt (refine wpC_execs_cons (wpC_Assign_Subscript ?_))) | ((with_reducible show wpC _ _ (execs (_ :: _) _) _ _ _); refine wpC_execs_leaf ?_) | ((with_reducible show wpC _ _ (eval (Expr.IfExp _ _ _ _) _) _ _ _); refine wpC_IfExp ?_) | ((with_reducible show wpC _ _ (eval (Expr.Call (Expr.Name _ _) [] [] _) _) _ _ _); refine wpC_callName ?_) | ((with_reducible show wpC _ _ (callWith _ (Value.type _) _ (backTo _ (starEach [] _)) _) _ _ _); refine wpC_callType0 ?_) | ((with_reducible show wpC _ _ (call (Value.type "bytearray") _) _ _ _); (rename Fr _ _ _ _ => F'Zz); (rename News _ _ _ _ => N'Zz); k_dflt (refine k_baNew0 F'Zz N'Zz ?_); intro B9Zz h9Zz F9Zz N9Zz l9Zz; k_lt l9Zz)))); (try dsimp only)) | (k_end; kc_close) | ((with_reducible show wpAny _ _ (binaryOp Operator.Mod (Value.int _ _) (Value.int _ _)) _ _ _); first | with_reducible (((with_reducible show wpAny _ _ (binaryOp Operator.Mod (Value.int _ _) (Value.int _ _)) _ _ _); refine r_mod (by omega) (by omega) ?_))) | ((with_reducible show wpAny _ _ (call (Value.type "bytes") _) _ _ _); first | with_reducible (((with_reducible show wpAny _ _ (call (Value.type "bytes") [Value.ref _]) _ _ _); (rename News _ _ _ _ => nE'Zz); (try simp only [List.push_toArray] at nE'Zz); k_dflt (refine' KBa.make_K ?kbaF nE'Zz ?kbah ?kbal ?kbai ?kbar ?kban ?_; (case kbaF => k_asm); (case kbah => rfl); (case kbal => exact News.isList nE'Zz (by k_mem)); (case kbai => l_ints); (case kbar => (first | assumption | (((repeat (first | assumption | exact c64_lo _ | exact c64_hi _ | refine in_snoc ?_ ?_ ?_ | omega)))))); (case kban => (simp only [List.length_append, List.length_cons, List.length_nil]; omega))); intro h'Zz t'Zz k'Zz F'Zz N'Zz hIn'Zz))) | walk1 | (dsimp only; first | ((with_reducible show wpAny _ _ (binaryOp Operator.Mod (Value.int _ _) (Value.int _ _)) _ _ _); first | with_reducible (((with_reducible show wpAny _ _ (binaryOp Operator.Mod (Value.int _ _) (Value.int _ _)) _ _ _); refine r_mod (by omega) (by omega) ?_))) | ((with_reducible show wpAny _ _ (call (Value.type "bytes") _) _ _ _); first | with_reducible (((with_reducible show wpAny _ _ (call (Value.type "bytes") [Value.ref _]) _ _ _); (rename News _ _ _ _ => nE'Zz); (try simp only [List.push_toArray] at nE'Zz); k_dflt (refine' KBa.make_K ?kbaF nE'Zz ?kbah ?kbal ?kbai ?kbar ?kban ?_; (case kbaF => k_asm); (case kbah => rfl); (case kbal => exact News.isList nE'Zz (by k_mem)); (case kbai => l_ints); (case kbar => (first | assumption | (((repeat (first | assumption | exact c64_lo _ | exact c64_hi _ | refine in_snoc ?_ ?_ ?_ | omega)))))); (case kban => (simp only [List.length_append, List.length_cons, List.length_nil]; omega))); intro h'Zz t'Zz k'Zz F'Zz N'Zz hIn'Zz))) | walk1) | (leave1; (try dsimp only)) | fail "no step"))
    exact hQ _ _ _ F1
end
section
set_option maxHeartbeats 8000000
/-- the column behind the signs taken so far -/
noncomputable def ColInv (pre : List Int) (k : Int) : Prop := k = colL pre
theorem col0 : ColInv [] 0 := rfl
theorem col_snoc (pre : List Int) (n : Int) : colL (pre ++ [n]) = colStep (colL pre) n := by unfold colL; rw [List.foldl_append]; rfl
theorem col_tab {pre : List Int} {n : Nat} {k : Int} (h : k = colL pre) (hn : n = 9) : ColInv (pre ++ [(n : Int)]) (k + (8 - k % 8)) := by
  unfold ColInv; rw [col_snoc, ← h, hn]; rfl
theorem col_one {pre : List Int} {n : Nat} {k : Int} (h : k = colL pre) (hn : n ≠ 9) : ColInv (pre ++ [(n : Int)]) (k + 1) := by
  unfold ColInv; rw [col_snoc, ← h]; unfold colStep; rw [if_neg (by omega)]
theorem r_eqTab {prog : Program} {w : World} {A : Around} {E : Value → Shared → Prop} {s : Shared} {t u : Tok} {n : Nat} {Q : Value → Shared → Prop} (h : Q (.bool (decide (n = 9))) s) : wpAny (model prog w) A (compareOp .Eq (.str ⟨#[n]⟩ t) (.str (Str.ofString "\t") u)) Q E s :=
  P.eq_str (by
    rw [show Str.ofString "\t" = (⟨#[9]⟩ : Str) by decide +kernel]
    rw [show ((⟨#[n]⟩ : Str).cps.toList == (⟨#[9]⟩ : Str).cps.toList) = decide (n = 9) by by_cases e : n = 9 <;> simp [e]]
    exact h)
theorem codes_strArr {R : List Int} (h : ∀ a ∈ R, 0 ≤ a) : KStt.codes (strArr R) = R := by
  unfold KStt.codes
  rw [strArr_toList, List.map_map]
  conv => rhs; rw [← List.map_id R]
  exact List.map_congr_left fun a ha => by have := h a ha; show ((a.toNat : Nat) : Int) = a; omega
theorem stageL8 {w : World} {scope : Scope} {cdv : Value} {b : List Stmt} (hb : lawOf (KH w.params) = some (scope, cdv, b)) (ds : List Int) (vsD : List Value) (nD : Nat) (Dr : Addr) (led : List (Addr × Obj)) (g : PySem.Str → Option Value)
    (md wd lv : Int) (ind : List Int) (t1 t2 t3 t4 t5 : Tok) (hI : IntsAre vsD ds) (hin : KBa.In ds) (hds : ds.length ≤ 60) (hmd : 0 ≤ md) (hmd2 : md < 10007) (hl0 : 0 ≤ lv) (hl1 : lv ≤ 11) (hli : ind.length ≤ 2) (h9 : ∀ n ∈ ind, n = 9 ∨ n = 32)
    (hwd1 : -100 < wd) (hwd2 : wd ≤ 100)
    {p : Program} {loose : List PySem.Str} {mean : ExcName → Option Value} {mg mb : PySem.Str → Option Value} {h₀ : Heap} {L : Addr} {s : Shared} {Q : Flow → Shared → Prop} {E : Value → Shared → Prop}
    (X : (KH w.params).In h₀) (T : Top p loose mean mg mb h₀) (K0 : Below callerA h₀ [] h₀)
    (F : Fr h₀ L s.heap (fun y => if y = Str.ofString "column" then some (.int 0 t5) else if y = Str.ofString "level" then some (.int lv t4) else if y = Str.ofString "indent" then some (.str (strArr ind) t3) else if y = Str.ofString "width" then some (.int wd t2) else if y = Str.ofString "mood" then some (.int md t1) else if y = Str.ofString "drawn" then some (.ref Dr) else g y))
    (N : News h₀ L s.heap ((Dr, listOf vsD.toArray nD) :: led)) (hE : PassesOwn (model PySem.Challenge.rw_kl0275_01.prog w) (callerA.deeper (envOf (Str.ofString "law") scope L 841 cdv)) (envOf (Str.ofString "law") scope L 841 cdv) E)
    (hQ : ∀ h' tk m', Fr h₀ L h' m' → Q (.ret (.bool true)) { s with heap := h', toks := tk }) :
    wpC (model PySem.Challenge.rw_kl0275_01.prog w) (callerA.deeper (envOf (Str.ofString "law") scope L 841 cdv)) (execs (b.drop 8) (envOf (Str.ofString "law") scope L 841 cdv)) Q E s := by
  revert hb
  k_fill
  intro hb
  cases hb.symm.trans (rfl : lawOf (KH w.params) = some (_, _, _))
  clear hb
  simp only [List.drop]
  have hI0 : IntsAre ([] : List Value) [] := IntsAre.nil
  (k_with "state" => (first | exact col0 | exact col_tab (by assumption) (by assumption) | exact col_one (by assumption) (by assumption)))
  (k_with "pyIter str" => (k_dflt ((k_state ColInv "column"); all_goals ((rename ColInv _ _ => hO); (unfold ColInv at hO)))))
  repeat' (first | (k_unfold; (try dsimp only)) | ((fail_if_success (with_reducible show Q _ _)); (fail_if_success (with_reducible show wpC _ _ (execs (Stmt.For _ (Expr.List _ _) _ _ _ :: _) _) _ _ _)); first | ((first | (((with_reducible show wpC _ _ (call (Value.ref 239) _) _ _ _); (rename Fr _ _ _ _ => F'Zz); (rename News _ _ _ _ => N'Zz); k_dflt ((refine' SaysC.use (wbytes2 _ _ _ _ _ _ _ _ _ _ _ _ _ _ _ _ _ _ _ _ _ _ _ _ _ _ (by assumption) (by assumption) (by assumption) (by assumption) (by assumption) (by assumption) (by assumption) (by assumption) (by assumption) (by assumption) (by assumption) (by assumption) (by assumption) (allLt_all (by assumption))) ?k1 F'Zz ?k3 (news_six N'Zz) ?k5 ?k6 ?k7 ?k8 rfl ?_); (case k1 => k_asm); (case k3 => k_asm); (case k5 => k_asm); (case k6 => first | exact rfl | assumption); (case k7 => ktr_room); (case k8 => ktr_units); (rintro v9Zz n9Zz h9Zz tk9Zz ⟨w9Zz, t9Zz, tl9Zz, m9Zz, f9Zz⟩ F9Zz N9Zz); subst w9Zz; subst n9Zz; (try dsimp only); (try k_fold)))) | (((with_reducible show wpC _ _ (call (Value.ref 559) _) _ _ _); (rename Fr _ _ _ _ => F'Zz); (rename News _ _ _ _ => N'Zz); k_dflt ((refine' SaysC.use (bio_ok _) ?k1 F'Zz ?k3 N'Zz ?k5 ?k6 ?k7 ?k8 trivial ?_); (case k1 => k_asm); (case k3 => k_asm); (case k5 => k_asm); (case k6 => first | exact rfl | assumption); (case k7 => ktr_room); (case k8 => ktr_units); (rintro v9Zz n9Zz h9Zz tk9Zz ⟨x9Zz, dx9Zz, B9Zz, q1Zz, q2Zz, q3Zz, w9Zz, f9Zz, l1Zz, l2Zz, l3Zz⟩ F9Zz N9Zz); subst w9Zz; subst n9Zz; (try dsimp only); (try k_fold)))) | ((first | ((with_reducible show wpC _ _ (execs (Stmt.Assign [Expr.Name _ _] (Expr.Call (Expr.Name _ _) [] [] _) _ :: _) _) _ _ _); k_dflt (refine wpC_execs_cons (wpC_Assign_Name ?_))) | ((with_reducible show wpC _ _ (callWith _ (Value.ref _) _ (backTo _ (starEach [] _)) _) _ _ _); (rename Fr _ _ _ _ => F'Zz); (rename Frag.In _ _ => X'Zz); k_dflt (refine' wpC_callWith0 (X'Zz.keeps F'Zz.keep) ?k2 ?_; (case k2 => k_is))))) | (((first | (with_reducible show wpC _ _ (execs (Stmt.Expr (Expr.Call (Expr.Attribute _ (PySem.Str.ofString "append") _) _ _ _) _ :: _) _) _ _ _) | (with_reducible show wpC _ _ (execs (Stmt.AugAssign _ _ _ _ :: _) _) _ _ _)); refine wpC_execs_leaf ?_)) | ((first | ((with_reducible show wpC _ _ (execs (Stmt.If _ _ _ _ :: _) _) _ _ _); k_dflt (refine wpC_execs_cons (wpC_If ?_))) | ((with_reducible show wpC _ _ (execs (Stmt.Expr (Expr.Call (Expr.Attribute _ _ _) _ _ _) _ :: _) _) _ _ _); k_dflt (refine wpC_execs_cons (wpC_Expr (wpC_methodCall ?_)))) | ((with_reducible show wpC _ _ (callWith _ (Value.ref _) _ (backTo _ (starEach (_ :: _) _)) _) _ _ _); k_dflt (refine' wpC_callWith ?k1 ?k2 ?_; (case k1 => k_asm); (case k2 => k_is))))) | ((first | ((with_reducible show wpC _ _ (execs [] _) _ _ _); refine wpC_execs_nil ?_) | ((with_reducible show wpC _ _ (execs (Stmt.Assign [Expr.Attribute _ _ _] (Expr.IfExp _ _ _ _) _ :: _) _) _ _ _); k_dflt (refine wpC_execs_cons (wpC_Assign_Attribute ?_))) | ((with_reducible show wpC _ _ (execs (Stmt.Assign [Expr.Subscript _ _ _] _ _ :: _) _) _ _ _); k_dflt (refine wpC_execs_cons (wpC_Assign_Subscript ?_))) | ((with_reducible show wpC _ _ (execs (_ :: _) _) _ _ _); refine wpC_execs_leaf ?_) | ((with_reducible show wpC _ _ (eval (Expr.IfExp _ _ _ _) _) _ _ _); refine wpC_IfExp ?_) | ((with_reducible show wpC _ _ (eval (Expr.Call (Expr.Name _ _) [] [] _) _) _ _ _); refine wpC_callName ?_) | ((with_reducible show wpC _ _ (callWith _ (Value.type _) _ (backTo _ (starEach [] _)) _) _ _ _); refine wpC_callType0 ?_) | ((with_reducible show wpC _ _ (call (Value.type "bytearray") _) _ _ _); (rename Fr _ _ _ _ => F'Zz); (rename News _ _ _ _ => N'Zz); k_dflt (refine k_baNew0 F'Zz N'Zz ?_); intro B9Zz h9Zz F9Zz N9Zz l9Zz; k_lt l9Zz)))); (try dsimp only)) | (k_end; kc_close) | ((with_reducible show wpAny _ _ (binaryOp Operator.Mod (Value.int _ _) (Value.int _ _)) _ _ _); first | with_reducible (((with_reducible show wpAny _ _ (binaryOp Operator.Mod (Value.int _ _) (Value.int _ _)) _ _ _); refine r_mod (by omega) (by omega) ?_))) | ((with_reducible show wpAny _ _ (binaryOp Operator.Mult (Value.str _ _) (Value.int _ _)) _ _ _); first | with_reducible (((with_reducible show wpAny _ _ (binaryOp Operator.Mult (Value.str (strArr _) _) (Value.int _ _)) _ _ _); refine r_mulS (by omega) (by omega) (by omega) ?_; intro _ _))) | ((with_reducible show wpAny _ _ (compareOp CmpOp.Eq (Value.str _ _) (Value.str _ _)) _ _ _); first | with_reducible ((refine r_eqTab ?_))) | ((with_reducible show wpAny _ _ (exec (Stmt.For (Expr.Name _ _) (Expr.BinOp _ _ _ _) _ _ _) _) _ _ _); first | with_reducible (((rename Fr _ _ _ _ => lF'Zz); (with_unfolding_all refine' For_invVF lF'Zz ?k1 ?k2 ?_ ?hs9 ?hE9; (case k1 => exact rfl); (case k2 => exact rfl); (case hs9 => intro _; rfl); (case hE9 => first | assumption | passes_own))))) | ((with_reducible show wpAny _ _ (execs (_ :: _) _) _ _ _); first | with_reducible ((dsimp only; k_gentoks))) | ((with_reducible show wpAny _ _ (execs [] _) _ _ _); first | with_reducible (((with_reducible show wpAny _ _ (execs [] _) _ _ _); dsimp only; (try k_gentoks); refine wpAny_execs_nil ?_))) | ((with_reducible show wpAny _ _ (pyIter (Value.str _ _)) _ _ _); first | with_reducible ((k_extra "pyIter str"))) | walk1 | (dsimp only; first | ((with_reducible show wpAny _ _ (binaryOp Operator.Mod (Value.int _ _) (Value.int _ _)) _ _ _); first | with_reducible (((with_reducible show wpAny _ _ (binaryOp Operator.Mod (Value.int _ _) (Value.int _ _)) _ _ _); refine r_mod (by omega) (by omega) ?_))) | ((with_reducible show wpAny _ _ (binaryOp Operator.Mult (Value.str _ _) (Value.int _ _)) _ _ _); first | with_reducible (((with_reducible show wpAny _ _ (binaryOp Operator.Mult (Value.str (strArr _) _) (Value.int _ _)) _ _ _); refine r_mulS (by omega) (by omega) (by omega) ?_; intro _ _))) | ((with_reducible show wpAny _ _ (compareOp CmpOp.Eq (Value.str _ _) (Value.str _ _)) _ _ _); first | with_reducible ((refine r_eqTab ?_))) | ((with_reducible show wpAny _ _ (exec (Stmt.For (Expr.Name _ _) (Expr.BinOp _ _ _ _) _ _ _) _) _ _ _); first | with_reducible (((rename Fr _ _ _ _ => lF'Zz); (with_unfolding_all refine' For_invVF lF'Zz ?k1 ?k2 ?_ ?hs9 ?hE9; (case k1 => exact rfl); (case k2 => exact rfl); (case hs9 => intro _; rfl); (case hE9 => first | assumption | passes_own))))) | ((with_reducible show wpAny _ _ (execs (_ :: _) _) _ _ _); first | with_reducible ((dsimp only; k_gentoks))) | ((with_reducible show wpAny _ _ (execs [] _) _ _ _); first | with_reducible (((with_reducible show wpAny _ _ (execs [] _) _ _ _); dsimp only; (try k_gentoks); refine wpAny_execs_nil ?_))) | ((with_reducible show wpAny _ _ (pyIter (Value.str _ _)) _ _ _); first | with_reducible ((k_extra "pyIter str"))) | walk1) | (leave1; (try dsimp only)) | fail "no step"))
  have hR9 : ∀ a ∈ (List.replicate lv.toNat ind).flatten, 0 ≤ a := fun a ha => by
    have := rep_mem h9 lv.toNat a ha
    omega
  rw [codes_strArr hR9] at hO
  replace kFr : Fr h₀ L kH _ := kFr
  replace kNews : News h₀ L kH _ := kNews
  have F9 := fr_put kFr (Str.ofString "mood") (.int md t1) (by repeat (first | exact if_pos rfl | refine (if_neg (by decide)).trans ?_))
  have F10 := fr_put F9 (Str.ofString "drawn") (.ref Dr) (by repeat (first | exact if_pos rfl | refine (if_neg (by decide)).trans ?_))
  exact stageL9 rfl ds vsD nD Dr led _ md wd lv _ ind _ t1 t2 t3 t4 _ hI hin hds hmd hmd2 hl0 hl1 hli h9 rfl hO hwd1 hwd2 ⟨(by repeat (first | exact if_pos rfl | refine (if_neg (by decide)).trans ?_)), (by repeat (first | exact if_pos rfl | refine (if_neg (by decide)).trans ?_)), (by repeat (first | exact if_pos rfl | refine (if_neg (by decide)).trans ?_)), (by repeat (first | exact if_pos rfl | refine (if_neg (by decide)).trans ?_)), (by repeat (first | exact if_pos rfl | refine (if_neg (by decide)).trans ?_))⟩ X T K0 F10 kNews hE (fun h' tk m' c1 => hQ h' tk m' c1)
end
section
set_option maxHeartbeats 8000000
/-- the indents of the law -/
noncomputable def indL (j : Int) : List Int := if j = 0 then [9] else if j = 1 then [32, 32] else if j = 2 then [] else [32, 9]
theorem ind_len (j : Int) : (indL j).length ≤ 2 := by unfold indL; split <;> (try split) <;> (try split) <;> decide
theorem ind_ws (j : Int) : ∀ n ∈ indL j, n = 9 ∨ n = 32 := by unfold indL; split <;> (try split) <;> (try split) <;> decide
theorem ind_texts : Str.ofString "\t" = strArr [9] ∧ Str.ofString "  " = strArr [32, 32] ∧ Str.ofString "" = strArr [] ∧ Str.ofString " \t" = strArr [32, 9] := by decide +kernel
theorem r_tab4 {prog : Program} {w : World} {A : Around} {E : Value → Shared → Prop} {s : Shared} {value slice : PySem.Expr} {D : Addr} {k : Int} {t0 t1 t2 t3 u : Tok} {Q : Value → Shared → Prop}
    (hl : s.heap.IsList D #[.str (Str.ofString "\t") t0, .str (Str.ofString "  ") t1, .str (Str.ofString "") t2, .str (Str.ofString " \t") t3]) (h0 : 0 ≤ k) (h1 : k < 4)
    (h : ∀ t', Q (.str (strArr (indL k)) t') s)
    (hs : subscripted slice false (.ref D) (.int k u) = operate [.ref D, .int k u] (getItem (.ref D) (.int k u)) := by with_unfolding_all rfl) :
    wpAny (model prog w) A (subscriptTail value slice (.ref D) (.int k u)) Q E s := by
  have e : k = 0 ∨ k = 1 ∨ k = 2 ∨ k = 3 := by omega
  rcases e with rfl | rfl | rfl | rfl
  · exact item_listR hl (by decide) (by decide) rfl (by rw [ind_texts.1]; exact h _) hs
  · exact item_listR hl (by decide) (by decide) rfl (by rw [ind_texts.2.1]; exact h _) hs
  · exact item_listR hl (by decide) (by decide) rfl (by rw [ind_texts.2.2.1]; exact h _) hs
  · exact item_listR hl (by decide) (by decide) rfl (by rw [ind_texts.2.2.2]; exact h _) hs
theorem stageL4 {w : World} {scope : Scope} {cdv : Value} {b : List Stmt} (hb : lawOf (KH w.params) = some (scope, cdv, b)) (ds : List Int) (vsD : List Value) (nD : Nat) (Dr : Addr) (led : List (Addr × Obj)) (g : PySem.Str → Option Value)
    (md : Int) (t1 : Tok) (hI : IntsAre vsD ds) (hin : KBa.In ds) (hds : ds.length ≤ 60) (hmd : 0 ≤ md) (hmd2 : md < 10007)
    {p : Program} {loose : List PySem.Str} {mean : ExcName → Option Value} {mg mb : PySem.Str → Option Value} {h₀ : Heap} {L : Addr} {s : Shared} {Q : Flow → Shared → Prop} {E : Value → Shared → Prop}
    (X : (KH w.params).In h₀) (T : Top p loose mean mg mb h₀) (K0 : Below callerA h₀ [] h₀)
    (F : Fr h₀ L s.heap (fun y => if y = Str.ofString "mood" then some (.int md t1) else if y = Str.ofString "drawn" then some (.ref Dr) else g y))
    (N : News h₀ L s.heap ((Dr, listOf vsD.toArray nD) :: led)) (hE : PassesOwn (model PySem.Challenge.rw_kl0275_01.prog w) (callerA.deeper (envOf (Str.ofString "law") scope L 841 cdv)) (envOf (Str.ofString "law") scope L 841 cdv) E)
    (hQ : ∀ h' tk m', Fr h₀ L h' m' → Q (.ret (.bool true)) { s with heap := h', toks := tk }) :
    wpC (model PySem.Challenge.rw_kl0275_01.prog w) (callerA.deeper (envOf (Str.ofString "law") scope L 841 cdv)) (execs (b.drop 4) (envOf (Str.ofString "law") scope L 841 cdv)) Q E s := by
  revert hb
  k_fill
  intro hb
  cases hb.symm.trans (rfl : lawOf (KH w.params) = some (_, _, _))
  clear hb
  simp only [List.drop]
  have hI0 : IntsAre ([] : List Value) [] := IntsAre.nil
  repeat' (first | (k_unfold; (try dsimp only)) | ((fail_if_success (with_reducible show Q _ _)); (fail_if_success (with_reducible show wpC _ _ (execs (Stmt.For _ _ _ _ _ :: _) _) _ _ _)); first | ((first | (((with_reducible show wpC _ _ (call (Value.ref 239) _) _ _ _); (rename Fr _ _ _ _ => F'Zz); (rename News _ _ _ _ => N'Zz); k_dflt ((refine' SaysC.use (wbytes2 _ _ _ _ _ _ _ _ _ _ _ _ _ _ _ _ _ _ _ _ _ _ _ _ _ _ (by assumption) (by assumption) (by assumption) (by assumption) (by assumption) (by assumption) (by assumption) (by assumption) (by assumption) (by assumption) (by assumption) (by assumption) (by assumption) (allLt_all (by assumption))) ?k1 F'Zz ?k3 (news_six N'Zz) ?k5 ?k6 ?k7 ?k8 rfl ?_); (case k1 => k_asm); (case k3 => k_asm); (case k5 => k_asm); (case k6 => first | exact rfl | assumption); (case k7 => ktr_room); (case k8 => ktr_units); (rintro v9Zz n9Zz h9Zz tk9Zz ⟨w9Zz, t9Zz, tl9Zz, m9Zz, f9Zz⟩ F9Zz N9Zz); subst w9Zz; subst n9Zz; (try dsimp only); (try k_fold)))) | (((with_reducible show wpC _ _ (call (Value.ref 559) _) _ _ _); (rename Fr _ _ _ _ => F'Zz); (rename News _ _ _ _ => N'Zz); k_dflt ((refine' SaysC.use (bio_ok _) ?k1 F'Zz ?k3 N'Zz ?k5 ?k6 ?k7 ?k8 trivial ?_); (case k1 => k_asm); (case k3 => k_asm); (case k5 => k_asm); (case k6 => first | exact rfl | assumption); (case k7 => ktr_room); (case k8 => ktr_units); (rintro v9Zz n9Zz h9Zz tk9Zz ⟨x9Zz, dx9Zz, B9Zz, q1Zz, q2Zz, q3Zz, w9Zz, f9Zz, l1Zz, l2Zz, l3Zz⟩ F9Zz N9Zz); subst w9Zz; subst n9Zz; (try dsimp only); (try k_fold)))) | ((first | ((with_reducible show wpC _ _ (execs (Stmt.Assign [Expr.Name _ _] (Expr.Call (Expr.Name _ _) [] [] _) _ :: _) _) _ _ _); k_dflt (refine wpC_execs_cons (wpC_Assign_Name ?_))) | ((with_reducible show wpC _ _ (callWith _ (Value.ref _) _ (backTo _ (starEach [] _)) _) _ _ _); (rename Fr _ _ _ _ => F'Zz); (rename Frag.In _ _ => X'Zz); k_dflt (refine' wpC_callWith0 (X'Zz.keeps F'Zz.keep) ?k2 ?_; (case k2 => k_is))))) | (((first | (with_reducible show wpC _ _ (execs (Stmt.Expr (Expr.Call (Expr.Attribute _ (PySem.Str.ofString "append") _) _ _ _) _ :: _) _) _ _ _) | (with_reducible show wpC _ _ (execs (Stmt.AugAssign _ _ _ _ :: _) _) _ _ _)); refine wpC_execs_leaf ?_)) | ((first | ((with_reducible show wpC _ _ (execs (Stmt.If _ _ _ _ :: _) _) _ _ _); k_dflt (refine wpC_execs_cons (wpC_If ?_))) | ((with_reducible show wpC _ _ (execs (Stmt.Expr (Expr.Call (Expr.Attribute _ _ _) _ _ _) _ :: _) _) _ _ _); k_dflt (refine wpC_execs_cons (wpC_Expr (wpC_methodCall ?_)))) | ((with_reducible show wpC _ _ (callWith _ (Value.ref _) _ (backTo _ (starEach (_ :: _) _)) _) _ _ _); k_dflt (refine' wpC_callWith ?k1 ?k2 ?_; (case k1 => k_asm); (case k2 => k_is))))) | ((first | ((with_reducible show wpC _ _ (execs [] _) _ _ _); refine wpC_execs_nil ?_) | ((with_reducible show wpC _ _ (execs (Stmt.Assign [Expr.Attribute _ _ _] (Expr.IfExp _ _ _ _) _ :: _) _) _ _ _); k_dflt (refine wpC_execs_cons (wpC_Assign_Attribute ?_))) | ((with_reducible show wpC _ _ (execs (Stmt.Assign [Expr.Subscript _ _ _] _ _ :: _) _) _ _ _); k_dflt (refine wpC_execs_cons (wpC_Assign_Subscript ?_))) | ((with_reducible show wpC _ _ (execs (_ :: _) _) _ _ _); refine wpC_execs_leaf ?_) | ((with_reducible show wpC _ _ (eval (Expr.IfExp _ _ _ _) _) _ _ _); refine wpC_IfExp ?_) | ((with_reducible show wpC _ _ (eval (Expr.Call (Expr.Name _ _) [] [] _) _) _ _ _); refine wpC_callName ?_) | ((with_reducible show wpC _ _ (callWith _ (Value.type _) _ (backTo _ (starEach [] _)) _) _ _ _); refine wpC_callType0 ?_) | ((with_reducible show wpC _ _ (call (Value.type "bytearray") _) _ _ _); (rename Fr _ _ _ _ => F'Zz); (rename News _ _ _ _ => N'Zz); k_dflt (refine k_baNew0 F'Zz N'Zz ?_); intro B9Zz h9Zz F9Zz N9Zz l9Zz; k_lt l9Zz)))); (try dsimp only)) | (k_end; kc_close) | ((with_reducible show wpAny _ _ (binaryOp Operator.FloorDiv (Value.int _ _) (Value.int _ _)) _ _ _); first | with_reducible (((with_reducible show wpAny _ _ (binaryOp Operator.FloorDiv (Value.int _ _) (Value.int _ _)) _ _ _); refine r_fdiv (by omega) (by omega) ?_))) | ((with_reducible show wpAny _ _ (binaryOp Operator.Mod (Value.int _ _) (Value.int _ _)) _ _ _); first | with_reducible (((with_reducible show wpAny _ _ (binaryOp Operator.Mod (Value.int _ _) (Value.int _ _)) _ _ _); refine r_mod (by omega) (by omega) ?_))) | ((with_reducible show wpAny _ _ (subscriptTail _ _ _ _) _ _ _); first | with_reducible (((with_reducible show wpAny _ _ (subscriptTail _ _ (Value.ref _) (Value.int _ _)) _ _ _); (rename News _ _ _ _ => nE'Zz); k_dflt (refine r_tab4 (News.isList nE'Zz (List.Mem.head _)) (by omega) (by omega) ?_); intro _)) | with_reducible (((with_reducible show wpAny _ _ (subscriptTail _ (Expr.Slice _ _ none _) (Value.str (strArr (sheetL _ _)) _) (Value.ref _)) _ _ _); (rename Fr _ _ _ _ => F'Zz); (rename News _ _ _ _ => N'Zz); (refine r_cutMid (s := ⟨_, _, _, _, _⟩) F'Zz N'Zz (by omega) (by omega) (by omega) ?_); intro _ _ _ _ _)) | with_reducible (((with_reducible show wpAny _ _ (subscriptTail _ _ (Value.bytes _ _) (Value.int _ _)) _ _ _); k_dflt (refine r_b64 (by omega) (by omega) ?_)))) | walk1 | (dsimp only; first | ((with_reducible show wpAny _ _ (binaryOp Operator.FloorDiv (Value.int _ _) (Value.int _ _)) _ _ _); first | with_reducible (((with_reducible show wpAny _ _ (binaryOp Operator.FloorDiv (Value.int _ _) (Value.int _ _)) _ _ _); refine r_fdiv (by omega) (by omega) ?_))) | ((with_reducible show wpAny _ _ (binaryOp Operator.Mod (Value.int _ _) (Value.int _ _)) _ _ _); first | with_reducible (((with_reducible show wpAny _ _ (binaryOp Operator.Mod (Value.int _ _) (Value.int _ _)) _ _ _); refine r_mod (by omega) (by omega) ?_))) | ((with_reducible show wpAny _ _ (subscriptTail _ _ _ _) _ _ _); first | with_reducible (((with_reducible show wpAny _ _ (subscriptTail _ _ (Value.ref _) (Value.int _ _)) _ _ _); (rename News _ _ _ _ => nE'Zz); k_dflt (refine r_tab4 (News.isList nE'Zz (List.Mem.head _)) (by omega) (by omega) ?_); intro _)) | with_reducible (((with_reducible show wpAny _ _ (subscriptTail _ (Expr.Slice _ _ none _) (Value.str (strArr (sheetL _ _)) _) (Value.ref _)) _ _ _); (rename Fr _ _ _ _ => F'Zz); (rename News _ _ _ _ => N'Zz); (refine r_cutMid (s := ⟨_, _, _, _, _⟩) F'Zz N'Zz (by omega) (by omega) (by omega) ?_); intro _ _ _ _ _)) | with_reducible (((with_reducible show wpAny _ _ (subscriptTail _ _ (Value.bytes _ _) (Value.int _ _)) _ _ _); k_dflt (refine r_b64 (by omega) (by omega) ?_)))) | walk1) | (leave1; (try dsimp only)) | fail "no step"))
  rename Fr _ _ _ _ => F8
  rename News _ _ _ _ => N8
  have N9 : News h₀ L _ ((Dr, listOf vsD.toArray nD) :: led) := fun p hp => N8 p (.tail _ hp)
  have F9 := fr_put F8 (Str.ofString "drawn") (.ref Dr) (by repeat (first | exact if_pos rfl | refine (if_neg (by decide)).trans ?_))
  have F10 := fr_put F9 (Str.ofString "mood") (.int md t1) (by repeat (first | exact if_pos rfl | refine (if_neg (by decide)).trans ?_))
  have F11 := fr_put F10 (Str.ofString "width") (.int ((md + 86) % 100 - 10) _) (by repeat (first | exact if_pos rfl | refine (if_neg (by decide)).trans ?_))
  have F12 := fr_put F11 (Str.ofString "indent") (.str (strArr (indL (md % 4))) _) (by repeat (first | exact if_pos rfl | refine (if_neg (by decide)).trans ?_))
  have F13 := fr_put F12 (Str.ofString "level") (.int (md / 4 % 12) _) (by repeat (first | exact if_pos rfl | refine (if_neg (by decide)).trans ?_))
  have F14 := fr_put F13 (Str.ofString "column") (.int 0 _) (by repeat (first | exact if_pos rfl | refine (if_neg (by decide)).trans ?_))
  exact stageL8 rfl ds vsD nD Dr led _ md _ _ _ t1 _ _ _ _ hI hin hds hmd hmd2 (by omega) (by omega) (ind_len _) (ind_ws _) (by omega) (by omega) X T K0 F14 N9 hE (fun h' tk m' c1 => hQ h' tk m' c1)
end
section
open PySem.Calls
section
variable {prog : Program} {w : World} {A : Around} {E : Value → Shared → Prop} {s : Shared}
theorem noFill_ladd : fillsNumberSlot (.type "list") "add" = pure false := PySem.noFill_list_add
theorem fillsI_ladd : fillsInplaceSlot (.type "list") "add" (Operator.Add == .Add) = pure false := by
  unfold fillsInplaceSlot
  show (typeLookup (.type "list") (dunderI "add") >>= fun fi => pure (fi.isSome && !isSeqSlot fi)) = pure false
  rw [F.slot_list_iadd.lookup]
  show (pure (true && !isSeqSlot (some (Value.builtin "list.__iadd__"))) : Sem Bool) = pure false
  rw [show isSeqSlot (some (Value.builtin "list.__iadd__")) = true by decide +kernel]
  rfl
theorem seqI_ladd : seqSlot? (.type "list") (dunderI "add") = pure (some (.builtin "list.__iadd__")) := PySem.seqSlot_of F.slot_list_iadd.lookup (by decide +kernel)
theorem r_iaddL {l b : Addr} {items items2 : Array Value} {n n2 : Nat} {Q : Value → Shared → Prop} (hl : IsL s.heap l items n) (hb : IsL s.heap b items2 n2) (hz : items.size + items2.size ≤ 10000)
    (h : Q (.ref l) { s with heap := s.heap.update l (Obj.mapSeq fun x => x ++ items2) }) : wpAny (model prog w) A (inplaceOp .Add (.ref l) (.ref b)) Q E s := by
  have ha : s.TypeIs (.ref l) "list" := ⟨_, hl, rfl⟩
  have hb' : s.TypeIs (.ref b) "list" := ⟨_, hb, rfl⟩
  unfold inplaceOp
  refine wpAny_holding ?_
  refine wpAny_bind (wpAny_typeOf ha (wpAny_bind (wpAny_of_eq fillsI_ladd ?_)))
  show wpAny _ A (if false = true then _ else _) Q E s
  rw [if_neg Bool.false_ne_true]
  refine wpAny_bind (wpAny_binaryOp1_none (nm := "add") ha hb' noFill_ladd ?_)
  refine wpAny_bind (wpAny_of_eq seqI_ladd ?_)
  have hs1 : items.size ≤ sizeLine := by rw [sizeLine_eq]; omega
  have hs2 : items.size + items2.size ≤ sizeLine + 1 := by rw [sizeLine_eq]; omega
  have hs0 : ¬(!items.isEmpty && Builtin.List.listTooLong (items.size + items2.size)) = true := by
    rw [Bool.and_eq_true, not_and]
    intro _ q
    have := of_decide_eq_true q
    rw [sizeLine_eq] at this
    omega
  exact wpAny_bind (wpAny_rule (call_meets F.slot_list_iadd ha F.entry_list_iadd (F.args_list_iadd_2 _ _) (AutoSeq1.list___iadd___list_list_0 l items n b items2 n2 hs0 hs1 hs2) ⟨hl, hb, h⟩))
end
section
variable {prog : Program} {w : World} {A : Around} {E : Value → Shared → Prop} {s : Shared} {h₀ : Heap} {L : Addr} {m : PySem.Str → Option Value}
theorem k_iaddL {l b : Addr} {items items2 : Array Value} {n n2 : Nat} {pre : List (Addr × Obj)} {Q : Value → Shared → Prop} (F : Fr h₀ L s.heap m) (N : News h₀ L s.heap (pre ++ [(l, listOf items n)])) (hp : ∀ p ∈ pre, p.1 ≠ l) (hb : (b, listOf items2 n2) ∈ pre) (hz : items.size + items2.size ≤ 10000)
    (h : ∀ h' n', Fr h₀ L h' m → News h₀ L h' (pre ++ [(l, listOf (items ++ items2) n')]) → Q (.ref l) { s with heap := h' }) : wpAny (model prog w) A (inplaceOp .Add (.ref l) (.ref b)) Q E s := by
  have z := N (l, listOf items n) (List.mem_append_right _ (.head _))
  have hl : IsL s.heap l items n := z.1
  refine r_iaddL hl (N _ (List.mem_append_left _ hb)).1 hz ?_
  have hs := Heap.SameBut.update s.heap l (Obj.mapSeq fun x => x ++ items2)
  exact h _ _ (F.change hs z.2.1 z.2.2) (news_set (post := []) N hp (fun _ q => nomatch q) hs (hl.update _))
end
end
section
set_option maxHeartbeats 8000000
/-- the octets drawn so far -/
noncomputable def DrInv (pre : List Int) (items : List Int) : Prop := KBa.In items ∧ items.length ≤ 3 * pre.length
theorem dr0 : DrInv [] [] := ⟨(fun _ h => nomatch h), by decide⟩
theorem stageL2 {w : World} {scope : Scope} {cdv : Value} {b : List Stmt} (hb : lawOf (KH w.params) = some (scope, cdv, b)) (ns : List Int) (vs : List Value) (sc : Addr) (g : PySem.Str → Option Value)
    (md : Int) (t1 : Tok) (hI : IntsAre vs ns) (hns : ns.length ≤ 63) (hmd : 0 ≤ md) (hmd2 : md < 10007)
    {p : Program} {loose : List PySem.Str} {mean : ExcName → Option Value} {mg mb : PySem.Str → Option Value} {h₀ : Heap} {L : Addr} {s : Shared} {Q : Flow → Shared → Prop} {E : Value → Shared → Prop}
    (X : (KH w.params).In h₀) (T : Top p loose mean mg mb h₀) (K0 : Below callerA h₀ [] h₀) (hL : h₀.IsList sc vs.toArray)
    (F : Fr h₀ L s.heap (fun y => if y = Str.ofString "mood" then some (.int md t1) else if y = Str.ofString "script" then some (.ref sc) else g y))
    (N : News h₀ L s.heap []) (hE : PassesOwn (model PySem.Challenge.rw_kl0275_01.prog w) (callerA.deeper (envOf (Str.ofString "law") scope L 841 cdv)) (envOf (Str.ofString "law") scope L 841 cdv) E)
    (hQ : ∀ h' tk m', Fr h₀ L h' m' → Q (.ret (.bool true)) { s with heap := h', toks := tk }) :
    wpC (model PySem.Challenge.rw_kl0275_01.prog w) (callerA.deeper (envOf (Str.ofString "law") scope L 841 cdv)) (execs (b.drop 2) (envOf (Str.ofString "law") scope L 841 cdv)) Q E s := by
  revert hb
  k_fill
  intro hb
  cases hb.symm.trans (rfl : lawOf (KH w.params) = some (_, _, _))
  clear hb
  simp only [List.drop]
  have hI0 : IntsAre ([] : List Value) [] := IntsAre.nil
  repeat' (first | (k_unfold; (try dsimp only)) | ((fail_if_success (with_reducible show Q _ _)); (fail_if_success (with_reducible show wpC _ _ (execs (Stmt.For _ _ _ _ _ :: _) _) _ _ _)); first | ((first | (((with_reducible show wpC _ _ (call (Value.ref 239) _) _ _ _); (rename Fr _ _ _ _ => F'Zz); (rename News _ _ _ _ => N'Zz); k_dflt ((refine' SaysC.use (wbytes2 _ _ _ _ _ _ _ _ _ _ _ _ _ _ _ _ _ _ _ _ _ _ _ _ _ _ (by assumption) (by assumption) (by assumption) (by assumption) (by assumption) (by assumption) (by assumption) (by assumption) (by assumption) (by assumption) (by assumption) (by assumption) (by assumption) (allLt_all (by assumption))) ?k1 F'Zz ?k3 (news_six N'Zz) ?k5 ?k6 ?k7 ?k8 rfl ?_); (case k1 => k_asm); (case k3 => k_asm); (case k5 => k_asm); (case k6 => first | exact rfl | assumption); (case k7 => ktr_room); (case k8 => ktr_units); (rintro v9Zz n9Zz h9Zz tk9Zz ⟨w9Zz, t9Zz, tl9Zz, m9Zz, f9Zz⟩ F9Zz N9Zz); subst w9Zz; subst n9Zz; (try dsimp only); (try k_fold)))) | (((with_reducible show wpC _ _ (call (Value.ref 559) _) _ _ _); (rename Fr _ _ _ _ => F'Zz); (rename News _ _ _ _ => N'Zz); k_dflt ((refine' SaysC.use (bio_ok _) ?k1 F'Zz ?k3 N'Zz ?k5 ?k6 ?k7 ?k8 trivial ?_); (case k1 => k_asm); (case k3 => k_asm); (case k5 => k_asm); (case k6 => first | exact rfl | assumption); (case k7 => ktr_room); (case k8 => ktr_units); (rintro v9Zz n9Zz h9Zz tk9Zz ⟨x9Zz, dx9Zz, B9Zz, q1Zz, q2Zz, q3Zz, w9Zz, f9Zz, l1Zz, l2Zz, l3Zz⟩ F9Zz N9Zz); subst w9Zz; subst n9Zz; (try dsimp only); (try k_fold)))) | ((first | ((with_reducible show wpC _ _ (execs (Stmt.Assign [Expr.Name _ _] (Expr.Call (Expr.Name _ _) [] [] _) _ :: _) _) _ _ _); k_dflt (refine wpC_execs_cons (wpC_Assign_Name ?_))) | ((with_reducible show wpC _ _ (callWith _ (Value.ref _) _ (backTo _ (starEach [] _)) _) _ _ _); (rename Fr _ _ _ _ => F'Zz); (rename Frag.In _ _ => X'Zz); k_dflt (refine' wpC_callWith0 (X'Zz.keeps F'Zz.keep) ?k2 ?_; (case k2 => k_is))))) | (((first | (with_reducible show wpC _ _ (execs (Stmt.Expr (Expr.Call (Expr.Attribute _ (PySem.Str.ofString "append") _) _ _ _) _ :: _) _) _ _ _) | (with_reducible show wpC _ _ (execs (Stmt.AugAssign _ _ _ _ :: _) _) _ _ _)); refine wpC_execs_leaf ?_)) | ((first | ((with_reducible show wpC _ _ (execs (Stmt.If _ _ _ _ :: _) _) _ _ _); k_dflt (refine wpC_execs_cons (wpC_If ?_))) | ((with_reducible show wpC _ _ (execs (Stmt.Expr (Expr.Call (Expr.Attribute _ _ _) _ _ _) _ :: _) _) _ _ _); k_dflt (refine wpC_execs_cons (wpC_Expr (wpC_methodCall ?_)))) | ((with_reducible show wpC _ _ (callWith _ (Value.ref _) _ (backTo _ (starEach (_ :: _) _)) _) _ _ _); k_dflt (refine' wpC_callWith ?k1 ?k2 ?_; (case k1 => k_asm); (case k2 => k_is))))) | ((first | ((with_reducible show wpC _ _ (execs [] _) _ _ _); refine wpC_execs_nil ?_) | ((with_reducible show wpC _ _ (execs (Stmt.Assign [Expr.Attribute _ _ _] (Expr.IfExp _ _ _ _) _ :: _) _) _ _ _); k_dflt (refine wpC_execs_cons (wpC_Assign_Attribute ?_))) | ((with_reducible show wpC _ _ (execs (Stmt.Assign [Expr.Subscript _ _ _] _ _ :: _) _) _ _ _); k_dflt (refine wpC_execs_cons (wpC_Assign_Subscript ?_))) | ((with_reducible show wpC _ _ (execs (_ :: _) _) _ _ _); refine wpC_execs_leaf ?_) | ((with_reducible show wpC _ _ (eval (Expr.IfExp _ _ _ _) _) _ _ _); refine wpC_IfExp ?_) | ((with_reducible show wpC _ _ (eval (Expr.Call (Expr.Name _ _) [] [] _) _) _ _ _); refine wpC_callName ?_) | ((with_reducible show wpC _ _ (callWith _ (Value.type _) _ (backTo _ (starEach [] _)) _) _ _ _); refine wpC_callType0 ?_) | ((with_reducible show wpC _ _ (call (Value.type "bytearray") _) _ _ _); (rename Fr _ _ _ _ => F'Zz); (rename News _ _ _ _ => N'Zz); k_dflt (refine k_baNew0 F'Zz N'Zz ?_); intro B9Zz h9Zz F9Zz N9Zz l9Zz; k_lt l9Zz)))); (try dsimp only)) | (k_end; kc_close) | ((with_reducible show wpAny _ _ (binaryOp Operator.FloorDiv (Value.int _ _) (Value.int _ _)) _ _ _); first | with_reducible (((with_reducible show wpAny _ _ (binaryOp Operator.FloorDiv (Value.int _ _) (Value.int _ _)) _ _ _); refine r_fdiv (by omega) (by omega) ?_))) | ((with_reducible show wpAny _ _ (binaryOp Operator.Mod (Value.int _ _) (Value.int _ _)) _ _ _); first | with_reducible (((with_reducible show wpAny _ _ (binaryOp Operator.Mod (Value.int _ _) (Value.int _ _)) _ _ _); refine r_mod (by omega) (by omega) ?_))) | walk1 | (dsimp only; first | ((with_reducible show wpAny _ _ (binaryOp Operator.FloorDiv (Value.int _ _) (Value.int _ _)) _ _ _); first | with_reducible (((with_reducible show wpAny _ _ (binaryOp Operator.FloorDiv (Value.int _ _) (Value.int _ _)) _ _ _); refine r_fdiv (by omega) (by omega) ?_))) | ((with_reducible show wpAny _ _ (binaryOp Operator.Mod (Value.int _ _) (Value.int _ _)) _ _ _); first | with_reducible (((with_reducible show wpAny _ _ (binaryOp Operator.Mod (Value.int _ _) (Value.int _ _)) _ _ _); refine r_mod (by omega) (by omega) ?_))) | walk1) | (leave1; (try dsimp only)) | fail "no step"))
  rename Fr _ _ _ _ => F2
  refine wpC_execs_cons (wpC_ForM F2 rfl rfl rfl ?_ (by intro _; rfl) hE)
  repeat' (first | (k_unfold; (try dsimp only)) | ((fail_if_success (with_reducible show Q _ _)); first | ((first | (((with_reducible show wpC _ _ (call (Value.ref 239) _) _ _ _); (rename Fr _ _ _ _ => F'Zz); (rename News _ _ _ _ => N'Zz); k_dflt ((refine' SaysC.use (wbytes2 _ _ _ _ _ _ _ _ _ _ _ _ _ _ _ _ _ _ _ _ _ _ _ _ _ _ (by assumption) (by assumption) (by assumption) (by assumption) (by assumption) (by assumption) (by assumption) (by assumption) (by assumption) (by assumption) (by assumption) (by assumption) (by assumption) (allLt_all (by assumption))) ?k1 F'Zz ?k3 (news_six N'Zz) ?k5 ?k6 ?k7 ?k8 rfl ?_); (case k1 => k_asm); (case k3 => k_asm); (case k5 => k_asm); (case k6 => first | exact rfl | assumption); (case k7 => ktr_room); (case k8 => ktr_units); (rintro v9Zz n9Zz h9Zz tk9Zz ⟨w9Zz, t9Zz, tl9Zz, m9Zz, f9Zz⟩ F9Zz N9Zz); subst w9Zz; subst n9Zz; (try dsimp only); (try k_fold)))) | (((with_reducible show wpC _ _ (call (Value.ref 559) _) _ _ _); (rename Fr _ _ _ _ => F'Zz); (rename News _ _ _ _ => N'Zz); k_dflt ((refine' SaysC.use (bio_ok _) ?k1 F'Zz ?k3 N'Zz ?k5 ?k6 ?k7 ?k8 trivial ?_); (case k1 => k_asm); (case k3 => k_asm); (case k5 => k_asm); (case k6 => first | exact rfl | assumption); (case k7 => ktr_room); (case k8 => ktr_units); (rintro v9Zz n9Zz h9Zz tk9Zz ⟨x9Zz, dx9Zz, B9Zz, q1Zz, q2Zz, q3Zz, w9Zz, f9Zz, l1Zz, l2Zz, l3Zz⟩ F9Zz N9Zz); subst w9Zz; subst n9Zz; (try dsimp only); (try k_fold)))) | ((first | ((with_reducible show wpC _ _ (execs (Stmt.Assign [Expr.Name _ _] (Expr.Call (Expr.Name _ _) [] [] _) _ :: _) _) _ _ _); k_dflt (refine wpC_execs_cons (wpC_Assign_Name ?_))) | ((with_reducible show wpC _ _ (callWith _ (Value.ref _) _ (backTo _ (starEach [] _)) _) _ _ _); (rename Fr _ _ _ _ => F'Zz); (rename Frag.In _ _ => X'Zz); k_dflt (refine' wpC_callWith0 (X'Zz.keeps F'Zz.keep) ?k2 ?_; (case k2 => k_is))))) | (((first | (with_reducible show wpC _ _ (execs (Stmt.Expr (Expr.Call (Expr.Attribute _ (PySem.Str.ofString "append") _) _ _ _) _ :: _) _) _ _ _) | (with_reducible show wpC _ _ (execs (Stmt.AugAssign _ _ _ _ :: _) _) _ _ _)); refine wpC_execs_leaf ?_)) | ((first | ((with_reducible show wpC _ _ (execs (Stmt.If _ _ _ _ :: _) _) _ _ _); k_dflt (refine wpC_execs_cons (wpC_If ?_))) | ((with_reducible show wpC _ _ (execs (Stmt.Expr (Expr.Call (Expr.Attribute _ _ _) _ _ _) _ :: _) _) _ _ _); k_dflt (refine wpC_execs_cons (wpC_Expr (wpC_methodCall ?_)))) | ((with_reducible show wpC _ _ (callWith _ (Value.ref _) _ (backTo _ (starEach (_ :: _) _)) _) _ _ _); k_dflt (refine' wpC_callWith ?k1 ?k2 ?_; (case k1 => k_asm); (case k2 => k_is))))) | ((first | ((with_reducible show wpC _ _ (execs [] _) _ _ _); refine wpC_execs_nil ?_) | ((with_reducible show wpC _ _ (execs (Stmt.Assign [Expr.Attribute _ _ _] (Expr.IfExp _ _ _ _) _ :: _) _) _ _ _); k_dflt (refine wpC_execs_cons (wpC_Assign_Attribute ?_))) | ((with_reducible show wpC _ _ (execs (Stmt.Assign [Expr.Subscript _ _ _] _ _ :: _) _) _ _ _); k_dflt (refine wpC_execs_cons (wpC_Assign_Subscript ?_))) | ((with_reducible show wpC _ _ (execs (_ :: _) _) _ _ _); refine wpC_execs_leaf ?_) | ((with_reducible show wpC _ _ (eval (Expr.IfExp _ _ _ _) _) _ _ _); refine wpC_IfExp ?_) | ((with_reducible show wpC _ _ (eval (Expr.Call (Expr.Name _ _) [] [] _) _) _ _ _); refine wpC_callName ?_) | ((with_reducible show wpC _ _ (callWith _ (Value.type _) _ (backTo _ (starEach [] _)) _) _ _ _); refine wpC_callType0 ?_) | ((with_reducible show wpC _ _ (call (Value.type "bytearray") _) _ _ _); (rename Fr _ _ _ _ => F'Zz); (rename News _ _ _ _ => N'Zz); k_dflt (refine k_baNew0 F'Zz N'Zz ?_); intro B9Zz h9Zz F9Zz N9Zz l9Zz; k_lt l9Zz)))); (try dsimp only)) | (k_end; kc_close) | ((with_reducible show wpAny _ _ (binaryOp Operator.FloorDiv (Value.int _ _) (Value.int _ _)) _ _ _); first | with_reducible (((with_reducible show wpAny _ _ (binaryOp Operator.FloorDiv (Value.int _ _) (Value.int _ _)) _ _ _); refine r_fdiv (by omega) (by omega) ?_))) | ((with_reducible show wpAny _ _ (binaryOp Operator.Mod (Value.int _ _) (Value.int _ _)) _ _ _); first | with_reducible (((with_reducible show wpAny _ _ (binaryOp Operator.Mod (Value.int _ _) (Value.int _ _)) _ _ _); refine r_mod (by omega) (by omega) ?_))) | walk1 | (dsimp only; first | ((with_reducible show wpAny _ _ (binaryOp Operator.FloorDiv (Value.int _ _) (Value.int _ _)) _ _ _); first | with_reducible (((with_reducible show wpAny _ _ (binaryOp Operator.FloorDiv (Value.int _ _) (Value.int _ _)) _ _ _); refine r_fdiv (by omega) (by omega) ?_))) | ((with_reducible show wpAny _ _ (binaryOp Operator.Mod (Value.int _ _) (Value.int _ _)) _ _ _); first | with_reducible (((with_reducible show wpAny _ _ (binaryOp Operator.Mod (Value.int _ _) (Value.int _ _)) _ _ _); refine r_mod (by omega) (by omega) ?_))) | walk1) | (leave1; (try dsimp only)) | fail "no step"))
  rename_i Dr hA' lT h1' S5 ws h5' F5 N5 hI5 hC5 hL5 l5
  refine ⟨S5, ws, 0, _, _, fun I i m' news' => ∃ vsD nD ds, news' = [(S5, listOf ws.toArray 0), (Dr, listOf vsD.toArray nD)] ∧ IntsAre vsD ds ∧ KBa.In ds ∧ ds.length ≤ 3 * i ∧ m' (Str.ofString "drawn") = some (.ref Dr) ∧ m' (Str.ofString "mood") = some (.int md t1), rfl, .head _, F5, N5, fun I hI => ⟨⟨[], 0, [], rfl, IntsAre.nil, (fun _ h => nomatch h), (by decide), (by repeat (first | exact if_pos rfl | refine (if_neg (by decide)).trans ?_)), (by repeat (first | exact if_pos rfl | refine (if_neg (by decide)).trans ?_))⟩, ?_, ?_, ?_⟩⟩
  · rintro i m' n8 ⟨vsD, nD, ds, rfl, _⟩
    refine ⟨.head _, fun p hp => ?_⟩
    rcases List.mem_cons.mp hp with rfl | hp
    · exact Nat.ne_of_lt (hI _ (.head _))
    · rw [List.mem_singleton.mp hp]
      exact Nat.ne_of_lt (show @LT.lt Nat _ Dr I from hI (Dr, listOf #[] 0) (.tail _ (.head _)))
  · rintro i v m₁ n8 h tk o hv9 ⟨vsD, nD, ds, rfl, hI9, hin9, hl9, hd9, hm9⟩ F1 N1
    obtain ⟨n, tn, rfl, hn⟩ := IntsAre.at hI5 i v hv9
    have hi9 : i < 20 := by
      have := (List.getElem?_eq_some_iff.mp hn).1
      rw [hC5] at this; omega
    have F2 := fr_put F1 (Str.ofString "mood") (.int md t1) ((if_neg (by decide)).trans hm9)
    have F3 := fr_put F2 (Str.ofString "drawn") (.ref Dr) ((if_neg (by decide)).trans ((if_neg (by decide)).trans hd9))
    replace F3 : Fr h₀ L h _ := F3
    replace N1 : News h₀ L h _ := N1
    have hDI : @LT.lt Nat _ Dr I := hI (Dr, listOf #[] 0) (.tail _ (.head _))
    have hSI : @LT.lt Nat _ S5 I := hI _ (.head _)
    clear F1 F2 F5 N5
    repeat' (first | (k_unfold; (try dsimp only)) | ((fail_if_success (with_reducible show Q _ _)); first | ((first | (((with_reducible show wpC _ _ (call (Value.ref 239) _) _ _ _); (rename Fr _ _ _ _ => F'Zz); (rename News _ _ _ _ => N'Zz); k_dflt ((refine' SaysC.use (wbytes2 _ _ _ _ _ _ _ _ _ _ _ _ _ _ _ _ _ _ _ _ _ _ _ _ _ _ (by assumption) (by assumption) (by assumption) (by assumption) (by assumption) (by assumption) (by assumption) (by assumption) (by assumption) (by assumption) (by assumption) (by assumption) (by assumption) (allLt_all (by assumption))) ?k1 F'Zz ?k3 (news_six N'Zz) ?k5 ?k6 ?k7 ?k8 rfl ?_); (case k1 => k_asm); (case k3 => k_asm); (case k5 => k_asm); (case k6 => first | exact rfl | assumption); (case k7 => ktr_room); (case k8 => ktr_units); (rintro v9Zz n9Zz h9Zz tk9Zz ⟨w9Zz, t9Zz, tl9Zz, m9Zz, f9Zz⟩ F9Zz N9Zz); subst w9Zz; subst n9Zz; (try dsimp only); (try k_fold)))) | (((with_reducible show wpC _ _ (call (Value.ref 559) _) _ _ _); (rename Fr _ _ _ _ => F'Zz); (rename News _ _ _ _ => N'Zz); k_dflt ((refine' SaysC.use (bio_ok _) ?k1 F'Zz ?k3 N'Zz ?k5 ?k6 ?k7 ?k8 trivial ?_); (case k1 => k_asm); (case k3 => k_asm); (case k5 => k_asm); (case k6 => first | exact rfl | assumption); (case k7 => ktr_room); (case k8 => ktr_units); (rintro v9Zz n9Zz h9Zz tk9Zz ⟨x9Zz, dx9Zz, B9Zz, q1Zz, q2Zz, q3Zz, w9Zz, f9Zz, l1Zz, l2Zz, l3Zz⟩ F9Zz N9Zz); subst w9Zz; subst n9Zz; (try dsimp only); (try k_fold)))) | ((first | ((with_reducible show wpC _ _ (execs (Stmt.Assign [Expr.Name _ _] (Expr.Call (Expr.Name _ _) [] [] _) _ :: _) _) _ _ _); k_dflt (refine wpC_execs_cons (wpC_Assign_Name ?_))) | ((with_reducible show wpC _ _ (callWith _ (Value.ref _) _ (backTo _ (starEach [] _)) _) _ _ _); (rename Fr _ _ _ _ => F'Zz); (rename Frag.In _ _ => X'Zz); k_dflt (refine' wpC_callWith0 (X'Zz.keeps F'Zz.keep) ?k2 ?_; (case k2 => k_is))))) | (((first | (with_reducible show wpC _ _ (execs (Stmt.Expr (Expr.Call (Expr.Attribute _ (PySem.Str.ofString "append") _) _ _ _) _ :: _) _) _ _ _) | (with_reducible show wpC _ _ (execs (Stmt.AugAssign _ _ _ _ :: _) _) _ _ _)); refine wpC_execs_leaf ?_)) | ((first | ((with_reducible show wpC _ _ (execs (Stmt.If _ _ _ _ :: _) _) _ _ _); k_dflt (refine wpC_execs_cons (wpC_If ?_))) | ((with_reducible show wpC _ _ (execs (Stmt.Expr (Expr.Call (Expr.Attribute _ _ _) _ _ _) _ :: _) _) _ _ _); k_dflt (refine wpC_execs_cons (wpC_Expr (wpC_methodCall ?_)))) | ((with_reducible show wpC _ _ (callWith _ (Value.ref _) _ (backTo _ (starEach (_ :: _) _)) _) _ _ _); k_dflt (refine' wpC_callWith ?k1 ?k2 ?_; (case k1 => k_asm); (case k2 => k_is))))) | ((first | ((with_reducible show wpC _ _ (execs [] _) _ _ _); refine wpC_execs_nil ?_) | ((with_reducible show wpC _ _ (execs (Stmt.Assign [Expr.Attribute _ _ _] (Expr.IfExp _ _ _ _) _ :: _) _) _ _ _); k_dflt (refine wpC_execs_cons (wpC_Assign_Attribute ?_))) | ((with_reducible show wpC _ _ (execs (Stmt.Assign [Expr.Subscript _ _ _] _ _ :: _) _) _ _ _); k_dflt (refine wpC_execs_cons (wpC_Assign_Subscript ?_))) | ((with_reducible show wpC _ _ (execs (_ :: _) _) _ _ _); refine wpC_execs_leaf ?_) | ((with_reducible show wpC _ _ (eval (Expr.IfExp _ _ _ _) _) _ _ _); refine wpC_IfExp ?_) | ((with_reducible show wpC _ _ (eval (Expr.Call (Expr.Name _ _) [] [] _) _) _ _ _); refine wpC_callName ?_) | ((with_reducible show wpC _ _ (callWith _ (Value.type _) _ (backTo _ (starEach [] _)) _) _ _ _); refine wpC_callType0 ?_) | ((with_reducible show wpC _ _ (call (Value.type "bytearray") _) _ _ _); (rename Fr _ _ _ _ => F'Zz); (rename News _ _ _ _ => N'Zz); k_dflt (refine k_baNew0 F'Zz N'Zz ?_); intro B9Zz h9Zz F9Zz N9Zz l9Zz; k_lt l9Zz)))); (try dsimp only)) | (k_end; kc_close) | ((with_reducible show wpAny _ _ (binaryOp Operator.FloorDiv (Value.int _ _) (Value.int _ _)) _ _ _); first | with_reducible (((with_reducible show wpAny _ _ (binaryOp Operator.FloorDiv (Value.int _ _) (Value.int _ _)) _ _ _); refine r_fdiv (by omega) (by omega) ?_))) | ((with_reducible show wpAny _ _ (binaryOp Operator.Mod (Value.int _ _) (Value.int _ _)) _ _ _); first | with_reducible (((with_reducible show wpAny _ _ (binaryOp Operator.Mod (Value.int _ _) (Value.int _ _)) _ _ _); refine r_mod (by omega) (by omega) ?_))) | walk1 | (dsimp only; first | ((with_reducible show wpAny _ _ (binaryOp Operator.FloorDiv (Value.int _ _) (Value.int _ _)) _ _ _); first | with_reducible (((with_reducible show wpAny _ _ (binaryOp Operator.FloorDiv (Value.int _ _) (Value.int _ _)) _ _ _); refine r_fdiv (by omega) (by omega) ?_))) | ((with_reducible show wpAny _ _ (binaryOp Operator.Mod (Value.int _ _) (Value.int _ _)) _ _ _); first | with_reducible (((with_reducible show wpAny _ _ (binaryOp Operator.Mod (Value.int _ _) (Value.int _ _)) _ _ _); refine r_mod (by omega) (by omega) ?_))) | walk1) | (leave1; (try dsimp only)) | fail "no step"))
    rename Fr _ _ _ _ => F8
    rename News _ _ _ _ => N8
    rename IntsAre (List.replicate _ _).flatten _ => i8
    have hlI := hI9.length
    have hl8 := i8.length
    have hk8 : ((List.replicate (1 + n / 256 % 3).toNat [n % 256]).flatten).length = (1 + n / 256 % 3).toNat := by rw [rep_len]; simp
    refine k_iaddL (pre := [_, _, _, _]) F8 N8 (by repeat' (first | exact List.forall_mem_nil _ | refine List.forall_mem_cons.mpr ⟨?_, ?_⟩ | (show @Ne Nat _ _; omega))) (.head _) (by simp only [List.size_toArray]; omega) ?_
    intro h9' n9' F9 N9
    rw [List.append_toArray] at N9
    clear N8 F8
    repeat' (first | (k_unfold; (try dsimp only)) | ((fail_if_success (with_reducible show Q _ _)); first | ((first | (((with_reducible show wpC _ _ (call (Value.ref 239) _) _ _ _); (rename Fr _ _ _ _ => F'Zz); (rename News _ _ _ _ => N'Zz); k_dflt ((refine' SaysC.use (wbytes2 _ _ _ _ _ _ _ _ _ _ _ _ _ _ _ _ _ _ _ _ _ _ _ _ _ _ (by assumption) (by assumption) (by assumption) (by assumption) (by assumption) (by assumption) (by assumption) (by assumption) (by assumption) (by assumption) (by assumption) (by assumption) (by assumption) (allLt_all (by assumption))) ?k1 F'Zz ?k3 (news_six N'Zz) ?k5 ?k6 ?k7 ?k8 rfl ?_); (case k1 => k_asm); (case k3 => k_asm); (case k5 => k_asm); (case k6 => first | exact rfl | assumption); (case k7 => ktr_room); (case k8 => ktr_units); (rintro v9Zz n9Zz h9Zz tk9Zz ⟨w9Zz, t9Zz, tl9Zz, m9Zz, f9Zz⟩ F9Zz N9Zz); subst w9Zz; subst n9Zz; (try dsimp only); (try k_fold)))) | (((with_reducible show wpC _ _ (call (Value.ref 559) _) _ _ _); (rename Fr _ _ _ _ => F'Zz); (rename News _ _ _ _ => N'Zz); k_dflt ((refine' SaysC.use (bio_ok _) ?k1 F'Zz ?k3 N'Zz ?k5 ?k6 ?k7 ?k8 trivial ?_); (case k1 => k_asm); (case k3 => k_asm); (case k5 => k_asm); (case k6 => first | exact rfl | assumption); (case k7 => ktr_room); (case k8 => ktr_units); (rintro v9Zz n9Zz h9Zz tk9Zz ⟨x9Zz, dx9Zz, B9Zz, q1Zz, q2Zz, q3Zz, w9Zz, f9Zz, l1Zz, l2Zz, l3Zz⟩ F9Zz N9Zz); subst w9Zz; subst n9Zz; (try dsimp only); (try k_fold)))) | ((first | ((with_reducible show wpC _ _ (execs (Stmt.Assign [Expr.Name _ _] (Expr.Call (Expr.Name _ _) [] [] _) _ :: _) _) _ _ _); k_dflt (refine wpC_execs_cons (wpC_Assign_Name ?_))) | ((with_reducible show wpC _ _ (callWith _ (Value.ref _) _ (backTo _ (starEach [] _)) _) _ _ _); (rename Fr _ _ _ _ => F'Zz); (rename Frag.In _ _ => X'Zz); k_dflt (refine' wpC_callWith0 (X'Zz.keeps F'Zz.keep) ?k2 ?_; (case k2 => k_is))))) | (((first | (with_reducible show wpC _ _ (execs (Stmt.Expr (Expr.Call (Expr.Attribute _ (PySem.Str.ofString "append") _) _ _ _) _ :: _) _) _ _ _) | (with_reducible show wpC _ _ (execs (Stmt.AugAssign _ _ _ _ :: _) _) _ _ _)); refine wpC_execs_leaf ?_)) | ((first | ((with_reducible show wpC _ _ (execs (Stmt.If _ _ _ _ :: _) _) _ _ _); k_dflt (refine wpC_execs_cons (wpC_If ?_))) | ((with_reducible show wpC _ _ (execs (Stmt.Expr (Expr.Call (Expr.Attribute _ _ _) _ _ _) _ :: _) _) _ _ _); k_dflt (refine wpC_execs_cons (wpC_Expr (wpC_methodCall ?_)))) | ((with_reducible show wpC _ _ (callWith _ (Value.ref _) _ (backTo _ (starEach (_ :: _) _)) _) _ _ _); k_dflt (refine' wpC_callWith ?k1 ?k2 ?_; (case k1 => k_asm); (case k2 => k_is))))) | ((first | ((with_reducible show wpC _ _ (execs [] _) _ _ _); refine wpC_execs_nil ?_) | ((with_reducible show wpC _ _ (execs (Stmt.Assign [Expr.Attribute _ _ _] (Expr.IfExp _ _ _ _) _ :: _) _) _ _ _); k_dflt (refine wpC_execs_cons (wpC_Assign_Attribute ?_))) | ((with_reducible show wpC _ _ (execs (Stmt.Assign [Expr.Subscript _ _ _] _ _ :: _) _) _ _ _); k_dflt (refine wpC_execs_cons (wpC_Assign_Subscript ?_))) | ((with_reducible show wpC _ _ (execs (_ :: _) _) _ _ _); refine wpC_execs_leaf ?_) | ((with_reducible show wpC _ _ (eval (Expr.IfExp _ _ _ _) _) _ _ _); refine wpC_IfExp ?_) | ((with_reducible show wpC _ _ (eval (Expr.Call (Expr.Name _ _) [] [] _) _) _ _ _); refine wpC_callName ?_) | ((with_reducible show wpC _ _ (callWith _ (Value.type _) _ (backTo _ (starEach [] _)) _) _ _ _); refine wpC_callType0 ?_) | ((with_reducible show wpC _ _ (call (Value.type "bytearray") _) _ _ _); (rename Fr _ _ _ _ => F'Zz); (rename News _ _ _ _ => N'Zz); k_dflt (refine k_baNew0 F'Zz N'Zz ?_); intro B9Zz h9Zz F9Zz N9Zz l9Zz; k_lt l9Zz)))); (try dsimp only)) | (k_end; kc_close) | ((with_reducible show wpAny _ _ (binaryOp Operator.FloorDiv (Value.int _ _) (Value.int _ _)) _ _ _); first | with_reducible (((with_reducible show wpAny _ _ (binaryOp Operator.FloorDiv (Value.int _ _) (Value.int _ _)) _ _ _); refine r_fdiv (by omega) (by omega) ?_))) | ((with_reducible show wpAny _ _ (binaryOp Operator.Mod (Value.int _ _) (Value.int _ _)) _ _ _); first | with_reducible (((with_reducible show wpAny _ _ (binaryOp Operator.Mod (Value.int _ _) (Value.int _ _)) _ _ _); refine r_mod (by omega) (by omega) ?_))) | walk1 | (dsimp only; first | ((with_reducible show wpAny _ _ (binaryOp Operator.FloorDiv (Value.int _ _) (Value.int _ _)) _ _ _); first | with_reducible (((with_reducible show wpAny _ _ (binaryOp Operator.FloorDiv (Value.int _ _) (Value.int _ _)) _ _ _); refine r_fdiv (by omega) (by omega) ?_))) | ((with_reducible show wpAny _ _ (binaryOp Operator.Mod (Value.int _ _) (Value.int _ _)) _ _ _); first | with_reducible (((with_reducible show wpAny _ _ (binaryOp Operator.Mod (Value.int _ _) (Value.int _ _)) _ _ _); refine r_mod (by omega) (by omega) ?_))) | walk1) | (leave1; (try dsimp only)) | fail "no step"))
    rename News _ _ _ _ => N10
    refine ⟨rfl, _, _, _, [(S5, listOf ws.toArray 0), (Dr, listOf (vsD ++ _).toArray n9')], rfl, by k_asm, (fun p hp => ?_), _, _, _, rfl, hI9.append i8, ?_, ?_, (by repeat (first | exact if_pos rfl | refine (if_neg (by decide)).trans ?_)), (by repeat (first | exact if_pos rfl | refine (if_neg (by decide)).trans ?_))⟩
    · rcases List.mem_cons.mp hp with rfl | hp
      · exact N10 _ (.tail _ (.tail _ (.head _)))
      · exact N10 p (.tail _ (.tail _ (.tail _ hp)))
    · intro c hc
      rcases List.mem_append.mp hc with hc | hc
      · exact hin9 c hc
      · rw [rep_one] at hc
        rw [List.eq_of_mem_replicate hc]; omega
    · rw [List.length_append]; omega
  · rintro m' n8 h tk ⟨vsD, nD, ds, rfl, hI9, hin9, hl9, hd9, hm9⟩ F1 N1
    have hw9 := hI5.length
    have F2 := fr_put F1 (Str.ofString "drawn") (.ref Dr) hd9
    have F3 := fr_put F2 (Str.ofString "mood") (.int md t1) ((if_neg (by decide)).trans hm9)
    have F4 := fr_put F3 (Str.ofString "drawn") (.ref Dr) ((if_neg (by decide)).trans (if_pos rfl))
    have F5 := fr_put F4 (Str.ofString "mood") (.int md t1) ((if_neg (by decide)).trans ((if_pos rfl)))
    exact stageL4 rfl ds vsD nD Dr [] _ md t1 hI9 hin9 (by omega) hmd hmd2 X T K0 F5 (fun p hp => N1 p (.tail _ hp)) hE (fun h' tk m' c1 => hQ h' tk m' c1)
end
section
set_option maxHeartbeats 8000000
/-- the law's mood -/
noncomputable def MoodInv (pre : List Int) (m : Int) : Prop := 0 ≤ m ∧ m < 10007
theorem mood0 : MoodInv [] 0 := by unfold MoodInv; decide
theorem mood_turn (pre : List Int) (a : Int) : MoodInv pre (a % 10007) := by unfold MoodInv; omega
theorem stageL0 {w : World} {scope : Scope} {cdv : Value} {b : List Stmt} (hb : lawOf (KH w.params) = some (scope, cdv, b)) (ns : List Int) (vs : List Value) (sc : Addr) (g : PySem.Str → Option Value)
    (hI : IntsAre vs ns) (hns : ns.length ≤ 63)
    {p : Program} {loose : List PySem.Str} {mean : ExcName → Option Value} {mg mb : PySem.Str → Option Value} {h₀ : Heap} {L : Addr} {s : Shared} {Q : Flow → Shared → Prop} {E : Value → Shared → Prop}
    (X : (KH w.params).In h₀) (T : Top p loose mean mg mb h₀) (K0 : Below callerA h₀ [] h₀) (hL : h₀.IsList sc vs.toArray)
    (F : Fr h₀ L s.heap (fun y => if y = Str.ofString "script" then some (.ref sc) else g y))
    (N : News h₀ L s.heap []) (hE : PassesOwn (model PySem.Challenge.rw_kl0275_01.prog w) (callerA.deeper (envOf (Str.ofString "law") scope L 841 cdv)) (envOf (Str.ofString "law") scope L 841 cdv) E)
    (hQ : ∀ h' tk m', Fr h₀ L h' m' → Q (.ret (.bool true)) { s with heap := h', toks := tk }) :
    wpC (model PySem.Challenge.rw_kl0275_01.prog w) (callerA.deeper (envOf (Str.ofString "law") scope L 841 cdv)) (execs b (envOf (Str.ofString "law") scope L 841 cdv)) Q E s := by
  revert hb
  k_fill
  intro hb
  cases hb.symm.trans (rfl : lawOf (KH w.params) = some (_, _, _))
  clear hb
  have hI0 : IntsAre ([] : List Value) [] := IntsAre.nil
  (k_with "state" => (first | exact mood0 | exact mood_turn _ _))
  (k_with "pyIter ref" => (k_dflt ((k_state MoodInv "mood"); all_goals ((rename MoodInv _ _ => hO); (unfold MoodInv at hO)))))
  repeat' (first | (k_unfold; (try dsimp only)) | ((fail_if_success (with_reducible show Q _ _)); (fail_if_success (with_reducible show wpC _ _ (execs (Stmt.Assign [Expr.Name (PySem.Str.ofString "drawn") _] _ _ :: _) _) _ _ _)); first | ((first | (((with_reducible show wpC _ _ (call (Value.ref 239) _) _ _ _); (rename Fr _ _ _ _ => F'Zz); (rename News _ _ _ _ => N'Zz); k_dflt ((refine' SaysC.use (wbytes2 _ _ _ _ _ _ _ _ _ _ _ _ _ _ _ _ _ _ _ _ _ _ _ _ _ _ (by assumption) (by assumption) (by assumption) (by assumption) (by assumption) (by assumption) (by assumption) (by assumption) (by assumption) (by assumption) (by assumption) (by assumption) (by assumption) (allLt_all (by assumption))) ?k1 F'Zz ?k3 (news_six N'Zz) ?k5 ?k6 ?k7 ?k8 rfl ?_); (case k1 => k_asm); (case k3 => k_asm); (case k5 => k_asm); (case k6 => first | exact rfl | assumption); (case k7 => ktr_room); (case k8 => ktr_units); (rintro v9Zz n9Zz h9Zz tk9Zz ⟨w9Zz, t9Zz, tl9Zz, m9Zz, f9Zz⟩ F9Zz N9Zz); subst w9Zz; subst n9Zz; (try dsimp only); (try k_fold)))) | (((with_reducible show wpC _ _ (call (Value.ref 559) _) _ _ _); (rename Fr _ _ _ _ => F'Zz); (rename News _ _ _ _ => N'Zz); k_dflt ((refine' SaysC.use (bio_ok _) ?k1 F'Zz ?k3 N'Zz ?k5 ?k6 ?k7 ?k8 trivial ?_); (case k1 => k_asm); (case k3 => k_asm); (case k5 => k_asm); (case k6 => first | exact rfl | assumption); (case k7 => ktr_room); (case k8 => ktr_units); (rintro v9Zz n9Zz h9Zz tk9Zz ⟨x9Zz, dx9Zz, B9Zz, q1Zz, q2Zz, q3Zz, w9Zz, f9Zz, l1Zz, l2Zz, l3Zz⟩ F9Zz N9Zz); subst w9Zz; subst n9Zz; (try dsimp only); (try k_fold)))) | ((first | ((with_reducible show wpC _ _ (execs (Stmt.Assign [Expr.Name _ _] (Expr.Call (Expr.Name _ _) [] [] _) _ :: _) _) _ _ _); k_dflt (refine wpC_execs_cons (wpC_Assign_Name ?_))) | ((with_reducible show wpC _ _ (callWith _ (Value.ref _) _ (backTo _ (starEach [] _)) _) _ _ _); (rename Fr _ _ _ _ => F'Zz); (rename Frag.In _ _ => X'Zz); k_dflt (refine' wpC_callWith0 (X'Zz.keeps F'Zz.keep) ?k2 ?_; (case k2 => k_is))))) | (((first | (with_reducible show wpC _ _ (execs (Stmt.Expr (Expr.Call (Expr.Attribute _ (PySem.Str.ofString "append") _) _ _ _) _ :: _) _) _ _ _) | (with_reducible show wpC _ _ (execs (Stmt.AugAssign _ _ _ _ :: _) _) _ _ _)); refine wpC_execs_leaf ?_)) | ((first | ((with_reducible show wpC _ _ (execs (Stmt.If _ _ _ _ :: _) _) _ _ _); k_dflt (refine wpC_execs_cons (wpC_If ?_))) | ((with_reducible show wpC _ _ (execs (Stmt.Expr (Expr.Call (Expr.Attribute _ _ _) _ _ _) _ :: _) _) _ _ _); k_dflt (refine wpC_execs_cons (wpC_Expr (wpC_methodCall ?_)))) | ((with_reducible show wpC _ _ (callWith _ (Value.ref _) _ (backTo _ (starEach (_ :: _) _)) _) _ _ _); k_dflt (refine' wpC_callWith ?k1 ?k2 ?_; (case k1 => k_asm); (case k2 => k_is))))) | ((first | ((with_reducible show wpC _ _ (execs [] _) _ _ _); refine wpC_execs_nil ?_) | ((with_reducible show wpC _ _ (execs (Stmt.Assign [Expr.Attribute _ _ _] (Expr.IfExp _ _ _ _) _ :: _) _) _ _ _); k_dflt (refine wpC_execs_cons (wpC_Assign_Attribute ?_))) | ((with_reducible show wpC _ _ (execs (Stmt.Assign [Expr.Subscript _ _ _] _ _ :: _) _) _ _ _); k_dflt (refine wpC_execs_cons (wpC_Assign_Subscript ?_))) | ((with_reducible show wpC _ _ (execs (_ :: _) _) _ _ _); refine wpC_execs_leaf ?_) | ((with_reducible show wpC _ _ (eval (Expr.IfExp _ _ _ _) _) _ _ _); refine wpC_IfExp ?_) | ((with_reducible show wpC _ _ (eval (Expr.Call (Expr.Name _ _) [] [] _) _) _ _ _); refine wpC_callName ?_) | ((with_reducible show wpC _ _ (callWith _ (Value.type _) _ (backTo _ (starEach [] _)) _) _ _ _); refine wpC_callType0 ?_) | ((with_reducible show wpC _ _ (call (Value.type "bytearray") _) _ _ _); (rename Fr _ _ _ _ => F'Zz); (rename News _ _ _ _ => N'Zz); k_dflt (refine k_baNew0 F'Zz N'Zz ?_); intro B9Zz h9Zz F9Zz N9Zz l9Zz; k_lt l9Zz)))); (try dsimp only)) | (k_end; kc_close) | ((with_reducible show wpAny _ _ (binaryOp Operator.Mod (Value.int _ _) (Value.int _ _)) _ _ _); first | with_reducible (((with_reducible show wpAny _ _ (binaryOp Operator.Mod (Value.int _ _) (Value.int _ _)) _ _ _); refine r_mod (by omega) (by omega) ?_))) | ((with_reducible show wpAny _ _ (execs [] _) _ _ _); first | with_reducible (((with_reducible show wpAny _ _ (execs [] _) _ _ _); dsimp only; (try k_gentoks); refine wpAny_execs_nil ?_))) | ((with_reducible show wpAny _ _ (pyIter (Value.ref _)) _ _ _); first | with_reducible ((k_extra "pyIter ref"))) | walk1 | (dsimp only; first | ((with_reducible show wpAny _ _ (binaryOp Operator.Mod (Value.int _ _) (Value.int _ _)) _ _ _); first | with_reducible (((with_reducible show wpAny _ _ (binaryOp Operator.Mod (Value.int _ _) (Value.int _ _)) _ _ _); refine r_mod (by omega) (by omega) ?_))) | ((with_reducible show wpAny _ _ (execs [] _) _ _ _); first | with_reducible (((with_reducible show wpAny _ _ (execs [] _) _ _ _); dsimp only; (try k_gentoks); refine wpAny_execs_nil ?_))) | ((with_reducible show wpAny _ _ (pyIter (Value.ref _)) _ _ _); first | with_reducible ((k_extra "pyIter ref"))) | walk1) | (leave1; (try dsimp only)) | fail "no step"))
  replace kFr : Fr h₀ L kH _ := kFr
  replace kNews : News h₀ L kH _ := kNews
  have F9 := fr_put kFr (Str.ofString "script") (.ref sc) (by repeat (first | exact if_pos rfl | refine (if_neg (by decide)).trans ?_))
  have F10 := fr_put F9 (Str.ofString "mood") (.int _ _) (by repeat (first | exact if_pos rfl | refine (if_neg (by decide)).trans ?_))
  exact stageL2 rfl ns vs sc _ _ _ hI hns hO.1 hO.2 X T K0 hL F10 kNews hE (fun h' tk m' c1 => hQ h' tk m' c1)
end
section
open PySem.Calls
set_option maxHeartbeats 8000000
theorem enterW {M : Model} {A : Around} {s : Shared} {f : Value} {pos : List Value} {kw : List (PySem.Str × Value)} {c : ClaimW} {cl : PySem.Str → Option Addr} {mean : ExcName → Option Value} {args : List WData} {s₁ : Shared}
    (h : codeC M A (.call f ⟨pos, kw⟩) (GoodWG c cl mean args s₁) s) : wpC M A (PySem.call f pos kw) (fun v s' => GoodWG c cl mean args s₁ (.ok (.ret v)) s') (fun e s' => GoodWG c cl mean args s₁ (.error e) s') s :=
  wpC_call (codeC_mono h fun res s' g => by rcases g.1 with ⟨v, _, _, rfl, _⟩ | ⟨e, _, _, rfl, _⟩ <;> exact g)
/-- the law, called from the top -/
theorem law_call (w : World) (ns : List Int) (vs : List Value) (sc : Addr) (hI : IntsAre vs ns) (hns : ns.length ≤ 63)
    {p : Program} {loose : List PySem.Str} {mean : ExcName → Option Value} {mg mb : PySem.Str → Option Value} {s : Shared} {R : Result → Shared → Prop}
    (X : (KH w.params).In s.heap) (T : Top p loose mean mg mb s.heap) (hL : s.heap.IsList sc vs.toArray)
    (hR : ∀ h' tk, (∀ b o, s.heap.get? b = some o → h'.get? b = some o) → R (.ok (.ret (.bool true))) { s with heap := h', toks := tk }) :
    codeC (model PySem.Challenge.rw_kl0275_01.prog w) callerA (.call (.ref 841) ⟨[.ref sc], []⟩) R s := by
  refine codeC_call_def (binds := [(Str.ofString "script", .ref sc)]) (by decide) (X 841 _ rfl) rfl T.nolimit (codeRec_of X (by rfl)) rfl (BindsTo.of_eq rfl) (by decide) (locs rfl) (fun h₁ hns₁ hk₁ => ?_) rfl rfl rfl
  have F : Fr s.heap s.heap.objs.size h₁ (fun x => List.lookup x [(Str.ofString "script", Value.ref sc)].reverse) := ⟨hns₁, hk₁, Nat.le_refl _⟩
  have e : (fun x => List.lookup x [(Str.ofString "script", Value.ref sc)].reverse) = fun y => if y = Str.ofString "script" then some (Value.ref sc) else (fun _ => none) y := by
    funext y
    by_cases q : y = Str.ofString "script"
    · rw [if_pos q, q]; rfl
    · rw [if_neg q]
      show (match y == Str.ofString "script" with | true => some (Value.ref sc) | false => List.lookup y []) = none
      rw [show (y == Str.ofString "script") = false by simpa using q]
      rfl
  rw [e] at F
  exact stageL0 (scope := _) (cdv := _) rfl ns vs sc (fun _ => none) hI hns X T (below_caller _) hL F (News.nil : News _ _ _ []) (by passes_own) (fun h' tk m' c => hR h' tk c.keep)
end
section
open PySem.Calls
set_option maxHeartbeats 8000000
theorem law_top : PySem.Challenge.rw_kl0275_01.Holds := by
  w_on
  refine holds_law law_said fun said => ?_
  refine headC (q := Mine.qv) (loose := Mine.lo) (Xt := fun s => xlAt Mine.qv [] s && recOk (RowW.records PySem.Challenge.rw_kl0275_01.row.toRowW) s) (XP := XL Mine.qv []) (Yf := Hook.obs Mine.HK) (Ya := Hook.val Mine.HK) (YP := Hook.says Mine.HK) (N := 6000) Mine.left2 (Hook.of Mine.HK) (Hook.keeps Mine.HK) (fun s e => xl_of s (Bool.and_eq_true_iff.mp e).1) XL.keeps (by rfl) (by rfl) (by rfl) (fun s e => recFacts_of (Bool.and_eq_true_iff.mp e).2) (by rfl) (by first | assumption | decide +kernel) (by decide +kernel) ⟨rfl, rfl, rfl, rfl, rfl, by decide +kernel⟩ ?hw ?hc
  case hw => w_witness2
  case hc =>
    k_fill
    intro w s₀ s₁ mg mb G Y fa o pm cd doc dV kV ho hd hcd hD hmg hg args vals as hpre hlay hrd hwl hlo
    have KX := kIn_of Y
    refine Ground.open G ?_
    intro T B D TE TW
    have hfa : mg (Str.ofString "law") = some (.ref 841) := mg_of KX T.g (by kernel_rfl)
    have e9 : Value.ref 841 = .ref fa := Option.some.inj (hfa.symm.trans hmg)
    cases e9
    clear hfa B D TE TW
    wrow_args hpre hlay hrd hwl hlo
    rename IntsAre _ _ => hI
    rename Heap.IsList _ _ _ => hL
    refine enterW (codeC_mono ?_ (fun _ _ g => GoodW.toG g))
    refine law_call w _ _ _ hI (by omega) KX T hL (fun h' tk hk => ?_)
    refine ⟨.inl ⟨.bool true, .bool true, [], rfl, fun _ => rfl, .bool true, ?_, unshared_nil⟩, hk, rfl, hg⟩
    first | rfl | exact postW_of (by wrow_shape) (by wtm_val) rfl
end
end Mine
set_option maxRecDepth 100000 in
set_option maxHeartbeats 8000000 in
theorem PySem.Challenge.cw_kl0275_01_holds : PySem.Challenge.rw_kl0275_01.Holds := by
  exact Mine.law_top
